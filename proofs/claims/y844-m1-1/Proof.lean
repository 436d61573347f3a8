import JvmDerived
import JvmDerived.Pilot.@@N@@Statement
import JvmDerived.Pilot.@@N@@Code
set_option linter.unusedVariables false
set_option linter.unusedSimpArgs false
namespace Jvm.RoadKit
open Sem ClassFile Op Lib Jvm.Stand Jvm.Free Jvm.LawKit
section New
variable {p : Program} {l : Launch} {e : Env} {R : Room} {s : State} {m : MethodId} {args : Array Value} {below : List Frame} {meth : Method} {c : Code} {T : State} {locs : List Loc} {cells slots : Nat}
theorem retI (X : Stand p l e R s m args below meth c T locs cells slots) (hx : p.tables.exec = Jvm.exec) {pc : Nat} {Ls : Array Slot} {z : Int32} {rest : List Value} (hret : meth.sig.returnType = some .int) (hd : decode c.code pc = .ok (.ireturn, 1)) {fs : List Frame}
    (hl : ∀ (f : JFrame) (acts : List Action), f.method = m → f.locked = none → f.entered = [] → (doReturn e (T.setTop f) acts (some (.int z))).1 = T.setFrames fs) : Steps p.tables e below (T.setTop (mkF m pc Ls (.int z :: rest))) (T.setFrames fs) := by
  have hm' : T.vm.method? m = some meth := X.method'
  have hn : narrow .int (.int z) = .int z := rfl
  show Steps p.tables e below (T.setTop { method := m, pc := pc, locals := Ls, stack := _ :: rest, locked := none }) _
  jvm_step X.here [X.here.top, hx, hd, hm', hret, hn]
  first | (intro acts; rw [hl _ acts rfl rfl rfl]) | rw [hl _ _ rfl rfl rfl]
  exact Steps.refl _
end New
end Jvm.RoadKit
namespace Jvm.Pilot.@@N@@
open Jvm Jvm.ClassFile Sem Op Lib Jvm.Free Jvm.Stand Jvm.LawKit Jvm.RoadKit Bundle Jvm.Pilot.@@N@@.Jvm.D
abbrev own_Go (p : Program) (e : Env) (below : List Frame) (A B : State) : Prop := ∀ t, Steps p.tables e below B t → Steps p.tables e below A t
theorem own_from {p : Program} {e : Env} {below : List Frame} {A B t : State} (h : A = B) (k : Steps p.tables e below A t) : Steps p.tables e below B t := h ▸ k
theorem own_ite1 {P : Prop} [Decidable P] (h : P) : ¬ ((if P then (1 : Int32) else (0 : Int32)) = (0 : Int32)) := by rw [if_pos h]; decide
theorem own_ite0 {P : Prop} [Decidable P] (h : ¬ P) : (if P then (1 : Int32) else (0 : Int32)) = (0 : Int32) := if_neg h
def own_Pl (h : Heap) (a : Addr) : Prop := ∃ c : Cell, h[a]? = some c ∧ c.vm.isStatics = false
theorem own_plE {Z : State} {h : Heap} {a : Addr} {C : String} (F : Exa Z h a C) : own_Pl h a := by obtain ⟨cell, k, h1, _, _, h4, _⟩ := F; exact ⟨cell, h1, h4⟩
theorem own_plF {Z : State} {h : Heap} {a : Addr} {C n d : String} {v : Value} (F : Fld Z h a C n d v) : own_Pl h a := by obtain ⟨cell, cf, k, i, f, h1, _, _, _, h5, _⟩ := F; exact ⟨cell, h1, h5⟩
theorem own_plA {Z : State} {h : Heap} {a : Addr} {k : ClassId} {ty : FieldType} {n : Int32} {vs : List Value} {d : Value} (F : Arv Z h a k ty n vs d) : own_Pl h a := by obtain ⟨c, A, _⟩ := F; exact ⟨c, A.1, A.plain⟩
theorem own_staK {Z : State} {h h' : Heap} {C n d : String} {v : Value} {ws : List Addr} (F : Sta Z h C n d v) (K : Keep h h' ws) (q : ∀ x ∈ ws, own_Pl h x) : Sta Z h' C n d v := by
  obtain ⟨cf, i, k, f, st, cell, h1, h2, h3, h4, h5, h6, h7⟩ := F
  refine ⟨cf, i, k, f, st, cell, h1, h2, h3, h4, K.2.1 st cell h5 fun z => ?_, h6, h7⟩
  obtain ⟨c, q1, q2⟩ := q st z
  cases h5.symm.trans q1
  rw [h6] at q2; cases q2
theorem own_insK {Z : State} {h h' : Heap} {a : Addr} {C : String} {bo : Bool} {ws : List Addr} (F : Ins Z h a C bo) (K : Keep h h' ws) : Ins Z h' a C bo := by
  obtain ⟨cell, cT, h1, h2, h3⟩ := F
  obtain ⟨c', q1, q2, q3, q4⟩ := K.2.2 a cell h1
  exact ⟨c', cT, q1, h2, by rw [q2, q3]; exact h3⟩
theorem own_atI {c : Cell} {vs : List Value} {d : Value} {ty : FieldType} {j : Int32} (H : Has c vs d) (G : ∀ i, i < c.slots.size → fits ty (vs.getD i d) = true) (q : ¬ (j < 0 ∨ c.slots.size ≤ j.toNatClampNeg)) (ht : ty = .int ∨ ty = .boolean ∨ ty = .byte ∨ ty = .char ∨ ty = .short) : ∃ z, c.slots[j.toNatClampNeg]? = some (.int z) := by
  have hlt := Nat.lt_of_not_le fun y => q (Or.inr y)
  obtain ⟨z, hz⟩ := fit_I (G _ hlt) ht
  exact ⟨z, by rw [H _ hlt, hz]⟩
theorem own_cat {v : Value} (h : v.isRef = true) : v.category = 1 := by cases v <;> simp [Value.isRef, Value.category] at h ⊢
theorem pn_5 : plainName "java/util/AbstractCollection" = true := by first | (simp [plainName, overriddenIn]; done) | decide +kernel
theorem d5_0 : decode jdk_22_method_1_code 0 = .ok (.aload_n 0, 1) := by decide +kernel
theorem d5_1 : decode jdk_22_method_1_code 1 = .ok (.invokespecial 1, 3) := by decide +kernel
theorem d5_4 : decode jdk_22_method_1_code 4 = .ok (.return_, 1) := by decide +kernel
theorem ef_5 (m : MethodId) (q5_0 : Addr) : entryFrame m #[(.ref q5_0)] 1 = mkF m 0 #[.val (.ref q5_0)] [] := by first | (simp [entryFrame, mkF, argsToLocals, Value.category]; done) | rfl
def Q5 (Z : State) (q5_0 : Addr) (h0 : Heap) (n0 : Nat) (v : Option Value) (h : Heap) (L : List Loc) : Prop := v = none ∧ Fr n0 L ∧ h = h0
set_option maxRecDepth 65536 in
set_option maxHeartbeats 40000000 in
theorem rm5 (l : Launch) (Z : State) (a0 : Array Value) (hw : ∀ d ∈ tables_1, d.before a0 Z = true) (ws : List Jvm.Cond) (q5_0 : Addr) (h0 : Heap) (n0 : Nat) (Z0 : n0 ≤ h0.size) :
    MetFree l (⟨"java/util/AbstractCollection", "<init>", "()V"⟩ : MethodName) (head1 (Jvm.Cond.code (⟨"java/util/AbstractCollection", "<init>", "()V"⟩ : MethodName) jdk_22_method_1_code 1 none :: ws) ({ frames := 1, cells := 0, slots := 0, locals := 12 } : Room)) (fun a U => a = #[(.ref q5_0)] ∧ Z.Warmed39 U.vm ∧ U.heap = h0) (fun _ _ _ _ _ => True) (fun _ U o U' => ∃ v L, o = .returned v ∧ Q5 Z q5_0 h0 n0 v U'.heap L ∧ FrameEnd U o U' L ({ frames := 1, cells := 0, slots := 0, locals := 12 } : Room).cells ({ frames := 1, cells := 0, slots := 0, locals := 12 } : Room).slots) := by
  refine MetFree.of_bodySF (plainFor_of_name pn_5) hisR ?_
  intro p e s m args below meth c s₁ Bd hml0 hP hK
  obtain ⟨rfl, hZ, hh⟩ := hP
  have hx := Bd.exec
  have hby := Bd.bytes
  have hml : c.maxLocals = 1 := hml0
  have hown : s.vm.findClass "java/util/AbstractCollection" = some m.cls := findClass_of_methodNamed Bd.named
  have hnm := (name_of_methodNamed Bd.named Bd.method).1
  have X0 : Stand p l e ({ frames := 1, cells := 0, slots := 0, locals := 12 } : Room) s m #[(.ref q5_0)] below meth c s₁ [] 0 0 := Stand.of_body Bd
  have e0 : s₁.heap = h0 := by rw [← hh, Bd.state]; rfl
  have N0 := Fr.nil n0
  obtain ⟨S0, hS0⟩ : ∃ z, z = s₁.setTop (entryFrame m #[(.ref q5_0)] 1) := ⟨_, rfl⟩
  have P0 : own_Go p e below S0 (s₁.setTop (mkF m 0 #[.val (.ref q5_0)] [])) := fun t k => by rw [hS0]; exact castTop (ef_5 m q5_0) k
  have P1 : own_Go p e below S0 (s₁.setTop (mkF m 1 #[.val (.ref q5_0)] [(.ref q5_0)])) := fun t k => P0 t (by
    show Steps p.tables e below (s₁.setTop (mkF m 0 #[.val (.ref q5_0)] [])) t
    refine XS.aloadN X0.here hx rfl (hb hby d5_0) rfl rfl ?_
    show Steps p.tables e below (s₁.setTop (mkF m 1 #[.val (.ref q5_0)] [(.ref q5_0)])) t
    exact k)
  obtain ⟨T2, X2, e2, st2⟩ := initO X0 hx hZ hown (hw _ (List.mem_of_getElem? (i := 27) rfl)) (hw _ (List.mem_of_getElem? (i := 7) rfl)) (hw _ (List.mem_of_getElem? (i := 8) rfl)) e0 (g := (mkF m 1 #[.val (.ref q5_0)] [(.ref q5_0)])) rfl (by rw [hml]; rfl) rfl (hb hby d5_1) (by decide) (W := 0) (by show 2 * 0 + _ ≤ _; exact Nat.le_of_eq rfl) (by decide)
  have P2 : own_Go p e below S0 (T2.setTop (mkF m 4 #[.val (.ref q5_0)] [])) := fun t k => P1 t (st2 _ k)
  obtain ⟨fs, hr, hrun, hended, hW, hsame⟩ := X2.leave (v := none) (fun _ => rfl)
  refine ⟨_, _, own_from hS0 (P2 _ ?_), hrun, hended, _, _, rfl, ?_, ⟨_, rfl⟩, hW, hsame.mono (by decide) (by decide)⟩
  · show Steps p.tables e below (T2.setTop (mkF m 4 #[.val (.ref q5_0)] [])) _
    exact X2.returnOut hx Bd.returns (hb hby d5_4) hr
  · show Q5 Z q5_0 h0 n0 _ T2.heap _
    rw [e2]
    exact ⟨rfl, N0, rfl⟩
theorem pd_0 : parseMethodDescriptor "()V" = some ⟨[], none⟩ := by decide +kernel
theorem pn_4 : plainName "java/util/AbstractList" = true := by first | (simp [plainName, overriddenIn]; done) | decide +kernel
theorem d4_0 : decode jdk_39_method_1_code 0 = .ok (.aload_n 0, 1) := by decide +kernel
theorem d4_1 : decode jdk_39_method_1_code 1 = .ok (.invokespecial 1, 3) := by decide +kernel
theorem d4_4 : decode jdk_39_method_1_code 4 = .ok (.aload_n 0, 1) := by decide +kernel
theorem d4_5 : decode jdk_39_method_1_code 5 = .ok (.iconst 0, 1) := by decide +kernel
theorem d4_6 : decode jdk_39_method_1_code 6 = .ok (.putfield 7, 3) := by decide +kernel
theorem d4_9 : decode jdk_39_method_1_code 9 = .ok (.return_, 1) := by decide +kernel
theorem ef_4 (m : MethodId) (q4_0 : Addr) : entryFrame m #[(.ref q4_0)] 1 = mkF m 0 #[.val (.ref q4_0)] [] := by first | (simp [entryFrame, mkF, argsToLocals, Value.category]; done) | rfl
def Q4 (Z : State) (q4_0 : Addr) (u4_q4_0_modCount : Value) (h0 : Heap) (n0 : Nat) (v : Option Value) (h : Heap) (L : List Loc) : Prop := v = none ∧ Fr n0 L ∧ Keep h0 h [q4_0] ∧ Fld Z h q4_0 "java/util/ArrayList" "elementData" "[Ljava/lang/Object;" .null ∧ Fld Z h q4_0 "java/util/AbstractList" "modCount" "I" (.int (0 : Int32))
set_option maxRecDepth 65536 in
set_option maxHeartbeats 40000000 in
theorem rm4 (l : Launch) (Z : State) (a0 : Array Value) (hw : ∀ d ∈ tables_1, d.before a0 Z = true) (ws : List Jvm.Cond) (q4_0 : Addr) (u4_q4_0_modCount : Value) (h0 : Heap) (n0 : Nat) (Z0 : n0 ≤ h0.size) (F_q4_0_elementData : Fld Z h0 q4_0 "java/util/ArrayList" "elementData" "[Ljava/lang/Object;" .null) (E_q4_0 : Exa Z h0 q4_0 "java/util/ArrayList") (F_q4_0_modCount : Fld Z h0 q4_0 "java/util/AbstractList" "modCount" "I" u4_q4_0_modCount) (g_q4_0 : n0 ≤ q4_0) :
    MetFree l (⟨"java/util/AbstractList", "<init>", "()V"⟩ : MethodName) (head1 (Jvm.Cond.code (⟨"java/util/AbstractList", "<init>", "()V"⟩ : MethodName) jdk_39_method_1_code 1 none :: ws) ({ frames := 2, cells := 0, slots := 0, locals := 24 } : Room)) (fun a U => a = #[(.ref q4_0)] ∧ Z.Warmed39 U.vm ∧ U.heap = h0) (fun _ _ _ _ _ => True) (fun _ U o U' => ∃ v L, o = .returned v ∧ Q4 Z q4_0 u4_q4_0_modCount h0 n0 v U'.heap L ∧ FrameEnd U o U' L ({ frames := 2, cells := 0, slots := 0, locals := 24 } : Room).cells ({ frames := 2, cells := 0, slots := 0, locals := 24 } : Room).slots) := by
  refine MetFree.of_bodySF (plainFor_of_name pn_4) hisR ?_
  intro p e s m args below meth c s₁ Bd hml0 hP hK
  obtain ⟨rfl, hZ, hh⟩ := hP
  have hx := Bd.exec
  have hby := Bd.bytes
  have hml : c.maxLocals = 1 := hml0
  have hown : s.vm.findClass "java/util/AbstractList" = some m.cls := findClass_of_methodNamed Bd.named
  have hnm := (name_of_methodNamed Bd.named Bd.method).1
  have X0 : Stand p l e ({ frames := 2, cells := 0, slots := 0, locals := 24 } : Room) s m #[(.ref q4_0)] below meth c s₁ [] 0 0 := Stand.of_body Bd
  have e0 : s₁.heap = h0 := by rw [← hh, Bd.state]; rfl
  have N0 := Fr.nil n0
  obtain ⟨S0, hS0⟩ : ∃ z, z = s₁.setTop (entryFrame m #[(.ref q4_0)] 1) := ⟨_, rfl⟩
  have P0 : own_Go p e below S0 (s₁.setTop (mkF m 0 #[.val (.ref q4_0)] [])) := fun t k => by rw [hS0]; exact castTop (ef_4 m q4_0) k
  have P1 : own_Go p e below S0 (s₁.setTop (mkF m 1 #[.val (.ref q4_0)] [(.ref q4_0)])) := fun t k => P0 t (by
    show Steps p.tables e below (s₁.setTop (mkF m 0 #[.val (.ref q4_0)] [])) t
    refine XS.aloadN X0.here hx rfl (hb hby d4_0) rfl rfl ?_
    show Steps p.tables e below (s₁.setTop (mkF m 1 #[.val (.ref q4_0)] [(.ref q4_0)])) t
    exact k)
  obtain ⟨_, _, ⟨T2, L2, k2, n2⟩, -, X2, ⟨Lc2, hQ2, l2, y2, z2⟩, st2⟩ := X0.specialBack hx (y := (⟨"java/util/AbstractCollection", "<init>", "()V"⟩ : MethodName)) rfl hown (mvT hZ (hw _ (List.mem_of_getElem? (i := 21) rfl))) (mvT hZ (hw _ (List.mem_of_getElem? (i := 22) rfl))) (mvT hZ (hw _ (List.mem_of_getElem? (i := 26) rfl))) (by decide) (backOf (W := 0) (rm5 l Z a0 hw [] q4_0 h0 n0 Z0) hZ (hw _ (List.mem_of_getElem? (i := 26) rfl)) (hw _ (List.mem_of_getElem? (i := 25) rfl)) (by decide) (by decide)) (g := (mkF m 1 #[.val (.ref q4_0)] [(.ref q4_0)])) rfl (by rw [hml]; rfl) (Steps.refl _) (a := q4_0) (argsL := []) (rest := []) (lenOf pd_0 rfl) rfl (by show 2 * 0 + _ ≤ _; exact Nat.le_of_eq rfl) (hb hby d4_1) (fun _ _ => ⟨rfl, e0, (by decide : 0 + 0 ≤ _), (by decide : 0 + 0 ≤ _)⟩)
  dsimp only [Pt.U, Pt.locs, Pt.cells, Pt.slots] at X2 l2 y2 z2 st2 hQ2
  subst l2 y2 z2
  obtain ⟨rfl, N2q, e2⟩ := hQ2
  have N2 := Fr.app N0 N2q
  have P2 : own_Go p e below S0 (T2.setTop (mkF m 4 #[.val (.ref q4_0)] [])) := fun t k => P1 t (st2.trans k)
  have P3 : own_Go p e below S0 (T2.setTop (mkF m 6 #[.val (.ref q4_0)] [(.int (0 : Int32)), (.ref q4_0)])) := fun t k => P2 t (by
    show Steps p.tables e below (T2.setTop (mkF m 4 #[.val (.ref q4_0)] [])) t
    refine XS.aloadN X2.here hx rfl (hb hby d4_4) rfl rfl ?_
    refine XS.iconst X2.here hx rfl (hb hby d4_5) ?_
    show Steps p.tables e below (T2.setTop (mkF m 6 #[.val (.ref q4_0)] [(.int (0 : Int32)), (.ref q4_0)])) t
    exact k)
  obtain ⟨T4, h4, X4, e4, W4, st4⟩ := putF X2 hx hZ hown (host := "") (Or.inl (hw _ (List.mem_of_getElem? (i := 28) rfl))) Via.refl e2 F_q4_0_modCount E_q4_0 (Or.inl (hw _ (List.mem_of_getElem? (i := 29) rfl))) (hw _ (List.mem_of_getElem? (i := 10) rfl)) (ty := .int) (by decide) rfl rfl (g := (mkF m 6 #[.val (.ref q4_0)] [(.int (0 : Int32)), (.ref q4_0)])) rfl rfl (hb hby d4_6)
  have K4 : Keep h0 h4 [q4_0] := (Keep.refl h0 [q4_0]).wr W4 (Or.inl (by simp))
  have N4 := Fr.snoc X4 N2 g_q4_0
  have F4w : Fld Z h4 q4_0 "java/util/AbstractList" "modCount" "I" (.int (0 : Int32)) := F_q4_0_modCount.same W4
  have P4 : own_Go p e below S0 (T4.setTop (mkF m 9 #[.val (.ref q4_0)] [])) := fun t k => P3 t (st4 _ k)
  have F5 : Fld Z h4 q4_0 "java/util/ArrayList" "elementData" "[Ljava/lang/Object;" .null := F_q4_0_elementData.other W4 (Or.inr (slot_ne (Or.inl (hw _ (List.mem_of_getElem? (i := 32) rfl))) (Or.inl (hw _ (List.mem_of_getElem? (i := 29) rfl))) (by decide) (t := (.array (.object "java/lang/Object"))) (t' := .int) (by decide) (by decide)))
  obtain ⟨fs, hr, hrun, hended, hW, hsame⟩ := X4.leave (v := none) (fun _ => rfl)
  refine ⟨_, _, own_from hS0 (P4 _ ?_), hrun, hended, _, _, rfl, ?_, ⟨_, rfl⟩, hW, hsame.mono (by decide) (by decide)⟩
  · show Steps p.tables e below (T4.setTop (mkF m 9 #[.val (.ref q4_0)] [])) _
    exact X4.returnOut hx Bd.returns (hb hby d4_9) hr
  · show Q4 Z q4_0 u4_q4_0_modCount h0 n0 _ T4.heap _
    rw [e4]
    exact ⟨rfl, N4, K4, F5, F4w⟩
theorem pn_3 : plainName "java/util/ArrayList" = true := by first | (simp [plainName, overriddenIn]; done) | decide +kernel
theorem d3_0 : decode jdk_38_method_2_code 0 = .ok (.aload_n 0, 1) := by decide +kernel
theorem d3_1 : decode jdk_38_method_2_code 1 = .ok (.invokespecial 1, 3) := by decide +kernel
theorem d3_4 : decode jdk_38_method_2_code 4 = .ok (.aload_n 0, 1) := by decide +kernel
theorem d3_5 : decode jdk_38_method_2_code 5 = .ok (.getstatic 39, 3) := by decide +kernel
theorem d3_8 : decode jdk_38_method_2_code 8 = .ok (.putfield 9, 3) := by decide +kernel
theorem d3_11 : decode jdk_38_method_2_code 11 = .ok (.return_, 1) := by decide +kernel
theorem ef_3 (m : MethodId) (q3_0 : Addr) : entryFrame m #[(.ref q3_0)] 1 = mkF m 0 #[.val (.ref q3_0)] [] := by first | (simp [entryFrame, mkF, argsToLocals, Value.category]; done) | rfl
def Q3 (Z : State) (q3_0 : Addr) (u3_q3_0_modCount : Value) (z3_DEFAULTCAPACITY_EMPTY_ELEMENTDATA : Addr) (h0 : Heap) (n0 : Nat) (v : Option Value) (h : Heap) (L : List Loc) : Prop := v = none ∧ Fr n0 L ∧ Keep h0 h [q3_0] ∧ Fld Z h q3_0 "java/util/ArrayList" "elementData" "[Ljava/lang/Object;" (.ref z3_DEFAULTCAPACITY_EMPTY_ELEMENTDATA) ∧ Fld Z h q3_0 "java/util/AbstractList" "modCount" "I" (.int (0 : Int32))
set_option maxRecDepth 65536 in
set_option maxHeartbeats 40000000 in
theorem rm3 (l : Launch) (Z : State) (a0 : Array Value) (hw : ∀ d ∈ tables_1, d.before a0 Z = true) (ws : List Jvm.Cond) (q3_0 : Addr) (u3_q3_0_modCount : Value) (z3_DEFAULTCAPACITY_EMPTY_ELEMENTDATA : Addr) (h0 : Heap) (n0 : Nat) (Z0 : n0 ≤ h0.size) (F_q3_0_elementData : Fld Z h0 q3_0 "java/util/ArrayList" "elementData" "[Ljava/lang/Object;" .null) (E_q3_0 : Exa Z h0 q3_0 "java/util/ArrayList") (F_q3_0_modCount : Fld Z h0 q3_0 "java/util/AbstractList" "modCount" "I" u3_q3_0_modCount) (g_q3_0 : n0 ≤ q3_0) (S_DEFAULTCAPACITY_EMPTY_ELEMENTDATA : Sta Z h0 "java/util/ArrayList" "DEFAULTCAPACITY_EMPTY_ELEMENTDATA" "[Ljava/lang/Object;" (.ref z3_DEFAULTCAPACITY_EMPTY_ELEMENTDATA)) :
    MetFree l (⟨"java/util/ArrayList", "<init>", "()V"⟩ : MethodName) (head1 (Jvm.Cond.code (⟨"java/util/ArrayList", "<init>", "()V"⟩ : MethodName) jdk_38_method_2_code 1 none :: ws) ({ frames := 3, cells := 0, slots := 0, locals := 36 } : Room)) (fun a U => a = #[(.ref q3_0)] ∧ Z.Warmed39 U.vm ∧ U.heap = h0) (fun _ _ _ _ _ => True) (fun _ U o U' => ∃ v L, o = .returned v ∧ Q3 Z q3_0 u3_q3_0_modCount z3_DEFAULTCAPACITY_EMPTY_ELEMENTDATA h0 n0 v U'.heap L ∧ FrameEnd U o U' L ({ frames := 3, cells := 0, slots := 0, locals := 36 } : Room).cells ({ frames := 3, cells := 0, slots := 0, locals := 36 } : Room).slots) := by
  refine MetFree.of_bodySF (plainFor_of_name pn_3) hisR ?_
  intro p e s m args below meth c s₁ Bd hml0 hP hK
  obtain ⟨rfl, hZ, hh⟩ := hP
  have hx := Bd.exec
  have hby := Bd.bytes
  have hml : c.maxLocals = 1 := hml0
  have hown : s.vm.findClass "java/util/ArrayList" = some m.cls := findClass_of_methodNamed Bd.named
  have hnm := (name_of_methodNamed Bd.named Bd.method).1
  have X0 : Stand p l e ({ frames := 3, cells := 0, slots := 0, locals := 36 } : Room) s m #[(.ref q3_0)] below meth c s₁ [] 0 0 := Stand.of_body Bd
  have e0 : s₁.heap = h0 := by rw [← hh, Bd.state]; rfl
  have N0 := Fr.nil n0
  obtain ⟨S0, hS0⟩ : ∃ z, z = s₁.setTop (entryFrame m #[(.ref q3_0)] 1) := ⟨_, rfl⟩
  have P0 : own_Go p e below S0 (s₁.setTop (mkF m 0 #[.val (.ref q3_0)] [])) := fun t k => by rw [hS0]; exact castTop (ef_3 m q3_0) k
  have P1 : own_Go p e below S0 (s₁.setTop (mkF m 1 #[.val (.ref q3_0)] [(.ref q3_0)])) := fun t k => P0 t (by
    show Steps p.tables e below (s₁.setTop (mkF m 0 #[.val (.ref q3_0)] [])) t
    refine XS.aloadN X0.here hx rfl (hb hby d3_0) rfl rfl ?_
    show Steps p.tables e below (s₁.setTop (mkF m 1 #[.val (.ref q3_0)] [(.ref q3_0)])) t
    exact k)
  obtain ⟨_, _, ⟨T2, L2, k2, n2⟩, -, X2, ⟨Lc2, hQ2, l2, y2, z2⟩, st2⟩ := X0.specialBack hx (y := (⟨"java/util/AbstractList", "<init>", "()V"⟩ : MethodName)) rfl hown (mvT hZ (hw _ (List.mem_of_getElem? (i := 15) rfl))) (mvT hZ (hw _ (List.mem_of_getElem? (i := 16) rfl))) (mvT hZ (hw _ (List.mem_of_getElem? (i := 20) rfl))) (by decide) (backOf (W := 0) (rm4 l Z a0 hw [] q3_0 u3_q3_0_modCount h0 n0 Z0 F_q3_0_elementData E_q3_0 F_q3_0_modCount g_q3_0) hZ (hw _ (List.mem_of_getElem? (i := 20) rfl)) (hw _ (List.mem_of_getElem? (i := 19) rfl)) (by decide) (by decide)) (g := (mkF m 1 #[.val (.ref q3_0)] [(.ref q3_0)])) rfl (by rw [hml]; rfl) (Steps.refl _) (a := q3_0) (argsL := []) (rest := []) (lenOf pd_0 rfl) rfl (by show 2 * 0 + _ ≤ _; exact Nat.le_of_eq rfl) (hb hby d3_1) (fun _ _ => ⟨rfl, e0, (by decide : 0 + 0 ≤ _), (by decide : 0 + 0 ≤ _)⟩)
  dsimp only [Pt.U, Pt.locs, Pt.cells, Pt.slots] at X2 l2 y2 z2 st2 hQ2
  subst l2 y2 z2
  obtain ⟨rfl, N2q, Kc2, F2_0, F2_1⟩ := hQ2
  have N2 := Fr.app N0 N2q
  have K2 : Keep h0 T2.heap [q3_0] := Keep.trans (Keep.refl h0 [q3_0]) Kc2 (allS (Or.inl (by simp)) all0)
  have P2 : own_Go p e below S0 (T2.setTop (mkF m 4 #[.val (.ref q3_0)] [])) := fun t k => P1 t (st2.trans k)
  have F3 : Sta Z T2.heap "java/util/ArrayList" "DEFAULTCAPACITY_EMPTY_ELEMENTDATA" "[Ljava/lang/Object;" (.ref z3_DEFAULTCAPACITY_EMPTY_ELEMENTDATA) := own_staK S_DEFAULTCAPACITY_EMPTY_ELEMENTDATA Kc2 (allS (own_plE E_q3_0) all0)
  have P4 : own_Go p e below S0 (T2.setTop (mkF m 5 #[.val (.ref q3_0)] [(.ref q3_0)])) := fun t k => P2 t (by
    show Steps p.tables e below (T2.setTop (mkF m 4 #[.val (.ref q3_0)] [])) t
    refine XS.aloadN X2.here hx rfl (hb hby d3_4) rfl rfl ?_
    show Steps p.tables e below (T2.setTop (mkF m 5 #[.val (.ref q3_0)] [(.ref q3_0)])) t
    exact k)
  obtain ⟨T5, X5, e5, st5⟩ := getS2 X2 hx hZ hown (host := "") (Or.inl (hw _ (List.mem_of_getElem? (i := 30) rfl))) Via.refl rfl F3 (g := (mkF m 5 #[.val (.ref q3_0)] [(.ref q3_0)])) rfl (hb hby d3_5)
  have P5 : own_Go p e below S0 (T5.setTop (mkF m 8 #[.val (.ref q3_0)] [(.ref z3_DEFAULTCAPACITY_EMPTY_ELEMENTDATA), (.ref q3_0)])) := fun t k => P4 t (st5 _ k)
  have F6 : Exa Z T2.heap q3_0 "java/util/ArrayList" := E_q3_0.keep Kc2
  obtain ⟨T7, h7, X7, e7, W7, st7⟩ := putF X5 hx hZ hown (host := "") (Or.inl (hw _ (List.mem_of_getElem? (i := 31) rfl))) Via.refl e5 F2_0 F6 (Or.inl (hw _ (List.mem_of_getElem? (i := 32) rfl))) (hw _ (List.mem_of_getElem? (i := 10) rfl)) (ty := (.array (.object "java/lang/Object"))) (by decide) rfl rfl (g := (mkF m 8 #[.val (.ref q3_0)] [(.ref z3_DEFAULTCAPACITY_EMPTY_ELEMENTDATA), (.ref q3_0)])) rfl rfl (hb hby d3_8)
  have K7 : Keep h0 h7 [q3_0] := K2.wr W7 (Or.inl (by simp))
  have N7 := Fr.snoc X7 N2 g_q3_0
  have F7w : Fld Z h7 q3_0 "java/util/ArrayList" "elementData" "[Ljava/lang/Object;" (.ref z3_DEFAULTCAPACITY_EMPTY_ELEMENTDATA) := F2_0.same W7
  have P7 : own_Go p e below S0 (T7.setTop (mkF m 11 #[.val (.ref q3_0)] [])) := fun t k => P5 t (st7 _ k)
  have F8 : Fld Z h7 q3_0 "java/util/AbstractList" "modCount" "I" (.int (0 : Int32)) := F2_1.other W7 (Or.inr (slot_ne (Or.inl (hw _ (List.mem_of_getElem? (i := 29) rfl))) (Or.inl (hw _ (List.mem_of_getElem? (i := 32) rfl))) (by decide) (t := .int) (t' := (.array (.object "java/lang/Object"))) (by decide) (by decide)))
  obtain ⟨fs, hr, hrun, hended, hW, hsame⟩ := X7.leave (v := none) (fun _ => rfl)
  refine ⟨_, _, own_from hS0 (P7 _ ?_), hrun, hended, _, _, rfl, ?_, ⟨_, rfl⟩, hW, hsame.mono (by decide) (by decide)⟩
  · show Steps p.tables e below (T7.setTop (mkF m 11 #[.val (.ref q3_0)] [])) _
    exact X7.returnOut hx Bd.returns (hb hby d3_11) hr
  · show Q3 Z q3_0 u3_q3_0_modCount z3_DEFAULTCAPACITY_EMPTY_ELEMENTDATA h0 n0 _ T7.heap _
    rw [e7]
    exact ⟨rfl, N7, K7, F7w, F8⟩
theorem pn_6 : plainName "java/util/List" = true := by first | (simp [plainName, overriddenIn]; done) | decide +kernel
theorem d6_0 : decode jdk_40_method_36_code 0 = .ok (.getstatic 90, 3) := by decide +kernel
theorem d6_3 : decode jdk_40_method_36_code 3 = .ok (.areturn, 1) := by decide +kernel
theorem ef_6 (m : MethodId)  : entryFrame m #[] 0 = mkF m 0 #[] [] := by first | (simp [entryFrame, mkF, argsToLocals, Value.category]; done) | rfl
def Q6 (Z : State) (z6_EMPTY_LIST : Addr) (h0 : Heap) (n0 : Nat) (v : Option Value) (h : Heap) (L : List Loc) : Prop := v = some (.ref z6_EMPTY_LIST) ∧ Fr n0 L ∧ h = h0
set_option maxRecDepth 65536 in
set_option maxHeartbeats 40000000 in
theorem rm6 (l : Launch) (Z : State) (a0 : Array Value) (hw : ∀ d ∈ tables_1, d.before a0 Z = true) (ws : List Jvm.Cond) (z6_EMPTY_LIST : Addr) (h0 : Heap) (n0 : Nat) (Z0 : n0 ≤ h0.size) (S_EMPTY_LIST : Sta Z h0 "java/util/ImmutableCollections" "EMPTY_LIST" "Ljava/util/ImmutableCollections$ListN;" (.ref z6_EMPTY_LIST)) :
    MetFree l (⟨"java/util/List", "of", "()Ljava/util/List;"⟩ : MethodName) (head1 (Jvm.Cond.code (⟨"java/util/List", "of", "()Ljava/util/List;"⟩ : MethodName) jdk_40_method_36_code 0 (some (.object "java/util/List")) :: ws) ({ frames := 0, cells := 0, slots := 0, locals := 0 } : Room)) (fun a U => a = #[] ∧ Z.Warmed39 U.vm ∧ U.heap = h0) (fun _ _ _ _ _ => True) (fun _ U o U' => ∃ v L, o = .returned v ∧ Q6 Z z6_EMPTY_LIST h0 n0 v U'.heap L ∧ FrameEnd U o U' L ({ frames := 0, cells := 0, slots := 0, locals := 0 } : Room).cells ({ frames := 0, cells := 0, slots := 0, locals := 0 } : Room).slots) := by
  refine MetFree.of_bodySF (plainFor_of_name pn_6) hisR ?_
  intro p e s m args below meth c s₁ Bd hml0 hP hK
  obtain ⟨rfl, hZ, hh⟩ := hP
  have hx := Bd.exec
  have hby := Bd.bytes
  have hml : c.maxLocals = 0 := hml0
  have hown : s.vm.findClass "java/util/List" = some m.cls := findClass_of_methodNamed Bd.named
  have hnm := (name_of_methodNamed Bd.named Bd.method).1
  have X0 : Stand p l e ({ frames := 0, cells := 0, slots := 0, locals := 0 } : Room) s m #[] below meth c s₁ [] 0 0 := Stand.of_body Bd
  have e0 : s₁.heap = h0 := by rw [← hh, Bd.state]; rfl
  have N0 := Fr.nil n0
  obtain ⟨S0, hS0⟩ : ∃ z, z = s₁.setTop (entryFrame m #[] 0) := ⟨_, rfl⟩
  have P0 : own_Go p e below S0 (s₁.setTop (mkF m 0 #[] [])) := fun t k => by rw [hS0]; exact castTop (ef_6 m ) k
  obtain ⟨T1, X1, e1, st1⟩ := getS2 X0 hx hZ hown (host := "") (Or.inl (hw _ (List.mem_of_getElem? (i := 39) rfl))) Via.refl e0 S_EMPTY_LIST (g := (mkF m 0 #[] [])) rfl (hb hby d6_0)
  have P1 : own_Go p e below S0 (T1.setTop (mkF m 3 #[] [(.ref z6_EMPTY_LIST)])) := fun t k => P0 t (st1 _ k)
  obtain ⟨fs, hr, hrun, hended, hW, hsame⟩ := X1.leave (v := some (.ref z6_EMPTY_LIST)) (fun h => by rw [Bd.returns] at h; cases h)
  refine ⟨_, _, own_from hS0 (P1 _ ?_), hrun, hended, _, _, rfl, ?_, ⟨_, rfl⟩, hW, hsame.mono (by decide) (by decide)⟩
  · show Steps p.tables e below (T1.setTop (mkF m 3 #[] [(.ref z6_EMPTY_LIST)])) _
    jvm_step X1.here [X1.here.top, hx, (hb hby d6_3), X1.method', Bd.returns, Value.isRef, FieldType.isReference]
    first | (intro acts; rw [hr _ acts rfl rfl rfl]) | rw [hr _ _ rfl rfl rfl]
    exact Steps.refl _
  · show Q6 Z z6_EMPTY_LIST h0 n0 _ T1.heap _
    rw [e1]
    exact ⟨rfl, N0, rfl⟩
theorem pd_1 : parseMethodDescriptor "()Ljava/util/List;" = some ⟨[], some (.object "java/util/List")⟩ := by decide +kernel
theorem pn_1 : plainName "com/example/penelope/penelope/program/Location" = true := by first | (simp [plainName, overriddenIn]; done) | decide +kernel
theorem d1_0 : decode prog_93_method_1_code 0 = .ok (.aload_n 0, 1) := by decide +kernel
theorem d1_1 : decode prog_93_method_1_code 1 = .ok (.invokespecial 1, 3) := by decide +kernel
theorem d1_4 : decode prog_93_method_1_code 4 = .ok (.aload_n 0, 1) := by decide +kernel
theorem d1_5 : decode prog_93_method_1_code 5 = .ok (.new 7, 3) := by decide +kernel
theorem d1_8 : decode prog_93_method_1_code 8 = .ok (.dup, 1) := by decide +kernel
theorem d1_9 : decode prog_93_method_1_code 9 = .ok (.invokespecial 9, 3) := by decide +kernel
theorem d1_12 : decode prog_93_method_1_code 12 = .ok (.putfield 10, 3) := by decide +kernel
theorem d1_15 : decode prog_93_method_1_code 15 = .ok (.aload_n 0, 1) := by decide +kernel
theorem d1_16 : decode prog_93_method_1_code 16 = .ok (.invokestatic 16, 3) := by decide +kernel
theorem d1_19 : decode prog_93_method_1_code 19 = .ok (.putfield 22, 3) := by decide +kernel
theorem d1_22 : decode prog_93_method_1_code 22 = .ok (.aload_n 0, 1) := by decide +kernel
theorem d1_23 : decode prog_93_method_1_code 23 = .ok (.iload_n 1, 1) := by decide +kernel
theorem d1_24 : decode prog_93_method_1_code 24 = .ok (.putfield 25, 3) := by decide +kernel
theorem d1_27 : decode prog_93_method_1_code 27 = .ok (.aload_n 0, 1) := by decide +kernel
theorem d1_28 : decode prog_93_method_1_code 28 = .ok (.iload_n 2, 1) := by decide +kernel
theorem d1_29 : decode prog_93_method_1_code 29 = .ok (.putfield 29, 3) := by decide +kernel
theorem d1_32 : decode prog_93_method_1_code 32 = .ok (.aload_n 0, 1) := by decide +kernel
theorem d1_33 : decode prog_93_method_1_code 33 = .ok (.iload_n 3, 1) := by decide +kernel
theorem d1_34 : decode prog_93_method_1_code 34 = .ok (.putfield 32, 3) := by decide +kernel
theorem d1_37 : decode prog_93_method_1_code 37 = .ok (.return_, 1) := by decide +kernel
theorem ef_1t (m : MethodId) (q1t_0 : Addr) (q1t_1 : Int32) (q1t_2 : Int32) : entryFrame m #[(.ref q1t_0), (.int q1t_1), (.int q1t_2), (.int (1 : Int32))] 4 = mkF m 0 #[.val (.ref q1t_0), .val (.int q1t_1), .val (.int q1t_2), .val (.int (1 : Int32))] [] := by first | (simp [entryFrame, mkF, argsToLocals, Value.category]; done) | rfl
def Q1t (Z : State) (q1t_0 : Addr) (q1t_1 : Int32) (q1t_2 : Int32) (w1t_q1t_0_validEnd : Int32) (w1t_q1t_0_accepting : Int32) (w1t_q1t_0_independent : Int32) (w1t_q1t_0_breaksCycles : Int32) (z1t_DEFAULTCAPACITY_EMPTY_ELEMENTDATA : Addr) (u1t_q1t_0_transitions : Value) (z1t_EMPTY_LIST : Addr) (u1t_q1t_0_deadVariables : Value) (u1t_q1t_0_id : Value) (u1t_q1t_0_line : Value) (u1t_q1t_0_end : Value) (h0 : Heap) (n0 : Nat) (v : Option Value) (h : Heap) (L : List Loc) : Prop := ∃ (b4 : Addr), v = none ∧ Fr n0 L ∧ Keep h0 h [q1t_0] ∧ h0.size ≤ b4 ∧ Fld Z h q1t_0 "com/example/penelope/penelope/program/Location" "validEnd" "Z" (.int w1t_q1t_0_validEnd) ∧ Fld Z h q1t_0 "com/example/penelope/penelope/program/Location" "accepting" "Z" (.int w1t_q1t_0_accepting) ∧ Fld Z h q1t_0 "com/example/penelope/penelope/program/Location" "independent" "Z" (.int w1t_q1t_0_independent) ∧ Fld Z h q1t_0 "com/example/penelope/penelope/program/Location" "breaksCycles" "Z" (.int w1t_q1t_0_breaksCycles) ∧ Exa Z h b4 "java/util/ArrayList" ∧ Fld Z h b4 "java/util/ArrayList" "elementData" "[Ljava/lang/Object;" (.ref z1t_DEFAULTCAPACITY_EMPTY_ELEMENTDATA) ∧ Fld Z h b4 "java/util/AbstractList" "modCount" "I" (.int (0 : Int32)) ∧ Fld Z h q1t_0 "com/example/penelope/penelope/program/Location" "transitions" "Ljava/util/List;" (.ref b4) ∧ Fld Z h q1t_0 "com/example/penelope/penelope/program/Location" "deadVariables" "Ljava/util/List;" (.ref z1t_EMPTY_LIST) ∧ Fld Z h q1t_0 "com/example/penelope/penelope/program/Location" "id" "I" (.int q1t_1) ∧ Fld Z h q1t_0 "com/example/penelope/penelope/program/Location" "line" "I" (.int q1t_2) ∧ Fld Z h q1t_0 "com/example/penelope/penelope/program/Location" "end" "Z" (.int (1 : Int32))
set_option maxRecDepth 65536 in
set_option maxHeartbeats 40000000 in
theorem rm1t (l : Launch) (Z : State) (a0 : Array Value) (hw : ∀ d ∈ tables_1, d.before a0 Z = true) (ws : List Jvm.Cond) (q1t_0 : Addr) (q1t_1 : Int32) (q1t_2 : Int32) (w1t_q1t_0_validEnd : Int32) (w1t_q1t_0_accepting : Int32) (w1t_q1t_0_independent : Int32) (w1t_q1t_0_breaksCycles : Int32) (z1t_DEFAULTCAPACITY_EMPTY_ELEMENTDATA : Addr) (u1t_q1t_0_transitions : Value) (z1t_EMPTY_LIST : Addr) (u1t_q1t_0_deadVariables : Value) (u1t_q1t_0_id : Value) (u1t_q1t_0_line : Value) (u1t_q1t_0_end : Value) (h0 : Heap) (n0 : Nat) (Z0 : n0 ≤ h0.size) (F_q1t_0_validEnd : Fld Z h0 q1t_0 "com/example/penelope/penelope/program/Location" "validEnd" "Z" (.int w1t_q1t_0_validEnd)) (F_q1t_0_accepting : Fld Z h0 q1t_0 "com/example/penelope/penelope/program/Location" "accepting" "Z" (.int w1t_q1t_0_accepting)) (F_q1t_0_independent : Fld Z h0 q1t_0 "com/example/penelope/penelope/program/Location" "independent" "Z" (.int w1t_q1t_0_independent)) (F_q1t_0_breaksCycles : Fld Z h0 q1t_0 "com/example/penelope/penelope/program/Location" "breaksCycles" "Z" (.int w1t_q1t_0_breaksCycles)) (S_DEFAULTCAPACITY_EMPTY_ELEMENTDATA : Sta Z h0 "java/util/ArrayList" "DEFAULTCAPACITY_EMPTY_ELEMENTDATA" "[Ljava/lang/Object;" (.ref z1t_DEFAULTCAPACITY_EMPTY_ELEMENTDATA)) (E_q1t_0 : Exa Z h0 q1t_0 "com/example/penelope/penelope/program/Location") (F_q1t_0_transitions : Fld Z h0 q1t_0 "com/example/penelope/penelope/program/Location" "transitions" "Ljava/util/List;" u1t_q1t_0_transitions) (g_q1t_0 : n0 ≤ q1t_0) (S_EMPTY_LIST : Sta Z h0 "java/util/ImmutableCollections" "EMPTY_LIST" "Ljava/util/ImmutableCollections$ListN;" (.ref z1t_EMPTY_LIST)) (F_q1t_0_deadVariables : Fld Z h0 q1t_0 "com/example/penelope/penelope/program/Location" "deadVariables" "Ljava/util/List;" u1t_q1t_0_deadVariables) (F_q1t_0_id : Fld Z h0 q1t_0 "com/example/penelope/penelope/program/Location" "id" "I" u1t_q1t_0_id) (F_q1t_0_line : Fld Z h0 q1t_0 "com/example/penelope/penelope/program/Location" "line" "I" u1t_q1t_0_line) (F_q1t_0_end : Fld Z h0 q1t_0 "com/example/penelope/penelope/program/Location" "end" "Z" u1t_q1t_0_end) :
    MetFree l (⟨"com/example/penelope/penelope/program/Location", "<init>", "(IIZ)V"⟩ : MethodName) (head1 (Jvm.Cond.code (⟨"com/example/penelope/penelope/program/Location", "<init>", "(IIZ)V"⟩ : MethodName) prog_93_method_1_code 4 none :: ws) ({ frames := 4, cells := 1, slots := 3, locals := 50 } : Room)) (fun a U => a = #[(.ref q1t_0), (.int q1t_1), (.int q1t_2), (.int (1 : Int32))] ∧ Z.Warmed39 U.vm ∧ U.heap = h0) (fun _ _ _ _ _ => True) (fun _ U o U' => ∃ v L, o = .returned v ∧ Q1t Z q1t_0 q1t_1 q1t_2 w1t_q1t_0_validEnd w1t_q1t_0_accepting w1t_q1t_0_independent w1t_q1t_0_breaksCycles z1t_DEFAULTCAPACITY_EMPTY_ELEMENTDATA u1t_q1t_0_transitions z1t_EMPTY_LIST u1t_q1t_0_deadVariables u1t_q1t_0_id u1t_q1t_0_line u1t_q1t_0_end h0 n0 v U'.heap L ∧ FrameEnd U o U' L ({ frames := 4, cells := 1, slots := 3, locals := 50 } : Room).cells ({ frames := 4, cells := 1, slots := 3, locals := 50 } : Room).slots) := by
  refine MetFree.of_bodySF (plainFor_of_name pn_1) hisR ?_
  intro p e s m args below meth c s₁ Bd hml0 hP hK
  obtain ⟨rfl, hZ, hh⟩ := hP
  have hx := Bd.exec
  have hby := Bd.bytes
  have hml : c.maxLocals = 4 := hml0
  have hown : s.vm.findClass "com/example/penelope/penelope/program/Location" = some m.cls := findClass_of_methodNamed Bd.named
  have hnm := (name_of_methodNamed Bd.named Bd.method).1
  have X0 : Stand p l e ({ frames := 4, cells := 1, slots := 3, locals := 50 } : Room) s m #[(.ref q1t_0), (.int q1t_1), (.int q1t_2), (.int (1 : Int32))] below meth c s₁ [] 0 0 := Stand.of_body Bd
  have e0 : s₁.heap = h0 := by rw [← hh, Bd.state]; rfl
  have N0 := Fr.nil n0
  obtain ⟨S0, hS0⟩ : ∃ z, z = s₁.setTop (entryFrame m #[(.ref q1t_0), (.int q1t_1), (.int q1t_2), (.int (1 : Int32))] 4) := ⟨_, rfl⟩
  have P0 : own_Go p e below S0 (s₁.setTop (mkF m 0 #[.val (.ref q1t_0), .val (.int q1t_1), .val (.int q1t_2), .val (.int (1 : Int32))] [])) := fun t k => by rw [hS0]; exact castTop (ef_1t m q1t_0 q1t_1 q1t_2) k
  have P1 : own_Go p e below S0 (s₁.setTop (mkF m 1 #[.val (.ref q1t_0), .val (.int q1t_1), .val (.int q1t_2), .val (.int (1 : Int32))] [(.ref q1t_0)])) := fun t k => P0 t (by
    show Steps p.tables e below (s₁.setTop (mkF m 0 #[.val (.ref q1t_0), .val (.int q1t_1), .val (.int q1t_2), .val (.int (1 : Int32))] [])) t
    refine XS.aloadN X0.here hx rfl (hb hby d1_0) rfl rfl ?_
    show Steps p.tables e below (s₁.setTop (mkF m 1 #[.val (.ref q1t_0), .val (.int q1t_1), .val (.int q1t_2), .val (.int (1 : Int32))] [(.ref q1t_0)])) t
    exact k)
  obtain ⟨T2, X2, e2, st2⟩ := initO X0 hx hZ hown (hw _ (List.mem_of_getElem? (i := 6) rfl)) (hw _ (List.mem_of_getElem? (i := 7) rfl)) (hw _ (List.mem_of_getElem? (i := 8) rfl)) e0 (g := (mkF m 1 #[.val (.ref q1t_0), .val (.int q1t_1), .val (.int q1t_2), .val (.int (1 : Int32))] [(.ref q1t_0)])) rfl (by rw [hml]; rfl) rfl (hb hby d1_1) (by decide) (W := 0) (by show 2 * 0 + _ ≤ _; exact Nat.le_of_eq rfl) (by decide)
  have P2 : own_Go p e below S0 (T2.setTop (mkF m 4 #[.val (.ref q1t_0), .val (.int q1t_1), .val (.int q1t_2), .val (.int (1 : Int32))] [])) := fun t k => P1 t (st2 _ k)
  have P3 : own_Go p e below S0 (T2.setTop (mkF m 5 #[.val (.ref q1t_0), .val (.int q1t_1), .val (.int q1t_2), .val (.int (1 : Int32))] [(.ref q1t_0)])) := fun t k => P2 t (by
    show Steps p.tables e below (T2.setTop (mkF m 4 #[.val (.ref q1t_0), .val (.int q1t_1), .val (.int q1t_2), .val (.int (1 : Int32))] [])) t
    refine XS.aloadN X2.here hx rfl (hb hby d1_4) rfl rfl ?_
    show Steps p.tables e below (T2.setTop (mkF m 5 #[.val (.ref q1t_0), .val (.int q1t_1), .val (.int q1t_2), .val (.int (1 : Int32))] [(.ref q1t_0)])) t
    exact k)
  obtain ⟨T4, h4, X4, e4, E4, A4, D4, -, st4⟩ := newO X2 hx hZ hown (hw _ (List.mem_of_getElem? (i := 9) rfl)) (hw _ (List.mem_of_getElem? (i := 10) rfl)) (hw _ (List.mem_of_getElem? (i := 11) rfl)) e2 (g := (mkF m 5 #[.val (.ref q1t_0), .val (.int q1t_1), .val (.int q1t_2), .val (.int (1 : Int32))] [(.ref q1t_0)])) rfl (hb hby d1_5) (by decide) (by decide)
  obtain ⟨b4, g4⟩ : ∃ z, z = h0.size := ⟨_, rfl⟩
  rw [← g4] at A4 D4 st4
  have sz_b4 : h0.size ≤ b4 := Nat.le_of_eq g4.symm
  have ne_q1t_0_b4 : q1t_0 ≠ b4 := Nat.ne_of_lt (Nat.lt_of_lt_of_le F_q1t_0_validEnd.lt sz_b4)
  have g_b4 : n0 ≤ b4 := Nat.le_trans Z0 sz_b4
  have o_b4 : h0.size ≤ b4 := sz_b4
  have K4 : Keep h0 h4 [q1t_0] := (Keep.refl h0 [q1t_0]).ext E4
  have F4_modCount : Fld Z h4 b4 "java/util/AbstractList" "modCount" "I" (.int (0 : Int32)) := D4 (Or.inl (hw _ (List.mem_of_getElem? (i := 29) rfl))) (ty := .int) (by decide)
  have F4_elementData : Fld Z h4 b4 "java/util/ArrayList" "elementData" "[Ljava/lang/Object;" .null := D4 (Or.inl (hw _ (List.mem_of_getElem? (i := 32) rfl))) (ty := (.array (.object "java/lang/Object"))) (by decide)
  have P4 : own_Go p e below S0 (T4.setTop (mkF m 8 #[.val (.ref q1t_0), .val (.int q1t_1), .val (.int q1t_2), .val (.int (1 : Int32))] [(.ref b4), (.ref q1t_0)])) := fun t k => P3 t (st4 _ k)
  have F5 : Sta Z h4 "java/util/ArrayList" "DEFAULTCAPACITY_EMPTY_ELEMENTDATA" "[Ljava/lang/Object;" (.ref z1t_DEFAULTCAPACITY_EMPTY_ELEMENTDATA) := S_DEFAULTCAPACITY_EMPTY_ELEMENTDATA.ext E4
  have P6 : own_Go p e below S0 (T4.setTop (mkF m 9 #[.val (.ref q1t_0), .val (.int q1t_1), .val (.int q1t_2), .val (.int (1 : Int32))] [(.ref b4), (.ref b4), (.ref q1t_0)])) := fun t k => P4 t (by
    show Steps p.tables e below (T4.setTop (mkF m 8 #[.val (.ref q1t_0), .val (.int q1t_1), .val (.int q1t_2), .val (.int (1 : Int32))] [(.ref b4), (.ref q1t_0)])) t
    refine XS.dup X4.here hx rfl (hb hby d1_8) rfl rfl ?_
    show Steps p.tables e below (T4.setTop (mkF m 9 #[.val (.ref q1t_0), .val (.int q1t_1), .val (.int q1t_2), .val (.int (1 : Int32))] [(.ref b4), (.ref b4), (.ref q1t_0)])) t
    exact k)
  obtain ⟨_, _, ⟨T7, L7, k7, n7⟩, -, X7, ⟨Lc7, hQ7, l7, y7, z7⟩, st7⟩ := X4.specialBack hx (y := (⟨"java/util/ArrayList", "<init>", "()V"⟩ : MethodName)) rfl hown (mvT hZ (hw _ (List.mem_of_getElem? (i := 12) rfl))) (mvT hZ (hw _ (List.mem_of_getElem? (i := 13) rfl))) (mvT hZ (hw _ (List.mem_of_getElem? (i := 14) rfl))) (by decide) (backOf (W := 2) (rm3 l Z a0 hw [] b4 (.int (0 : Int32)) z1t_DEFAULTCAPACITY_EMPTY_ELEMENTDATA h4 n0 (Nat.le_trans Z0 K4.1) F4_elementData A4 F4_modCount g_b4 F5) hZ (hw _ (List.mem_of_getElem? (i := 14) rfl)) (hw _ (List.mem_of_getElem? (i := 11) rfl)) (by decide) (by decide)) (g := (mkF m 9 #[.val (.ref q1t_0), .val (.int q1t_1), .val (.int q1t_2), .val (.int (1 : Int32))] [(.ref b4), (.ref b4), (.ref q1t_0)])) rfl (by rw [hml]; rfl) (Steps.refl _) (a := b4) (argsL := []) (rest := [(.ref b4), (.ref q1t_0)]) (lenOf pd_0 rfl) rfl (by show 2 * 0 + _ ≤ _; exact Nat.le_of_eq rfl) (hb hby d1_9) (fun _ _ => ⟨rfl, e4, (by decide : 1 + 0 ≤ _), (by decide : 3 + 0 ≤ _)⟩)
  dsimp only [Pt.U, Pt.locs, Pt.cells, Pt.slots] at X7 l7 y7 z7 st7 hQ7
  subst l7 y7 z7
  obtain ⟨rfl, N7q, Kc7, F7_0, F7_1⟩ := hQ7
  have N7 := Fr.app N0 N7q
  have K7 : Keep h0 T7.heap [q1t_0] := Keep.trans K4 Kc7 (allS (Or.inr o_b4) all0)
  have P7 : own_Go p e below S0 (T7.setTop (mkF m 12 #[.val (.ref q1t_0), .val (.int q1t_1), .val (.int q1t_2), .val (.int (1 : Int32))] [(.ref b4), (.ref q1t_0)])) := fun t k => P6 t (st7.trans k)
  have F8 : Exa Z h4 q1t_0 "com/example/penelope/penelope/program/Location" := E_q1t_0.ext E4
  have F9 : Exa Z T7.heap q1t_0 "com/example/penelope/penelope/program/Location" := F8.keep Kc7
  have F10 : Fld Z h4 q1t_0 "com/example/penelope/penelope/program/Location" "transitions" "Ljava/util/List;" u1t_q1t_0_transitions := F_q1t_0_transitions.ext E4
  have F11 : Fld Z T7.heap q1t_0 "com/example/penelope/penelope/program/Location" "transitions" "Ljava/util/List;" u1t_q1t_0_transitions := F10.keep Kc7 (ninS ne_q1t_0_b4 nin0)
  obtain ⟨T12, h12, X12, e12, W12, st12⟩ := putF X7 hx hZ hown (host := "") (Or.inl (hw _ (List.mem_of_getElem? (i := 33) rfl))) Via.refl rfl F11 F9 (Or.inr ⟨(hw _ (List.mem_of_getElem? (i := 34) rfl)), rfl, hnm⟩) (hw _ (List.mem_of_getElem? (i := 1) rfl)) (ty := (.object "java/util/List")) (by decide) rfl rfl (g := (mkF m 12 #[.val (.ref q1t_0), .val (.int q1t_1), .val (.int q1t_2), .val (.int (1 : Int32))] [(.ref b4), (.ref q1t_0)])) rfl rfl (hb hby d1_12)
  have K12 : Keep h0 h12 [q1t_0] := K7.wr W12 (Or.inl (by simp))
  have N12 := Fr.snoc X12 N7 g_q1t_0
  have F12w : Fld Z h12 q1t_0 "com/example/penelope/penelope/program/Location" "transitions" "Ljava/util/List;" (.ref b4) := F11.same W12
  have P12 : own_Go p e below S0 (T12.setTop (mkF m 15 #[.val (.ref q1t_0), .val (.int q1t_1), .val (.int q1t_2), .val (.int (1 : Int32))] [])) := fun t k => P7 t (st12 _ k)
  have F13 : Sta Z h4 "java/util/ImmutableCollections" "EMPTY_LIST" "Ljava/util/ImmutableCollections$ListN;" (.ref z1t_EMPTY_LIST) := S_EMPTY_LIST.ext E4
  have F14 : Sta Z T7.heap "java/util/ImmutableCollections" "EMPTY_LIST" "Ljava/util/ImmutableCollections$ListN;" (.ref z1t_EMPTY_LIST) := own_staK F13 Kc7 (allS (own_plE A4) all0)
  have F15 : Sta Z h12 "java/util/ImmutableCollections" "EMPTY_LIST" "Ljava/util/ImmutableCollections$ListN;" (.ref z1t_EMPTY_LIST) := F14.wr W12
  have P16 : own_Go p e below S0 (T12.setTop (mkF m 16 #[.val (.ref q1t_0), .val (.int q1t_1), .val (.int q1t_2), .val (.int (1 : Int32))] [(.ref q1t_0)])) := fun t k => P12 t (by
    show Steps p.tables e below (T12.setTop (mkF m 15 #[.val (.ref q1t_0), .val (.int q1t_1), .val (.int q1t_2), .val (.int (1 : Int32))] [])) t
    refine XS.aloadN X12.here hx rfl (hb hby d1_15) rfl rfl ?_
    show Steps p.tables e below (T12.setTop (mkF m 16 #[.val (.ref q1t_0), .val (.int q1t_1), .val (.int q1t_2), .val (.int (1 : Int32))] [(.ref q1t_0)])) t
    exact k)
  obtain ⟨_, _, ⟨T17, L17, k17, n17⟩, -, X17, ⟨Lc17, hQ17, l17, y17, z17⟩, st17⟩ := Jvm.LawKit.callS X12 hx (y := (⟨"java/util/List", "of", "()Ljava/util/List;"⟩ : MethodName)) hown (mvT hZ (hw _ (List.mem_of_getElem? (i := 35) rfl))) (mvT hZ (hw _ (List.mem_of_getElem? (i := 36) rfl))) (mvT hZ (hw _ (List.mem_of_getElem? (i := 37) rfl))) (mvT hZ (hw _ (List.mem_of_getElem? (i := 38) rfl))) (by decide) (backOf (W := 1) (rm6 l Z a0 hw [] z1t_EMPTY_LIST h12 n0 (Nat.le_trans Z0 K12.1) F15) hZ (hw _ (List.mem_of_getElem? (i := 38) rfl)) (hw _ (List.mem_of_getElem? (i := 37) rfl)) (by decide) (by decide)) (g := (mkF m 16 #[.val (.ref q1t_0), .val (.int q1t_1), .val (.int q1t_2), .val (.int (1 : Int32))] [(.ref q1t_0)])) rfl (by rw [hml]; rfl) (argsL := []) (rest := [(.ref q1t_0)]) (lenOf pd_1 rfl) rfl (by show 2 * 0 + _ ≤ _; exact Nat.le_of_eq rfl) (hb hby d1_16) (fun _ _ => ⟨rfl, e12, (by decide : 1 + 0 ≤ _), (by decide : 3 + 0 ≤ _)⟩)
  dsimp only [Pt.U, Pt.locs, Pt.cells, Pt.slots] at X17 l17 y17 z17 st17 hQ17
  subst l17 y17 z17
  obtain ⟨rfl, N17q, e17⟩ := hQ17
  have N17 := Fr.app N12 N17q
  have P17 : own_Go p e below S0 (T17.setTop (mkF m 19 #[.val (.ref q1t_0), .val (.int q1t_1), .val (.int q1t_2), .val (.int (1 : Int32))] [(.ref z1t_EMPTY_LIST), (.ref q1t_0)])) := fun t k => P16 t (st17 _ k)
  have F18 : Exa Z h12 q1t_0 "com/example/penelope/penelope/program/Location" := F9.wr W12
  have F19 : Fld Z h4 q1t_0 "com/example/penelope/penelope/program/Location" "deadVariables" "Ljava/util/List;" u1t_q1t_0_deadVariables := F_q1t_0_deadVariables.ext E4
  have F20 : Fld Z T7.heap q1t_0 "com/example/penelope/penelope/program/Location" "deadVariables" "Ljava/util/List;" u1t_q1t_0_deadVariables := F19.keep Kc7 (ninS ne_q1t_0_b4 nin0)
  have F21 : Fld Z h12 q1t_0 "com/example/penelope/penelope/program/Location" "deadVariables" "Ljava/util/List;" u1t_q1t_0_deadVariables := F20.other W12 (Or.inr (slot_ne (Or.inl (hw _ (List.mem_of_getElem? (i := 42) rfl))) (Or.inr (hw _ (List.mem_of_getElem? (i := 34) rfl))) (by decide) (t := (.object "java/util/List")) (t' := (.object "java/util/List")) (by decide) (by decide)))
  obtain ⟨T22, h22, X22, e22, W22, st22⟩ := putF X17 hx hZ hown (host := "") (Or.inl (hw _ (List.mem_of_getElem? (i := 41) rfl))) Via.refl e17 F21 F18 (Or.inl (hw _ (List.mem_of_getElem? (i := 42) rfl))) (hw _ (List.mem_of_getElem? (i := 1) rfl)) (ty := (.object "java/util/List")) (by decide) rfl rfl (g := (mkF m 19 #[.val (.ref q1t_0), .val (.int q1t_1), .val (.int q1t_2), .val (.int (1 : Int32))] [(.ref z1t_EMPTY_LIST), (.ref q1t_0)])) rfl rfl (hb hby d1_19)
  have K22 : Keep h0 h22 [q1t_0] := K12.wr W22 (Or.inl (by simp))
  have N22 := Fr.snoc X22 N17 g_q1t_0
  have F22w : Fld Z h22 q1t_0 "com/example/penelope/penelope/program/Location" "deadVariables" "Ljava/util/List;" (.ref z1t_EMPTY_LIST) := F21.same W22
  have P22 : own_Go p e below S0 (T22.setTop (mkF m 22 #[.val (.ref q1t_0), .val (.int q1t_1), .val (.int q1t_2), .val (.int (1 : Int32))] [])) := fun t k => P17 t (st22 _ k)
  have F23 : Exa Z h22 q1t_0 "com/example/penelope/penelope/program/Location" := F18.wr W22
  have F24 : Fld Z h4 q1t_0 "com/example/penelope/penelope/program/Location" "id" "I" u1t_q1t_0_id := F_q1t_0_id.ext E4
  have F25 : Fld Z T7.heap q1t_0 "com/example/penelope/penelope/program/Location" "id" "I" u1t_q1t_0_id := F24.keep Kc7 (ninS ne_q1t_0_b4 nin0)
  have F26 : Fld Z h12 q1t_0 "com/example/penelope/penelope/program/Location" "id" "I" u1t_q1t_0_id := F25.other W12 (Or.inr (slot_ne (Or.inr (hw _ (List.mem_of_getElem? (i := 44) rfl))) (Or.inr (hw _ (List.mem_of_getElem? (i := 34) rfl))) (by decide) (t := .int) (t' := (.object "java/util/List")) (by decide) (by decide)))
  have F27 : Fld Z h22 q1t_0 "com/example/penelope/penelope/program/Location" "id" "I" u1t_q1t_0_id := F26.other W22 (Or.inr (slot_ne (Or.inr (hw _ (List.mem_of_getElem? (i := 44) rfl))) (Or.inl (hw _ (List.mem_of_getElem? (i := 42) rfl))) (by decide) (t := .int) (t' := (.object "java/util/List")) (by decide) (by decide)))
  have P28 : own_Go p e below S0 (T22.setTop (mkF m 24 #[.val (.ref q1t_0), .val (.int q1t_1), .val (.int q1t_2), .val (.int (1 : Int32))] [(.int q1t_1), (.ref q1t_0)])) := fun t k => P22 t (by
    show Steps p.tables e below (T22.setTop (mkF m 22 #[.val (.ref q1t_0), .val (.int q1t_1), .val (.int q1t_2), .val (.int (1 : Int32))] [])) t
    refine XS.aloadN X22.here hx rfl (hb hby d1_22) rfl rfl ?_
    refine XS.iloadN X22.here hx rfl (hb hby d1_23) rfl ?_
    show Steps p.tables e below (T22.setTop (mkF m 24 #[.val (.ref q1t_0), .val (.int q1t_1), .val (.int q1t_2), .val (.int (1 : Int32))] [(.int q1t_1), (.ref q1t_0)])) t
    exact k)
  obtain ⟨T29, h29, X29, e29, W29, st29⟩ := putF X22 hx hZ hown (host := "") (Or.inl (hw _ (List.mem_of_getElem? (i := 43) rfl))) Via.refl e22 F27 F23 (Or.inr ⟨(hw _ (List.mem_of_getElem? (i := 44) rfl)), rfl, hnm⟩) (hw _ (List.mem_of_getElem? (i := 1) rfl)) (ty := .int) (by decide) rfl rfl (g := (mkF m 24 #[.val (.ref q1t_0), .val (.int q1t_1), .val (.int q1t_2), .val (.int (1 : Int32))] [(.int q1t_1), (.ref q1t_0)])) rfl rfl (hb hby d1_24)
  have K29 : Keep h0 h29 [q1t_0] := K22.wr W29 (Or.inl (by simp))
  have N29 := Fr.snoc X29 N22 g_q1t_0
  have F29w : Fld Z h29 q1t_0 "com/example/penelope/penelope/program/Location" "id" "I" (.int q1t_1) := F27.same W29
  have P29 : own_Go p e below S0 (T29.setTop (mkF m 27 #[.val (.ref q1t_0), .val (.int q1t_1), .val (.int q1t_2), .val (.int (1 : Int32))] [])) := fun t k => P28 t (st29 _ k)
  have F30 : Exa Z h29 q1t_0 "com/example/penelope/penelope/program/Location" := F23.wr W29
  have F31 : Fld Z h4 q1t_0 "com/example/penelope/penelope/program/Location" "line" "I" u1t_q1t_0_line := F_q1t_0_line.ext E4
  have F32 : Fld Z T7.heap q1t_0 "com/example/penelope/penelope/program/Location" "line" "I" u1t_q1t_0_line := F31.keep Kc7 (ninS ne_q1t_0_b4 nin0)
  have F33 : Fld Z h12 q1t_0 "com/example/penelope/penelope/program/Location" "line" "I" u1t_q1t_0_line := F32.other W12 (Or.inr (slot_ne (Or.inr (hw _ (List.mem_of_getElem? (i := 46) rfl))) (Or.inr (hw _ (List.mem_of_getElem? (i := 34) rfl))) (by decide) (t := .int) (t' := (.object "java/util/List")) (by decide) (by decide)))
  have F34 : Fld Z h22 q1t_0 "com/example/penelope/penelope/program/Location" "line" "I" u1t_q1t_0_line := F33.other W22 (Or.inr (slot_ne (Or.inr (hw _ (List.mem_of_getElem? (i := 46) rfl))) (Or.inl (hw _ (List.mem_of_getElem? (i := 42) rfl))) (by decide) (t := .int) (t' := (.object "java/util/List")) (by decide) (by decide)))
  have F35 : Fld Z h29 q1t_0 "com/example/penelope/penelope/program/Location" "line" "I" u1t_q1t_0_line := F34.other W29 (Or.inr (slot_ne (Or.inr (hw _ (List.mem_of_getElem? (i := 46) rfl))) (Or.inr (hw _ (List.mem_of_getElem? (i := 44) rfl))) (by decide) (t := .int) (t' := .int) (by decide) (by decide)))
  have P36 : own_Go p e below S0 (T29.setTop (mkF m 29 #[.val (.ref q1t_0), .val (.int q1t_1), .val (.int q1t_2), .val (.int (1 : Int32))] [(.int q1t_2), (.ref q1t_0)])) := fun t k => P29 t (by
    show Steps p.tables e below (T29.setTop (mkF m 27 #[.val (.ref q1t_0), .val (.int q1t_1), .val (.int q1t_2), .val (.int (1 : Int32))] [])) t
    refine XS.aloadN X29.here hx rfl (hb hby d1_27) rfl rfl ?_
    refine XS.iloadN X29.here hx rfl (hb hby d1_28) rfl ?_
    show Steps p.tables e below (T29.setTop (mkF m 29 #[.val (.ref q1t_0), .val (.int q1t_1), .val (.int q1t_2), .val (.int (1 : Int32))] [(.int q1t_2), (.ref q1t_0)])) t
    exact k)
  obtain ⟨T37, h37, X37, e37, W37, st37⟩ := putF X29 hx hZ hown (host := "") (Or.inl (hw _ (List.mem_of_getElem? (i := 45) rfl))) Via.refl e29 F35 F30 (Or.inr ⟨(hw _ (List.mem_of_getElem? (i := 46) rfl)), rfl, hnm⟩) (hw _ (List.mem_of_getElem? (i := 1) rfl)) (ty := .int) (by decide) rfl rfl (g := (mkF m 29 #[.val (.ref q1t_0), .val (.int q1t_1), .val (.int q1t_2), .val (.int (1 : Int32))] [(.int q1t_2), (.ref q1t_0)])) rfl rfl (hb hby d1_29)
  have K37 : Keep h0 h37 [q1t_0] := K29.wr W37 (Or.inl (by simp))
  have N37 := Fr.snoc X37 N29 g_q1t_0
  have F37w : Fld Z h37 q1t_0 "com/example/penelope/penelope/program/Location" "line" "I" (.int q1t_2) := F35.same W37
  have P37 : own_Go p e below S0 (T37.setTop (mkF m 32 #[.val (.ref q1t_0), .val (.int q1t_1), .val (.int q1t_2), .val (.int (1 : Int32))] [])) := fun t k => P36 t (st37 _ k)
  have F38 : Exa Z h37 q1t_0 "com/example/penelope/penelope/program/Location" := F30.wr W37
  have F39 : Fld Z h4 q1t_0 "com/example/penelope/penelope/program/Location" "end" "Z" u1t_q1t_0_end := F_q1t_0_end.ext E4
  have F40 : Fld Z T7.heap q1t_0 "com/example/penelope/penelope/program/Location" "end" "Z" u1t_q1t_0_end := F39.keep Kc7 (ninS ne_q1t_0_b4 nin0)
  have F41 : Fld Z h12 q1t_0 "com/example/penelope/penelope/program/Location" "end" "Z" u1t_q1t_0_end := F40.other W12 (Or.inr (slot_ne (Or.inr (hw _ (List.mem_of_getElem? (i := 48) rfl))) (Or.inr (hw _ (List.mem_of_getElem? (i := 34) rfl))) (by decide) (t := .boolean) (t' := (.object "java/util/List")) (by decide) (by decide)))
  have F42 : Fld Z h22 q1t_0 "com/example/penelope/penelope/program/Location" "end" "Z" u1t_q1t_0_end := F41.other W22 (Or.inr (slot_ne (Or.inr (hw _ (List.mem_of_getElem? (i := 48) rfl))) (Or.inl (hw _ (List.mem_of_getElem? (i := 42) rfl))) (by decide) (t := .boolean) (t' := (.object "java/util/List")) (by decide) (by decide)))
  have F43 : Fld Z h29 q1t_0 "com/example/penelope/penelope/program/Location" "end" "Z" u1t_q1t_0_end := F42.other W29 (Or.inr (slot_ne (Or.inr (hw _ (List.mem_of_getElem? (i := 48) rfl))) (Or.inr (hw _ (List.mem_of_getElem? (i := 44) rfl))) (by decide) (t := .boolean) (t' := .int) (by decide) (by decide)))
  have F44 : Fld Z h37 q1t_0 "com/example/penelope/penelope/program/Location" "end" "Z" u1t_q1t_0_end := F43.other W37 (Or.inr (slot_ne (Or.inr (hw _ (List.mem_of_getElem? (i := 48) rfl))) (Or.inr (hw _ (List.mem_of_getElem? (i := 46) rfl))) (by decide) (t := .boolean) (t' := .int) (by decide) (by decide)))
  have P45 : own_Go p e below S0 (T37.setTop (mkF m 34 #[.val (.ref q1t_0), .val (.int q1t_1), .val (.int q1t_2), .val (.int (1 : Int32))] [(.int (1 : Int32)), (.ref q1t_0)])) := fun t k => P37 t (by
    show Steps p.tables e below (T37.setTop (mkF m 32 #[.val (.ref q1t_0), .val (.int q1t_1), .val (.int q1t_2), .val (.int (1 : Int32))] [])) t
    refine XS.aloadN X37.here hx rfl (hb hby d1_32) rfl rfl ?_
    refine XS.iloadN X37.here hx rfl (hb hby d1_33) rfl ?_
    show Steps p.tables e below (T37.setTop (mkF m 34 #[.val (.ref q1t_0), .val (.int q1t_1), .val (.int q1t_2), .val (.int (1 : Int32))] [(.int (1 : Int32)), (.ref q1t_0)])) t
    exact k)
  obtain ⟨T46, h46, X46, e46, W46, st46⟩ := putFN X37 hx hZ hown (hw _ (List.mem_of_getElem? (i := 47) rfl)) Via.refl e37 F44 F38 (Or.inr ⟨(hw _ (List.mem_of_getElem? (i := 48) rfl)), rfl, hnm⟩) (hw _ (List.mem_of_getElem? (i := 1) rfl)) (ty := .boolean) (v' := (.int (1 : Int32))) (by decide) rfl (by decide) (g := (mkF m 34 #[.val (.ref q1t_0), .val (.int q1t_1), .val (.int q1t_2), .val (.int (1 : Int32))] [(.int (1 : Int32)), (.ref q1t_0)])) rfl rfl (hb hby d1_34)
  have K46 : Keep h0 h46 [q1t_0] := K37.wr W46 (Or.inl (by simp))
  have N46 := Fr.snoc X46 N37 g_q1t_0
  have F46w : Fld Z h46 q1t_0 "com/example/penelope/penelope/program/Location" "end" "Z" (.int (1 : Int32)) := F44.same W46
  have P46 : own_Go p e below S0 (T46.setTop (mkF m 37 #[.val (.ref q1t_0), .val (.int q1t_1), .val (.int q1t_2), .val (.int (1 : Int32))] [])) := fun t k => P45 t (st46 _ k)
  have F47 : Fld Z h4 q1t_0 "com/example/penelope/penelope/program/Location" "validEnd" "Z" (.int w1t_q1t_0_validEnd) := F_q1t_0_validEnd.ext E4
  have F48 : Fld Z T7.heap q1t_0 "com/example/penelope/penelope/program/Location" "validEnd" "Z" (.int w1t_q1t_0_validEnd) := F47.keep Kc7 (ninS ne_q1t_0_b4 nin0)
  have F49 : Fld Z h12 q1t_0 "com/example/penelope/penelope/program/Location" "validEnd" "Z" (.int w1t_q1t_0_validEnd) := F48.other W12 (Or.inr (slot_ne (Or.inl (hw _ (List.mem_of_getElem? (i := 55) rfl))) (Or.inr (hw _ (List.mem_of_getElem? (i := 34) rfl))) (by decide) (t := .boolean) (t' := (.object "java/util/List")) (by decide) (by decide)))
  have F50 : Fld Z h22 q1t_0 "com/example/penelope/penelope/program/Location" "validEnd" "Z" (.int w1t_q1t_0_validEnd) := F49.other W22 (Or.inr (slot_ne (Or.inl (hw _ (List.mem_of_getElem? (i := 55) rfl))) (Or.inl (hw _ (List.mem_of_getElem? (i := 42) rfl))) (by decide) (t := .boolean) (t' := (.object "java/util/List")) (by decide) (by decide)))
  have F51 : Fld Z h29 q1t_0 "com/example/penelope/penelope/program/Location" "validEnd" "Z" (.int w1t_q1t_0_validEnd) := F50.other W29 (Or.inr (slot_ne (Or.inl (hw _ (List.mem_of_getElem? (i := 55) rfl))) (Or.inr (hw _ (List.mem_of_getElem? (i := 44) rfl))) (by decide) (t := .boolean) (t' := .int) (by decide) (by decide)))
  have F52 : Fld Z h37 q1t_0 "com/example/penelope/penelope/program/Location" "validEnd" "Z" (.int w1t_q1t_0_validEnd) := F51.other W37 (Or.inr (slot_ne (Or.inl (hw _ (List.mem_of_getElem? (i := 55) rfl))) (Or.inr (hw _ (List.mem_of_getElem? (i := 46) rfl))) (by decide) (t := .boolean) (t' := .int) (by decide) (by decide)))
  have F53 : Fld Z h46 q1t_0 "com/example/penelope/penelope/program/Location" "validEnd" "Z" (.int w1t_q1t_0_validEnd) := F52.other W46 (Or.inr (slot_ne (Or.inl (hw _ (List.mem_of_getElem? (i := 55) rfl))) (Or.inr (hw _ (List.mem_of_getElem? (i := 48) rfl))) (by decide) (t := .boolean) (t' := .boolean) (by decide) (by decide)))
  have F54 : Fld Z h4 q1t_0 "com/example/penelope/penelope/program/Location" "accepting" "Z" (.int w1t_q1t_0_accepting) := F_q1t_0_accepting.ext E4
  have F55 : Fld Z T7.heap q1t_0 "com/example/penelope/penelope/program/Location" "accepting" "Z" (.int w1t_q1t_0_accepting) := F54.keep Kc7 (ninS ne_q1t_0_b4 nin0)
  have F56 : Fld Z h12 q1t_0 "com/example/penelope/penelope/program/Location" "accepting" "Z" (.int w1t_q1t_0_accepting) := F55.other W12 (Or.inr (slot_ne (Or.inl (hw _ (List.mem_of_getElem? (i := 67) rfl))) (Or.inr (hw _ (List.mem_of_getElem? (i := 34) rfl))) (by decide) (t := .boolean) (t' := (.object "java/util/List")) (by decide) (by decide)))
  have F57 : Fld Z h22 q1t_0 "com/example/penelope/penelope/program/Location" "accepting" "Z" (.int w1t_q1t_0_accepting) := F56.other W22 (Or.inr (slot_ne (Or.inl (hw _ (List.mem_of_getElem? (i := 67) rfl))) (Or.inl (hw _ (List.mem_of_getElem? (i := 42) rfl))) (by decide) (t := .boolean) (t' := (.object "java/util/List")) (by decide) (by decide)))
  have F58 : Fld Z h29 q1t_0 "com/example/penelope/penelope/program/Location" "accepting" "Z" (.int w1t_q1t_0_accepting) := F57.other W29 (Or.inr (slot_ne (Or.inl (hw _ (List.mem_of_getElem? (i := 67) rfl))) (Or.inr (hw _ (List.mem_of_getElem? (i := 44) rfl))) (by decide) (t := .boolean) (t' := .int) (by decide) (by decide)))
  have F59 : Fld Z h37 q1t_0 "com/example/penelope/penelope/program/Location" "accepting" "Z" (.int w1t_q1t_0_accepting) := F58.other W37 (Or.inr (slot_ne (Or.inl (hw _ (List.mem_of_getElem? (i := 67) rfl))) (Or.inr (hw _ (List.mem_of_getElem? (i := 46) rfl))) (by decide) (t := .boolean) (t' := .int) (by decide) (by decide)))
  have F60 : Fld Z h46 q1t_0 "com/example/penelope/penelope/program/Location" "accepting" "Z" (.int w1t_q1t_0_accepting) := F59.other W46 (Or.inr (slot_ne (Or.inl (hw _ (List.mem_of_getElem? (i := 67) rfl))) (Or.inr (hw _ (List.mem_of_getElem? (i := 48) rfl))) (by decide) (t := .boolean) (t' := .boolean) (by decide) (by decide)))
  have F61 : Fld Z h4 q1t_0 "com/example/penelope/penelope/program/Location" "independent" "Z" (.int w1t_q1t_0_independent) := F_q1t_0_independent.ext E4
  have F62 : Fld Z T7.heap q1t_0 "com/example/penelope/penelope/program/Location" "independent" "Z" (.int w1t_q1t_0_independent) := F61.keep Kc7 (ninS ne_q1t_0_b4 nin0)
  have F63 : Fld Z h12 q1t_0 "com/example/penelope/penelope/program/Location" "independent" "Z" (.int w1t_q1t_0_independent) := F62.other W12 (Or.inr (slot_ne (Or.inl (hw _ (List.mem_of_getElem? (i := 74) rfl))) (Or.inr (hw _ (List.mem_of_getElem? (i := 34) rfl))) (by decide) (t := .boolean) (t' := (.object "java/util/List")) (by decide) (by decide)))
  have F64 : Fld Z h22 q1t_0 "com/example/penelope/penelope/program/Location" "independent" "Z" (.int w1t_q1t_0_independent) := F63.other W22 (Or.inr (slot_ne (Or.inl (hw _ (List.mem_of_getElem? (i := 74) rfl))) (Or.inl (hw _ (List.mem_of_getElem? (i := 42) rfl))) (by decide) (t := .boolean) (t' := (.object "java/util/List")) (by decide) (by decide)))
  have F65 : Fld Z h29 q1t_0 "com/example/penelope/penelope/program/Location" "independent" "Z" (.int w1t_q1t_0_independent) := F64.other W29 (Or.inr (slot_ne (Or.inl (hw _ (List.mem_of_getElem? (i := 74) rfl))) (Or.inr (hw _ (List.mem_of_getElem? (i := 44) rfl))) (by decide) (t := .boolean) (t' := .int) (by decide) (by decide)))
  have F66 : Fld Z h37 q1t_0 "com/example/penelope/penelope/program/Location" "independent" "Z" (.int w1t_q1t_0_independent) := F65.other W37 (Or.inr (slot_ne (Or.inl (hw _ (List.mem_of_getElem? (i := 74) rfl))) (Or.inr (hw _ (List.mem_of_getElem? (i := 46) rfl))) (by decide) (t := .boolean) (t' := .int) (by decide) (by decide)))
  have F67 : Fld Z h46 q1t_0 "com/example/penelope/penelope/program/Location" "independent" "Z" (.int w1t_q1t_0_independent) := F66.other W46 (Or.inr (slot_ne (Or.inl (hw _ (List.mem_of_getElem? (i := 74) rfl))) (Or.inr (hw _ (List.mem_of_getElem? (i := 48) rfl))) (by decide) (t := .boolean) (t' := .boolean) (by decide) (by decide)))
  have F68 : Fld Z h4 q1t_0 "com/example/penelope/penelope/program/Location" "breaksCycles" "Z" (.int w1t_q1t_0_breaksCycles) := F_q1t_0_breaksCycles.ext E4
  have F69 : Fld Z T7.heap q1t_0 "com/example/penelope/penelope/program/Location" "breaksCycles" "Z" (.int w1t_q1t_0_breaksCycles) := F68.keep Kc7 (ninS ne_q1t_0_b4 nin0)
  have F70 : Fld Z h12 q1t_0 "com/example/penelope/penelope/program/Location" "breaksCycles" "Z" (.int w1t_q1t_0_breaksCycles) := F69.other W12 (Or.inr (slot_ne (Or.inl (hw _ (List.mem_of_getElem? (i := 81) rfl))) (Or.inr (hw _ (List.mem_of_getElem? (i := 34) rfl))) (by decide) (t := .boolean) (t' := (.object "java/util/List")) (by decide) (by decide)))
  have F71 : Fld Z h22 q1t_0 "com/example/penelope/penelope/program/Location" "breaksCycles" "Z" (.int w1t_q1t_0_breaksCycles) := F70.other W22 (Or.inr (slot_ne (Or.inl (hw _ (List.mem_of_getElem? (i := 81) rfl))) (Or.inl (hw _ (List.mem_of_getElem? (i := 42) rfl))) (by decide) (t := .boolean) (t' := (.object "java/util/List")) (by decide) (by decide)))
  have F72 : Fld Z h29 q1t_0 "com/example/penelope/penelope/program/Location" "breaksCycles" "Z" (.int w1t_q1t_0_breaksCycles) := F71.other W29 (Or.inr (slot_ne (Or.inl (hw _ (List.mem_of_getElem? (i := 81) rfl))) (Or.inr (hw _ (List.mem_of_getElem? (i := 44) rfl))) (by decide) (t := .boolean) (t' := .int) (by decide) (by decide)))
  have F73 : Fld Z h37 q1t_0 "com/example/penelope/penelope/program/Location" "breaksCycles" "Z" (.int w1t_q1t_0_breaksCycles) := F72.other W37 (Or.inr (slot_ne (Or.inl (hw _ (List.mem_of_getElem? (i := 81) rfl))) (Or.inr (hw _ (List.mem_of_getElem? (i := 46) rfl))) (by decide) (t := .boolean) (t' := .int) (by decide) (by decide)))
  have F74 : Fld Z h46 q1t_0 "com/example/penelope/penelope/program/Location" "breaksCycles" "Z" (.int w1t_q1t_0_breaksCycles) := F73.other W46 (Or.inr (slot_ne (Or.inl (hw _ (List.mem_of_getElem? (i := 81) rfl))) (Or.inr (hw _ (List.mem_of_getElem? (i := 48) rfl))) (by decide) (t := .boolean) (t' := .boolean) (by decide) (by decide)))
  have F75 : Exa Z T7.heap b4 "java/util/ArrayList" := A4.keep Kc7
  have F76 : Exa Z h12 b4 "java/util/ArrayList" := F75.wr W12
  have F77 : Exa Z h22 b4 "java/util/ArrayList" := F76.wr W22
  have F78 : Exa Z h29 b4 "java/util/ArrayList" := F77.wr W29
  have F79 : Exa Z h37 b4 "java/util/ArrayList" := F78.wr W37
  have F80 : Exa Z h46 b4 "java/util/ArrayList" := F79.wr W46
  have F81 : Fld Z h12 b4 "java/util/ArrayList" "elementData" "[Ljava/lang/Object;" (.ref z1t_DEFAULTCAPACITY_EMPTY_ELEMENTDATA) := F7_0.other W12 (Or.inl (Ne.symm ne_q1t_0_b4))
  have F82 : Fld Z h22 b4 "java/util/ArrayList" "elementData" "[Ljava/lang/Object;" (.ref z1t_DEFAULTCAPACITY_EMPTY_ELEMENTDATA) := F81.other W22 (Or.inl (Ne.symm ne_q1t_0_b4))
  have F83 : Fld Z h29 b4 "java/util/ArrayList" "elementData" "[Ljava/lang/Object;" (.ref z1t_DEFAULTCAPACITY_EMPTY_ELEMENTDATA) := F82.other W29 (Or.inl (Ne.symm ne_q1t_0_b4))
  have F84 : Fld Z h37 b4 "java/util/ArrayList" "elementData" "[Ljava/lang/Object;" (.ref z1t_DEFAULTCAPACITY_EMPTY_ELEMENTDATA) := F83.other W37 (Or.inl (Ne.symm ne_q1t_0_b4))
  have F85 : Fld Z h46 b4 "java/util/ArrayList" "elementData" "[Ljava/lang/Object;" (.ref z1t_DEFAULTCAPACITY_EMPTY_ELEMENTDATA) := F84.other W46 (Or.inl (Ne.symm ne_q1t_0_b4))
  have F86 : Fld Z h12 b4 "java/util/AbstractList" "modCount" "I" (.int (0 : Int32)) := F7_1.other W12 (Or.inl (Ne.symm ne_q1t_0_b4))
  have F87 : Fld Z h22 b4 "java/util/AbstractList" "modCount" "I" (.int (0 : Int32)) := F86.other W22 (Or.inl (Ne.symm ne_q1t_0_b4))
  have F88 : Fld Z h29 b4 "java/util/AbstractList" "modCount" "I" (.int (0 : Int32)) := F87.other W29 (Or.inl (Ne.symm ne_q1t_0_b4))
  have F89 : Fld Z h37 b4 "java/util/AbstractList" "modCount" "I" (.int (0 : Int32)) := F88.other W37 (Or.inl (Ne.symm ne_q1t_0_b4))
  have F90 : Fld Z h46 b4 "java/util/AbstractList" "modCount" "I" (.int (0 : Int32)) := F89.other W46 (Or.inl (Ne.symm ne_q1t_0_b4))
  have F91 : Fld Z h22 q1t_0 "com/example/penelope/penelope/program/Location" "transitions" "Ljava/util/List;" (.ref b4) := F12w.other W22 (Or.inr (slot_ne (Or.inr (hw _ (List.mem_of_getElem? (i := 34) rfl))) (Or.inl (hw _ (List.mem_of_getElem? (i := 42) rfl))) (by decide) (t := (.object "java/util/List")) (t' := (.object "java/util/List")) (by decide) (by decide)))
  have F92 : Fld Z h29 q1t_0 "com/example/penelope/penelope/program/Location" "transitions" "Ljava/util/List;" (.ref b4) := F91.other W29 (Or.inr (slot_ne (Or.inr (hw _ (List.mem_of_getElem? (i := 34) rfl))) (Or.inr (hw _ (List.mem_of_getElem? (i := 44) rfl))) (by decide) (t := (.object "java/util/List")) (t' := .int) (by decide) (by decide)))
  have F93 : Fld Z h37 q1t_0 "com/example/penelope/penelope/program/Location" "transitions" "Ljava/util/List;" (.ref b4) := F92.other W37 (Or.inr (slot_ne (Or.inr (hw _ (List.mem_of_getElem? (i := 34) rfl))) (Or.inr (hw _ (List.mem_of_getElem? (i := 46) rfl))) (by decide) (t := (.object "java/util/List")) (t' := .int) (by decide) (by decide)))
  have F94 : Fld Z h46 q1t_0 "com/example/penelope/penelope/program/Location" "transitions" "Ljava/util/List;" (.ref b4) := F93.other W46 (Or.inr (slot_ne (Or.inr (hw _ (List.mem_of_getElem? (i := 34) rfl))) (Or.inr (hw _ (List.mem_of_getElem? (i := 48) rfl))) (by decide) (t := (.object "java/util/List")) (t' := .boolean) (by decide) (by decide)))
  have F95 : Fld Z h29 q1t_0 "com/example/penelope/penelope/program/Location" "deadVariables" "Ljava/util/List;" (.ref z1t_EMPTY_LIST) := F22w.other W29 (Or.inr (slot_ne (Or.inl (hw _ (List.mem_of_getElem? (i := 42) rfl))) (Or.inr (hw _ (List.mem_of_getElem? (i := 44) rfl))) (by decide) (t := (.object "java/util/List")) (t' := .int) (by decide) (by decide)))
  have F96 : Fld Z h37 q1t_0 "com/example/penelope/penelope/program/Location" "deadVariables" "Ljava/util/List;" (.ref z1t_EMPTY_LIST) := F95.other W37 (Or.inr (slot_ne (Or.inl (hw _ (List.mem_of_getElem? (i := 42) rfl))) (Or.inr (hw _ (List.mem_of_getElem? (i := 46) rfl))) (by decide) (t := (.object "java/util/List")) (t' := .int) (by decide) (by decide)))
  have F97 : Fld Z h46 q1t_0 "com/example/penelope/penelope/program/Location" "deadVariables" "Ljava/util/List;" (.ref z1t_EMPTY_LIST) := F96.other W46 (Or.inr (slot_ne (Or.inl (hw _ (List.mem_of_getElem? (i := 42) rfl))) (Or.inr (hw _ (List.mem_of_getElem? (i := 48) rfl))) (by decide) (t := (.object "java/util/List")) (t' := .boolean) (by decide) (by decide)))
  have F98 : Fld Z h37 q1t_0 "com/example/penelope/penelope/program/Location" "id" "I" (.int q1t_1) := F29w.other W37 (Or.inr (slot_ne (Or.inr (hw _ (List.mem_of_getElem? (i := 44) rfl))) (Or.inr (hw _ (List.mem_of_getElem? (i := 46) rfl))) (by decide) (t := .int) (t' := .int) (by decide) (by decide)))
  have F99 : Fld Z h46 q1t_0 "com/example/penelope/penelope/program/Location" "id" "I" (.int q1t_1) := F98.other W46 (Or.inr (slot_ne (Or.inr (hw _ (List.mem_of_getElem? (i := 44) rfl))) (Or.inr (hw _ (List.mem_of_getElem? (i := 48) rfl))) (by decide) (t := .int) (t' := .boolean) (by decide) (by decide)))
  have F100 : Fld Z h46 q1t_0 "com/example/penelope/penelope/program/Location" "line" "I" (.int q1t_2) := F37w.other W46 (Or.inr (slot_ne (Or.inr (hw _ (List.mem_of_getElem? (i := 46) rfl))) (Or.inr (hw _ (List.mem_of_getElem? (i := 48) rfl))) (by decide) (t := .int) (t' := .boolean) (by decide) (by decide)))
  obtain ⟨fs, hr, hrun, hended, hW, hsame⟩ := X46.leave (v := none) (fun _ => rfl)
  refine ⟨_, _, own_from hS0 (P46 _ ?_), hrun, hended, _, _, rfl, ?_, ⟨_, rfl⟩, hW, hsame.mono (by decide) (by decide)⟩
  · show Steps p.tables e below (T46.setTop (mkF m 37 #[.val (.ref q1t_0), .val (.int q1t_1), .val (.int q1t_2), .val (.int (1 : Int32))] [])) _
    exact X46.returnOut hx Bd.returns (hb hby d1_37) hr
  · show Q1t Z q1t_0 q1t_1 q1t_2 w1t_q1t_0_validEnd w1t_q1t_0_accepting w1t_q1t_0_independent w1t_q1t_0_breaksCycles z1t_DEFAULTCAPACITY_EMPTY_ELEMENTDATA u1t_q1t_0_transitions z1t_EMPTY_LIST u1t_q1t_0_deadVariables u1t_q1t_0_id u1t_q1t_0_line u1t_q1t_0_end h0 n0 _ T46.heap _
    rw [e46]
    exact ⟨b4, rfl, N46, K46, o_b4, F53, F60, F67, F74, F80, F85, F90, F94, F97, F99, F100, F46w⟩
theorem ef_1f (m : MethodId) (q1f_0 : Addr) (q1f_1 : Int32) (q1f_2 : Int32) : entryFrame m #[(.ref q1f_0), (.int q1f_1), (.int q1f_2), (.int (0 : Int32))] 4 = mkF m 0 #[.val (.ref q1f_0), .val (.int q1f_1), .val (.int q1f_2), .val (.int (0 : Int32))] [] := by first | (simp [entryFrame, mkF, argsToLocals, Value.category]; done) | rfl
def Q1f (Z : State) (q1f_0 : Addr) (q1f_1 : Int32) (q1f_2 : Int32) (w1f_q1f_0_validEnd : Int32) (w1f_q1f_0_accepting : Int32) (w1f_q1f_0_independent : Int32) (w1f_q1f_0_breaksCycles : Int32) (z1f_DEFAULTCAPACITY_EMPTY_ELEMENTDATA : Addr) (u1f_q1f_0_transitions : Value) (z1f_EMPTY_LIST : Addr) (u1f_q1f_0_deadVariables : Value) (u1f_q1f_0_id : Value) (u1f_q1f_0_line : Value) (u1f_q1f_0_end : Value) (h0 : Heap) (n0 : Nat) (v : Option Value) (h : Heap) (L : List Loc) : Prop := ∃ (b4 : Addr), v = none ∧ Fr n0 L ∧ Keep h0 h [q1f_0] ∧ h0.size ≤ b4 ∧ Fld Z h q1f_0 "com/example/penelope/penelope/program/Location" "validEnd" "Z" (.int w1f_q1f_0_validEnd) ∧ Fld Z h q1f_0 "com/example/penelope/penelope/program/Location" "accepting" "Z" (.int w1f_q1f_0_accepting) ∧ Fld Z h q1f_0 "com/example/penelope/penelope/program/Location" "independent" "Z" (.int w1f_q1f_0_independent) ∧ Fld Z h q1f_0 "com/example/penelope/penelope/program/Location" "breaksCycles" "Z" (.int w1f_q1f_0_breaksCycles) ∧ Exa Z h b4 "java/util/ArrayList" ∧ Fld Z h b4 "java/util/ArrayList" "elementData" "[Ljava/lang/Object;" (.ref z1f_DEFAULTCAPACITY_EMPTY_ELEMENTDATA) ∧ Fld Z h b4 "java/util/AbstractList" "modCount" "I" (.int (0 : Int32)) ∧ Fld Z h q1f_0 "com/example/penelope/penelope/program/Location" "transitions" "Ljava/util/List;" (.ref b4) ∧ Fld Z h q1f_0 "com/example/penelope/penelope/program/Location" "deadVariables" "Ljava/util/List;" (.ref z1f_EMPTY_LIST) ∧ Fld Z h q1f_0 "com/example/penelope/penelope/program/Location" "id" "I" (.int q1f_1) ∧ Fld Z h q1f_0 "com/example/penelope/penelope/program/Location" "line" "I" (.int q1f_2) ∧ Fld Z h q1f_0 "com/example/penelope/penelope/program/Location" "end" "Z" (.int (0 : Int32))
set_option maxRecDepth 65536 in
set_option maxHeartbeats 40000000 in
theorem rm1f (l : Launch) (Z : State) (a0 : Array Value) (hw : ∀ d ∈ tables_1, d.before a0 Z = true) (ws : List Jvm.Cond) (q1f_0 : Addr) (q1f_1 : Int32) (q1f_2 : Int32) (w1f_q1f_0_validEnd : Int32) (w1f_q1f_0_accepting : Int32) (w1f_q1f_0_independent : Int32) (w1f_q1f_0_breaksCycles : Int32) (z1f_DEFAULTCAPACITY_EMPTY_ELEMENTDATA : Addr) (u1f_q1f_0_transitions : Value) (z1f_EMPTY_LIST : Addr) (u1f_q1f_0_deadVariables : Value) (u1f_q1f_0_id : Value) (u1f_q1f_0_line : Value) (u1f_q1f_0_end : Value) (h0 : Heap) (n0 : Nat) (Z0 : n0 ≤ h0.size) (F_q1f_0_validEnd : Fld Z h0 q1f_0 "com/example/penelope/penelope/program/Location" "validEnd" "Z" (.int w1f_q1f_0_validEnd)) (F_q1f_0_accepting : Fld Z h0 q1f_0 "com/example/penelope/penelope/program/Location" "accepting" "Z" (.int w1f_q1f_0_accepting)) (F_q1f_0_independent : Fld Z h0 q1f_0 "com/example/penelope/penelope/program/Location" "independent" "Z" (.int w1f_q1f_0_independent)) (F_q1f_0_breaksCycles : Fld Z h0 q1f_0 "com/example/penelope/penelope/program/Location" "breaksCycles" "Z" (.int w1f_q1f_0_breaksCycles)) (S_DEFAULTCAPACITY_EMPTY_ELEMENTDATA : Sta Z h0 "java/util/ArrayList" "DEFAULTCAPACITY_EMPTY_ELEMENTDATA" "[Ljava/lang/Object;" (.ref z1f_DEFAULTCAPACITY_EMPTY_ELEMENTDATA)) (E_q1f_0 : Exa Z h0 q1f_0 "com/example/penelope/penelope/program/Location") (F_q1f_0_transitions : Fld Z h0 q1f_0 "com/example/penelope/penelope/program/Location" "transitions" "Ljava/util/List;" u1f_q1f_0_transitions) (g_q1f_0 : n0 ≤ q1f_0) (S_EMPTY_LIST : Sta Z h0 "java/util/ImmutableCollections" "EMPTY_LIST" "Ljava/util/ImmutableCollections$ListN;" (.ref z1f_EMPTY_LIST)) (F_q1f_0_deadVariables : Fld Z h0 q1f_0 "com/example/penelope/penelope/program/Location" "deadVariables" "Ljava/util/List;" u1f_q1f_0_deadVariables) (F_q1f_0_id : Fld Z h0 q1f_0 "com/example/penelope/penelope/program/Location" "id" "I" u1f_q1f_0_id) (F_q1f_0_line : Fld Z h0 q1f_0 "com/example/penelope/penelope/program/Location" "line" "I" u1f_q1f_0_line) (F_q1f_0_end : Fld Z h0 q1f_0 "com/example/penelope/penelope/program/Location" "end" "Z" u1f_q1f_0_end) :
    MetFree l (⟨"com/example/penelope/penelope/program/Location", "<init>", "(IIZ)V"⟩ : MethodName) (head1 (Jvm.Cond.code (⟨"com/example/penelope/penelope/program/Location", "<init>", "(IIZ)V"⟩ : MethodName) prog_93_method_1_code 4 none :: ws) ({ frames := 4, cells := 1, slots := 3, locals := 50 } : Room)) (fun a U => a = #[(.ref q1f_0), (.int q1f_1), (.int q1f_2), (.int (0 : Int32))] ∧ Z.Warmed39 U.vm ∧ U.heap = h0) (fun _ _ _ _ _ => True) (fun _ U o U' => ∃ v L, o = .returned v ∧ Q1f Z q1f_0 q1f_1 q1f_2 w1f_q1f_0_validEnd w1f_q1f_0_accepting w1f_q1f_0_independent w1f_q1f_0_breaksCycles z1f_DEFAULTCAPACITY_EMPTY_ELEMENTDATA u1f_q1f_0_transitions z1f_EMPTY_LIST u1f_q1f_0_deadVariables u1f_q1f_0_id u1f_q1f_0_line u1f_q1f_0_end h0 n0 v U'.heap L ∧ FrameEnd U o U' L ({ frames := 4, cells := 1, slots := 3, locals := 50 } : Room).cells ({ frames := 4, cells := 1, slots := 3, locals := 50 } : Room).slots) := by
  refine MetFree.of_bodySF (plainFor_of_name pn_1) hisR ?_
  intro p e s m args below meth c s₁ Bd hml0 hP hK
  obtain ⟨rfl, hZ, hh⟩ := hP
  have hx := Bd.exec
  have hby := Bd.bytes
  have hml : c.maxLocals = 4 := hml0
  have hown : s.vm.findClass "com/example/penelope/penelope/program/Location" = some m.cls := findClass_of_methodNamed Bd.named
  have hnm := (name_of_methodNamed Bd.named Bd.method).1
  have X0 : Stand p l e ({ frames := 4, cells := 1, slots := 3, locals := 50 } : Room) s m #[(.ref q1f_0), (.int q1f_1), (.int q1f_2), (.int (0 : Int32))] below meth c s₁ [] 0 0 := Stand.of_body Bd
  have e0 : s₁.heap = h0 := by rw [← hh, Bd.state]; rfl
  have N0 := Fr.nil n0
  obtain ⟨S0, hS0⟩ : ∃ z, z = s₁.setTop (entryFrame m #[(.ref q1f_0), (.int q1f_1), (.int q1f_2), (.int (0 : Int32))] 4) := ⟨_, rfl⟩
  have P0 : own_Go p e below S0 (s₁.setTop (mkF m 0 #[.val (.ref q1f_0), .val (.int q1f_1), .val (.int q1f_2), .val (.int (0 : Int32))] [])) := fun t k => by rw [hS0]; exact castTop (ef_1f m q1f_0 q1f_1 q1f_2) k
  have P1 : own_Go p e below S0 (s₁.setTop (mkF m 1 #[.val (.ref q1f_0), .val (.int q1f_1), .val (.int q1f_2), .val (.int (0 : Int32))] [(.ref q1f_0)])) := fun t k => P0 t (by
    show Steps p.tables e below (s₁.setTop (mkF m 0 #[.val (.ref q1f_0), .val (.int q1f_1), .val (.int q1f_2), .val (.int (0 : Int32))] [])) t
    refine XS.aloadN X0.here hx rfl (hb hby d1_0) rfl rfl ?_
    show Steps p.tables e below (s₁.setTop (mkF m 1 #[.val (.ref q1f_0), .val (.int q1f_1), .val (.int q1f_2), .val (.int (0 : Int32))] [(.ref q1f_0)])) t
    exact k)
  obtain ⟨T2, X2, e2, st2⟩ := initO X0 hx hZ hown (hw _ (List.mem_of_getElem? (i := 6) rfl)) (hw _ (List.mem_of_getElem? (i := 7) rfl)) (hw _ (List.mem_of_getElem? (i := 8) rfl)) e0 (g := (mkF m 1 #[.val (.ref q1f_0), .val (.int q1f_1), .val (.int q1f_2), .val (.int (0 : Int32))] [(.ref q1f_0)])) rfl (by rw [hml]; rfl) rfl (hb hby d1_1) (by decide) (W := 0) (by show 2 * 0 + _ ≤ _; exact Nat.le_of_eq rfl) (by decide)
  have P2 : own_Go p e below S0 (T2.setTop (mkF m 4 #[.val (.ref q1f_0), .val (.int q1f_1), .val (.int q1f_2), .val (.int (0 : Int32))] [])) := fun t k => P1 t (st2 _ k)
  have P3 : own_Go p e below S0 (T2.setTop (mkF m 5 #[.val (.ref q1f_0), .val (.int q1f_1), .val (.int q1f_2), .val (.int (0 : Int32))] [(.ref q1f_0)])) := fun t k => P2 t (by
    show Steps p.tables e below (T2.setTop (mkF m 4 #[.val (.ref q1f_0), .val (.int q1f_1), .val (.int q1f_2), .val (.int (0 : Int32))] [])) t
    refine XS.aloadN X2.here hx rfl (hb hby d1_4) rfl rfl ?_
    show Steps p.tables e below (T2.setTop (mkF m 5 #[.val (.ref q1f_0), .val (.int q1f_1), .val (.int q1f_2), .val (.int (0 : Int32))] [(.ref q1f_0)])) t
    exact k)
  obtain ⟨T4, h4, X4, e4, E4, A4, D4, -, st4⟩ := newO X2 hx hZ hown (hw _ (List.mem_of_getElem? (i := 9) rfl)) (hw _ (List.mem_of_getElem? (i := 10) rfl)) (hw _ (List.mem_of_getElem? (i := 11) rfl)) e2 (g := (mkF m 5 #[.val (.ref q1f_0), .val (.int q1f_1), .val (.int q1f_2), .val (.int (0 : Int32))] [(.ref q1f_0)])) rfl (hb hby d1_5) (by decide) (by decide)
  obtain ⟨b4, g4⟩ : ∃ z, z = h0.size := ⟨_, rfl⟩
  rw [← g4] at A4 D4 st4
  have sz_b4 : h0.size ≤ b4 := Nat.le_of_eq g4.symm
  have ne_q1f_0_b4 : q1f_0 ≠ b4 := Nat.ne_of_lt (Nat.lt_of_lt_of_le F_q1f_0_validEnd.lt sz_b4)
  have g_b4 : n0 ≤ b4 := Nat.le_trans Z0 sz_b4
  have o_b4 : h0.size ≤ b4 := sz_b4
  have K4 : Keep h0 h4 [q1f_0] := (Keep.refl h0 [q1f_0]).ext E4
  have F4_modCount : Fld Z h4 b4 "java/util/AbstractList" "modCount" "I" (.int (0 : Int32)) := D4 (Or.inl (hw _ (List.mem_of_getElem? (i := 29) rfl))) (ty := .int) (by decide)
  have F4_elementData : Fld Z h4 b4 "java/util/ArrayList" "elementData" "[Ljava/lang/Object;" .null := D4 (Or.inl (hw _ (List.mem_of_getElem? (i := 32) rfl))) (ty := (.array (.object "java/lang/Object"))) (by decide)
  have P4 : own_Go p e below S0 (T4.setTop (mkF m 8 #[.val (.ref q1f_0), .val (.int q1f_1), .val (.int q1f_2), .val (.int (0 : Int32))] [(.ref b4), (.ref q1f_0)])) := fun t k => P3 t (st4 _ k)
  have F5 : Sta Z h4 "java/util/ArrayList" "DEFAULTCAPACITY_EMPTY_ELEMENTDATA" "[Ljava/lang/Object;" (.ref z1f_DEFAULTCAPACITY_EMPTY_ELEMENTDATA) := S_DEFAULTCAPACITY_EMPTY_ELEMENTDATA.ext E4
  have P6 : own_Go p e below S0 (T4.setTop (mkF m 9 #[.val (.ref q1f_0), .val (.int q1f_1), .val (.int q1f_2), .val (.int (0 : Int32))] [(.ref b4), (.ref b4), (.ref q1f_0)])) := fun t k => P4 t (by
    show Steps p.tables e below (T4.setTop (mkF m 8 #[.val (.ref q1f_0), .val (.int q1f_1), .val (.int q1f_2), .val (.int (0 : Int32))] [(.ref b4), (.ref q1f_0)])) t
    refine XS.dup X4.here hx rfl (hb hby d1_8) rfl rfl ?_
    show Steps p.tables e below (T4.setTop (mkF m 9 #[.val (.ref q1f_0), .val (.int q1f_1), .val (.int q1f_2), .val (.int (0 : Int32))] [(.ref b4), (.ref b4), (.ref q1f_0)])) t
    exact k)
  obtain ⟨_, _, ⟨T7, L7, k7, n7⟩, -, X7, ⟨Lc7, hQ7, l7, y7, z7⟩, st7⟩ := X4.specialBack hx (y := (⟨"java/util/ArrayList", "<init>", "()V"⟩ : MethodName)) rfl hown (mvT hZ (hw _ (List.mem_of_getElem? (i := 12) rfl))) (mvT hZ (hw _ (List.mem_of_getElem? (i := 13) rfl))) (mvT hZ (hw _ (List.mem_of_getElem? (i := 14) rfl))) (by decide) (backOf (W := 2) (rm3 l Z a0 hw [] b4 (.int (0 : Int32)) z1f_DEFAULTCAPACITY_EMPTY_ELEMENTDATA h4 n0 (Nat.le_trans Z0 K4.1) F4_elementData A4 F4_modCount g_b4 F5) hZ (hw _ (List.mem_of_getElem? (i := 14) rfl)) (hw _ (List.mem_of_getElem? (i := 11) rfl)) (by decide) (by decide)) (g := (mkF m 9 #[.val (.ref q1f_0), .val (.int q1f_1), .val (.int q1f_2), .val (.int (0 : Int32))] [(.ref b4), (.ref b4), (.ref q1f_0)])) rfl (by rw [hml]; rfl) (Steps.refl _) (a := b4) (argsL := []) (rest := [(.ref b4), (.ref q1f_0)]) (lenOf pd_0 rfl) rfl (by show 2 * 0 + _ ≤ _; exact Nat.le_of_eq rfl) (hb hby d1_9) (fun _ _ => ⟨rfl, e4, (by decide : 1 + 0 ≤ _), (by decide : 3 + 0 ≤ _)⟩)
  dsimp only [Pt.U, Pt.locs, Pt.cells, Pt.slots] at X7 l7 y7 z7 st7 hQ7
  subst l7 y7 z7
  obtain ⟨rfl, N7q, Kc7, F7_0, F7_1⟩ := hQ7
  have N7 := Fr.app N0 N7q
  have K7 : Keep h0 T7.heap [q1f_0] := Keep.trans K4 Kc7 (allS (Or.inr o_b4) all0)
  have P7 : own_Go p e below S0 (T7.setTop (mkF m 12 #[.val (.ref q1f_0), .val (.int q1f_1), .val (.int q1f_2), .val (.int (0 : Int32))] [(.ref b4), (.ref q1f_0)])) := fun t k => P6 t (st7.trans k)
  have F8 : Exa Z h4 q1f_0 "com/example/penelope/penelope/program/Location" := E_q1f_0.ext E4
  have F9 : Exa Z T7.heap q1f_0 "com/example/penelope/penelope/program/Location" := F8.keep Kc7
  have F10 : Fld Z h4 q1f_0 "com/example/penelope/penelope/program/Location" "transitions" "Ljava/util/List;" u1f_q1f_0_transitions := F_q1f_0_transitions.ext E4
  have F11 : Fld Z T7.heap q1f_0 "com/example/penelope/penelope/program/Location" "transitions" "Ljava/util/List;" u1f_q1f_0_transitions := F10.keep Kc7 (ninS ne_q1f_0_b4 nin0)
  obtain ⟨T12, h12, X12, e12, W12, st12⟩ := putF X7 hx hZ hown (host := "") (Or.inl (hw _ (List.mem_of_getElem? (i := 33) rfl))) Via.refl rfl F11 F9 (Or.inr ⟨(hw _ (List.mem_of_getElem? (i := 34) rfl)), rfl, hnm⟩) (hw _ (List.mem_of_getElem? (i := 1) rfl)) (ty := (.object "java/util/List")) (by decide) rfl rfl (g := (mkF m 12 #[.val (.ref q1f_0), .val (.int q1f_1), .val (.int q1f_2), .val (.int (0 : Int32))] [(.ref b4), (.ref q1f_0)])) rfl rfl (hb hby d1_12)
  have K12 : Keep h0 h12 [q1f_0] := K7.wr W12 (Or.inl (by simp))
  have N12 := Fr.snoc X12 N7 g_q1f_0
  have F12w : Fld Z h12 q1f_0 "com/example/penelope/penelope/program/Location" "transitions" "Ljava/util/List;" (.ref b4) := F11.same W12
  have P12 : own_Go p e below S0 (T12.setTop (mkF m 15 #[.val (.ref q1f_0), .val (.int q1f_1), .val (.int q1f_2), .val (.int (0 : Int32))] [])) := fun t k => P7 t (st12 _ k)
  have F13 : Sta Z h4 "java/util/ImmutableCollections" "EMPTY_LIST" "Ljava/util/ImmutableCollections$ListN;" (.ref z1f_EMPTY_LIST) := S_EMPTY_LIST.ext E4
  have F14 : Sta Z T7.heap "java/util/ImmutableCollections" "EMPTY_LIST" "Ljava/util/ImmutableCollections$ListN;" (.ref z1f_EMPTY_LIST) := own_staK F13 Kc7 (allS (own_plE A4) all0)
  have F15 : Sta Z h12 "java/util/ImmutableCollections" "EMPTY_LIST" "Ljava/util/ImmutableCollections$ListN;" (.ref z1f_EMPTY_LIST) := F14.wr W12
  have P16 : own_Go p e below S0 (T12.setTop (mkF m 16 #[.val (.ref q1f_0), .val (.int q1f_1), .val (.int q1f_2), .val (.int (0 : Int32))] [(.ref q1f_0)])) := fun t k => P12 t (by
    show Steps p.tables e below (T12.setTop (mkF m 15 #[.val (.ref q1f_0), .val (.int q1f_1), .val (.int q1f_2), .val (.int (0 : Int32))] [])) t
    refine XS.aloadN X12.here hx rfl (hb hby d1_15) rfl rfl ?_
    show Steps p.tables e below (T12.setTop (mkF m 16 #[.val (.ref q1f_0), .val (.int q1f_1), .val (.int q1f_2), .val (.int (0 : Int32))] [(.ref q1f_0)])) t
    exact k)
  obtain ⟨_, _, ⟨T17, L17, k17, n17⟩, -, X17, ⟨Lc17, hQ17, l17, y17, z17⟩, st17⟩ := Jvm.LawKit.callS X12 hx (y := (⟨"java/util/List", "of", "()Ljava/util/List;"⟩ : MethodName)) hown (mvT hZ (hw _ (List.mem_of_getElem? (i := 35) rfl))) (mvT hZ (hw _ (List.mem_of_getElem? (i := 36) rfl))) (mvT hZ (hw _ (List.mem_of_getElem? (i := 37) rfl))) (mvT hZ (hw _ (List.mem_of_getElem? (i := 38) rfl))) (by decide) (backOf (W := 1) (rm6 l Z a0 hw [] z1f_EMPTY_LIST h12 n0 (Nat.le_trans Z0 K12.1) F15) hZ (hw _ (List.mem_of_getElem? (i := 38) rfl)) (hw _ (List.mem_of_getElem? (i := 37) rfl)) (by decide) (by decide)) (g := (mkF m 16 #[.val (.ref q1f_0), .val (.int q1f_1), .val (.int q1f_2), .val (.int (0 : Int32))] [(.ref q1f_0)])) rfl (by rw [hml]; rfl) (argsL := []) (rest := [(.ref q1f_0)]) (lenOf pd_1 rfl) rfl (by show 2 * 0 + _ ≤ _; exact Nat.le_of_eq rfl) (hb hby d1_16) (fun _ _ => ⟨rfl, e12, (by decide : 1 + 0 ≤ _), (by decide : 3 + 0 ≤ _)⟩)
  dsimp only [Pt.U, Pt.locs, Pt.cells, Pt.slots] at X17 l17 y17 z17 st17 hQ17
  subst l17 y17 z17
  obtain ⟨rfl, N17q, e17⟩ := hQ17
  have N17 := Fr.app N12 N17q
  have P17 : own_Go p e below S0 (T17.setTop (mkF m 19 #[.val (.ref q1f_0), .val (.int q1f_1), .val (.int q1f_2), .val (.int (0 : Int32))] [(.ref z1f_EMPTY_LIST), (.ref q1f_0)])) := fun t k => P16 t (st17 _ k)
  have F18 : Exa Z h12 q1f_0 "com/example/penelope/penelope/program/Location" := F9.wr W12
  have F19 : Fld Z h4 q1f_0 "com/example/penelope/penelope/program/Location" "deadVariables" "Ljava/util/List;" u1f_q1f_0_deadVariables := F_q1f_0_deadVariables.ext E4
  have F20 : Fld Z T7.heap q1f_0 "com/example/penelope/penelope/program/Location" "deadVariables" "Ljava/util/List;" u1f_q1f_0_deadVariables := F19.keep Kc7 (ninS ne_q1f_0_b4 nin0)
  have F21 : Fld Z h12 q1f_0 "com/example/penelope/penelope/program/Location" "deadVariables" "Ljava/util/List;" u1f_q1f_0_deadVariables := F20.other W12 (Or.inr (slot_ne (Or.inl (hw _ (List.mem_of_getElem? (i := 42) rfl))) (Or.inr (hw _ (List.mem_of_getElem? (i := 34) rfl))) (by decide) (t := (.object "java/util/List")) (t' := (.object "java/util/List")) (by decide) (by decide)))
  obtain ⟨T22, h22, X22, e22, W22, st22⟩ := putF X17 hx hZ hown (host := "") (Or.inl (hw _ (List.mem_of_getElem? (i := 41) rfl))) Via.refl e17 F21 F18 (Or.inl (hw _ (List.mem_of_getElem? (i := 42) rfl))) (hw _ (List.mem_of_getElem? (i := 1) rfl)) (ty := (.object "java/util/List")) (by decide) rfl rfl (g := (mkF m 19 #[.val (.ref q1f_0), .val (.int q1f_1), .val (.int q1f_2), .val (.int (0 : Int32))] [(.ref z1f_EMPTY_LIST), (.ref q1f_0)])) rfl rfl (hb hby d1_19)
  have K22 : Keep h0 h22 [q1f_0] := K12.wr W22 (Or.inl (by simp))
  have N22 := Fr.snoc X22 N17 g_q1f_0
  have F22w : Fld Z h22 q1f_0 "com/example/penelope/penelope/program/Location" "deadVariables" "Ljava/util/List;" (.ref z1f_EMPTY_LIST) := F21.same W22
  have P22 : own_Go p e below S0 (T22.setTop (mkF m 22 #[.val (.ref q1f_0), .val (.int q1f_1), .val (.int q1f_2), .val (.int (0 : Int32))] [])) := fun t k => P17 t (st22 _ k)
  have F23 : Exa Z h22 q1f_0 "com/example/penelope/penelope/program/Location" := F18.wr W22
  have F24 : Fld Z h4 q1f_0 "com/example/penelope/penelope/program/Location" "id" "I" u1f_q1f_0_id := F_q1f_0_id.ext E4
  have F25 : Fld Z T7.heap q1f_0 "com/example/penelope/penelope/program/Location" "id" "I" u1f_q1f_0_id := F24.keep Kc7 (ninS ne_q1f_0_b4 nin0)
  have F26 : Fld Z h12 q1f_0 "com/example/penelope/penelope/program/Location" "id" "I" u1f_q1f_0_id := F25.other W12 (Or.inr (slot_ne (Or.inr (hw _ (List.mem_of_getElem? (i := 44) rfl))) (Or.inr (hw _ (List.mem_of_getElem? (i := 34) rfl))) (by decide) (t := .int) (t' := (.object "java/util/List")) (by decide) (by decide)))
  have F27 : Fld Z h22 q1f_0 "com/example/penelope/penelope/program/Location" "id" "I" u1f_q1f_0_id := F26.other W22 (Or.inr (slot_ne (Or.inr (hw _ (List.mem_of_getElem? (i := 44) rfl))) (Or.inl (hw _ (List.mem_of_getElem? (i := 42) rfl))) (by decide) (t := .int) (t' := (.object "java/util/List")) (by decide) (by decide)))
  have P28 : own_Go p e below S0 (T22.setTop (mkF m 24 #[.val (.ref q1f_0), .val (.int q1f_1), .val (.int q1f_2), .val (.int (0 : Int32))] [(.int q1f_1), (.ref q1f_0)])) := fun t k => P22 t (by
    show Steps p.tables e below (T22.setTop (mkF m 22 #[.val (.ref q1f_0), .val (.int q1f_1), .val (.int q1f_2), .val (.int (0 : Int32))] [])) t
    refine XS.aloadN X22.here hx rfl (hb hby d1_22) rfl rfl ?_
    refine XS.iloadN X22.here hx rfl (hb hby d1_23) rfl ?_
    show Steps p.tables e below (T22.setTop (mkF m 24 #[.val (.ref q1f_0), .val (.int q1f_1), .val (.int q1f_2), .val (.int (0 : Int32))] [(.int q1f_1), (.ref q1f_0)])) t
    exact k)
  obtain ⟨T29, h29, X29, e29, W29, st29⟩ := putF X22 hx hZ hown (host := "") (Or.inl (hw _ (List.mem_of_getElem? (i := 43) rfl))) Via.refl e22 F27 F23 (Or.inr ⟨(hw _ (List.mem_of_getElem? (i := 44) rfl)), rfl, hnm⟩) (hw _ (List.mem_of_getElem? (i := 1) rfl)) (ty := .int) (by decide) rfl rfl (g := (mkF m 24 #[.val (.ref q1f_0), .val (.int q1f_1), .val (.int q1f_2), .val (.int (0 : Int32))] [(.int q1f_1), (.ref q1f_0)])) rfl rfl (hb hby d1_24)
  have K29 : Keep h0 h29 [q1f_0] := K22.wr W29 (Or.inl (by simp))
  have N29 := Fr.snoc X29 N22 g_q1f_0
  have F29w : Fld Z h29 q1f_0 "com/example/penelope/penelope/program/Location" "id" "I" (.int q1f_1) := F27.same W29
  have P29 : own_Go p e below S0 (T29.setTop (mkF m 27 #[.val (.ref q1f_0), .val (.int q1f_1), .val (.int q1f_2), .val (.int (0 : Int32))] [])) := fun t k => P28 t (st29 _ k)
  have F30 : Exa Z h29 q1f_0 "com/example/penelope/penelope/program/Location" := F23.wr W29
  have F31 : Fld Z h4 q1f_0 "com/example/penelope/penelope/program/Location" "line" "I" u1f_q1f_0_line := F_q1f_0_line.ext E4
  have F32 : Fld Z T7.heap q1f_0 "com/example/penelope/penelope/program/Location" "line" "I" u1f_q1f_0_line := F31.keep Kc7 (ninS ne_q1f_0_b4 nin0)
  have F33 : Fld Z h12 q1f_0 "com/example/penelope/penelope/program/Location" "line" "I" u1f_q1f_0_line := F32.other W12 (Or.inr (slot_ne (Or.inr (hw _ (List.mem_of_getElem? (i := 46) rfl))) (Or.inr (hw _ (List.mem_of_getElem? (i := 34) rfl))) (by decide) (t := .int) (t' := (.object "java/util/List")) (by decide) (by decide)))
  have F34 : Fld Z h22 q1f_0 "com/example/penelope/penelope/program/Location" "line" "I" u1f_q1f_0_line := F33.other W22 (Or.inr (slot_ne (Or.inr (hw _ (List.mem_of_getElem? (i := 46) rfl))) (Or.inl (hw _ (List.mem_of_getElem? (i := 42) rfl))) (by decide) (t := .int) (t' := (.object "java/util/List")) (by decide) (by decide)))
  have F35 : Fld Z h29 q1f_0 "com/example/penelope/penelope/program/Location" "line" "I" u1f_q1f_0_line := F34.other W29 (Or.inr (slot_ne (Or.inr (hw _ (List.mem_of_getElem? (i := 46) rfl))) (Or.inr (hw _ (List.mem_of_getElem? (i := 44) rfl))) (by decide) (t := .int) (t' := .int) (by decide) (by decide)))
  have P36 : own_Go p e below S0 (T29.setTop (mkF m 29 #[.val (.ref q1f_0), .val (.int q1f_1), .val (.int q1f_2), .val (.int (0 : Int32))] [(.int q1f_2), (.ref q1f_0)])) := fun t k => P29 t (by
    show Steps p.tables e below (T29.setTop (mkF m 27 #[.val (.ref q1f_0), .val (.int q1f_1), .val (.int q1f_2), .val (.int (0 : Int32))] [])) t
    refine XS.aloadN X29.here hx rfl (hb hby d1_27) rfl rfl ?_
    refine XS.iloadN X29.here hx rfl (hb hby d1_28) rfl ?_
    show Steps p.tables e below (T29.setTop (mkF m 29 #[.val (.ref q1f_0), .val (.int q1f_1), .val (.int q1f_2), .val (.int (0 : Int32))] [(.int q1f_2), (.ref q1f_0)])) t
    exact k)
  obtain ⟨T37, h37, X37, e37, W37, st37⟩ := putF X29 hx hZ hown (host := "") (Or.inl (hw _ (List.mem_of_getElem? (i := 45) rfl))) Via.refl e29 F35 F30 (Or.inr ⟨(hw _ (List.mem_of_getElem? (i := 46) rfl)), rfl, hnm⟩) (hw _ (List.mem_of_getElem? (i := 1) rfl)) (ty := .int) (by decide) rfl rfl (g := (mkF m 29 #[.val (.ref q1f_0), .val (.int q1f_1), .val (.int q1f_2), .val (.int (0 : Int32))] [(.int q1f_2), (.ref q1f_0)])) rfl rfl (hb hby d1_29)
  have K37 : Keep h0 h37 [q1f_0] := K29.wr W37 (Or.inl (by simp))
  have N37 := Fr.snoc X37 N29 g_q1f_0
  have F37w : Fld Z h37 q1f_0 "com/example/penelope/penelope/program/Location" "line" "I" (.int q1f_2) := F35.same W37
  have P37 : own_Go p e below S0 (T37.setTop (mkF m 32 #[.val (.ref q1f_0), .val (.int q1f_1), .val (.int q1f_2), .val (.int (0 : Int32))] [])) := fun t k => P36 t (st37 _ k)
  have F38 : Exa Z h37 q1f_0 "com/example/penelope/penelope/program/Location" := F30.wr W37
  have F39 : Fld Z h4 q1f_0 "com/example/penelope/penelope/program/Location" "end" "Z" u1f_q1f_0_end := F_q1f_0_end.ext E4
  have F40 : Fld Z T7.heap q1f_0 "com/example/penelope/penelope/program/Location" "end" "Z" u1f_q1f_0_end := F39.keep Kc7 (ninS ne_q1f_0_b4 nin0)
  have F41 : Fld Z h12 q1f_0 "com/example/penelope/penelope/program/Location" "end" "Z" u1f_q1f_0_end := F40.other W12 (Or.inr (slot_ne (Or.inr (hw _ (List.mem_of_getElem? (i := 48) rfl))) (Or.inr (hw _ (List.mem_of_getElem? (i := 34) rfl))) (by decide) (t := .boolean) (t' := (.object "java/util/List")) (by decide) (by decide)))
  have F42 : Fld Z h22 q1f_0 "com/example/penelope/penelope/program/Location" "end" "Z" u1f_q1f_0_end := F41.other W22 (Or.inr (slot_ne (Or.inr (hw _ (List.mem_of_getElem? (i := 48) rfl))) (Or.inl (hw _ (List.mem_of_getElem? (i := 42) rfl))) (by decide) (t := .boolean) (t' := (.object "java/util/List")) (by decide) (by decide)))
  have F43 : Fld Z h29 q1f_0 "com/example/penelope/penelope/program/Location" "end" "Z" u1f_q1f_0_end := F42.other W29 (Or.inr (slot_ne (Or.inr (hw _ (List.mem_of_getElem? (i := 48) rfl))) (Or.inr (hw _ (List.mem_of_getElem? (i := 44) rfl))) (by decide) (t := .boolean) (t' := .int) (by decide) (by decide)))
  have F44 : Fld Z h37 q1f_0 "com/example/penelope/penelope/program/Location" "end" "Z" u1f_q1f_0_end := F43.other W37 (Or.inr (slot_ne (Or.inr (hw _ (List.mem_of_getElem? (i := 48) rfl))) (Or.inr (hw _ (List.mem_of_getElem? (i := 46) rfl))) (by decide) (t := .boolean) (t' := .int) (by decide) (by decide)))
  have P45 : own_Go p e below S0 (T37.setTop (mkF m 34 #[.val (.ref q1f_0), .val (.int q1f_1), .val (.int q1f_2), .val (.int (0 : Int32))] [(.int (0 : Int32)), (.ref q1f_0)])) := fun t k => P37 t (by
    show Steps p.tables e below (T37.setTop (mkF m 32 #[.val (.ref q1f_0), .val (.int q1f_1), .val (.int q1f_2), .val (.int (0 : Int32))] [])) t
    refine XS.aloadN X37.here hx rfl (hb hby d1_32) rfl rfl ?_
    refine XS.iloadN X37.here hx rfl (hb hby d1_33) rfl ?_
    show Steps p.tables e below (T37.setTop (mkF m 34 #[.val (.ref q1f_0), .val (.int q1f_1), .val (.int q1f_2), .val (.int (0 : Int32))] [(.int (0 : Int32)), (.ref q1f_0)])) t
    exact k)
  obtain ⟨T46, h46, X46, e46, W46, st46⟩ := putFN X37 hx hZ hown (hw _ (List.mem_of_getElem? (i := 47) rfl)) Via.refl e37 F44 F38 (Or.inr ⟨(hw _ (List.mem_of_getElem? (i := 48) rfl)), rfl, hnm⟩) (hw _ (List.mem_of_getElem? (i := 1) rfl)) (ty := .boolean) (v' := (.int (0 : Int32))) (by decide) rfl (by decide) (g := (mkF m 34 #[.val (.ref q1f_0), .val (.int q1f_1), .val (.int q1f_2), .val (.int (0 : Int32))] [(.int (0 : Int32)), (.ref q1f_0)])) rfl rfl (hb hby d1_34)
  have K46 : Keep h0 h46 [q1f_0] := K37.wr W46 (Or.inl (by simp))
  have N46 := Fr.snoc X46 N37 g_q1f_0
  have F46w : Fld Z h46 q1f_0 "com/example/penelope/penelope/program/Location" "end" "Z" (.int (0 : Int32)) := F44.same W46
  have P46 : own_Go p e below S0 (T46.setTop (mkF m 37 #[.val (.ref q1f_0), .val (.int q1f_1), .val (.int q1f_2), .val (.int (0 : Int32))] [])) := fun t k => P45 t (st46 _ k)
  have F47 : Fld Z h4 q1f_0 "com/example/penelope/penelope/program/Location" "validEnd" "Z" (.int w1f_q1f_0_validEnd) := F_q1f_0_validEnd.ext E4
  have F48 : Fld Z T7.heap q1f_0 "com/example/penelope/penelope/program/Location" "validEnd" "Z" (.int w1f_q1f_0_validEnd) := F47.keep Kc7 (ninS ne_q1f_0_b4 nin0)
  have F49 : Fld Z h12 q1f_0 "com/example/penelope/penelope/program/Location" "validEnd" "Z" (.int w1f_q1f_0_validEnd) := F48.other W12 (Or.inr (slot_ne (Or.inl (hw _ (List.mem_of_getElem? (i := 55) rfl))) (Or.inr (hw _ (List.mem_of_getElem? (i := 34) rfl))) (by decide) (t := .boolean) (t' := (.object "java/util/List")) (by decide) (by decide)))
  have F50 : Fld Z h22 q1f_0 "com/example/penelope/penelope/program/Location" "validEnd" "Z" (.int w1f_q1f_0_validEnd) := F49.other W22 (Or.inr (slot_ne (Or.inl (hw _ (List.mem_of_getElem? (i := 55) rfl))) (Or.inl (hw _ (List.mem_of_getElem? (i := 42) rfl))) (by decide) (t := .boolean) (t' := (.object "java/util/List")) (by decide) (by decide)))
  have F51 : Fld Z h29 q1f_0 "com/example/penelope/penelope/program/Location" "validEnd" "Z" (.int w1f_q1f_0_validEnd) := F50.other W29 (Or.inr (slot_ne (Or.inl (hw _ (List.mem_of_getElem? (i := 55) rfl))) (Or.inr (hw _ (List.mem_of_getElem? (i := 44) rfl))) (by decide) (t := .boolean) (t' := .int) (by decide) (by decide)))
  have F52 : Fld Z h37 q1f_0 "com/example/penelope/penelope/program/Location" "validEnd" "Z" (.int w1f_q1f_0_validEnd) := F51.other W37 (Or.inr (slot_ne (Or.inl (hw _ (List.mem_of_getElem? (i := 55) rfl))) (Or.inr (hw _ (List.mem_of_getElem? (i := 46) rfl))) (by decide) (t := .boolean) (t' := .int) (by decide) (by decide)))
  have F53 : Fld Z h46 q1f_0 "com/example/penelope/penelope/program/Location" "validEnd" "Z" (.int w1f_q1f_0_validEnd) := F52.other W46 (Or.inr (slot_ne (Or.inl (hw _ (List.mem_of_getElem? (i := 55) rfl))) (Or.inr (hw _ (List.mem_of_getElem? (i := 48) rfl))) (by decide) (t := .boolean) (t' := .boolean) (by decide) (by decide)))
  have F54 : Fld Z h4 q1f_0 "com/example/penelope/penelope/program/Location" "accepting" "Z" (.int w1f_q1f_0_accepting) := F_q1f_0_accepting.ext E4
  have F55 : Fld Z T7.heap q1f_0 "com/example/penelope/penelope/program/Location" "accepting" "Z" (.int w1f_q1f_0_accepting) := F54.keep Kc7 (ninS ne_q1f_0_b4 nin0)
  have F56 : Fld Z h12 q1f_0 "com/example/penelope/penelope/program/Location" "accepting" "Z" (.int w1f_q1f_0_accepting) := F55.other W12 (Or.inr (slot_ne (Or.inl (hw _ (List.mem_of_getElem? (i := 67) rfl))) (Or.inr (hw _ (List.mem_of_getElem? (i := 34) rfl))) (by decide) (t := .boolean) (t' := (.object "java/util/List")) (by decide) (by decide)))
  have F57 : Fld Z h22 q1f_0 "com/example/penelope/penelope/program/Location" "accepting" "Z" (.int w1f_q1f_0_accepting) := F56.other W22 (Or.inr (slot_ne (Or.inl (hw _ (List.mem_of_getElem? (i := 67) rfl))) (Or.inl (hw _ (List.mem_of_getElem? (i := 42) rfl))) (by decide) (t := .boolean) (t' := (.object "java/util/List")) (by decide) (by decide)))
  have F58 : Fld Z h29 q1f_0 "com/example/penelope/penelope/program/Location" "accepting" "Z" (.int w1f_q1f_0_accepting) := F57.other W29 (Or.inr (slot_ne (Or.inl (hw _ (List.mem_of_getElem? (i := 67) rfl))) (Or.inr (hw _ (List.mem_of_getElem? (i := 44) rfl))) (by decide) (t := .boolean) (t' := .int) (by decide) (by decide)))
  have F59 : Fld Z h37 q1f_0 "com/example/penelope/penelope/program/Location" "accepting" "Z" (.int w1f_q1f_0_accepting) := F58.other W37 (Or.inr (slot_ne (Or.inl (hw _ (List.mem_of_getElem? (i := 67) rfl))) (Or.inr (hw _ (List.mem_of_getElem? (i := 46) rfl))) (by decide) (t := .boolean) (t' := .int) (by decide) (by decide)))
  have F60 : Fld Z h46 q1f_0 "com/example/penelope/penelope/program/Location" "accepting" "Z" (.int w1f_q1f_0_accepting) := F59.other W46 (Or.inr (slot_ne (Or.inl (hw _ (List.mem_of_getElem? (i := 67) rfl))) (Or.inr (hw _ (List.mem_of_getElem? (i := 48) rfl))) (by decide) (t := .boolean) (t' := .boolean) (by decide) (by decide)))
  have F61 : Fld Z h4 q1f_0 "com/example/penelope/penelope/program/Location" "independent" "Z" (.int w1f_q1f_0_independent) := F_q1f_0_independent.ext E4
  have F62 : Fld Z T7.heap q1f_0 "com/example/penelope/penelope/program/Location" "independent" "Z" (.int w1f_q1f_0_independent) := F61.keep Kc7 (ninS ne_q1f_0_b4 nin0)
  have F63 : Fld Z h12 q1f_0 "com/example/penelope/penelope/program/Location" "independent" "Z" (.int w1f_q1f_0_independent) := F62.other W12 (Or.inr (slot_ne (Or.inl (hw _ (List.mem_of_getElem? (i := 74) rfl))) (Or.inr (hw _ (List.mem_of_getElem? (i := 34) rfl))) (by decide) (t := .boolean) (t' := (.object "java/util/List")) (by decide) (by decide)))
  have F64 : Fld Z h22 q1f_0 "com/example/penelope/penelope/program/Location" "independent" "Z" (.int w1f_q1f_0_independent) := F63.other W22 (Or.inr (slot_ne (Or.inl (hw _ (List.mem_of_getElem? (i := 74) rfl))) (Or.inl (hw _ (List.mem_of_getElem? (i := 42) rfl))) (by decide) (t := .boolean) (t' := (.object "java/util/List")) (by decide) (by decide)))
  have F65 : Fld Z h29 q1f_0 "com/example/penelope/penelope/program/Location" "independent" "Z" (.int w1f_q1f_0_independent) := F64.other W29 (Or.inr (slot_ne (Or.inl (hw _ (List.mem_of_getElem? (i := 74) rfl))) (Or.inr (hw _ (List.mem_of_getElem? (i := 44) rfl))) (by decide) (t := .boolean) (t' := .int) (by decide) (by decide)))
  have F66 : Fld Z h37 q1f_0 "com/example/penelope/penelope/program/Location" "independent" "Z" (.int w1f_q1f_0_independent) := F65.other W37 (Or.inr (slot_ne (Or.inl (hw _ (List.mem_of_getElem? (i := 74) rfl))) (Or.inr (hw _ (List.mem_of_getElem? (i := 46) rfl))) (by decide) (t := .boolean) (t' := .int) (by decide) (by decide)))
  have F67 : Fld Z h46 q1f_0 "com/example/penelope/penelope/program/Location" "independent" "Z" (.int w1f_q1f_0_independent) := F66.other W46 (Or.inr (slot_ne (Or.inl (hw _ (List.mem_of_getElem? (i := 74) rfl))) (Or.inr (hw _ (List.mem_of_getElem? (i := 48) rfl))) (by decide) (t := .boolean) (t' := .boolean) (by decide) (by decide)))
  have F68 : Fld Z h4 q1f_0 "com/example/penelope/penelope/program/Location" "breaksCycles" "Z" (.int w1f_q1f_0_breaksCycles) := F_q1f_0_breaksCycles.ext E4
  have F69 : Fld Z T7.heap q1f_0 "com/example/penelope/penelope/program/Location" "breaksCycles" "Z" (.int w1f_q1f_0_breaksCycles) := F68.keep Kc7 (ninS ne_q1f_0_b4 nin0)
  have F70 : Fld Z h12 q1f_0 "com/example/penelope/penelope/program/Location" "breaksCycles" "Z" (.int w1f_q1f_0_breaksCycles) := F69.other W12 (Or.inr (slot_ne (Or.inl (hw _ (List.mem_of_getElem? (i := 81) rfl))) (Or.inr (hw _ (List.mem_of_getElem? (i := 34) rfl))) (by decide) (t := .boolean) (t' := (.object "java/util/List")) (by decide) (by decide)))
  have F71 : Fld Z h22 q1f_0 "com/example/penelope/penelope/program/Location" "breaksCycles" "Z" (.int w1f_q1f_0_breaksCycles) := F70.other W22 (Or.inr (slot_ne (Or.inl (hw _ (List.mem_of_getElem? (i := 81) rfl))) (Or.inl (hw _ (List.mem_of_getElem? (i := 42) rfl))) (by decide) (t := .boolean) (t' := (.object "java/util/List")) (by decide) (by decide)))
  have F72 : Fld Z h29 q1f_0 "com/example/penelope/penelope/program/Location" "breaksCycles" "Z" (.int w1f_q1f_0_breaksCycles) := F71.other W29 (Or.inr (slot_ne (Or.inl (hw _ (List.mem_of_getElem? (i := 81) rfl))) (Or.inr (hw _ (List.mem_of_getElem? (i := 44) rfl))) (by decide) (t := .boolean) (t' := .int) (by decide) (by decide)))
  have F73 : Fld Z h37 q1f_0 "com/example/penelope/penelope/program/Location" "breaksCycles" "Z" (.int w1f_q1f_0_breaksCycles) := F72.other W37 (Or.inr (slot_ne (Or.inl (hw _ (List.mem_of_getElem? (i := 81) rfl))) (Or.inr (hw _ (List.mem_of_getElem? (i := 46) rfl))) (by decide) (t := .boolean) (t' := .int) (by decide) (by decide)))
  have F74 : Fld Z h46 q1f_0 "com/example/penelope/penelope/program/Location" "breaksCycles" "Z" (.int w1f_q1f_0_breaksCycles) := F73.other W46 (Or.inr (slot_ne (Or.inl (hw _ (List.mem_of_getElem? (i := 81) rfl))) (Or.inr (hw _ (List.mem_of_getElem? (i := 48) rfl))) (by decide) (t := .boolean) (t' := .boolean) (by decide) (by decide)))
  have F75 : Exa Z T7.heap b4 "java/util/ArrayList" := A4.keep Kc7
  have F76 : Exa Z h12 b4 "java/util/ArrayList" := F75.wr W12
  have F77 : Exa Z h22 b4 "java/util/ArrayList" := F76.wr W22
  have F78 : Exa Z h29 b4 "java/util/ArrayList" := F77.wr W29
  have F79 : Exa Z h37 b4 "java/util/ArrayList" := F78.wr W37
  have F80 : Exa Z h46 b4 "java/util/ArrayList" := F79.wr W46
  have F81 : Fld Z h12 b4 "java/util/ArrayList" "elementData" "[Ljava/lang/Object;" (.ref z1f_DEFAULTCAPACITY_EMPTY_ELEMENTDATA) := F7_0.other W12 (Or.inl (Ne.symm ne_q1f_0_b4))
  have F82 : Fld Z h22 b4 "java/util/ArrayList" "elementData" "[Ljava/lang/Object;" (.ref z1f_DEFAULTCAPACITY_EMPTY_ELEMENTDATA) := F81.other W22 (Or.inl (Ne.symm ne_q1f_0_b4))
  have F83 : Fld Z h29 b4 "java/util/ArrayList" "elementData" "[Ljava/lang/Object;" (.ref z1f_DEFAULTCAPACITY_EMPTY_ELEMENTDATA) := F82.other W29 (Or.inl (Ne.symm ne_q1f_0_b4))
  have F84 : Fld Z h37 b4 "java/util/ArrayList" "elementData" "[Ljava/lang/Object;" (.ref z1f_DEFAULTCAPACITY_EMPTY_ELEMENTDATA) := F83.other W37 (Or.inl (Ne.symm ne_q1f_0_b4))
  have F85 : Fld Z h46 b4 "java/util/ArrayList" "elementData" "[Ljava/lang/Object;" (.ref z1f_DEFAULTCAPACITY_EMPTY_ELEMENTDATA) := F84.other W46 (Or.inl (Ne.symm ne_q1f_0_b4))
  have F86 : Fld Z h12 b4 "java/util/AbstractList" "modCount" "I" (.int (0 : Int32)) := F7_1.other W12 (Or.inl (Ne.symm ne_q1f_0_b4))
  have F87 : Fld Z h22 b4 "java/util/AbstractList" "modCount" "I" (.int (0 : Int32)) := F86.other W22 (Or.inl (Ne.symm ne_q1f_0_b4))
  have F88 : Fld Z h29 b4 "java/util/AbstractList" "modCount" "I" (.int (0 : Int32)) := F87.other W29 (Or.inl (Ne.symm ne_q1f_0_b4))
  have F89 : Fld Z h37 b4 "java/util/AbstractList" "modCount" "I" (.int (0 : Int32)) := F88.other W37 (Or.inl (Ne.symm ne_q1f_0_b4))
  have F90 : Fld Z h46 b4 "java/util/AbstractList" "modCount" "I" (.int (0 : Int32)) := F89.other W46 (Or.inl (Ne.symm ne_q1f_0_b4))
  have F91 : Fld Z h22 q1f_0 "com/example/penelope/penelope/program/Location" "transitions" "Ljava/util/List;" (.ref b4) := F12w.other W22 (Or.inr (slot_ne (Or.inr (hw _ (List.mem_of_getElem? (i := 34) rfl))) (Or.inl (hw _ (List.mem_of_getElem? (i := 42) rfl))) (by decide) (t := (.object "java/util/List")) (t' := (.object "java/util/List")) (by decide) (by decide)))
  have F92 : Fld Z h29 q1f_0 "com/example/penelope/penelope/program/Location" "transitions" "Ljava/util/List;" (.ref b4) := F91.other W29 (Or.inr (slot_ne (Or.inr (hw _ (List.mem_of_getElem? (i := 34) rfl))) (Or.inr (hw _ (List.mem_of_getElem? (i := 44) rfl))) (by decide) (t := (.object "java/util/List")) (t' := .int) (by decide) (by decide)))
  have F93 : Fld Z h37 q1f_0 "com/example/penelope/penelope/program/Location" "transitions" "Ljava/util/List;" (.ref b4) := F92.other W37 (Or.inr (slot_ne (Or.inr (hw _ (List.mem_of_getElem? (i := 34) rfl))) (Or.inr (hw _ (List.mem_of_getElem? (i := 46) rfl))) (by decide) (t := (.object "java/util/List")) (t' := .int) (by decide) (by decide)))
  have F94 : Fld Z h46 q1f_0 "com/example/penelope/penelope/program/Location" "transitions" "Ljava/util/List;" (.ref b4) := F93.other W46 (Or.inr (slot_ne (Or.inr (hw _ (List.mem_of_getElem? (i := 34) rfl))) (Or.inr (hw _ (List.mem_of_getElem? (i := 48) rfl))) (by decide) (t := (.object "java/util/List")) (t' := .boolean) (by decide) (by decide)))
  have F95 : Fld Z h29 q1f_0 "com/example/penelope/penelope/program/Location" "deadVariables" "Ljava/util/List;" (.ref z1f_EMPTY_LIST) := F22w.other W29 (Or.inr (slot_ne (Or.inl (hw _ (List.mem_of_getElem? (i := 42) rfl))) (Or.inr (hw _ (List.mem_of_getElem? (i := 44) rfl))) (by decide) (t := (.object "java/util/List")) (t' := .int) (by decide) (by decide)))
  have F96 : Fld Z h37 q1f_0 "com/example/penelope/penelope/program/Location" "deadVariables" "Ljava/util/List;" (.ref z1f_EMPTY_LIST) := F95.other W37 (Or.inr (slot_ne (Or.inl (hw _ (List.mem_of_getElem? (i := 42) rfl))) (Or.inr (hw _ (List.mem_of_getElem? (i := 46) rfl))) (by decide) (t := (.object "java/util/List")) (t' := .int) (by decide) (by decide)))
  have F97 : Fld Z h46 q1f_0 "com/example/penelope/penelope/program/Location" "deadVariables" "Ljava/util/List;" (.ref z1f_EMPTY_LIST) := F96.other W46 (Or.inr (slot_ne (Or.inl (hw _ (List.mem_of_getElem? (i := 42) rfl))) (Or.inr (hw _ (List.mem_of_getElem? (i := 48) rfl))) (by decide) (t := (.object "java/util/List")) (t' := .boolean) (by decide) (by decide)))
  have F98 : Fld Z h37 q1f_0 "com/example/penelope/penelope/program/Location" "id" "I" (.int q1f_1) := F29w.other W37 (Or.inr (slot_ne (Or.inr (hw _ (List.mem_of_getElem? (i := 44) rfl))) (Or.inr (hw _ (List.mem_of_getElem? (i := 46) rfl))) (by decide) (t := .int) (t' := .int) (by decide) (by decide)))
  have F99 : Fld Z h46 q1f_0 "com/example/penelope/penelope/program/Location" "id" "I" (.int q1f_1) := F98.other W46 (Or.inr (slot_ne (Or.inr (hw _ (List.mem_of_getElem? (i := 44) rfl))) (Or.inr (hw _ (List.mem_of_getElem? (i := 48) rfl))) (by decide) (t := .int) (t' := .boolean) (by decide) (by decide)))
  have F100 : Fld Z h46 q1f_0 "com/example/penelope/penelope/program/Location" "line" "I" (.int q1f_2) := F37w.other W46 (Or.inr (slot_ne (Or.inr (hw _ (List.mem_of_getElem? (i := 46) rfl))) (Or.inr (hw _ (List.mem_of_getElem? (i := 48) rfl))) (by decide) (t := .int) (t' := .boolean) (by decide) (by decide)))
  obtain ⟨fs, hr, hrun, hended, hW, hsame⟩ := X46.leave (v := none) (fun _ => rfl)
  refine ⟨_, _, own_from hS0 (P46 _ ?_), hrun, hended, _, _, rfl, ?_, ⟨_, rfl⟩, hW, hsame.mono (by decide) (by decide)⟩
  · show Steps p.tables e below (T46.setTop (mkF m 37 #[.val (.ref q1f_0), .val (.int q1f_1), .val (.int q1f_2), .val (.int (0 : Int32))] [])) _
    exact X46.returnOut hx Bd.returns (hb hby d1_37) hr
  · show Q1f Z q1f_0 q1f_1 q1f_2 w1f_q1f_0_validEnd w1f_q1f_0_accepting w1f_q1f_0_independent w1f_q1f_0_breaksCycles z1f_DEFAULTCAPACITY_EMPTY_ELEMENTDATA u1f_q1f_0_transitions z1f_EMPTY_LIST u1f_q1f_0_deadVariables u1f_q1f_0_id u1f_q1f_0_line u1f_q1f_0_end h0 n0 _ T46.heap _
    rw [e46]
    exact ⟨b4, rfl, N46, K46, o_b4, F53, F60, F67, F74, F80, F85, F90, F94, F97, F99, F100, F46w⟩
theorem d7_0 : decode prog_93_method_6_code 0 = .ok (.aload_n 0, 1) := by decide +kernel
theorem d7_1 : decode prog_93_method_6_code 1 = .ok (.getfield 32, 3) := by decide +kernel
theorem d7_4 : decode prog_93_method_6_code 4 = .ok (.ifCond .ne 10, 3) := by decide +kernel
theorem d7_7 : decode prog_93_method_6_code 7 = .ok (.aload_n 0, 1) := by decide +kernel
theorem d7_8 : decode prog_93_method_6_code 8 = .ok (.getfield 36, 3) := by decide +kernel
theorem d7_11 : decode prog_93_method_6_code 11 = .ok (.ifCond .eq 7, 3) := by decide +kernel
theorem d7_14 : decode prog_93_method_6_code 14 = .ok (.iconst 1, 1) := by decide +kernel
theorem d7_15 : decode prog_93_method_6_code 15 = .ok (.goto 4, 3) := by decide +kernel
theorem d7_18 : decode prog_93_method_6_code 18 = .ok (.iconst 0, 1) := by decide +kernel
theorem d7_19 : decode prog_93_method_6_code 19 = .ok (.ireturn, 1) := by decide +kernel
theorem ef_7 (m : MethodId) (q7_0 : Addr) : entryFrame m #[(.ref q7_0)] 1 = mkF m 0 #[.val (.ref q7_0)] [] := by first | (simp [entryFrame, mkF, argsToLocals, Value.category]; done) | rfl
def r7 (w7_q7_0_end : Int32) (w7_q7_0_validEnd : Int32) : Int32 := (if w7_q7_0_end = (0 : Int32) then (if w7_q7_0_validEnd = (0 : Int32) then (0 : Int32) else (1 : Int32)) else (1 : Int32))
def Q7 (Z : State) (q7_0 : Addr) (w7_q7_0_end : Int32) (w7_q7_0_validEnd : Int32) (h0 : Heap) (n0 : Nat) (v : Option Value) (h : Heap) (L : List Loc) : Prop := v = some (.int (r7 w7_q7_0_end w7_q7_0_validEnd)) ∧ Fr n0 L ∧ h = h0
set_option maxRecDepth 65536 in
set_option maxHeartbeats 40000000 in
theorem rm7 (l : Launch) (Z : State) (a0 : Array Value) (hw : ∀ d ∈ tables_1, d.before a0 Z = true) (ws : List Jvm.Cond) (q7_0 : Addr) (w7_q7_0_end : Int32) (w7_q7_0_validEnd : Int32) (h0 : Heap) (n0 : Nat) (Z0 : n0 ≤ h0.size) (F_q7_0_end : Fld Z h0 q7_0 "com/example/penelope/penelope/program/Location" "end" "Z" (.int w7_q7_0_end)) (F_q7_0_validEnd : Fld Z h0 q7_0 "com/example/penelope/penelope/program/Location" "validEnd" "Z" (.int w7_q7_0_validEnd)) :
    MetFree l (⟨"com/example/penelope/penelope/program/Location", "isValidEnd", "()Z"⟩ : MethodName) (head1 (Jvm.Cond.code (⟨"com/example/penelope/penelope/program/Location", "isValidEnd", "()Z"⟩ : MethodName) prog_93_method_6_code 1 (some .boolean) :: ws) ({ frames := 0, cells := 0, slots := 0, locals := 0 } : Room)) (fun a U => a = #[(.ref q7_0)] ∧ Z.Warmed39 U.vm ∧ U.heap = h0) (fun _ _ _ _ _ => True) (fun _ U o U' => ∃ v L, o = .returned v ∧ Q7 Z q7_0 w7_q7_0_end w7_q7_0_validEnd h0 n0 v U'.heap L ∧ FrameEnd U o U' L ({ frames := 0, cells := 0, slots := 0, locals := 0 } : Room).cells ({ frames := 0, cells := 0, slots := 0, locals := 0 } : Room).slots) := by
  refine MetFree.of_bodySF (plainFor_of_name pn_1) hisR ?_
  intro p e s m args below meth c s₁ Bd hml0 hP hK
  obtain ⟨rfl, hZ, hh⟩ := hP
  have hx := Bd.exec
  have hby := Bd.bytes
  have hml : c.maxLocals = 1 := hml0
  have hown : s.vm.findClass "com/example/penelope/penelope/program/Location" = some m.cls := findClass_of_methodNamed Bd.named
  have hnm := (name_of_methodNamed Bd.named Bd.method).1
  have X0 : Stand p l e ({ frames := 0, cells := 0, slots := 0, locals := 0 } : Room) s m #[(.ref q7_0)] below meth c s₁ [] 0 0 := Stand.of_body Bd
  have e0 : s₁.heap = h0 := by rw [← hh, Bd.state]; rfl
  have N0 := Fr.nil n0
  obtain ⟨S0, hS0⟩ : ∃ z, z = s₁.setTop (entryFrame m #[(.ref q7_0)] 1) := ⟨_, rfl⟩
  have P0 : own_Go p e below S0 (s₁.setTop (mkF m 0 #[.val (.ref q7_0)] [])) := fun t k => by rw [hS0]; exact castTop (ef_7 m q7_0) k
  have P1 : own_Go p e below S0 (s₁.setTop (mkF m 1 #[.val (.ref q7_0)] [(.ref q7_0)])) := fun t k => P0 t (by
    show Steps p.tables e below (s₁.setTop (mkF m 0 #[.val (.ref q7_0)] [])) t
    refine XS.aloadN X0.here hx rfl (hb hby d7_0) rfl rfl ?_
    show Steps p.tables e below (s₁.setTop (mkF m 1 #[.val (.ref q7_0)] [(.ref q7_0)])) t
    exact k)
  obtain ⟨T2, X2, e2, st2⟩ := getF X0 hx hZ hown (host := "") (Or.inl (hw _ (List.mem_of_getElem? (i := 47) rfl))) Via.refl e0 F_q7_0_end (g := (mkF m 1 #[.val (.ref q7_0)] [(.ref q7_0)])) rfl rfl (hb hby d7_1)
  have P2 : own_Go p e below S0 (T2.setTop (mkF m 4 #[.val (.ref q7_0)] [(.int w7_q7_0_end)])) := fun t k => P1 t (st2 _ k)
  by_cases c3 : w7_q7_0_end = (0 : Int32)
  · skip
    have P4 : own_Go p e below S0 (T2.setTop (mkF m 8 #[.val (.ref q7_0)] [(.ref q7_0)])) := fun t k => P2 t (by
      show Steps p.tables e below (T2.setTop (mkF m 4 #[.val (.ref q7_0)] [(.int w7_q7_0_end)])) t
      refine XS.ifNo X2.here hx rfl (hb hby d7_4) rfl ((if0 _ _).trans (teq c3).2) ?_
      refine XS.aloadN X2.here hx rfl (hb hby d7_7) rfl rfl ?_
      show Steps p.tables e below (T2.setTop (mkF m 8 #[.val (.ref q7_0)] [(.ref q7_0)])) t
      exact k)
    obtain ⟨T5, X5, e5, st5⟩ := getF X2 hx hZ hown (host := "") (Or.inl (hw _ (List.mem_of_getElem? (i := 54) rfl))) Via.refl e2 F_q7_0_validEnd (g := (mkF m 8 #[.val (.ref q7_0)] [(.ref q7_0)])) rfl rfl (hb hby d7_8)
    have P5 : own_Go p e below S0 (T5.setTop (mkF m 11 #[.val (.ref q7_0)] [(.int w7_q7_0_validEnd)])) := fun t k => P4 t (st5 _ k)
    by_cases c6 : w7_q7_0_validEnd = (0 : Int32)
    · skip
      have P7 : own_Go p e below S0 (T5.setTop (mkF m 19 #[.val (.ref q7_0)] [(.int (0 : Int32))])) := fun t k => P5 t (by
        show Steps p.tables e below (T5.setTop (mkF m 11 #[.val (.ref q7_0)] [(.int w7_q7_0_validEnd)])) t
        refine XS.ifYes X5.here hx rfl (pc0 := 11) (pc' := 18) rfl (hb hby d7_11) rfl ((if0 _ _).trans (teq c6).1) (by decide) (by decide) ?_
        refine XS.iconst X5.here hx rfl (hb hby d7_18) ?_
        show Steps p.tables e below (T5.setTop (mkF m 19 #[.val (.ref q7_0)] [(.int (0 : Int32))])) t
        exact k)
      obtain ⟨fs, hr, hrun, hended, hW, hsame⟩ := X5.leave (v := some (.int (0 : Int32))) (fun h => by rw [Bd.returns] at h; cases h)
      refine ⟨_, _, own_from hS0 (P7 _ ?_), hrun, hended, _, _, rfl, ?_, ⟨_, rfl⟩, hW, hsame.mono (by decide) (by decide)⟩
      · show Steps p.tables e below (T5.setTop (mkF m 19 #[.val (.ref q7_0)] [(.int (0 : Int32))])) _
        exact retN X5 hx (t := .boolean) Bd.returns (by simp) (hb hby d7_19) hr
      · show Q7 Z q7_0 w7_q7_0_end w7_q7_0_validEnd h0 n0 _ T5.heap _
        rw [e5]
        exact ⟨(congrArg (fun z => some (Value.int z)) (Eq.symm (Eq.trans (if_pos c3) (if_pos c6)))), N0, rfl⟩
    · skip
      have P8 : own_Go p e below S0 (T5.setTop (mkF m 19 #[.val (.ref q7_0)] [(.int (1 : Int32))])) := fun t k => P5 t (by
        show Steps p.tables e below (T5.setTop (mkF m 11 #[.val (.ref q7_0)] [(.int w7_q7_0_validEnd)])) t
        refine XS.ifNo X5.here hx rfl (hb hby d7_11) rfl ((if0 _ _).trans (feq c6).1) ?_
        refine XS.iconst X5.here hx rfl (hb hby d7_14) ?_
        refine XS.goto X5.here hx rfl (pc0 := 15) (pc' := 19) rfl (hb hby d7_15) (by decide) (by decide) ?_
        show Steps p.tables e below (T5.setTop (mkF m 19 #[.val (.ref q7_0)] [(.int (1 : Int32))])) t
        exact k)
      obtain ⟨fs, hr, hrun, hended, hW, hsame⟩ := X5.leave (v := some (.int (1 : Int32))) (fun h => by rw [Bd.returns] at h; cases h)
      refine ⟨_, _, own_from hS0 (P8 _ ?_), hrun, hended, _, _, rfl, ?_, ⟨_, rfl⟩, hW, hsame.mono (by decide) (by decide)⟩
      · show Steps p.tables e below (T5.setTop (mkF m 19 #[.val (.ref q7_0)] [(.int (1 : Int32))])) _
        exact retN X5 hx (t := .boolean) Bd.returns (by simp) (hb hby d7_19) hr
      · show Q7 Z q7_0 w7_q7_0_end w7_q7_0_validEnd h0 n0 _ T5.heap _
        rw [e5]
        exact ⟨(congrArg (fun z => some (Value.int z)) (Eq.symm (Eq.trans (if_pos c3) (if_neg c6)))), N0, rfl⟩
  · skip
    have P9 : own_Go p e below S0 (T2.setTop (mkF m 19 #[.val (.ref q7_0)] [(.int (1 : Int32))])) := fun t k => P2 t (by
      show Steps p.tables e below (T2.setTop (mkF m 4 #[.val (.ref q7_0)] [(.int w7_q7_0_end)])) t
      refine XS.ifYes X2.here hx rfl (pc0 := 4) (pc' := 14) rfl (hb hby d7_4) rfl ((if0 _ _).trans (feq c3).2) (by decide) (by decide) ?_
      refine XS.iconst X2.here hx rfl (hb hby d7_14) ?_
      refine XS.goto X2.here hx rfl (pc0 := 15) (pc' := 19) rfl (hb hby d7_15) (by decide) (by decide) ?_
      show Steps p.tables e below (T2.setTop (mkF m 19 #[.val (.ref q7_0)] [(.int (1 : Int32))])) t
      exact k)
    obtain ⟨fs, hr, hrun, hended, hW, hsame⟩ := X2.leave (v := some (.int (1 : Int32))) (fun h => by rw [Bd.returns] at h; cases h)
    refine ⟨_, _, own_from hS0 (P9 _ ?_), hrun, hended, _, _, rfl, ?_, ⟨_, rfl⟩, hW, hsame.mono (by decide) (by decide)⟩
    · show Steps p.tables e below (T2.setTop (mkF m 19 #[.val (.ref q7_0)] [(.int (1 : Int32))])) _
      exact retN X2 hx (t := .boolean) Bd.returns (by simp) (hb hby d7_19) hr
    · show Q7 Z q7_0 w7_q7_0_end w7_q7_0_validEnd h0 n0 _ T2.heap _
      rw [e2]
      exact ⟨(congrArg (fun z => some (Value.int z)) (Eq.symm (if_neg c3))), N0, rfl⟩
theorem d8_0 : decode prog_93_method_7_code 0 = .ok (.aload_n 0, 1) := by decide +kernel
theorem d8_1 : decode prog_93_method_7_code 1 = .ok (.iconst 1, 1) := by decide +kernel
theorem d8_2 : decode prog_93_method_7_code 2 = .ok (.putfield 36, 3) := by decide +kernel
theorem d8_5 : decode prog_93_method_7_code 5 = .ok (.return_, 1) := by decide +kernel
theorem ef_8 (m : MethodId) (q8_0 : Addr) : entryFrame m #[(.ref q8_0)] 1 = mkF m 0 #[.val (.ref q8_0)] [] := by first | (simp [entryFrame, mkF, argsToLocals, Value.category]; done) | rfl
def Q8 (Z : State) (q8_0 : Addr) (w8_q8_0_end : Int32) (w8_q8_0_validEnd : Int32) (w8_q8_0_accepting : Int32) (w8_q8_0_independent : Int32) (w8_q8_0_breaksCycles : Int32) (h0 : Heap) (n0 : Nat) (v : Option Value) (h : Heap) (L : List Loc) : Prop := v = none ∧ Fr n0 L ∧ Keep h0 h [q8_0] ∧ Fld Z h q8_0 "com/example/penelope/penelope/program/Location" "end" "Z" (.int w8_q8_0_end) ∧ Fld Z h q8_0 "com/example/penelope/penelope/program/Location" "validEnd" "Z" (.int (1 : Int32)) ∧ Fld Z h q8_0 "com/example/penelope/penelope/program/Location" "accepting" "Z" (.int w8_q8_0_accepting) ∧ Fld Z h q8_0 "com/example/penelope/penelope/program/Location" "independent" "Z" (.int w8_q8_0_independent) ∧ Fld Z h q8_0 "com/example/penelope/penelope/program/Location" "breaksCycles" "Z" (.int w8_q8_0_breaksCycles)
set_option maxRecDepth 65536 in
set_option maxHeartbeats 40000000 in
theorem rm8 (l : Launch) (Z : State) (a0 : Array Value) (hw : ∀ d ∈ tables_1, d.before a0 Z = true) (ws : List Jvm.Cond) (q8_0 : Addr) (w8_q8_0_end : Int32) (w8_q8_0_validEnd : Int32) (w8_q8_0_accepting : Int32) (w8_q8_0_independent : Int32) (w8_q8_0_breaksCycles : Int32) (h0 : Heap) (n0 : Nat) (Z0 : n0 ≤ h0.size) (F_q8_0_end : Fld Z h0 q8_0 "com/example/penelope/penelope/program/Location" "end" "Z" (.int w8_q8_0_end)) (F_q8_0_validEnd : Fld Z h0 q8_0 "com/example/penelope/penelope/program/Location" "validEnd" "Z" (.int w8_q8_0_validEnd)) (F_q8_0_accepting : Fld Z h0 q8_0 "com/example/penelope/penelope/program/Location" "accepting" "Z" (.int w8_q8_0_accepting)) (F_q8_0_independent : Fld Z h0 q8_0 "com/example/penelope/penelope/program/Location" "independent" "Z" (.int w8_q8_0_independent)) (F_q8_0_breaksCycles : Fld Z h0 q8_0 "com/example/penelope/penelope/program/Location" "breaksCycles" "Z" (.int w8_q8_0_breaksCycles)) (E_q8_0 : Exa Z h0 q8_0 "com/example/penelope/penelope/program/Location") (g_q8_0 : n0 ≤ q8_0) :
    MetFree l (⟨"com/example/penelope/penelope/program/Location", "markValidEnd", "()V"⟩ : MethodName) (head1 (Jvm.Cond.code (⟨"com/example/penelope/penelope/program/Location", "markValidEnd", "()V"⟩ : MethodName) prog_93_method_7_code 1 none :: ws) ({ frames := 0, cells := 0, slots := 0, locals := 0 } : Room)) (fun a U => a = #[(.ref q8_0)] ∧ Z.Warmed39 U.vm ∧ U.heap = h0) (fun _ _ _ _ _ => True) (fun _ U o U' => ∃ v L, o = .returned v ∧ Q8 Z q8_0 w8_q8_0_end w8_q8_0_validEnd w8_q8_0_accepting w8_q8_0_independent w8_q8_0_breaksCycles h0 n0 v U'.heap L ∧ FrameEnd U o U' L ({ frames := 0, cells := 0, slots := 0, locals := 0 } : Room).cells ({ frames := 0, cells := 0, slots := 0, locals := 0 } : Room).slots) := by
  refine MetFree.of_bodySF (plainFor_of_name pn_1) hisR ?_
  intro p e s m args below meth c s₁ Bd hml0 hP hK
  obtain ⟨rfl, hZ, hh⟩ := hP
  have hx := Bd.exec
  have hby := Bd.bytes
  have hml : c.maxLocals = 1 := hml0
  have hown : s.vm.findClass "com/example/penelope/penelope/program/Location" = some m.cls := findClass_of_methodNamed Bd.named
  have hnm := (name_of_methodNamed Bd.named Bd.method).1
  have X0 : Stand p l e ({ frames := 0, cells := 0, slots := 0, locals := 0 } : Room) s m #[(.ref q8_0)] below meth c s₁ [] 0 0 := Stand.of_body Bd
  have e0 : s₁.heap = h0 := by rw [← hh, Bd.state]; rfl
  have N0 := Fr.nil n0
  obtain ⟨S0, hS0⟩ : ∃ z, z = s₁.setTop (entryFrame m #[(.ref q8_0)] 1) := ⟨_, rfl⟩
  have P0 : own_Go p e below S0 (s₁.setTop (mkF m 0 #[.val (.ref q8_0)] [])) := fun t k => by rw [hS0]; exact castTop (ef_8 m q8_0) k
  have P1 : own_Go p e below S0 (s₁.setTop (mkF m 2 #[.val (.ref q8_0)] [(.int (1 : Int32)), (.ref q8_0)])) := fun t k => P0 t (by
    show Steps p.tables e below (s₁.setTop (mkF m 0 #[.val (.ref q8_0)] [])) t
    refine XS.aloadN X0.here hx rfl (hb hby d8_0) rfl rfl ?_
    refine XS.iconst X0.here hx rfl (hb hby d8_1) ?_
    show Steps p.tables e below (s₁.setTop (mkF m 2 #[.val (.ref q8_0)] [(.int (1 : Int32)), (.ref q8_0)])) t
    exact k)
  obtain ⟨T2, h2, X2, e2, W2, st2⟩ := putFN X0 hx hZ hown (hw _ (List.mem_of_getElem? (i := 54) rfl)) Via.refl e0 F_q8_0_validEnd E_q8_0 (Or.inl (hw _ (List.mem_of_getElem? (i := 55) rfl))) (hw _ (List.mem_of_getElem? (i := 1) rfl)) (ty := .boolean) (v' := (.int (1 : Int32))) (by decide) rfl (by decide) (g := (mkF m 2 #[.val (.ref q8_0)] [(.int (1 : Int32)), (.ref q8_0)])) rfl rfl (hb hby d8_2)
  have K2 : Keep h0 h2 [q8_0] := (Keep.refl h0 [q8_0]).wr W2 (Or.inl (by simp))
  have N2 := Fr.snoc X2 N0 g_q8_0
  have F2w : Fld Z h2 q8_0 "com/example/penelope/penelope/program/Location" "validEnd" "Z" (.int (1 : Int32)) := F_q8_0_validEnd.same W2
  have P2 : own_Go p e below S0 (T2.setTop (mkF m 5 #[.val (.ref q8_0)] [])) := fun t k => P1 t (st2 _ k)
  have F3 : Fld Z h2 q8_0 "com/example/penelope/penelope/program/Location" "end" "Z" (.int w8_q8_0_end) := F_q8_0_end.other W2 (Or.inr (slot_ne (Or.inr (hw _ (List.mem_of_getElem? (i := 48) rfl))) (Or.inl (hw _ (List.mem_of_getElem? (i := 55) rfl))) (by decide) (t := .boolean) (t' := .boolean) (by decide) (by decide)))
  have F4 : Fld Z h2 q8_0 "com/example/penelope/penelope/program/Location" "accepting" "Z" (.int w8_q8_0_accepting) := F_q8_0_accepting.other W2 (Or.inr (slot_ne (Or.inl (hw _ (List.mem_of_getElem? (i := 67) rfl))) (Or.inl (hw _ (List.mem_of_getElem? (i := 55) rfl))) (by decide) (t := .boolean) (t' := .boolean) (by decide) (by decide)))
  have F5 : Fld Z h2 q8_0 "com/example/penelope/penelope/program/Location" "independent" "Z" (.int w8_q8_0_independent) := F_q8_0_independent.other W2 (Or.inr (slot_ne (Or.inl (hw _ (List.mem_of_getElem? (i := 74) rfl))) (Or.inl (hw _ (List.mem_of_getElem? (i := 55) rfl))) (by decide) (t := .boolean) (t' := .boolean) (by decide) (by decide)))
  have F6 : Fld Z h2 q8_0 "com/example/penelope/penelope/program/Location" "breaksCycles" "Z" (.int w8_q8_0_breaksCycles) := F_q8_0_breaksCycles.other W2 (Or.inr (slot_ne (Or.inl (hw _ (List.mem_of_getElem? (i := 81) rfl))) (Or.inl (hw _ (List.mem_of_getElem? (i := 55) rfl))) (by decide) (t := .boolean) (t' := .boolean) (by decide) (by decide)))
  obtain ⟨fs, hr, hrun, hended, hW, hsame⟩ := X2.leave (v := none) (fun _ => rfl)
  refine ⟨_, _, own_from hS0 (P2 _ ?_), hrun, hended, _, _, rfl, ?_, ⟨_, rfl⟩, hW, hsame.mono (by decide) (by decide)⟩
  · show Steps p.tables e below (T2.setTop (mkF m 5 #[.val (.ref q8_0)] [])) _
    exact X2.returnOut hx Bd.returns (hb hby d8_5) hr
  · show Q8 Z q8_0 w8_q8_0_end w8_q8_0_validEnd w8_q8_0_accepting w8_q8_0_independent w8_q8_0_breaksCycles h0 n0 _ T2.heap _
    rw [e2]
    exact ⟨rfl, N2, K2, F3, F2w, F4, F5, F6⟩
theorem d9_0 : decode prog_93_method_9_code 0 = .ok (.aload_n 0, 1) := by decide +kernel
theorem d9_1 : decode prog_93_method_9_code 1 = .ok (.iconst 1, 1) := by decide +kernel
theorem d9_2 : decode prog_93_method_9_code 2 = .ok (.putfield 39, 3) := by decide +kernel
theorem d9_5 : decode prog_93_method_9_code 5 = .ok (.return_, 1) := by decide +kernel
theorem ef_9 (m : MethodId) (q9_0 : Addr) : entryFrame m #[(.ref q9_0)] 1 = mkF m 0 #[.val (.ref q9_0)] [] := by first | (simp [entryFrame, mkF, argsToLocals, Value.category]; done) | rfl
def Q9 (Z : State) (q9_0 : Addr) (w9_q9_0_end : Int32) (w9_q9_0_validEnd : Int32) (w9_q9_0_accepting : Int32) (w9_q9_0_independent : Int32) (w9_q9_0_breaksCycles : Int32) (h0 : Heap) (n0 : Nat) (v : Option Value) (h : Heap) (L : List Loc) : Prop := v = none ∧ Fr n0 L ∧ Keep h0 h [q9_0] ∧ Fld Z h q9_0 "com/example/penelope/penelope/program/Location" "end" "Z" (.int w9_q9_0_end) ∧ Fld Z h q9_0 "com/example/penelope/penelope/program/Location" "validEnd" "Z" (.int w9_q9_0_validEnd) ∧ Fld Z h q9_0 "com/example/penelope/penelope/program/Location" "accepting" "Z" (.int (1 : Int32)) ∧ Fld Z h q9_0 "com/example/penelope/penelope/program/Location" "independent" "Z" (.int w9_q9_0_independent) ∧ Fld Z h q9_0 "com/example/penelope/penelope/program/Location" "breaksCycles" "Z" (.int w9_q9_0_breaksCycles)
set_option maxRecDepth 65536 in
set_option maxHeartbeats 40000000 in
theorem rm9 (l : Launch) (Z : State) (a0 : Array Value) (hw : ∀ d ∈ tables_1, d.before a0 Z = true) (ws : List Jvm.Cond) (q9_0 : Addr) (w9_q9_0_end : Int32) (w9_q9_0_validEnd : Int32) (w9_q9_0_accepting : Int32) (w9_q9_0_independent : Int32) (w9_q9_0_breaksCycles : Int32) (h0 : Heap) (n0 : Nat) (Z0 : n0 ≤ h0.size) (F_q9_0_end : Fld Z h0 q9_0 "com/example/penelope/penelope/program/Location" "end" "Z" (.int w9_q9_0_end)) (F_q9_0_validEnd : Fld Z h0 q9_0 "com/example/penelope/penelope/program/Location" "validEnd" "Z" (.int w9_q9_0_validEnd)) (F_q9_0_accepting : Fld Z h0 q9_0 "com/example/penelope/penelope/program/Location" "accepting" "Z" (.int w9_q9_0_accepting)) (F_q9_0_independent : Fld Z h0 q9_0 "com/example/penelope/penelope/program/Location" "independent" "Z" (.int w9_q9_0_independent)) (F_q9_0_breaksCycles : Fld Z h0 q9_0 "com/example/penelope/penelope/program/Location" "breaksCycles" "Z" (.int w9_q9_0_breaksCycles)) (E_q9_0 : Exa Z h0 q9_0 "com/example/penelope/penelope/program/Location") (g_q9_0 : n0 ≤ q9_0) :
    MetFree l (⟨"com/example/penelope/penelope/program/Location", "markAccepting", "()V"⟩ : MethodName) (head1 (Jvm.Cond.code (⟨"com/example/penelope/penelope/program/Location", "markAccepting", "()V"⟩ : MethodName) prog_93_method_9_code 1 none :: ws) ({ frames := 0, cells := 0, slots := 0, locals := 0 } : Room)) (fun a U => a = #[(.ref q9_0)] ∧ Z.Warmed39 U.vm ∧ U.heap = h0) (fun _ _ _ _ _ => True) (fun _ U o U' => ∃ v L, o = .returned v ∧ Q9 Z q9_0 w9_q9_0_end w9_q9_0_validEnd w9_q9_0_accepting w9_q9_0_independent w9_q9_0_breaksCycles h0 n0 v U'.heap L ∧ FrameEnd U o U' L ({ frames := 0, cells := 0, slots := 0, locals := 0 } : Room).cells ({ frames := 0, cells := 0, slots := 0, locals := 0 } : Room).slots) := by
  refine MetFree.of_bodySF (plainFor_of_name pn_1) hisR ?_
  intro p e s m args below meth c s₁ Bd hml0 hP hK
  obtain ⟨rfl, hZ, hh⟩ := hP
  have hx := Bd.exec
  have hby := Bd.bytes
  have hml : c.maxLocals = 1 := hml0
  have hown : s.vm.findClass "com/example/penelope/penelope/program/Location" = some m.cls := findClass_of_methodNamed Bd.named
  have hnm := (name_of_methodNamed Bd.named Bd.method).1
  have X0 : Stand p l e ({ frames := 0, cells := 0, slots := 0, locals := 0 } : Room) s m #[(.ref q9_0)] below meth c s₁ [] 0 0 := Stand.of_body Bd
  have e0 : s₁.heap = h0 := by rw [← hh, Bd.state]; rfl
  have N0 := Fr.nil n0
  obtain ⟨S0, hS0⟩ : ∃ z, z = s₁.setTop (entryFrame m #[(.ref q9_0)] 1) := ⟨_, rfl⟩
  have P0 : own_Go p e below S0 (s₁.setTop (mkF m 0 #[.val (.ref q9_0)] [])) := fun t k => by rw [hS0]; exact castTop (ef_9 m q9_0) k
  have P1 : own_Go p e below S0 (s₁.setTop (mkF m 2 #[.val (.ref q9_0)] [(.int (1 : Int32)), (.ref q9_0)])) := fun t k => P0 t (by
    show Steps p.tables e below (s₁.setTop (mkF m 0 #[.val (.ref q9_0)] [])) t
    refine XS.aloadN X0.here hx rfl (hb hby d9_0) rfl rfl ?_
    refine XS.iconst X0.here hx rfl (hb hby d9_1) ?_
    show Steps p.tables e below (s₁.setTop (mkF m 2 #[.val (.ref q9_0)] [(.int (1 : Int32)), (.ref q9_0)])) t
    exact k)
  obtain ⟨T2, h2, X2, e2, W2, st2⟩ := putFN X0 hx hZ hown (hw _ (List.mem_of_getElem? (i := 66) rfl)) Via.refl e0 F_q9_0_accepting E_q9_0 (Or.inl (hw _ (List.mem_of_getElem? (i := 67) rfl))) (hw _ (List.mem_of_getElem? (i := 1) rfl)) (ty := .boolean) (v' := (.int (1 : Int32))) (by decide) rfl (by decide) (g := (mkF m 2 #[.val (.ref q9_0)] [(.int (1 : Int32)), (.ref q9_0)])) rfl rfl (hb hby d9_2)
  have K2 : Keep h0 h2 [q9_0] := (Keep.refl h0 [q9_0]).wr W2 (Or.inl (by simp))
  have N2 := Fr.snoc X2 N0 g_q9_0
  have F2w : Fld Z h2 q9_0 "com/example/penelope/penelope/program/Location" "accepting" "Z" (.int (1 : Int32)) := F_q9_0_accepting.same W2
  have P2 : own_Go p e below S0 (T2.setTop (mkF m 5 #[.val (.ref q9_0)] [])) := fun t k => P1 t (st2 _ k)
  have F3 : Fld Z h2 q9_0 "com/example/penelope/penelope/program/Location" "end" "Z" (.int w9_q9_0_end) := F_q9_0_end.other W2 (Or.inr (slot_ne (Or.inr (hw _ (List.mem_of_getElem? (i := 48) rfl))) (Or.inl (hw _ (List.mem_of_getElem? (i := 67) rfl))) (by decide) (t := .boolean) (t' := .boolean) (by decide) (by decide)))
  have F4 : Fld Z h2 q9_0 "com/example/penelope/penelope/program/Location" "validEnd" "Z" (.int w9_q9_0_validEnd) := F_q9_0_validEnd.other W2 (Or.inr (slot_ne (Or.inl (hw _ (List.mem_of_getElem? (i := 55) rfl))) (Or.inl (hw _ (List.mem_of_getElem? (i := 67) rfl))) (by decide) (t := .boolean) (t' := .boolean) (by decide) (by decide)))
  have F5 : Fld Z h2 q9_0 "com/example/penelope/penelope/program/Location" "independent" "Z" (.int w9_q9_0_independent) := F_q9_0_independent.other W2 (Or.inr (slot_ne (Or.inl (hw _ (List.mem_of_getElem? (i := 74) rfl))) (Or.inl (hw _ (List.mem_of_getElem? (i := 67) rfl))) (by decide) (t := .boolean) (t' := .boolean) (by decide) (by decide)))
  have F6 : Fld Z h2 q9_0 "com/example/penelope/penelope/program/Location" "breaksCycles" "Z" (.int w9_q9_0_breaksCycles) := F_q9_0_breaksCycles.other W2 (Or.inr (slot_ne (Or.inl (hw _ (List.mem_of_getElem? (i := 81) rfl))) (Or.inl (hw _ (List.mem_of_getElem? (i := 67) rfl))) (by decide) (t := .boolean) (t' := .boolean) (by decide) (by decide)))
  obtain ⟨fs, hr, hrun, hended, hW, hsame⟩ := X2.leave (v := none) (fun _ => rfl)
  refine ⟨_, _, own_from hS0 (P2 _ ?_), hrun, hended, _, _, rfl, ?_, ⟨_, rfl⟩, hW, hsame.mono (by decide) (by decide)⟩
  · show Steps p.tables e below (T2.setTop (mkF m 5 #[.val (.ref q9_0)] [])) _
    exact X2.returnOut hx Bd.returns (hb hby d9_5) hr
  · show Q9 Z q9_0 w9_q9_0_end w9_q9_0_validEnd w9_q9_0_accepting w9_q9_0_independent w9_q9_0_breaksCycles h0 n0 _ T2.heap _
    rw [e2]
    exact ⟨rfl, N2, K2, F3, F4, F2w, F5, F6⟩
theorem d10_0 : decode prog_93_method_11_code 0 = .ok (.aload_n 0, 1) := by decide +kernel
theorem d10_1 : decode prog_93_method_11_code 1 = .ok (.iconst 1, 1) := by decide +kernel
theorem d10_2 : decode prog_93_method_11_code 2 = .ok (.putfield 42, 3) := by decide +kernel
theorem d10_5 : decode prog_93_method_11_code 5 = .ok (.return_, 1) := by decide +kernel
theorem ef_10 (m : MethodId) (q10_0 : Addr) : entryFrame m #[(.ref q10_0)] 1 = mkF m 0 #[.val (.ref q10_0)] [] := by first | (simp [entryFrame, mkF, argsToLocals, Value.category]; done) | rfl
def Q10 (Z : State) (q10_0 : Addr) (w10_q10_0_end : Int32) (w10_q10_0_validEnd : Int32) (w10_q10_0_accepting : Int32) (w10_q10_0_independent : Int32) (w10_q10_0_breaksCycles : Int32) (h0 : Heap) (n0 : Nat) (v : Option Value) (h : Heap) (L : List Loc) : Prop := v = none ∧ Fr n0 L ∧ Keep h0 h [q10_0] ∧ Fld Z h q10_0 "com/example/penelope/penelope/program/Location" "end" "Z" (.int w10_q10_0_end) ∧ Fld Z h q10_0 "com/example/penelope/penelope/program/Location" "validEnd" "Z" (.int w10_q10_0_validEnd) ∧ Fld Z h q10_0 "com/example/penelope/penelope/program/Location" "accepting" "Z" (.int w10_q10_0_accepting) ∧ Fld Z h q10_0 "com/example/penelope/penelope/program/Location" "independent" "Z" (.int (1 : Int32)) ∧ Fld Z h q10_0 "com/example/penelope/penelope/program/Location" "breaksCycles" "Z" (.int w10_q10_0_breaksCycles)
set_option maxRecDepth 65536 in
set_option maxHeartbeats 40000000 in
theorem rm10 (l : Launch) (Z : State) (a0 : Array Value) (hw : ∀ d ∈ tables_1, d.before a0 Z = true) (ws : List Jvm.Cond) (q10_0 : Addr) (w10_q10_0_end : Int32) (w10_q10_0_validEnd : Int32) (w10_q10_0_accepting : Int32) (w10_q10_0_independent : Int32) (w10_q10_0_breaksCycles : Int32) (h0 : Heap) (n0 : Nat) (Z0 : n0 ≤ h0.size) (F_q10_0_end : Fld Z h0 q10_0 "com/example/penelope/penelope/program/Location" "end" "Z" (.int w10_q10_0_end)) (F_q10_0_validEnd : Fld Z h0 q10_0 "com/example/penelope/penelope/program/Location" "validEnd" "Z" (.int w10_q10_0_validEnd)) (F_q10_0_accepting : Fld Z h0 q10_0 "com/example/penelope/penelope/program/Location" "accepting" "Z" (.int w10_q10_0_accepting)) (F_q10_0_independent : Fld Z h0 q10_0 "com/example/penelope/penelope/program/Location" "independent" "Z" (.int w10_q10_0_independent)) (F_q10_0_breaksCycles : Fld Z h0 q10_0 "com/example/penelope/penelope/program/Location" "breaksCycles" "Z" (.int w10_q10_0_breaksCycles)) (E_q10_0 : Exa Z h0 q10_0 "com/example/penelope/penelope/program/Location") (g_q10_0 : n0 ≤ q10_0) :
    MetFree l (⟨"com/example/penelope/penelope/program/Location", "markIndependent", "()V"⟩ : MethodName) (head1 (Jvm.Cond.code (⟨"com/example/penelope/penelope/program/Location", "markIndependent", "()V"⟩ : MethodName) prog_93_method_11_code 1 none :: ws) ({ frames := 0, cells := 0, slots := 0, locals := 0 } : Room)) (fun a U => a = #[(.ref q10_0)] ∧ Z.Warmed39 U.vm ∧ U.heap = h0) (fun _ _ _ _ _ => True) (fun _ U o U' => ∃ v L, o = .returned v ∧ Q10 Z q10_0 w10_q10_0_end w10_q10_0_validEnd w10_q10_0_accepting w10_q10_0_independent w10_q10_0_breaksCycles h0 n0 v U'.heap L ∧ FrameEnd U o U' L ({ frames := 0, cells := 0, slots := 0, locals := 0 } : Room).cells ({ frames := 0, cells := 0, slots := 0, locals := 0 } : Room).slots) := by
  refine MetFree.of_bodySF (plainFor_of_name pn_1) hisR ?_
  intro p e s m args below meth c s₁ Bd hml0 hP hK
  obtain ⟨rfl, hZ, hh⟩ := hP
  have hx := Bd.exec
  have hby := Bd.bytes
  have hml : c.maxLocals = 1 := hml0
  have hown : s.vm.findClass "com/example/penelope/penelope/program/Location" = some m.cls := findClass_of_methodNamed Bd.named
  have hnm := (name_of_methodNamed Bd.named Bd.method).1
  have X0 : Stand p l e ({ frames := 0, cells := 0, slots := 0, locals := 0 } : Room) s m #[(.ref q10_0)] below meth c s₁ [] 0 0 := Stand.of_body Bd
  have e0 : s₁.heap = h0 := by rw [← hh, Bd.state]; rfl
  have N0 := Fr.nil n0
  obtain ⟨S0, hS0⟩ : ∃ z, z = s₁.setTop (entryFrame m #[(.ref q10_0)] 1) := ⟨_, rfl⟩
  have P0 : own_Go p e below S0 (s₁.setTop (mkF m 0 #[.val (.ref q10_0)] [])) := fun t k => by rw [hS0]; exact castTop (ef_10 m q10_0) k
  have P1 : own_Go p e below S0 (s₁.setTop (mkF m 2 #[.val (.ref q10_0)] [(.int (1 : Int32)), (.ref q10_0)])) := fun t k => P0 t (by
    show Steps p.tables e below (s₁.setTop (mkF m 0 #[.val (.ref q10_0)] [])) t
    refine XS.aloadN X0.here hx rfl (hb hby d10_0) rfl rfl ?_
    refine XS.iconst X0.here hx rfl (hb hby d10_1) ?_
    show Steps p.tables e below (s₁.setTop (mkF m 2 #[.val (.ref q10_0)] [(.int (1 : Int32)), (.ref q10_0)])) t
    exact k)
  obtain ⟨T2, h2, X2, e2, W2, st2⟩ := putFN X0 hx hZ hown (hw _ (List.mem_of_getElem? (i := 73) rfl)) Via.refl e0 F_q10_0_independent E_q10_0 (Or.inl (hw _ (List.mem_of_getElem? (i := 74) rfl))) (hw _ (List.mem_of_getElem? (i := 1) rfl)) (ty := .boolean) (v' := (.int (1 : Int32))) (by decide) rfl (by decide) (g := (mkF m 2 #[.val (.ref q10_0)] [(.int (1 : Int32)), (.ref q10_0)])) rfl rfl (hb hby d10_2)
  have K2 : Keep h0 h2 [q10_0] := (Keep.refl h0 [q10_0]).wr W2 (Or.inl (by simp))
  have N2 := Fr.snoc X2 N0 g_q10_0
  have F2w : Fld Z h2 q10_0 "com/example/penelope/penelope/program/Location" "independent" "Z" (.int (1 : Int32)) := F_q10_0_independent.same W2
  have P2 : own_Go p e below S0 (T2.setTop (mkF m 5 #[.val (.ref q10_0)] [])) := fun t k => P1 t (st2 _ k)
  have F3 : Fld Z h2 q10_0 "com/example/penelope/penelope/program/Location" "end" "Z" (.int w10_q10_0_end) := F_q10_0_end.other W2 (Or.inr (slot_ne (Or.inr (hw _ (List.mem_of_getElem? (i := 48) rfl))) (Or.inl (hw _ (List.mem_of_getElem? (i := 74) rfl))) (by decide) (t := .boolean) (t' := .boolean) (by decide) (by decide)))
  have F4 : Fld Z h2 q10_0 "com/example/penelope/penelope/program/Location" "validEnd" "Z" (.int w10_q10_0_validEnd) := F_q10_0_validEnd.other W2 (Or.inr (slot_ne (Or.inl (hw _ (List.mem_of_getElem? (i := 55) rfl))) (Or.inl (hw _ (List.mem_of_getElem? (i := 74) rfl))) (by decide) (t := .boolean) (t' := .boolean) (by decide) (by decide)))
  have F5 : Fld Z h2 q10_0 "com/example/penelope/penelope/program/Location" "accepting" "Z" (.int w10_q10_0_accepting) := F_q10_0_accepting.other W2 (Or.inr (slot_ne (Or.inl (hw _ (List.mem_of_getElem? (i := 67) rfl))) (Or.inl (hw _ (List.mem_of_getElem? (i := 74) rfl))) (by decide) (t := .boolean) (t' := .boolean) (by decide) (by decide)))
  have F6 : Fld Z h2 q10_0 "com/example/penelope/penelope/program/Location" "breaksCycles" "Z" (.int w10_q10_0_breaksCycles) := F_q10_0_breaksCycles.other W2 (Or.inr (slot_ne (Or.inl (hw _ (List.mem_of_getElem? (i := 81) rfl))) (Or.inl (hw _ (List.mem_of_getElem? (i := 74) rfl))) (by decide) (t := .boolean) (t' := .boolean) (by decide) (by decide)))
  obtain ⟨fs, hr, hrun, hended, hW, hsame⟩ := X2.leave (v := none) (fun _ => rfl)
  refine ⟨_, _, own_from hS0 (P2 _ ?_), hrun, hended, _, _, rfl, ?_, ⟨_, rfl⟩, hW, hsame.mono (by decide) (by decide)⟩
  · show Steps p.tables e below (T2.setTop (mkF m 5 #[.val (.ref q10_0)] [])) _
    exact X2.returnOut hx Bd.returns (hb hby d10_5) hr
  · show Q10 Z q10_0 w10_q10_0_end w10_q10_0_validEnd w10_q10_0_accepting w10_q10_0_independent w10_q10_0_breaksCycles h0 n0 _ T2.heap _
    rw [e2]
    exact ⟨rfl, N2, K2, F3, F4, F5, F2w, F6⟩
theorem d11_0 : decode prog_93_method_13_code 0 = .ok (.aload_n 0, 1) := by decide +kernel
theorem d11_1 : decode prog_93_method_13_code 1 = .ok (.iconst 1, 1) := by decide +kernel
theorem d11_2 : decode prog_93_method_13_code 2 = .ok (.putfield 45, 3) := by decide +kernel
theorem d11_5 : decode prog_93_method_13_code 5 = .ok (.return_, 1) := by decide +kernel
theorem ef_11 (m : MethodId) (q11_0 : Addr) : entryFrame m #[(.ref q11_0)] 1 = mkF m 0 #[.val (.ref q11_0)] [] := by first | (simp [entryFrame, mkF, argsToLocals, Value.category]; done) | rfl
def Q11 (Z : State) (q11_0 : Addr) (w11_q11_0_end : Int32) (w11_q11_0_validEnd : Int32) (w11_q11_0_accepting : Int32) (w11_q11_0_independent : Int32) (w11_q11_0_breaksCycles : Int32) (h0 : Heap) (n0 : Nat) (v : Option Value) (h : Heap) (L : List Loc) : Prop := v = none ∧ Fr n0 L ∧ Keep h0 h [q11_0] ∧ Fld Z h q11_0 "com/example/penelope/penelope/program/Location" "end" "Z" (.int w11_q11_0_end) ∧ Fld Z h q11_0 "com/example/penelope/penelope/program/Location" "validEnd" "Z" (.int w11_q11_0_validEnd) ∧ Fld Z h q11_0 "com/example/penelope/penelope/program/Location" "accepting" "Z" (.int w11_q11_0_accepting) ∧ Fld Z h q11_0 "com/example/penelope/penelope/program/Location" "independent" "Z" (.int w11_q11_0_independent) ∧ Fld Z h q11_0 "com/example/penelope/penelope/program/Location" "breaksCycles" "Z" (.int (1 : Int32))
set_option maxRecDepth 65536 in
set_option maxHeartbeats 40000000 in
theorem rm11 (l : Launch) (Z : State) (a0 : Array Value) (hw : ∀ d ∈ tables_1, d.before a0 Z = true) (ws : List Jvm.Cond) (q11_0 : Addr) (w11_q11_0_end : Int32) (w11_q11_0_validEnd : Int32) (w11_q11_0_accepting : Int32) (w11_q11_0_independent : Int32) (w11_q11_0_breaksCycles : Int32) (h0 : Heap) (n0 : Nat) (Z0 : n0 ≤ h0.size) (F_q11_0_end : Fld Z h0 q11_0 "com/example/penelope/penelope/program/Location" "end" "Z" (.int w11_q11_0_end)) (F_q11_0_validEnd : Fld Z h0 q11_0 "com/example/penelope/penelope/program/Location" "validEnd" "Z" (.int w11_q11_0_validEnd)) (F_q11_0_accepting : Fld Z h0 q11_0 "com/example/penelope/penelope/program/Location" "accepting" "Z" (.int w11_q11_0_accepting)) (F_q11_0_independent : Fld Z h0 q11_0 "com/example/penelope/penelope/program/Location" "independent" "Z" (.int w11_q11_0_independent)) (F_q11_0_breaksCycles : Fld Z h0 q11_0 "com/example/penelope/penelope/program/Location" "breaksCycles" "Z" (.int w11_q11_0_breaksCycles)) (E_q11_0 : Exa Z h0 q11_0 "com/example/penelope/penelope/program/Location") (g_q11_0 : n0 ≤ q11_0) :
    MetFree l (⟨"com/example/penelope/penelope/program/Location", "markBreaksCycles", "()V"⟩ : MethodName) (head1 (Jvm.Cond.code (⟨"com/example/penelope/penelope/program/Location", "markBreaksCycles", "()V"⟩ : MethodName) prog_93_method_13_code 1 none :: ws) ({ frames := 0, cells := 0, slots := 0, locals := 0 } : Room)) (fun a U => a = #[(.ref q11_0)] ∧ Z.Warmed39 U.vm ∧ U.heap = h0) (fun _ _ _ _ _ => True) (fun _ U o U' => ∃ v L, o = .returned v ∧ Q11 Z q11_0 w11_q11_0_end w11_q11_0_validEnd w11_q11_0_accepting w11_q11_0_independent w11_q11_0_breaksCycles h0 n0 v U'.heap L ∧ FrameEnd U o U' L ({ frames := 0, cells := 0, slots := 0, locals := 0 } : Room).cells ({ frames := 0, cells := 0, slots := 0, locals := 0 } : Room).slots) := by
  refine MetFree.of_bodySF (plainFor_of_name pn_1) hisR ?_
  intro p e s m args below meth c s₁ Bd hml0 hP hK
  obtain ⟨rfl, hZ, hh⟩ := hP
  have hx := Bd.exec
  have hby := Bd.bytes
  have hml : c.maxLocals = 1 := hml0
  have hown : s.vm.findClass "com/example/penelope/penelope/program/Location" = some m.cls := findClass_of_methodNamed Bd.named
  have hnm := (name_of_methodNamed Bd.named Bd.method).1
  have X0 : Stand p l e ({ frames := 0, cells := 0, slots := 0, locals := 0 } : Room) s m #[(.ref q11_0)] below meth c s₁ [] 0 0 := Stand.of_body Bd
  have e0 : s₁.heap = h0 := by rw [← hh, Bd.state]; rfl
  have N0 := Fr.nil n0
  obtain ⟨S0, hS0⟩ : ∃ z, z = s₁.setTop (entryFrame m #[(.ref q11_0)] 1) := ⟨_, rfl⟩
  have P0 : own_Go p e below S0 (s₁.setTop (mkF m 0 #[.val (.ref q11_0)] [])) := fun t k => by rw [hS0]; exact castTop (ef_11 m q11_0) k
  have P1 : own_Go p e below S0 (s₁.setTop (mkF m 2 #[.val (.ref q11_0)] [(.int (1 : Int32)), (.ref q11_0)])) := fun t k => P0 t (by
    show Steps p.tables e below (s₁.setTop (mkF m 0 #[.val (.ref q11_0)] [])) t
    refine XS.aloadN X0.here hx rfl (hb hby d11_0) rfl rfl ?_
    refine XS.iconst X0.here hx rfl (hb hby d11_1) ?_
    show Steps p.tables e below (s₁.setTop (mkF m 2 #[.val (.ref q11_0)] [(.int (1 : Int32)), (.ref q11_0)])) t
    exact k)
  obtain ⟨T2, h2, X2, e2, W2, st2⟩ := putFN X0 hx hZ hown (hw _ (List.mem_of_getElem? (i := 80) rfl)) Via.refl e0 F_q11_0_breaksCycles E_q11_0 (Or.inl (hw _ (List.mem_of_getElem? (i := 81) rfl))) (hw _ (List.mem_of_getElem? (i := 1) rfl)) (ty := .boolean) (v' := (.int (1 : Int32))) (by decide) rfl (by decide) (g := (mkF m 2 #[.val (.ref q11_0)] [(.int (1 : Int32)), (.ref q11_0)])) rfl rfl (hb hby d11_2)
  have K2 : Keep h0 h2 [q11_0] := (Keep.refl h0 [q11_0]).wr W2 (Or.inl (by simp))
  have N2 := Fr.snoc X2 N0 g_q11_0
  have F2w : Fld Z h2 q11_0 "com/example/penelope/penelope/program/Location" "breaksCycles" "Z" (.int (1 : Int32)) := F_q11_0_breaksCycles.same W2
  have P2 : own_Go p e below S0 (T2.setTop (mkF m 5 #[.val (.ref q11_0)] [])) := fun t k => P1 t (st2 _ k)
  have F3 : Fld Z h2 q11_0 "com/example/penelope/penelope/program/Location" "end" "Z" (.int w11_q11_0_end) := F_q11_0_end.other W2 (Or.inr (slot_ne (Or.inr (hw _ (List.mem_of_getElem? (i := 48) rfl))) (Or.inl (hw _ (List.mem_of_getElem? (i := 81) rfl))) (by decide) (t := .boolean) (t' := .boolean) (by decide) (by decide)))
  have F4 : Fld Z h2 q11_0 "com/example/penelope/penelope/program/Location" "validEnd" "Z" (.int w11_q11_0_validEnd) := F_q11_0_validEnd.other W2 (Or.inr (slot_ne (Or.inl (hw _ (List.mem_of_getElem? (i := 55) rfl))) (Or.inl (hw _ (List.mem_of_getElem? (i := 81) rfl))) (by decide) (t := .boolean) (t' := .boolean) (by decide) (by decide)))
  have F5 : Fld Z h2 q11_0 "com/example/penelope/penelope/program/Location" "accepting" "Z" (.int w11_q11_0_accepting) := F_q11_0_accepting.other W2 (Or.inr (slot_ne (Or.inl (hw _ (List.mem_of_getElem? (i := 67) rfl))) (Or.inl (hw _ (List.mem_of_getElem? (i := 81) rfl))) (by decide) (t := .boolean) (t' := .boolean) (by decide) (by decide)))
  have F6 : Fld Z h2 q11_0 "com/example/penelope/penelope/program/Location" "independent" "Z" (.int w11_q11_0_independent) := F_q11_0_independent.other W2 (Or.inr (slot_ne (Or.inl (hw _ (List.mem_of_getElem? (i := 74) rfl))) (Or.inl (hw _ (List.mem_of_getElem? (i := 81) rfl))) (by decide) (t := .boolean) (t' := .boolean) (by decide) (by decide)))
  obtain ⟨fs, hr, hrun, hended, hW, hsame⟩ := X2.leave (v := none) (fun _ => rfl)
  refine ⟨_, _, own_from hS0 (P2 _ ?_), hrun, hended, _, _, rfl, ?_, ⟨_, rfl⟩, hW, hsame.mono (by decide) (by decide)⟩
  · show Steps p.tables e below (T2.setTop (mkF m 5 #[.val (.ref q11_0)] [])) _
    exact X2.returnOut hx Bd.returns (hb hby d11_5) hr
  · show Q11 Z q11_0 w11_q11_0_end w11_q11_0_validEnd w11_q11_0_accepting w11_q11_0_independent w11_q11_0_breaksCycles h0 n0 _ T2.heap _
    rw [e2]
    exact ⟨rfl, N2, K2, F3, F4, F5, F6, F2w⟩
theorem pd_2 : parseMethodDescriptor "(IIZ)V" = some ⟨[.int, .int, .boolean], none⟩ := by decide +kernel
theorem pd_3 : parseMethodDescriptor "()Z" = some ⟨[], some .boolean⟩ := by decide +kernel
theorem pn_0 : plainName "com/example/penelope/penelope/program/LocationIsValidEndPinLaw" = true := by first | (simp [plainName, overriddenIn]; done) | decide +kernel
theorem ef_0 (m : MethodId) (i0 : Int32) (i1 : Int32) (i2 : Int32) : entryFrame m #[(.int i0), (.int i1), (.int i2)] maxLocals = mkF m 0 #[.val (.int i0), .val (.int i1), .val (.int i2), .unset, .unset, .unset, .unset, .unset, .unset, .unset, .unset, .unset] [] := by first | (simp [entryFrame, mkF, argsToLocals, Value.category, maxLocals]; done) | rfl
def Q0 (Z : State) (i0 : Int32) (i1 : Int32) (i2 : Int32) (z0_DEFAULTCAPACITY_EMPTY_ELEMENTDATA : Addr) (z0_EMPTY_LIST : Addr) (h0 : Heap) (n0 : Nat) (v : Option Value) (h : Heap) (L : List Loc) : Prop := v = some (.int 1) ∧ Fr n0 L
set_option maxRecDepth 65536 in
set_option maxHeartbeats 40000000 in
theorem rm0 (l : Launch) (Z : State) (a0 : Array Value) (hw : ∀ d ∈ tables_1, d.before a0 Z = true) (ws : List Jvm.Cond) (i0 : Int32) (i1 : Int32) (i2 : Int32) (z0_DEFAULTCAPACITY_EMPTY_ELEMENTDATA : Addr) (z0_EMPTY_LIST : Addr) (h0 : Heap) (n0 : Nat) (Z0 : n0 ≤ h0.size) (S_DEFAULTCAPACITY_EMPTY_ELEMENTDATA : Sta Z h0 "java/util/ArrayList" "DEFAULTCAPACITY_EMPTY_ELEMENTDATA" "[Ljava/lang/Object;" (.ref z0_DEFAULTCAPACITY_EMPTY_ELEMENTDATA)) (S_EMPTY_LIST : Sta Z h0 "java/util/ImmutableCollections" "EMPTY_LIST" "Ljava/util/ImmutableCollections$ListN;" (.ref z0_EMPTY_LIST)) :
    MetFree l x (head1 (Jvm.Cond.code x code maxLocals ret :: ws) room_1) (fun a U => a = #[(.int i0), (.int i1), (.int i2)] ∧ Z.Warmed39 U.vm ∧ U.heap = h0) (fun _ _ _ _ _ => True) (fun _ U o U' => ∃ v L, o = .returned v ∧ Q0 Z i0 i1 i2 z0_DEFAULTCAPACITY_EMPTY_ELEMENTDATA z0_EMPTY_LIST h0 n0 v U'.heap L ∧ FrameEnd U o U' L room_1.cells room_1.slots) := by
  refine MetFree.of_bodySF (plainFor_of_name pn_0) hisR ?_
  intro p e s m args below meth c s₁ Bd hml0 hP hK
  obtain ⟨rfl, hZ, hh⟩ := hP
  have hx := Bd.exec
  have hby := Bd.bytes
  have hml : c.maxLocals = 12 := hml0
  have hown : s.vm.findClass "com/example/penelope/penelope/program/LocationIsValidEndPinLaw" = some m.cls := findClass_of_methodNamed Bd.named
  have hnm := (name_of_methodNamed Bd.named Bd.method).1
  have X0 : Stand p l e room_1 s m #[(.int i0), (.int i1), (.int i2)] below meth c s₁ [] 0 0 := Stand.of_body Bd
  have e0 : s₁.heap = h0 := by rw [← hh, Bd.state]; rfl
  have N0 := Fr.nil n0
  obtain ⟨S0, hS0⟩ : ∃ z, z = s₁.setTop (entryFrame m #[(.int i0), (.int i1), (.int i2)] maxLocals) := ⟨_, rfl⟩
  have P0 : own_Go p e below S0 (s₁.setTop (mkF m 0 #[.val (.int i0), .val (.int i1), .val (.int i2), .unset, .unset, .unset, .unset, .unset, .unset, .unset, .unset, .unset] [])) := fun t k => by rw [hS0]; exact castTop (ef_0 m i0 i1 i2) k
  have P1 : own_Go p e below S0 (s₁.setTop (mkF m 3 #[.val (.int i0), .val (.int i1), .val (.int i2), .unset, .unset, .unset, .unset, .unset, .unset, .unset, .unset, .unset] [(.int (i2 &&& (1 : Int32)))])) := fun t k => P0 t (by
    show Steps p.tables e below (s₁.setTop (mkF m 0 #[.val (.int i0), .val (.int i1), .val (.int i2), .unset, .unset, .unset, .unset, .unset, .unset, .unset, .unset, .unset] [])) t
    refine XS.iloadN X0.here hx rfl (hb hby at_0) rfl ?_
    refine XS.iconst X0.here hx rfl (hb hby at_1) ?_
    refine XS.iand X0.here hx rfl (hb hby at_2) rfl ?_
    show Steps p.tables e below (s₁.setTop (mkF m 3 #[.val (.int i0), .val (.int i1), .val (.int i2), .unset, .unset, .unset, .unset, .unset, .unset, .unset, .unset, .unset] [(.int (i2 &&& (1 : Int32)))])) t
    exact k)
  by_cases c2 : (i2 &&& (1 : Int32)) = (0 : Int32)
  · skip
    have P3 : own_Go p e below S0 (s₁.setTop (mkF m 15 #[.val (.int i0), .val (.int i1), .val (.int i2), .val (.int (0 : Int32)), .unset, .unset, .unset, .unset, .unset, .unset, .unset, .unset] [(.int (i2 &&& (2 : Int32)))])) := fun t k => P1 t (by
      show Steps p.tables e below (s₁.setTop (mkF m 3 #[.val (.int i0), .val (.int i1), .val (.int i2), .unset, .unset, .unset, .unset, .unset, .unset, .unset, .unset, .unset] [(.int (i2 &&& (1 : Int32)))])) t
      refine XS.ifYes X0.here hx rfl (pc0 := 3) (pc' := 10) rfl (hb hby at_3) rfl ((if0 _ _).trans (teq c2).1) (by decide) (by decide) ?_
      refine XS.iconst X0.here hx rfl (hb hby at_10) ?_
      refine XS.istoreN X0.here hx rfl (hb hby at_11) rfl (l' := #[.val (.int i0), .val (.int i1), .val (.int i2), .val (.int (0 : Int32)), .unset, .unset, .unset, .unset, .unset, .unset, .unset, .unset]) rfl ?_
      refine XS.iloadN X0.here hx rfl (hb hby at_12) rfl ?_
      refine XS.iconst X0.here hx rfl (hb hby at_13) ?_
      refine XS.iand X0.here hx rfl (hb hby at_14) rfl ?_
      show Steps p.tables e below (s₁.setTop (mkF m 15 #[.val (.int i0), .val (.int i1), .val (.int i2), .val (.int (0 : Int32)), .unset, .unset, .unset, .unset, .unset, .unset, .unset, .unset] [(.int (i2 &&& (2 : Int32)))])) t
      exact k)
    obtain ⟨v7_s0, hv7_s0, P7⟩ : ∃ (v7_s0 : Int32), (v7_s0 = (if (i2 &&& (2 : Int32)) = (0 : Int32) then (0 : Int32) else (1 : Int32))) ∧ (own_Go p e below S0 (s₁.setTop (mkF m 23 #[.val (.int i0), .val (.int i1), .val (.int i2), .val (.int (0 : Int32)), .unset, .unset, .unset, .unset, .unset, .unset, .unset, .unset] [(.int v7_s0)]))) := by
      by_cases c4 : (i2 &&& (2 : Int32)) = (0 : Int32)
      · skip
        have P5 : own_Go p e below S0 (s₁.setTop (mkF m 23 #[.val (.int i0), .val (.int i1), .val (.int i2), .val (.int (0 : Int32)), .unset, .unset, .unset, .unset, .unset, .unset, .unset, .unset] [(.int (0 : Int32))])) := fun t k => P3 t (by
          show Steps p.tables e below (s₁.setTop (mkF m 15 #[.val (.int i0), .val (.int i1), .val (.int i2), .val (.int (0 : Int32)), .unset, .unset, .unset, .unset, .unset, .unset, .unset, .unset] [(.int (i2 &&& (2 : Int32)))])) t
          refine XS.ifYes X0.here hx rfl (pc0 := 15) (pc' := 22) rfl (hb hby at_15) rfl ((if0 _ _).trans (teq c4).1) (by decide) (by decide) ?_
          refine XS.iconst X0.here hx rfl (hb hby at_22) ?_
          show Steps p.tables e below (s₁.setTop (mkF m 23 #[.val (.int i0), .val (.int i1), .val (.int i2), .val (.int (0 : Int32)), .unset, .unset, .unset, .unset, .unset, .unset, .unset, .unset] [(.int (0 : Int32))])) t
          exact k)
        exact ⟨(0 : Int32), (Eq.symm (if_pos c4)), P5⟩
      · skip
        have P6 : own_Go p e below S0 (s₁.setTop (mkF m 23 #[.val (.int i0), .val (.int i1), .val (.int i2), .val (.int (0 : Int32)), .unset, .unset, .unset, .unset, .unset, .unset, .unset, .unset] [(.int (1 : Int32))])) := fun t k => P3 t (by
          show Steps p.tables e below (s₁.setTop (mkF m 15 #[.val (.int i0), .val (.int i1), .val (.int i2), .val (.int (0 : Int32)), .unset, .unset, .unset, .unset, .unset, .unset, .unset, .unset] [(.int (i2 &&& (2 : Int32)))])) t
          refine XS.ifNo X0.here hx rfl (hb hby at_15) rfl ((if0 _ _).trans (feq c4).1) ?_
          refine XS.iconst X0.here hx rfl (hb hby at_18) ?_
          refine XS.goto X0.here hx rfl (pc0 := 19) (pc' := 23) rfl (hb hby at_19) (by decide) (by decide) ?_
          show Steps p.tables e below (s₁.setTop (mkF m 23 #[.val (.int i0), .val (.int i1), .val (.int i2), .val (.int (0 : Int32)), .unset, .unset, .unset, .unset, .unset, .unset, .unset, .unset] [(.int (1 : Int32))])) t
          exact k)
        exact ⟨(1 : Int32), (Eq.symm (if_neg c4)), P6⟩
    have P8 : own_Go p e below S0 (s₁.setTop (mkF m 28 #[.val (.int i0), .val (.int i1), .val (.int i2), .val (.int (0 : Int32)), .val (.int v7_s0), .unset, .unset, .unset, .unset, .unset, .unset, .unset] [(.int (i2 &&& (4 : Int32)))])) := fun t k => P7 t (by
      show Steps p.tables e below (s₁.setTop (mkF m 23 #[.val (.int i0), .val (.int i1), .val (.int i2), .val (.int (0 : Int32)), .unset, .unset, .unset, .unset, .unset, .unset, .unset, .unset] [(.int v7_s0)])) t
      refine XS.istore X0.here hx rfl (hb hby at_23) rfl (l' := #[.val (.int i0), .val (.int i1), .val (.int i2), .val (.int (0 : Int32)), .val (.int v7_s0), .unset, .unset, .unset, .unset, .unset, .unset, .unset]) rfl ?_
      refine XS.iloadN X0.here hx rfl (hb hby at_25) rfl ?_
      refine XS.iconst X0.here hx rfl (hb hby at_26) ?_
      refine XS.iand X0.here hx rfl (hb hby at_27) rfl ?_
      show Steps p.tables e below (s₁.setTop (mkF m 28 #[.val (.int i0), .val (.int i1), .val (.int i2), .val (.int (0 : Int32)), .val (.int v7_s0), .unset, .unset, .unset, .unset, .unset, .unset, .unset] [(.int (i2 &&& (4 : Int32)))])) t
      exact k)
    obtain ⟨v12_s0, hv12_s0, P12⟩ : ∃ (v12_s0 : Int32), (v12_s0 = (if (i2 &&& (4 : Int32)) = (0 : Int32) then (0 : Int32) else (1 : Int32))) ∧ (own_Go p e below S0 (s₁.setTop (mkF m 36 #[.val (.int i0), .val (.int i1), .val (.int i2), .val (.int (0 : Int32)), .val (.int v7_s0), .unset, .unset, .unset, .unset, .unset, .unset, .unset] [(.int v12_s0)]))) := by
      by_cases c9 : (i2 &&& (4 : Int32)) = (0 : Int32)
      · skip
        have P10 : own_Go p e below S0 (s₁.setTop (mkF m 36 #[.val (.int i0), .val (.int i1), .val (.int i2), .val (.int (0 : Int32)), .val (.int v7_s0), .unset, .unset, .unset, .unset, .unset, .unset, .unset] [(.int (0 : Int32))])) := fun t k => P8 t (by
          show Steps p.tables e below (s₁.setTop (mkF m 28 #[.val (.int i0), .val (.int i1), .val (.int i2), .val (.int (0 : Int32)), .val (.int v7_s0), .unset, .unset, .unset, .unset, .unset, .unset, .unset] [(.int (i2 &&& (4 : Int32)))])) t
          refine XS.ifYes X0.here hx rfl (pc0 := 28) (pc' := 35) rfl (hb hby at_28) rfl ((if0 _ _).trans (teq c9).1) (by decide) (by decide) ?_
          refine XS.iconst X0.here hx rfl (hb hby at_35) ?_
          show Steps p.tables e below (s₁.setTop (mkF m 36 #[.val (.int i0), .val (.int i1), .val (.int i2), .val (.int (0 : Int32)), .val (.int v7_s0), .unset, .unset, .unset, .unset, .unset, .unset, .unset] [(.int (0 : Int32))])) t
          exact k)
        exact ⟨(0 : Int32), (Eq.symm (if_pos c9)), P10⟩
      · skip
        have P11 : own_Go p e below S0 (s₁.setTop (mkF m 36 #[.val (.int i0), .val (.int i1), .val (.int i2), .val (.int (0 : Int32)), .val (.int v7_s0), .unset, .unset, .unset, .unset, .unset, .unset, .unset] [(.int (1 : Int32))])) := fun t k => P8 t (by
          show Steps p.tables e below (s₁.setTop (mkF m 28 #[.val (.int i0), .val (.int i1), .val (.int i2), .val (.int (0 : Int32)), .val (.int v7_s0), .unset, .unset, .unset, .unset, .unset, .unset, .unset] [(.int (i2 &&& (4 : Int32)))])) t
          refine XS.ifNo X0.here hx rfl (hb hby at_28) rfl ((if0 _ _).trans (feq c9).1) ?_
          refine XS.iconst X0.here hx rfl (hb hby at_31) ?_
          refine XS.goto X0.here hx rfl (pc0 := 32) (pc' := 36) rfl (hb hby at_32) (by decide) (by decide) ?_
          show Steps p.tables e below (s₁.setTop (mkF m 36 #[.val (.int i0), .val (.int i1), .val (.int i2), .val (.int (0 : Int32)), .val (.int v7_s0), .unset, .unset, .unset, .unset, .unset, .unset, .unset] [(.int (1 : Int32))])) t
          exact k)
        exact ⟨(1 : Int32), (Eq.symm (if_neg c9)), P11⟩
    have P13 : own_Go p e below S0 (s₁.setTop (mkF m 38 #[.val (.int i0), .val (.int i1), .val (.int i2), .val (.int (0 : Int32)), .val (.int v7_s0), .val (.int v12_s0), .unset, .unset, .unset, .unset, .unset, .unset] [])) := fun t k => P12 t (by
      show Steps p.tables e below (s₁.setTop (mkF m 36 #[.val (.int i0), .val (.int i1), .val (.int i2), .val (.int (0 : Int32)), .val (.int v7_s0), .unset, .unset, .unset, .unset, .unset, .unset, .unset] [(.int v12_s0)])) t
      refine XS.istore X0.here hx rfl (hb hby at_36) rfl (l' := #[.val (.int i0), .val (.int i1), .val (.int i2), .val (.int (0 : Int32)), .val (.int v7_s0), .val (.int v12_s0), .unset, .unset, .unset, .unset, .unset, .unset]) rfl ?_
      show Steps p.tables e below (s₁.setTop (mkF m 38 #[.val (.int i0), .val (.int i1), .val (.int i2), .val (.int (0 : Int32)), .val (.int v7_s0), .val (.int v12_s0), .unset, .unset, .unset, .unset, .unset, .unset] [])) t
      exact k)
    obtain ⟨T14, h14, X14, e14, E14, A14, D14, -, st14⟩ := newO X0 hx hZ hown (hw _ (List.mem_of_getElem? (i := 0) rfl)) (hw _ (List.mem_of_getElem? (i := 1) rfl)) (hw _ (List.mem_of_getElem? (i := 2) rfl)) e0 (g := (mkF m 38 #[.val (.int i0), .val (.int i1), .val (.int i2), .val (.int (0 : Int32)), .val (.int v7_s0), .val (.int v12_s0), .unset, .unset, .unset, .unset, .unset, .unset] [])) rfl (hb hby at_38) (by decide) (by decide)
    obtain ⟨b14, g14⟩ : ∃ z, z = h0.size := ⟨_, rfl⟩
    rw [← g14] at A14 D14 st14
    have sz_b14 : h0.size ≤ b14 := Nat.le_of_eq g14.symm
    have g_b14 : n0 ≤ b14 := Nat.le_trans Z0 sz_b14
    have o_b14 : h0.size ≤ b14 := sz_b14
    have K14 : Keep h0 h14 [] := (Keep.refl h0 []).ext E14
    have F14_transitions : Fld Z h14 b14 "com/example/penelope/penelope/program/Location" "transitions" "Ljava/util/List;" .null := D14 (Or.inr (hw _ (List.mem_of_getElem? (i := 34) rfl))) (ty := (.object "java/util/List")) (by decide)
    have F14_deadVariables : Fld Z h14 b14 "com/example/penelope/penelope/program/Location" "deadVariables" "Ljava/util/List;" .null := D14 (Or.inl (hw _ (List.mem_of_getElem? (i := 42) rfl))) (ty := (.object "java/util/List")) (by decide)
    have F14_id : Fld Z h14 b14 "com/example/penelope/penelope/program/Location" "id" "I" (.int (0 : Int32)) := D14 (Or.inr (hw _ (List.mem_of_getElem? (i := 44) rfl))) (ty := .int) (by decide)
    have F14_line : Fld Z h14 b14 "com/example/penelope/penelope/program/Location" "line" "I" (.int (0 : Int32)) := D14 (Or.inr (hw _ (List.mem_of_getElem? (i := 46) rfl))) (ty := .int) (by decide)
    have F14_end : Fld Z h14 b14 "com/example/penelope/penelope/program/Location" "end" "Z" (.int (0 : Int32)) := D14 (Or.inr (hw _ (List.mem_of_getElem? (i := 48) rfl))) (ty := .boolean) (by decide)
    have F14_validEnd : Fld Z h14 b14 "com/example/penelope/penelope/program/Location" "validEnd" "Z" (.int (0 : Int32)) := D14 (Or.inl (hw _ (List.mem_of_getElem? (i := 55) rfl))) (ty := .boolean) (by decide)
    have F14_accepting : Fld Z h14 b14 "com/example/penelope/penelope/program/Location" "accepting" "Z" (.int (0 : Int32)) := D14 (Or.inl (hw _ (List.mem_of_getElem? (i := 67) rfl))) (ty := .boolean) (by decide)
    have F14_independent : Fld Z h14 b14 "com/example/penelope/penelope/program/Location" "independent" "Z" (.int (0 : Int32)) := D14 (Or.inl (hw _ (List.mem_of_getElem? (i := 74) rfl))) (ty := .boolean) (by decide)
    have F14_breaksCycles : Fld Z h14 b14 "com/example/penelope/penelope/program/Location" "breaksCycles" "Z" (.int (0 : Int32)) := D14 (Or.inl (hw _ (List.mem_of_getElem? (i := 81) rfl))) (ty := .boolean) (by decide)
    have P14 : own_Go p e below S0 (T14.setTop (mkF m 41 #[.val (.int i0), .val (.int i1), .val (.int i2), .val (.int (0 : Int32)), .val (.int v7_s0), .val (.int v12_s0), .unset, .unset, .unset, .unset, .unset, .unset] [(.ref b14)])) := fun t k => P13 t (st14 _ k)
    have F15 : Sta Z h14 "java/util/ArrayList" "DEFAULTCAPACITY_EMPTY_ELEMENTDATA" "[Ljava/lang/Object;" (.ref z0_DEFAULTCAPACITY_EMPTY_ELEMENTDATA) := S_DEFAULTCAPACITY_EMPTY_ELEMENTDATA.ext E14
    have F16 : Sta Z h14 "java/util/ImmutableCollections" "EMPTY_LIST" "Ljava/util/ImmutableCollections$ListN;" (.ref z0_EMPTY_LIST) := S_EMPTY_LIST.ext E14
    have P17 : own_Go p e below S0 (T14.setTop (mkF m 45 #[.val (.int i0), .val (.int i1), .val (.int i2), .val (.int (0 : Int32)), .val (.int v7_s0), .val (.int v12_s0), .unset, .unset, .unset, .unset, .unset, .unset] [(.int (0 : Int32)), (.int i1), (.int i0), (.ref b14), (.ref b14)])) := fun t k => P14 t (by
      show Steps p.tables e below (T14.setTop (mkF m 41 #[.val (.int i0), .val (.int i1), .val (.int i2), .val (.int (0 : Int32)), .val (.int v7_s0), .val (.int v12_s0), .unset, .unset, .unset, .unset, .unset, .unset] [(.ref b14)])) t
      refine XS.dup X14.here hx rfl (hb hby at_41) rfl rfl ?_
      refine XS.iloadN X14.here hx rfl (hb hby at_42) rfl ?_
      refine XS.iloadN X14.here hx rfl (hb hby at_43) rfl ?_
      refine XS.iloadN X14.here hx rfl (hb hby at_44) rfl ?_
      show Steps p.tables e below (T14.setTop (mkF m 45 #[.val (.int i0), .val (.int i1), .val (.int i2), .val (.int (0 : Int32)), .val (.int v7_s0), .val (.int v12_s0), .unset, .unset, .unset, .unset, .unset, .unset] [(.int (0 : Int32)), (.int i1), (.int i0), (.ref b14), (.ref b14)])) t
      exact k)
    obtain ⟨_, _, ⟨T18, L18, k18, n18⟩, -, X18, ⟨Lc18, hQ18, l18, y18, z18⟩, st18⟩ := X14.specialBack hx (y := (⟨"com/example/penelope/penelope/program/Location", "<init>", "(IIZ)V"⟩ : MethodName)) rfl hown (mvT hZ (hw _ (List.mem_of_getElem? (i := 3) rfl))) (mvT hZ (hw _ (List.mem_of_getElem? (i := 4) rfl))) (mvT hZ (hw _ (List.mem_of_getElem? (i := 5) rfl))) (by decide) (backOf (W := 1) (rm1f l Z a0 hw [] b14 i0 i1 (0 : Int32) (0 : Int32) (0 : Int32) (0 : Int32) z0_DEFAULTCAPACITY_EMPTY_ELEMENTDATA .null z0_EMPTY_LIST .null (.int (0 : Int32)) (.int (0 : Int32)) (.int (0 : Int32)) h14 n0 (Nat.le_trans Z0 K14.1) F14_validEnd F14_accepting F14_independent F14_breaksCycles F15 A14 F14_transitions g_b14 F16 F14_deadVariables F14_id F14_line F14_end) hZ (hw _ (List.mem_of_getElem? (i := 5) rfl)) (hw _ (List.mem_of_getElem? (i := 2) rfl)) (by decide) (by decide)) (g := (mkF m 45 #[.val (.int i0), .val (.int i1), .val (.int i2), .val (.int (0 : Int32)), .val (.int v7_s0), .val (.int v12_s0), .unset, .unset, .unset, .unset, .unset, .unset] [(.int (0 : Int32)), (.int i1), (.int i0), (.ref b14), (.ref b14)])) rfl (by rw [hml]; rfl) (Steps.refl _) (a := b14) (argsL := [(.int i0), (.int i1), (.int (0 : Int32))]) (rest := [(.ref b14)]) (lenOf pd_2 rfl) rfl (by show 2 * 0 + _ ≤ _; exact Nat.le_of_eq rfl) (hb hby at_45) (fun _ _ => ⟨rfl, e14, (by decide : 1 + 1 ≤ _), (by decide : 9 + 3 ≤ _)⟩)
    dsimp only [Pt.U, Pt.locs, Pt.cells, Pt.slots] at X18 l18 y18 z18 st18 hQ18
    subst l18 y18 z18
    obtain ⟨b4_18, rfl, N18q, Kc18, sz_b4_18, F18_0, F18_1, F18_2, F18_3, F18_4, F18_5, F18_6, F18_7, F18_8, F18_9, F18_10, F18_11⟩ := hQ18
    have N18 := Fr.app N0 N18q
    have ne_b14_b4_18 : b14 ≠ b4_18 := Nat.ne_of_lt (Nat.lt_of_lt_of_le A14.lt sz_b4_18)
    have g_b4_18 : n0 ≤ b4_18 := Nat.le_trans (Nat.le_trans Z0 K14.1) sz_b4_18
    have o_b4_18 : h0.size ≤ b4_18 := Nat.le_trans K14.1 sz_b4_18
    have K18 : Keep h0 T18.heap [] := Keep.trans K14 Kc18 (allS (Or.inr o_b14) all0)
    have P18 : own_Go p e below S0 (T18.setTop (mkF m 48 #[.val (.int i0), .val (.int i1), .val (.int i2), .val (.int (0 : Int32)), .val (.int v7_s0), .val (.int v12_s0), .unset, .unset, .unset, .unset, .unset, .unset] [(.ref b14)])) := fun t k => P17 t (st18.trans k)
    have F19 : Exa Z T18.heap b14 "com/example/penelope/penelope/program/Location" := A14.keep Kc18
    have P20 : own_Go p e below S0 (T18.setTop (mkF m 52 #[.val (.int i0), .val (.int i1), .val (.int i2), .val (.int (0 : Int32)), .val (.int v7_s0), .val (.int v12_s0), .val (.ref b14), .unset, .unset, .unset, .unset, .unset] [(.ref b14)])) := fun t k => P18 t (by
      show Steps p.tables e below (T18.setTop (mkF m 48 #[.val (.int i0), .val (.int i1), .val (.int i2), .val (.int (0 : Int32)), .val (.int v7_s0), .val (.int v12_s0), .unset, .unset, .unset, .unset, .unset, .unset] [(.ref b14)])) t
      refine XS.astore X18.here hx rfl (hb hby at_48) rfl rfl (l' := #[.val (.int i0), .val (.int i1), .val (.int i2), .val (.int (0 : Int32)), .val (.int v7_s0), .val (.int v12_s0), .val (.ref b14), .unset, .unset, .unset, .unset, .unset]) rfl ?_
      refine XS.aload X18.here hx rfl (hb hby at_50) rfl rfl ?_
      show Steps p.tables e below (T18.setTop (mkF m 52 #[.val (.int i0), .val (.int i1), .val (.int i2), .val (.int (0 : Int32)), .val (.int v7_s0), .val (.int v12_s0), .val (.ref b14), .unset, .unset, .unset, .unset, .unset] [(.ref b14)])) t
      exact k)
    obtain ⟨cq21, kq21, q21a, q21b, q21c⟩ := isOf hZ rfl F19
    obtain ⟨_, _, ⟨T21, L21, k21, n21⟩, -, X21, ⟨Lc21, hQ21, l21, y21, z21⟩, st21⟩ := X18.virtualBack hx (y := (⟨"com/example/penelope/penelope/program/Location", "isValidEnd", "()Z"⟩ : MethodName)) (z := (⟨"com/example/penelope/penelope/program/Location", "isValidEnd", "()Z"⟩ : MethodName)) hown (mvT hZ (hw _ (List.mem_of_getElem? (i := 49) rfl))) (mvT hZ (hw _ (List.mem_of_getElem? (i := 50) rfl))) (notFace_of_selects (args := #[]) (mvT hZ (hw _ (List.mem_of_getElem? (i := 52) rfl)))) (mvT hZ (hw _ (List.mem_of_getElem? (i := 52) rfl))) (mvT hZ (hw _ (List.mem_of_getElem? (i := 51) rfl))) (by decide) (backOf (W := 0) (rm7 l Z a0 hw [] b14 (0 : Int32) (0 : Int32) T18.heap n0 (Nat.le_trans Z0 K18.1) F18_11 F18_0) hZ (hw _ (List.mem_of_getElem? (i := 53) rfl)) (hw _ (List.mem_of_getElem? (i := 2) rfl)) (by decide) (by decide)) q21a q21c (g := (mkF m 52 #[.val (.int i0), .val (.int i1), .val (.int i2), .val (.int (0 : Int32)), .val (.int v7_s0), .val (.int v12_s0), .val (.ref b14), .unset, .unset, .unset, .unset, .unset] [(.ref b14)])) rfl (by rw [hml]; rfl) (Steps.refl _) (argsL := []) (rest := []) (lenOf pd_3 rfl) rfl (by show 2 * 0 + _ ≤ _; exact Nat.le_of_eq rfl) (hb hby at_52) (fun _ _ => ⟨rfl, rfl, (by decide : 2 + 0 ≤ _), (by decide : 12 + 0 ≤ _)⟩)
    dsimp only [Pt.U, Pt.locs, Pt.cells, Pt.slots] at X21 l21 y21 z21 st21 hQ21
    subst l21 y21 z21
    obtain ⟨rfl, N21q, e21⟩ := hQ21
    have N21 := Fr.app N18 N21q
    have P21 : own_Go p e below S0 (T21.setTop (mkF m 55 #[.val (.int i0), .val (.int i1), .val (.int i2), .val (.int (0 : Int32)), .val (.int v7_s0), .val (.int v12_s0), .val (.ref b14), .unset, .unset, .unset, .unset, .unset] [(.int (r7 (0 : Int32) (0 : Int32)))])) := fun t k => P20 t (st21.trans k)
    have c22 : (r7 (0 : Int32) (0 : Int32)) = (0 : Int32) := by decide
    have F23 : Sta Z T18.heap "java/util/ArrayList" "DEFAULTCAPACITY_EMPTY_ELEMENTDATA" "[Ljava/lang/Object;" (.ref z0_DEFAULTCAPACITY_EMPTY_ELEMENTDATA) := own_staK F15 Kc18 (allS (own_plE A14) all0)
    have F24 : Sta Z T18.heap "java/util/ImmutableCollections" "EMPTY_LIST" "Ljava/util/ImmutableCollections$ListN;" (.ref z0_EMPTY_LIST) := own_staK F16 Kc18 (allS (own_plE A14) all0)
    have P25 : own_Go p e below S0 (T21.setTop (mkF m 72 #[.val (.int i0), .val (.int i1), .val (.int i2), .val (.int (0 : Int32)), .val (.int v7_s0), .val (.int v12_s0), .val (.ref b14), .val (.int (r7 (0 : Int32) (0 : Int32))), .val (.int (1 : Int32)), .unset, .unset, .unset] [(.int v12_s0)])) := fun t k => P21 t (by
      show Steps p.tables e below (T21.setTop (mkF m 55 #[.val (.int i0), .val (.int i1), .val (.int i2), .val (.int (0 : Int32)), .val (.int v7_s0), .val (.int v12_s0), .val (.ref b14), .unset, .unset, .unset, .unset, .unset] [(.int (r7 (0 : Int32) (0 : Int32)))])) t
      refine XS.istore X21.here hx rfl (hb hby at_55) rfl (l' := #[.val (.int i0), .val (.int i1), .val (.int i2), .val (.int (0 : Int32)), .val (.int v7_s0), .val (.int v12_s0), .val (.ref b14), .val (.int (r7 (0 : Int32) (0 : Int32))), .unset, .unset, .unset, .unset]) rfl ?_
      refine XS.iload X21.here hx rfl (hb hby at_57) rfl ?_
      refine XS.iloadN X21.here hx rfl (hb hby at_59) rfl ?_
      refine XS.icmpNo X21.here hx rfl (hb hby at_60) rfl (teq c22).2 ?_
      refine XS.iconst X21.here hx rfl (hb hby at_63) ?_
      refine XS.goto X21.here hx rfl (pc0 := 64) (pc' := 68) rfl (hb hby at_64) (by decide) (by decide) ?_
      show Steps p.tables e below (T21.setTop (mkF m 68 #[.val (.int i0), .val (.int i1), .val (.int i2), .val (.int (0 : Int32)), .val (.int v7_s0), .val (.int v12_s0), .val (.ref b14), .val (.int (r7 (0 : Int32) (0 : Int32))), .unset, .unset, .unset, .unset] [(.int (1 : Int32))])) t
      refine XS.istore X21.here hx rfl (hb hby at_68) rfl (l' := #[.val (.int i0), .val (.int i1), .val (.int i2), .val (.int (0 : Int32)), .val (.int v7_s0), .val (.int v12_s0), .val (.ref b14), .val (.int (r7 (0 : Int32) (0 : Int32))), .val (.int (1 : Int32)), .unset, .unset, .unset]) rfl ?_
      refine XS.iload X21.here hx rfl (hb hby at_70) rfl ?_
      show Steps p.tables e below (T21.setTop (mkF m 72 #[.val (.int i0), .val (.int i1), .val (.int i2), .val (.int (0 : Int32)), .val (.int v7_s0), .val (.int v12_s0), .val (.ref b14), .val (.int (r7 (0 : Int32) (0 : Int32))), .val (.int (1 : Int32)), .unset, .unset, .unset] [(.int v12_s0)])) t
      exact k)
    obtain ⟨T46, lo46, h46, v46_f_b14_accepting, v46_f_b14_independent, v46_f_b14_breaksCycles, X46, e46, N46, K46, F47, F48, F49, F50, F51, F52, F53, F54, F55, hv46_f_b14_accepting, hv46_f_b14_independent, hv46_f_b14_breaksCycles, P46⟩ : ∃ (T46 : State) (lo46 : List Loc) (h46 : Heap) (v46_f_b14_accepting : Int32) (v46_f_b14_independent : Int32) (v46_f_b14_breaksCycles : Int32), (Stand p l e room_1 s m #[(.int i0), (.int i1), (.int i2)] below meth c T46 lo46 2 12) ∧ (T46.heap = h46) ∧ (Fr n0 lo46) ∧ (Keep h0 h46 []) ∧ (Exa Z h46 b14 "com/example/penelope/penelope/program/Location") ∧ (Sta Z h46 "java/util/ArrayList" "DEFAULTCAPACITY_EMPTY_ELEMENTDATA" "[Ljava/lang/Object;" (.ref z0_DEFAULTCAPACITY_EMPTY_ELEMENTDATA)) ∧ (Sta Z h46 "java/util/ImmutableCollections" "EMPTY_LIST" "Ljava/util/ImmutableCollections$ListN;" (.ref z0_EMPTY_LIST)) ∧ (Fld Z h46 b14 "com/example/penelope/penelope/program/Location" "validEnd" "Z" (.int (0 : Int32))) ∧ (Fld Z h46 b14 "com/example/penelope/penelope/program/Location" "accepting" "Z" (.int v46_f_b14_accepting)) ∧ (Fld Z h46 b14 "com/example/penelope/penelope/program/Location" "independent" "Z" (.int v46_f_b14_independent)) ∧ (Fld Z h46 b14 "com/example/penelope/penelope/program/Location" "breaksCycles" "Z" (.int v46_f_b14_breaksCycles)) ∧ (Exa Z h46 b4_18 "java/util/ArrayList") ∧ (Fld Z h46 b14 "com/example/penelope/penelope/program/Location" "end" "Z" (.int (0 : Int32))) ∧ (v46_f_b14_accepting = (if v12_s0 = (0 : Int32) then (0 : Int32) else (1 : Int32))) ∧ (v46_f_b14_independent = (if v12_s0 = (0 : Int32) then (0 : Int32) else (1 : Int32))) ∧ (v46_f_b14_breaksCycles = (if v12_s0 = (0 : Int32) then (0 : Int32) else (1 : Int32))) ∧ (own_Go p e below S0 (T46.setTop (mkF m 90 #[.val (.int i0), .val (.int i1), .val (.int i2), .val (.int (0 : Int32)), .val (.int v7_s0), .val (.int v12_s0), .val (.ref b14), .val (.int (r7 (0 : Int32) (0 : Int32))), .val (.int (1 : Int32)), .unset, .unset, .unset] []))) := by
      by_cases c26 : v12_s0 = (0 : Int32)
      · skip
        have P27 : own_Go p e below S0 (T21.setTop (mkF m 90 #[.val (.int i0), .val (.int i1), .val (.int i2), .val (.int (0 : Int32)), .val (.int v7_s0), .val (.int v12_s0), .val (.ref b14), .val (.int (r7 (0 : Int32) (0 : Int32))), .val (.int (1 : Int32)), .unset, .unset, .unset] [])) := fun t k => P25 t (by
          show Steps p.tables e below (T21.setTop (mkF m 72 #[.val (.int i0), .val (.int i1), .val (.int i2), .val (.int (0 : Int32)), .val (.int v7_s0), .val (.int v12_s0), .val (.ref b14), .val (.int (r7 (0 : Int32) (0 : Int32))), .val (.int (1 : Int32)), .unset, .unset, .unset] [(.int v12_s0)])) t
          refine XS.ifYes X21.here hx rfl (pc0 := 72) (pc' := 90) rfl (hb hby at_72) rfl ((if0 _ _).trans (teq c26).1) (by decide) (by decide) ?_
          show Steps p.tables e below (T21.setTop (mkF m 90 #[.val (.int i0), .val (.int i1), .val (.int i2), .val (.int (0 : Int32)), .val (.int v7_s0), .val (.int v12_s0), .val (.ref b14), .val (.int (r7 (0 : Int32) (0 : Int32))), .val (.int (1 : Int32)), .unset, .unset, .unset] [])) t
          exact k)
        exact ⟨T21, _, T18.heap, (0 : Int32), (0 : Int32), (0 : Int32), X21, e21, N21, K18, F19, F23, F24, F18_0, F18_1, F18_2, F18_3, F18_4, F18_11, (Eq.symm (if_pos c26)), (Eq.symm (if_pos c26)), (Eq.symm (if_pos c26)), P27⟩
      · skip
        have P28 : own_Go p e below S0 (T21.setTop (mkF m 77 #[.val (.int i0), .val (.int i1), .val (.int i2), .val (.int (0 : Int32)), .val (.int v7_s0), .val (.int v12_s0), .val (.ref b14), .val (.int (r7 (0 : Int32) (0 : Int32))), .val (.int (1 : Int32)), .unset, .unset, .unset] [(.ref b14)])) := fun t k => P25 t (by
          show Steps p.tables e below (T21.setTop (mkF m 72 #[.val (.int i0), .val (.int i1), .val (.int i2), .val (.int (0 : Int32)), .val (.int v7_s0), .val (.int v12_s0), .val (.ref b14), .val (.int (r7 (0 : Int32) (0 : Int32))), .val (.int (1 : Int32)), .unset, .unset, .unset] [(.int v12_s0)])) t
          refine XS.ifNo X21.here hx rfl (hb hby at_72) rfl ((if0 _ _).trans (feq c26).1) ?_
          refine XS.aload X21.here hx rfl (hb hby at_75) rfl rfl ?_
          show Steps p.tables e below (T21.setTop (mkF m 77 #[.val (.int i0), .val (.int i1), .val (.int i2), .val (.int (0 : Int32)), .val (.int v7_s0), .val (.int v12_s0), .val (.ref b14), .val (.int (r7 (0 : Int32) (0 : Int32))), .val (.int (1 : Int32)), .unset, .unset, .unset] [(.ref b14)])) t
          exact k)
        obtain ⟨cq29, kq29, q29a, q29b, q29c⟩ := isOf hZ e21 F19
        obtain ⟨_, _, ⟨T29, L29, k29, n29⟩, -, X29, ⟨Lc29, hQ29, l29, y29, z29⟩, st29⟩ := X21.virtualBack hx (y := (⟨"com/example/penelope/penelope/program/Location", "markAccepting", "()V"⟩ : MethodName)) (z := (⟨"com/example/penelope/penelope/program/Location", "markAccepting", "()V"⟩ : MethodName)) hown (mvT hZ (hw _ (List.mem_of_getElem? (i := 61) rfl))) (mvT hZ (hw _ (List.mem_of_getElem? (i := 62) rfl))) (notFace_of_selects (args := #[]) (mvT hZ (hw _ (List.mem_of_getElem? (i := 64) rfl)))) (mvT hZ (hw _ (List.mem_of_getElem? (i := 64) rfl))) (mvT hZ (hw _ (List.mem_of_getElem? (i := 63) rfl))) (by decide) (backOf (W := 0) (rm9 l Z a0 hw [] b14 (0 : Int32) (0 : Int32) (0 : Int32) (0 : Int32) (0 : Int32) T18.heap n0 (Nat.le_trans Z0 K18.1) F18_11 F18_0 F18_1 F18_2 F18_3 F19 g_b14) hZ (hw _ (List.mem_of_getElem? (i := 65) rfl)) (hw _ (List.mem_of_getElem? (i := 2) rfl)) (by decide) (by decide)) q29a q29c (g := (mkF m 77 #[.val (.int i0), .val (.int i1), .val (.int i2), .val (.int (0 : Int32)), .val (.int v7_s0), .val (.int v12_s0), .val (.ref b14), .val (.int (r7 (0 : Int32) (0 : Int32))), .val (.int (1 : Int32)), .unset, .unset, .unset] [(.ref b14)])) rfl (by rw [hml]; rfl) (Steps.refl _) (argsL := []) (rest := []) (lenOf pd_0 rfl) rfl (by show 2 * 0 + _ ≤ _; exact Nat.le_of_eq rfl) (hb hby at_77) (fun _ _ => ⟨rfl, e21, (by decide : 2 + 0 ≤ _), (by decide : 12 + 0 ≤ _)⟩)
        dsimp only [Pt.U, Pt.locs, Pt.cells, Pt.slots] at X29 l29 y29 z29 st29 hQ29
        subst l29 y29 z29
        obtain ⟨rfl, N29q, Kc29, F29_0, F29_1, F29_2, F29_3, F29_4⟩ := hQ29
        have N29 := Fr.app N21 N29q
        have K29 : Keep h0 T29.heap [] := Keep.trans K18 Kc29 (allS (Or.inr o_b14) all0)
        have P29 : own_Go p e below S0 (T29.setTop (mkF m 80 #[.val (.int i0), .val (.int i1), .val (.int i2), .val (.int (0 : Int32)), .val (.int v7_s0), .val (.int v12_s0), .val (.ref b14), .val (.int (r7 (0 : Int32) (0 : Int32))), .val (.int (1 : Int32)), .unset, .unset, .unset] [])) := fun t k => P28 t (st29.trans k)
        have F30 : Exa Z T29.heap b14 "com/example/penelope/penelope/program/Location" := F19.keep Kc29
        have P31 : own_Go p e below S0 (T29.setTop (mkF m 82 #[.val (.int i0), .val (.int i1), .val (.int i2), .val (.int (0 : Int32)), .val (.int v7_s0), .val (.int v12_s0), .val (.ref b14), .val (.int (r7 (0 : Int32) (0 : Int32))), .val (.int (1 : Int32)), .unset, .unset, .unset] [(.ref b14)])) := fun t k => P29 t (by
          show Steps p.tables e below (T29.setTop (mkF m 80 #[.val (.int i0), .val (.int i1), .val (.int i2), .val (.int (0 : Int32)), .val (.int v7_s0), .val (.int v12_s0), .val (.ref b14), .val (.int (r7 (0 : Int32) (0 : Int32))), .val (.int (1 : Int32)), .unset, .unset, .unset] [])) t
          refine XS.aload X29.here hx rfl (hb hby at_80) rfl rfl ?_
          show Steps p.tables e below (T29.setTop (mkF m 82 #[.val (.int i0), .val (.int i1), .val (.int i2), .val (.int (0 : Int32)), .val (.int v7_s0), .val (.int v12_s0), .val (.ref b14), .val (.int (r7 (0 : Int32) (0 : Int32))), .val (.int (1 : Int32)), .unset, .unset, .unset] [(.ref b14)])) t
          exact k)
        obtain ⟨cq32, kq32, q32a, q32b, q32c⟩ := isOf hZ rfl F30
        obtain ⟨_, _, ⟨T32, L32, k32, n32⟩, -, X32, ⟨Lc32, hQ32, l32, y32, z32⟩, st32⟩ := X29.virtualBack hx (y := (⟨"com/example/penelope/penelope/program/Location", "markIndependent", "()V"⟩ : MethodName)) (z := (⟨"com/example/penelope/penelope/program/Location", "markIndependent", "()V"⟩ : MethodName)) hown (mvT hZ (hw _ (List.mem_of_getElem? (i := 68) rfl))) (mvT hZ (hw _ (List.mem_of_getElem? (i := 69) rfl))) (notFace_of_selects (args := #[]) (mvT hZ (hw _ (List.mem_of_getElem? (i := 71) rfl)))) (mvT hZ (hw _ (List.mem_of_getElem? (i := 71) rfl))) (mvT hZ (hw _ (List.mem_of_getElem? (i := 70) rfl))) (by decide) (backOf (W := 0) (rm10 l Z a0 hw [] b14 (0 : Int32) (0 : Int32) (1 : Int32) (0 : Int32) (0 : Int32) T29.heap n0 (Nat.le_trans Z0 K29.1) F29_0 F29_1 F29_2 F29_3 F29_4 F30 g_b14) hZ (hw _ (List.mem_of_getElem? (i := 72) rfl)) (hw _ (List.mem_of_getElem? (i := 2) rfl)) (by decide) (by decide)) q32a q32c (g := (mkF m 82 #[.val (.int i0), .val (.int i1), .val (.int i2), .val (.int (0 : Int32)), .val (.int v7_s0), .val (.int v12_s0), .val (.ref b14), .val (.int (r7 (0 : Int32) (0 : Int32))), .val (.int (1 : Int32)), .unset, .unset, .unset] [(.ref b14)])) rfl (by rw [hml]; rfl) (Steps.refl _) (argsL := []) (rest := []) (lenOf pd_0 rfl) rfl (by show 2 * 0 + _ ≤ _; exact Nat.le_of_eq rfl) (hb hby at_82) (fun _ _ => ⟨rfl, rfl, (by decide : 2 + 0 ≤ _), (by decide : 12 + 0 ≤ _)⟩)
        dsimp only [Pt.U, Pt.locs, Pt.cells, Pt.slots] at X32 l32 y32 z32 st32 hQ32
        subst l32 y32 z32
        obtain ⟨rfl, N32q, Kc32, F32_0, F32_1, F32_2, F32_3, F32_4⟩ := hQ32
        have N32 := Fr.app N29 N32q
        have K32 : Keep h0 T32.heap [] := Keep.trans K29 Kc32 (allS (Or.inr o_b14) all0)
        have P32 : own_Go p e below S0 (T32.setTop (mkF m 85 #[.val (.int i0), .val (.int i1), .val (.int i2), .val (.int (0 : Int32)), .val (.int v7_s0), .val (.int v12_s0), .val (.ref b14), .val (.int (r7 (0 : Int32) (0 : Int32))), .val (.int (1 : Int32)), .unset, .unset, .unset] [])) := fun t k => P31 t (st32.trans k)
        have F33 : Exa Z T32.heap b14 "com/example/penelope/penelope/program/Location" := F30.keep Kc32
        have P34 : own_Go p e below S0 (T32.setTop (mkF m 87 #[.val (.int i0), .val (.int i1), .val (.int i2), .val (.int (0 : Int32)), .val (.int v7_s0), .val (.int v12_s0), .val (.ref b14), .val (.int (r7 (0 : Int32) (0 : Int32))), .val (.int (1 : Int32)), .unset, .unset, .unset] [(.ref b14)])) := fun t k => P32 t (by
          show Steps p.tables e below (T32.setTop (mkF m 85 #[.val (.int i0), .val (.int i1), .val (.int i2), .val (.int (0 : Int32)), .val (.int v7_s0), .val (.int v12_s0), .val (.ref b14), .val (.int (r7 (0 : Int32) (0 : Int32))), .val (.int (1 : Int32)), .unset, .unset, .unset] [])) t
          refine XS.aload X32.here hx rfl (hb hby at_85) rfl rfl ?_
          show Steps p.tables e below (T32.setTop (mkF m 87 #[.val (.int i0), .val (.int i1), .val (.int i2), .val (.int (0 : Int32)), .val (.int v7_s0), .val (.int v12_s0), .val (.ref b14), .val (.int (r7 (0 : Int32) (0 : Int32))), .val (.int (1 : Int32)), .unset, .unset, .unset] [(.ref b14)])) t
          exact k)
        obtain ⟨cq35, kq35, q35a, q35b, q35c⟩ := isOf hZ rfl F33
        obtain ⟨_, _, ⟨T35, L35, k35, n35⟩, -, X35, ⟨Lc35, hQ35, l35, y35, z35⟩, st35⟩ := X32.virtualBack hx (y := (⟨"com/example/penelope/penelope/program/Location", "markBreaksCycles", "()V"⟩ : MethodName)) (z := (⟨"com/example/penelope/penelope/program/Location", "markBreaksCycles", "()V"⟩ : MethodName)) hown (mvT hZ (hw _ (List.mem_of_getElem? (i := 75) rfl))) (mvT hZ (hw _ (List.mem_of_getElem? (i := 76) rfl))) (notFace_of_selects (args := #[]) (mvT hZ (hw _ (List.mem_of_getElem? (i := 78) rfl)))) (mvT hZ (hw _ (List.mem_of_getElem? (i := 78) rfl))) (mvT hZ (hw _ (List.mem_of_getElem? (i := 77) rfl))) (by decide) (backOf (W := 0) (rm11 l Z a0 hw [] b14 (0 : Int32) (0 : Int32) (1 : Int32) (1 : Int32) (0 : Int32) T32.heap n0 (Nat.le_trans Z0 K32.1) F32_0 F32_1 F32_2 F32_3 F32_4 F33 g_b14) hZ (hw _ (List.mem_of_getElem? (i := 79) rfl)) (hw _ (List.mem_of_getElem? (i := 2) rfl)) (by decide) (by decide)) q35a q35c (g := (mkF m 87 #[.val (.int i0), .val (.int i1), .val (.int i2), .val (.int (0 : Int32)), .val (.int v7_s0), .val (.int v12_s0), .val (.ref b14), .val (.int (r7 (0 : Int32) (0 : Int32))), .val (.int (1 : Int32)), .unset, .unset, .unset] [(.ref b14)])) rfl (by rw [hml]; rfl) (Steps.refl _) (argsL := []) (rest := []) (lenOf pd_0 rfl) rfl (by show 2 * 0 + _ ≤ _; exact Nat.le_of_eq rfl) (hb hby at_87) (fun _ _ => ⟨rfl, rfl, (by decide : 2 + 0 ≤ _), (by decide : 12 + 0 ≤ _)⟩)
        dsimp only [Pt.U, Pt.locs, Pt.cells, Pt.slots] at X35 l35 y35 z35 st35 hQ35
        subst l35 y35 z35
        obtain ⟨rfl, N35q, Kc35, F35_0, F35_1, F35_2, F35_3, F35_4⟩ := hQ35
        have N35 := Fr.app N32 N35q
        have K35 : Keep h0 T35.heap [] := Keep.trans K32 Kc35 (allS (Or.inr o_b14) all0)
        have P35 : own_Go p e below S0 (T35.setTop (mkF m 90 #[.val (.int i0), .val (.int i1), .val (.int i2), .val (.int (0 : Int32)), .val (.int v7_s0), .val (.int v12_s0), .val (.ref b14), .val (.int (r7 (0 : Int32) (0 : Int32))), .val (.int (1 : Int32)), .unset, .unset, .unset] [])) := fun t k => P34 t (st35.trans k)
        have F36 : Exa Z T35.heap b14 "com/example/penelope/penelope/program/Location" := F33.keep Kc35
        have F37 : Sta Z T29.heap "java/util/ArrayList" "DEFAULTCAPACITY_EMPTY_ELEMENTDATA" "[Ljava/lang/Object;" (.ref z0_DEFAULTCAPACITY_EMPTY_ELEMENTDATA) := own_staK F23 Kc29 (allS (own_plE F19) all0)
        have F38 : Sta Z T32.heap "java/util/ArrayList" "DEFAULTCAPACITY_EMPTY_ELEMENTDATA" "[Ljava/lang/Object;" (.ref z0_DEFAULTCAPACITY_EMPTY_ELEMENTDATA) := own_staK F37 Kc32 (allS (own_plE F30) all0)
        have F39 : Sta Z T35.heap "java/util/ArrayList" "DEFAULTCAPACITY_EMPTY_ELEMENTDATA" "[Ljava/lang/Object;" (.ref z0_DEFAULTCAPACITY_EMPTY_ELEMENTDATA) := own_staK F38 Kc35 (allS (own_plE F33) all0)
        have F40 : Sta Z T29.heap "java/util/ImmutableCollections" "EMPTY_LIST" "Ljava/util/ImmutableCollections$ListN;" (.ref z0_EMPTY_LIST) := own_staK F24 Kc29 (allS (own_plE F19) all0)
        have F41 : Sta Z T32.heap "java/util/ImmutableCollections" "EMPTY_LIST" "Ljava/util/ImmutableCollections$ListN;" (.ref z0_EMPTY_LIST) := own_staK F40 Kc32 (allS (own_plE F30) all0)
        have F42 : Sta Z T35.heap "java/util/ImmutableCollections" "EMPTY_LIST" "Ljava/util/ImmutableCollections$ListN;" (.ref z0_EMPTY_LIST) := own_staK F41 Kc35 (allS (own_plE F33) all0)
        have F43 : Exa Z T29.heap b4_18 "java/util/ArrayList" := F18_4.keep Kc29
        have F44 : Exa Z T32.heap b4_18 "java/util/ArrayList" := F43.keep Kc32
        have F45 : Exa Z T35.heap b4_18 "java/util/ArrayList" := F44.keep Kc35
        exact ⟨T35, _, T35.heap, (1 : Int32), (1 : Int32), (1 : Int32), X35, rfl, N35, K35, F36, F39, F42, F35_1, F35_2, F35_3, F35_4, F45, F35_0, (Eq.symm (if_neg c26)), (Eq.symm (if_neg c26)), (Eq.symm (if_neg c26)), P35⟩
    have P56 : own_Go p e below S0 (T46.setTop (mkF m 92 #[.val (.int i0), .val (.int i1), .val (.int i2), .val (.int (0 : Int32)), .val (.int v7_s0), .val (.int v12_s0), .val (.ref b14), .val (.int (r7 (0 : Int32) (0 : Int32))), .val (.int (1 : Int32)), .unset, .unset, .unset] [(.int v7_s0)])) := fun t k => P46 t (by
      show Steps p.tables e below (T46.setTop (mkF m 90 #[.val (.int i0), .val (.int i1), .val (.int i2), .val (.int (0 : Int32)), .val (.int v7_s0), .val (.int v12_s0), .val (.ref b14), .val (.int (r7 (0 : Int32) (0 : Int32))), .val (.int (1 : Int32)), .unset, .unset, .unset] [])) t
      refine XS.iload X46.here hx rfl (hb hby at_90) rfl ?_
      show Steps p.tables e below (T46.setTop (mkF m 92 #[.val (.int i0), .val (.int i1), .val (.int i2), .val (.int (0 : Int32)), .val (.int v7_s0), .val (.int v12_s0), .val (.ref b14), .val (.int (r7 (0 : Int32) (0 : Int32))), .val (.int (1 : Int32)), .unset, .unset, .unset] [(.int v7_s0)])) t
      exact k)
    by_cases c57 : v7_s0 = (0 : Int32)
    · skip
      have P58 : own_Go p e below S0 (T46.setTop (mkF m 102 #[.val (.int i0), .val (.int i1), .val (.int i2), .val (.int (0 : Int32)), .val (.int v7_s0), .val (.int v12_s0), .val (.ref b14), .val (.int (r7 (0 : Int32) (0 : Int32))), .val (.int (1 : Int32)), .unset, .unset, .unset] [(.ref b14)])) := fun t k => P56 t (by
        show Steps p.tables e below (T46.setTop (mkF m 92 #[.val (.int i0), .val (.int i1), .val (.int i2), .val (.int (0 : Int32)), .val (.int v7_s0), .val (.int v12_s0), .val (.ref b14), .val (.int (r7 (0 : Int32) (0 : Int32))), .val (.int (1 : Int32)), .unset, .unset, .unset] [(.int v7_s0)])) t
        refine XS.ifYes X46.here hx rfl (pc0 := 92) (pc' := 100) rfl (hb hby at_92) rfl ((if0 _ _).trans (teq c57).1) (by decide) (by decide) ?_
        refine XS.aload X46.here hx rfl (hb hby at_100) rfl rfl ?_
        show Steps p.tables e below (T46.setTop (mkF m 102 #[.val (.int i0), .val (.int i1), .val (.int i2), .val (.int (0 : Int32)), .val (.int v7_s0), .val (.int v12_s0), .val (.ref b14), .val (.int (r7 (0 : Int32) (0 : Int32))), .val (.int (1 : Int32)), .unset, .unset, .unset] [(.ref b14)])) t
        exact k)
      obtain ⟨cq59, kq59, q59a, q59b, q59c⟩ := isOf hZ e46 F47
      obtain ⟨_, _, ⟨T59, L59, k59, n59⟩, -, X59, ⟨Lc59, hQ59, l59, y59, z59⟩, st59⟩ := X46.virtualBack hx (y := (⟨"com/example/penelope/penelope/program/Location", "isValidEnd", "()Z"⟩ : MethodName)) (z := (⟨"com/example/penelope/penelope/program/Location", "isValidEnd", "()Z"⟩ : MethodName)) hown (mvT hZ (hw _ (List.mem_of_getElem? (i := 49) rfl))) (mvT hZ (hw _ (List.mem_of_getElem? (i := 50) rfl))) (notFace_of_selects (args := #[]) (mvT hZ (hw _ (List.mem_of_getElem? (i := 52) rfl)))) (mvT hZ (hw _ (List.mem_of_getElem? (i := 52) rfl))) (mvT hZ (hw _ (List.mem_of_getElem? (i := 51) rfl))) (by decide) (backOf (W := 0) (rm7 l Z a0 hw [] b14 (0 : Int32) (0 : Int32) h46 n0 (Nat.le_trans Z0 K46.1) F55 F50) hZ (hw _ (List.mem_of_getElem? (i := 53) rfl)) (hw _ (List.mem_of_getElem? (i := 2) rfl)) (by decide) (by decide)) q59a q59c (g := (mkF m 102 #[.val (.int i0), .val (.int i1), .val (.int i2), .val (.int (0 : Int32)), .val (.int v7_s0), .val (.int v12_s0), .val (.ref b14), .val (.int (r7 (0 : Int32) (0 : Int32))), .val (.int (1 : Int32)), .unset, .unset, .unset] [(.ref b14)])) rfl (by rw [hml]; rfl) (Steps.refl _) (argsL := []) (rest := []) (lenOf pd_3 rfl) rfl (by show 2 * 0 + _ ≤ _; exact Nat.le_of_eq rfl) (hb hby at_102) (fun _ _ => ⟨rfl, e46, (by decide : 2 + 0 ≤ _), (by decide : 12 + 0 ≤ _)⟩)
      dsimp only [Pt.U, Pt.locs, Pt.cells, Pt.slots] at X59 l59 y59 z59 st59 hQ59
      subst l59 y59 z59
      obtain ⟨rfl, N59q, e59⟩ := hQ59
      have N59 := Fr.app N46 N59q
      have P59 : own_Go p e below S0 (T59.setTop (mkF m 105 #[.val (.int i0), .val (.int i1), .val (.int i2), .val (.int (0 : Int32)), .val (.int v7_s0), .val (.int v12_s0), .val (.ref b14), .val (.int (r7 (0 : Int32) (0 : Int32))), .val (.int (1 : Int32)), .unset, .unset, .unset] [(.int (r7 (0 : Int32) (0 : Int32)))])) := fun t k => P58 t (st59.trans k)
      have P60 : own_Go p e below S0 (T59.setTop (mkF m 109 #[.val (.int i0), .val (.int i1), .val (.int i2), .val (.int (0 : Int32)), .val (.int v7_s0), .val (.int v12_s0), .val (.ref b14), .val (.int (r7 (0 : Int32) (0 : Int32))), .val (.int (1 : Int32)), .val (.int (r7 (0 : Int32) (0 : Int32))), .unset, .unset] [(.ref b14)])) := fun t k => P59 t (by
        show Steps p.tables e below (T59.setTop (mkF m 105 #[.val (.int i0), .val (.int i1), .val (.int i2), .val (.int (0 : Int32)), .val (.int v7_s0), .val (.int v12_s0), .val (.ref b14), .val (.int (r7 (0 : Int32) (0 : Int32))), .val (.int (1 : Int32)), .unset, .unset, .unset] [(.int (r7 (0 : Int32) (0 : Int32)))])) t
        refine XS.istore X59.here hx rfl (hb hby at_105) rfl (l' := #[.val (.int i0), .val (.int i1), .val (.int i2), .val (.int (0 : Int32)), .val (.int v7_s0), .val (.int v12_s0), .val (.ref b14), .val (.int (r7 (0 : Int32) (0 : Int32))), .val (.int (1 : Int32)), .val (.int (r7 (0 : Int32) (0 : Int32))), .unset, .unset]) rfl ?_
        refine XS.aload X59.here hx rfl (hb hby at_107) rfl rfl ?_
        show Steps p.tables e below (T59.setTop (mkF m 109 #[.val (.int i0), .val (.int i1), .val (.int i2), .val (.int (0 : Int32)), .val (.int v7_s0), .val (.int v12_s0), .val (.ref b14), .val (.int (r7 (0 : Int32) (0 : Int32))), .val (.int (1 : Int32)), .val (.int (r7 (0 : Int32) (0 : Int32))), .unset, .unset] [(.ref b14)])) t
        exact k)
      obtain ⟨cq61, kq61, q61a, q61b, q61c⟩ := isOf hZ e59 F47
      obtain ⟨_, _, ⟨T61, L61, k61, n61⟩, -, X61, ⟨Lc61, hQ61, l61, y61, z61⟩, st61⟩ := X59.virtualBack hx (y := (⟨"com/example/penelope/penelope/program/Location", "isValidEnd", "()Z"⟩ : MethodName)) (z := (⟨"com/example/penelope/penelope/program/Location", "isValidEnd", "()Z"⟩ : MethodName)) hown (mvT hZ (hw _ (List.mem_of_getElem? (i := 49) rfl))) (mvT hZ (hw _ (List.mem_of_getElem? (i := 50) rfl))) (notFace_of_selects (args := #[]) (mvT hZ (hw _ (List.mem_of_getElem? (i := 52) rfl)))) (mvT hZ (hw _ (List.mem_of_getElem? (i := 52) rfl))) (mvT hZ (hw _ (List.mem_of_getElem? (i := 51) rfl))) (by decide) (backOf (W := 0) (rm7 l Z a0 hw [] b14 (0 : Int32) (0 : Int32) h46 n0 (Nat.le_trans Z0 K46.1) F55 F50) hZ (hw _ (List.mem_of_getElem? (i := 53) rfl)) (hw _ (List.mem_of_getElem? (i := 2) rfl)) (by decide) (by decide)) q61a q61c (g := (mkF m 109 #[.val (.int i0), .val (.int i1), .val (.int i2), .val (.int (0 : Int32)), .val (.int v7_s0), .val (.int v12_s0), .val (.ref b14), .val (.int (r7 (0 : Int32) (0 : Int32))), .val (.int (1 : Int32)), .val (.int (r7 (0 : Int32) (0 : Int32))), .unset, .unset] [(.ref b14)])) rfl (by rw [hml]; rfl) (Steps.refl _) (argsL := []) (rest := []) (lenOf pd_3 rfl) rfl (by show 2 * 0 + _ ≤ _; exact Nat.le_of_eq rfl) (hb hby at_109) (fun _ _ => ⟨rfl, e59, (by decide : 2 + 0 ≤ _), (by decide : 12 + 0 ≤ _)⟩)
      dsimp only [Pt.U, Pt.locs, Pt.cells, Pt.slots] at X61 l61 y61 z61 st61 hQ61
      subst l61 y61 z61
      obtain ⟨rfl, N61q, e61⟩ := hQ61
      have N61 := Fr.app N59 N61q
      have P61 : own_Go p e below S0 (T61.setTop (mkF m 112 #[.val (.int i0), .val (.int i1), .val (.int i2), .val (.int (0 : Int32)), .val (.int v7_s0), .val (.int v12_s0), .val (.ref b14), .val (.int (r7 (0 : Int32) (0 : Int32))), .val (.int (1 : Int32)), .val (.int (r7 (0 : Int32) (0 : Int32))), .unset, .unset] [(.int (r7 (0 : Int32) (0 : Int32)))])) := fun t k => P60 t (st61.trans k)
      have P62 : own_Go p e below S0 (T61.setTop (mkF m 158 #[.val (.int i0), .val (.int i1), .val (.int i2), .val (.int (0 : Int32)), .val (.int v7_s0), .val (.int v12_s0), .val (.ref b14), .val (.int (r7 (0 : Int32) (0 : Int32))), .val (.int (1 : Int32)), .val (.int (r7 (0 : Int32) (0 : Int32))), .val (.int (r7 (0 : Int32) (0 : Int32))), .val (.int (0 : Int32))] [(.int (1 : Int32))])) := fun t k => P61 t (by
        show Steps p.tables e below (T61.setTop (mkF m 112 #[.val (.int i0), .val (.int i1), .val (.int i2), .val (.int (0 : Int32)), .val (.int v7_s0), .val (.int v12_s0), .val (.ref b14), .val (.int (r7 (0 : Int32) (0 : Int32))), .val (.int (1 : Int32)), .val (.int (r7 (0 : Int32) (0 : Int32))), .unset, .unset] [(.int (r7 (0 : Int32) (0 : Int32)))])) t
        refine XS.istore X61.here hx rfl (hb hby at_112) rfl (l' := #[.val (.int i0), .val (.int i1), .val (.int i2), .val (.int (0 : Int32)), .val (.int v7_s0), .val (.int v12_s0), .val (.ref b14), .val (.int (r7 (0 : Int32) (0 : Int32))), .val (.int (1 : Int32)), .val (.int (r7 (0 : Int32) (0 : Int32))), .val (.int (r7 (0 : Int32) (0 : Int32))), .unset]) rfl ?_
        refine XS.iloadN X61.here hx rfl (hb hby at_114) rfl ?_
        refine XS.ifNo X61.here hx rfl (hb hby at_115) rfl ((if0 _ _).trans (teq (by decide)).2) ?_
        refine XS.iload X61.here hx rfl (hb hby at_118) rfl ?_
        refine XS.ifYes X61.here hx rfl (pc0 := 120) (pc' := 127) rfl (hb hby at_120) rfl ((if0 _ _).trans (teq c57).1) (by decide) (by decide) ?_
        refine XS.iconst X61.here hx rfl (hb hby at_127) ?_
        show Steps p.tables e below (T61.setTop (mkF m 128 #[.val (.int i0), .val (.int i1), .val (.int i2), .val (.int (0 : Int32)), .val (.int v7_s0), .val (.int v12_s0), .val (.ref b14), .val (.int (r7 (0 : Int32) (0 : Int32))), .val (.int (1 : Int32)), .val (.int (r7 (0 : Int32) (0 : Int32))), .val (.int (r7 (0 : Int32) (0 : Int32))), .unset] [(.int (0 : Int32))])) t
        refine XS.istore X61.here hx rfl (hb hby at_128) rfl (l' := #[.val (.int i0), .val (.int i1), .val (.int i2), .val (.int (0 : Int32)), .val (.int v7_s0), .val (.int v12_s0), .val (.ref b14), .val (.int (r7 (0 : Int32) (0 : Int32))), .val (.int (1 : Int32)), .val (.int (r7 (0 : Int32) (0 : Int32))), .val (.int (r7 (0 : Int32) (0 : Int32))), .val (.int (0 : Int32))]) rfl ?_
        refine XS.iload X61.here hx rfl (hb hby at_130) rfl ?_
        refine XS.ifNo X61.here hx rfl (hb hby at_132) rfl ((if0 _ _).trans (feq (by decide)).1) ?_
        refine XS.iload X61.here hx rfl (hb hby at_135) rfl ?_
        refine XS.iload X61.here hx rfl (hb hby at_137) rfl ?_
        refine XS.icmpNo X61.here hx rfl (hb hby at_139) rfl (teq c22).2 ?_
        show Steps p.tables e below (T61.setTop (mkF m 142 #[.val (.int i0), .val (.int i1), .val (.int i2), .val (.int (0 : Int32)), .val (.int v7_s0), .val (.int v12_s0), .val (.ref b14), .val (.int (r7 (0 : Int32) (0 : Int32))), .val (.int (1 : Int32)), .val (.int (r7 (0 : Int32) (0 : Int32))), .val (.int (r7 (0 : Int32) (0 : Int32))), .val (.int (0 : Int32))] [])) t
        refine XS.iload X61.here hx rfl (hb hby at_142) rfl ?_
        refine XS.iload X61.here hx rfl (hb hby at_144) rfl ?_
        refine XS.icmpNo X61.here hx rfl (hb hby at_146) rfl (teq c22).2 ?_
        refine XS.iconst X61.here hx rfl (hb hby at_149) ?_
        refine XS.goto X61.here hx rfl (pc0 := 150) (pc' := 154) rfl (hb hby at_150) (by decide) (by decide) ?_
        refine XS.istore X61.here hx rfl (hb hby at_154) rfl (l' := #[.val (.int i0), .val (.int i1), .val (.int i2), .val (.int (0 : Int32)), .val (.int v7_s0), .val (.int v12_s0), .val (.ref b14), .val (.int (r7 (0 : Int32) (0 : Int32))), .val (.int (1 : Int32)), .val (.int (r7 (0 : Int32) (0 : Int32))), .val (.int (r7 (0 : Int32) (0 : Int32))), .val (.int (0 : Int32))]) rfl ?_
        show Steps p.tables e below (T61.setTop (mkF m 156 #[.val (.int i0), .val (.int i1), .val (.int i2), .val (.int (0 : Int32)), .val (.int v7_s0), .val (.int v12_s0), .val (.ref b14), .val (.int (r7 (0 : Int32) (0 : Int32))), .val (.int (1 : Int32)), .val (.int (r7 (0 : Int32) (0 : Int32))), .val (.int (r7 (0 : Int32) (0 : Int32))), .val (.int (0 : Int32))] [])) t
        refine XS.iload X61.here hx rfl (hb hby at_156) rfl ?_
        show Steps p.tables e below (T61.setTop (mkF m 158 #[.val (.int i0), .val (.int i1), .val (.int i2), .val (.int (0 : Int32)), .val (.int v7_s0), .val (.int v12_s0), .val (.ref b14), .val (.int (r7 (0 : Int32) (0 : Int32))), .val (.int (1 : Int32)), .val (.int (r7 (0 : Int32) (0 : Int32))), .val (.int (r7 (0 : Int32) (0 : Int32))), .val (.int (0 : Int32))] [(.int (1 : Int32))])) t
        exact k)
      obtain ⟨fs, hr, hrun, hended, hW, hsame⟩ := X61.leave (v := some (.int (1 : Int32))) (fun h => by rw [Bd.returns] at h; cases h)
      refine ⟨_, _, own_from hS0 (P62 _ ?_), hrun, hended, _, _, rfl, ?_, ⟨_, rfl⟩, hW, hsame.mono (by decide) (by decide)⟩
      · show Steps p.tables e below (T61.setTop (mkF m 158 #[.val (.int i0), .val (.int i1), .val (.int i2), .val (.int (0 : Int32)), .val (.int v7_s0), .val (.int v12_s0), .val (.ref b14), .val (.int (r7 (0 : Int32) (0 : Int32))), .val (.int (1 : Int32)), .val (.int (r7 (0 : Int32) (0 : Int32))), .val (.int (r7 (0 : Int32) (0 : Int32))), .val (.int (0 : Int32))] [(.int (1 : Int32))])) _
        exact retN X61 hx (t := .boolean) Bd.returns (by simp) (hb hby at_158) hr
      · show Q0 Z i0 i1 i2 z0_DEFAULTCAPACITY_EMPTY_ELEMENTDATA z0_EMPTY_LIST h0 n0 _ T61.heap _
        rw [e61]
        exact ⟨rfl, N61⟩
    · skip
      have P63 : own_Go p e below S0 (T46.setTop (mkF m 97 #[.val (.int i0), .val (.int i1), .val (.int i2), .val (.int (0 : Int32)), .val (.int v7_s0), .val (.int v12_s0), .val (.ref b14), .val (.int (r7 (0 : Int32) (0 : Int32))), .val (.int (1 : Int32)), .unset, .unset, .unset] [(.ref b14)])) := fun t k => P56 t (by
        show Steps p.tables e below (T46.setTop (mkF m 92 #[.val (.int i0), .val (.int i1), .val (.int i2), .val (.int (0 : Int32)), .val (.int v7_s0), .val (.int v12_s0), .val (.ref b14), .val (.int (r7 (0 : Int32) (0 : Int32))), .val (.int (1 : Int32)), .unset, .unset, .unset] [(.int v7_s0)])) t
        refine XS.ifNo X46.here hx rfl (hb hby at_92) rfl ((if0 _ _).trans (feq c57).1) ?_
        refine XS.aload X46.here hx rfl (hb hby at_95) rfl rfl ?_
        show Steps p.tables e below (T46.setTop (mkF m 97 #[.val (.int i0), .val (.int i1), .val (.int i2), .val (.int (0 : Int32)), .val (.int v7_s0), .val (.int v12_s0), .val (.ref b14), .val (.int (r7 (0 : Int32) (0 : Int32))), .val (.int (1 : Int32)), .unset, .unset, .unset] [(.ref b14)])) t
        exact k)
      obtain ⟨cq64, kq64, q64a, q64b, q64c⟩ := isOf hZ e46 F47
      obtain ⟨_, _, ⟨T64, L64, k64, n64⟩, -, X64, ⟨Lc64, hQ64, l64, y64, z64⟩, st64⟩ := X46.virtualBack hx (y := (⟨"com/example/penelope/penelope/program/Location", "markValidEnd", "()V"⟩ : MethodName)) (z := (⟨"com/example/penelope/penelope/program/Location", "markValidEnd", "()V"⟩ : MethodName)) hown (mvT hZ (hw _ (List.mem_of_getElem? (i := 56) rfl))) (mvT hZ (hw _ (List.mem_of_getElem? (i := 57) rfl))) (notFace_of_selects (args := #[]) (mvT hZ (hw _ (List.mem_of_getElem? (i := 59) rfl)))) (mvT hZ (hw _ (List.mem_of_getElem? (i := 59) rfl))) (mvT hZ (hw _ (List.mem_of_getElem? (i := 58) rfl))) (by decide) (backOf (W := 0) (rm8 l Z a0 hw [] b14 (0 : Int32) (0 : Int32) v46_f_b14_accepting v46_f_b14_independent v46_f_b14_breaksCycles h46 n0 (Nat.le_trans Z0 K46.1) F55 F50 F51 F52 F53 F47 g_b14) hZ (hw _ (List.mem_of_getElem? (i := 60) rfl)) (hw _ (List.mem_of_getElem? (i := 2) rfl)) (by decide) (by decide)) q64a q64c (g := (mkF m 97 #[.val (.int i0), .val (.int i1), .val (.int i2), .val (.int (0 : Int32)), .val (.int v7_s0), .val (.int v12_s0), .val (.ref b14), .val (.int (r7 (0 : Int32) (0 : Int32))), .val (.int (1 : Int32)), .unset, .unset, .unset] [(.ref b14)])) rfl (by rw [hml]; rfl) (Steps.refl _) (argsL := []) (rest := []) (lenOf pd_0 rfl) rfl (by show 2 * 0 + _ ≤ _; exact Nat.le_of_eq rfl) (hb hby at_97) (fun _ _ => ⟨rfl, e46, (by decide : 2 + 0 ≤ _), (by decide : 12 + 0 ≤ _)⟩)
      dsimp only [Pt.U, Pt.locs, Pt.cells, Pt.slots] at X64 l64 y64 z64 st64 hQ64
      subst l64 y64 z64
      obtain ⟨rfl, N64q, Kc64, F64_0, F64_1, F64_2, F64_3, F64_4⟩ := hQ64
      have N64 := Fr.app N46 N64q
      have K64 : Keep h0 T64.heap [] := Keep.trans K46 Kc64 (allS (Or.inr o_b14) all0)
      have P64 : own_Go p e below S0 (T64.setTop (mkF m 100 #[.val (.int i0), .val (.int i1), .val (.int i2), .val (.int (0 : Int32)), .val (.int v7_s0), .val (.int v12_s0), .val (.ref b14), .val (.int (r7 (0 : Int32) (0 : Int32))), .val (.int (1 : Int32)), .unset, .unset, .unset] [])) := fun t k => P63 t (st64.trans k)
      have F65 : Exa Z T64.heap b14 "com/example/penelope/penelope/program/Location" := F47.keep Kc64
      have P66 : own_Go p e below S0 (T64.setTop (mkF m 102 #[.val (.int i0), .val (.int i1), .val (.int i2), .val (.int (0 : Int32)), .val (.int v7_s0), .val (.int v12_s0), .val (.ref b14), .val (.int (r7 (0 : Int32) (0 : Int32))), .val (.int (1 : Int32)), .unset, .unset, .unset] [(.ref b14)])) := fun t k => P64 t (by
        show Steps p.tables e below (T64.setTop (mkF m 100 #[.val (.int i0), .val (.int i1), .val (.int i2), .val (.int (0 : Int32)), .val (.int v7_s0), .val (.int v12_s0), .val (.ref b14), .val (.int (r7 (0 : Int32) (0 : Int32))), .val (.int (1 : Int32)), .unset, .unset, .unset] [])) t
        refine XS.aload X64.here hx rfl (hb hby at_100) rfl rfl ?_
        show Steps p.tables e below (T64.setTop (mkF m 102 #[.val (.int i0), .val (.int i1), .val (.int i2), .val (.int (0 : Int32)), .val (.int v7_s0), .val (.int v12_s0), .val (.ref b14), .val (.int (r7 (0 : Int32) (0 : Int32))), .val (.int (1 : Int32)), .unset, .unset, .unset] [(.ref b14)])) t
        exact k)
      obtain ⟨cq67, kq67, q67a, q67b, q67c⟩ := isOf hZ rfl F65
      obtain ⟨_, _, ⟨T67, L67, k67, n67⟩, -, X67, ⟨Lc67, hQ67, l67, y67, z67⟩, st67⟩ := X64.virtualBack hx (y := (⟨"com/example/penelope/penelope/program/Location", "isValidEnd", "()Z"⟩ : MethodName)) (z := (⟨"com/example/penelope/penelope/program/Location", "isValidEnd", "()Z"⟩ : MethodName)) hown (mvT hZ (hw _ (List.mem_of_getElem? (i := 49) rfl))) (mvT hZ (hw _ (List.mem_of_getElem? (i := 50) rfl))) (notFace_of_selects (args := #[]) (mvT hZ (hw _ (List.mem_of_getElem? (i := 52) rfl)))) (mvT hZ (hw _ (List.mem_of_getElem? (i := 52) rfl))) (mvT hZ (hw _ (List.mem_of_getElem? (i := 51) rfl))) (by decide) (backOf (W := 0) (rm7 l Z a0 hw [] b14 (0 : Int32) (1 : Int32) T64.heap n0 (Nat.le_trans Z0 K64.1) F64_0 F64_1) hZ (hw _ (List.mem_of_getElem? (i := 53) rfl)) (hw _ (List.mem_of_getElem? (i := 2) rfl)) (by decide) (by decide)) q67a q67c (g := (mkF m 102 #[.val (.int i0), .val (.int i1), .val (.int i2), .val (.int (0 : Int32)), .val (.int v7_s0), .val (.int v12_s0), .val (.ref b14), .val (.int (r7 (0 : Int32) (0 : Int32))), .val (.int (1 : Int32)), .unset, .unset, .unset] [(.ref b14)])) rfl (by rw [hml]; rfl) (Steps.refl _) (argsL := []) (rest := []) (lenOf pd_3 rfl) rfl (by show 2 * 0 + _ ≤ _; exact Nat.le_of_eq rfl) (hb hby at_102) (fun _ _ => ⟨rfl, rfl, (by decide : 2 + 0 ≤ _), (by decide : 12 + 0 ≤ _)⟩)
      dsimp only [Pt.U, Pt.locs, Pt.cells, Pt.slots] at X67 l67 y67 z67 st67 hQ67
      subst l67 y67 z67
      obtain ⟨rfl, N67q, e67⟩ := hQ67
      have N67 := Fr.app N64 N67q
      have P67 : own_Go p e below S0 (T67.setTop (mkF m 105 #[.val (.int i0), .val (.int i1), .val (.int i2), .val (.int (0 : Int32)), .val (.int v7_s0), .val (.int v12_s0), .val (.ref b14), .val (.int (r7 (0 : Int32) (0 : Int32))), .val (.int (1 : Int32)), .unset, .unset, .unset] [(.int (r7 (0 : Int32) (1 : Int32)))])) := fun t k => P66 t (st67.trans k)
      have P68 : own_Go p e below S0 (T67.setTop (mkF m 109 #[.val (.int i0), .val (.int i1), .val (.int i2), .val (.int (0 : Int32)), .val (.int v7_s0), .val (.int v12_s0), .val (.ref b14), .val (.int (r7 (0 : Int32) (0 : Int32))), .val (.int (1 : Int32)), .val (.int (r7 (0 : Int32) (1 : Int32))), .unset, .unset] [(.ref b14)])) := fun t k => P67 t (by
        show Steps p.tables e below (T67.setTop (mkF m 105 #[.val (.int i0), .val (.int i1), .val (.int i2), .val (.int (0 : Int32)), .val (.int v7_s0), .val (.int v12_s0), .val (.ref b14), .val (.int (r7 (0 : Int32) (0 : Int32))), .val (.int (1 : Int32)), .unset, .unset, .unset] [(.int (r7 (0 : Int32) (1 : Int32)))])) t
        refine XS.istore X67.here hx rfl (hb hby at_105) rfl (l' := #[.val (.int i0), .val (.int i1), .val (.int i2), .val (.int (0 : Int32)), .val (.int v7_s0), .val (.int v12_s0), .val (.ref b14), .val (.int (r7 (0 : Int32) (0 : Int32))), .val (.int (1 : Int32)), .val (.int (r7 (0 : Int32) (1 : Int32))), .unset, .unset]) rfl ?_
        refine XS.aload X67.here hx rfl (hb hby at_107) rfl rfl ?_
        show Steps p.tables e below (T67.setTop (mkF m 109 #[.val (.int i0), .val (.int i1), .val (.int i2), .val (.int (0 : Int32)), .val (.int v7_s0), .val (.int v12_s0), .val (.ref b14), .val (.int (r7 (0 : Int32) (0 : Int32))), .val (.int (1 : Int32)), .val (.int (r7 (0 : Int32) (1 : Int32))), .unset, .unset] [(.ref b14)])) t
        exact k)
      obtain ⟨cq69, kq69, q69a, q69b, q69c⟩ := isOf hZ e67 F65
      obtain ⟨_, _, ⟨T69, L69, k69, n69⟩, -, X69, ⟨Lc69, hQ69, l69, y69, z69⟩, st69⟩ := X67.virtualBack hx (y := (⟨"com/example/penelope/penelope/program/Location", "isValidEnd", "()Z"⟩ : MethodName)) (z := (⟨"com/example/penelope/penelope/program/Location", "isValidEnd", "()Z"⟩ : MethodName)) hown (mvT hZ (hw _ (List.mem_of_getElem? (i := 49) rfl))) (mvT hZ (hw _ (List.mem_of_getElem? (i := 50) rfl))) (notFace_of_selects (args := #[]) (mvT hZ (hw _ (List.mem_of_getElem? (i := 52) rfl)))) (mvT hZ (hw _ (List.mem_of_getElem? (i := 52) rfl))) (mvT hZ (hw _ (List.mem_of_getElem? (i := 51) rfl))) (by decide) (backOf (W := 0) (rm7 l Z a0 hw [] b14 (0 : Int32) (1 : Int32) T64.heap n0 (Nat.le_trans Z0 K64.1) F64_0 F64_1) hZ (hw _ (List.mem_of_getElem? (i := 53) rfl)) (hw _ (List.mem_of_getElem? (i := 2) rfl)) (by decide) (by decide)) q69a q69c (g := (mkF m 109 #[.val (.int i0), .val (.int i1), .val (.int i2), .val (.int (0 : Int32)), .val (.int v7_s0), .val (.int v12_s0), .val (.ref b14), .val (.int (r7 (0 : Int32) (0 : Int32))), .val (.int (1 : Int32)), .val (.int (r7 (0 : Int32) (1 : Int32))), .unset, .unset] [(.ref b14)])) rfl (by rw [hml]; rfl) (Steps.refl _) (argsL := []) (rest := []) (lenOf pd_3 rfl) rfl (by show 2 * 0 + _ ≤ _; exact Nat.le_of_eq rfl) (hb hby at_109) (fun _ _ => ⟨rfl, e67, (by decide : 2 + 0 ≤ _), (by decide : 12 + 0 ≤ _)⟩)
      dsimp only [Pt.U, Pt.locs, Pt.cells, Pt.slots] at X69 l69 y69 z69 st69 hQ69
      subst l69 y69 z69
      obtain ⟨rfl, N69q, e69⟩ := hQ69
      have N69 := Fr.app N67 N69q
      have P69 : own_Go p e below S0 (T69.setTop (mkF m 112 #[.val (.int i0), .val (.int i1), .val (.int i2), .val (.int (0 : Int32)), .val (.int v7_s0), .val (.int v12_s0), .val (.ref b14), .val (.int (r7 (0 : Int32) (0 : Int32))), .val (.int (1 : Int32)), .val (.int (r7 (0 : Int32) (1 : Int32))), .unset, .unset] [(.int (r7 (0 : Int32) (1 : Int32)))])) := fun t k => P68 t (st69.trans k)
      have c70 : (r7 (0 : Int32) (1 : Int32)) = (1 : Int32) := by decide
      have P71 : own_Go p e below S0 (T69.setTop (mkF m 158 #[.val (.int i0), .val (.int i1), .val (.int i2), .val (.int (0 : Int32)), .val (.int v7_s0), .val (.int v12_s0), .val (.ref b14), .val (.int (r7 (0 : Int32) (0 : Int32))), .val (.int (1 : Int32)), .val (.int (r7 (0 : Int32) (1 : Int32))), .val (.int (r7 (0 : Int32) (1 : Int32))), .val (.int (1 : Int32))] [(.int (1 : Int32))])) := fun t k => P69 t (by
        show Steps p.tables e below (T69.setTop (mkF m 112 #[.val (.int i0), .val (.int i1), .val (.int i2), .val (.int (0 : Int32)), .val (.int v7_s0), .val (.int v12_s0), .val (.ref b14), .val (.int (r7 (0 : Int32) (0 : Int32))), .val (.int (1 : Int32)), .val (.int (r7 (0 : Int32) (1 : Int32))), .unset, .unset] [(.int (r7 (0 : Int32) (1 : Int32)))])) t
        refine XS.istore X69.here hx rfl (hb hby at_112) rfl (l' := #[.val (.int i0), .val (.int i1), .val (.int i2), .val (.int (0 : Int32)), .val (.int v7_s0), .val (.int v12_s0), .val (.ref b14), .val (.int (r7 (0 : Int32) (0 : Int32))), .val (.int (1 : Int32)), .val (.int (r7 (0 : Int32) (1 : Int32))), .val (.int (r7 (0 : Int32) (1 : Int32))), .unset]) rfl ?_
        refine XS.iloadN X69.here hx rfl (hb hby at_114) rfl ?_
        refine XS.ifNo X69.here hx rfl (hb hby at_115) rfl ((if0 _ _).trans (teq (by decide)).2) ?_
        refine XS.iload X69.here hx rfl (hb hby at_118) rfl ?_
        refine XS.ifNo X69.here hx rfl (hb hby at_120) rfl ((if0 _ _).trans (feq c57).1) ?_
        refine XS.iconst X69.here hx rfl (hb hby at_123) ?_
        show Steps p.tables e below (T69.setTop (mkF m 124 #[.val (.int i0), .val (.int i1), .val (.int i2), .val (.int (0 : Int32)), .val (.int v7_s0), .val (.int v12_s0), .val (.ref b14), .val (.int (r7 (0 : Int32) (0 : Int32))), .val (.int (1 : Int32)), .val (.int (r7 (0 : Int32) (1 : Int32))), .val (.int (r7 (0 : Int32) (1 : Int32))), .unset] [(.int (1 : Int32))])) t
        refine XS.goto X69.here hx rfl (pc0 := 124) (pc' := 128) rfl (hb hby at_124) (by decide) (by decide) ?_
        refine XS.istore X69.here hx rfl (hb hby at_128) rfl (l' := #[.val (.int i0), .val (.int i1), .val (.int i2), .val (.int (0 : Int32)), .val (.int v7_s0), .val (.int v12_s0), .val (.ref b14), .val (.int (r7 (0 : Int32) (0 : Int32))), .val (.int (1 : Int32)), .val (.int (r7 (0 : Int32) (1 : Int32))), .val (.int (r7 (0 : Int32) (1 : Int32))), .val (.int (1 : Int32))]) rfl ?_
        refine XS.iload X69.here hx rfl (hb hby at_130) rfl ?_
        refine XS.ifNo X69.here hx rfl (hb hby at_132) rfl ((if0 _ _).trans (feq (by decide)).1) ?_
        refine XS.iload X69.here hx rfl (hb hby at_135) rfl ?_
        refine XS.iload X69.here hx rfl (hb hby at_137) rfl ?_
        show Steps p.tables e below (T69.setTop (mkF m 139 #[.val (.int i0), .val (.int i1), .val (.int i2), .val (.int (0 : Int32)), .val (.int v7_s0), .val (.int v12_s0), .val (.ref b14), .val (.int (r7 (0 : Int32) (0 : Int32))), .val (.int (1 : Int32)), .val (.int (r7 (0 : Int32) (1 : Int32))), .val (.int (r7 (0 : Int32) (1 : Int32))), .val (.int (1 : Int32))] [(.int (1 : Int32)), (.int (r7 (0 : Int32) (1 : Int32)))])) t
        refine XS.icmpNo X69.here hx rfl (hb hby at_139) rfl (teq c70).2 ?_
        refine XS.iload X69.here hx rfl (hb hby at_142) rfl ?_
        refine XS.iload X69.here hx rfl (hb hby at_144) rfl ?_
        refine XS.icmpNo X69.here hx rfl (hb hby at_146) rfl (teq c70).2 ?_
        refine XS.iconst X69.here hx rfl (hb hby at_149) ?_
        refine XS.goto X69.here hx rfl (pc0 := 150) (pc' := 154) rfl (hb hby at_150) (by decide) (by decide) ?_
        show Steps p.tables e below (T69.setTop (mkF m 154 #[.val (.int i0), .val (.int i1), .val (.int i2), .val (.int (0 : Int32)), .val (.int v7_s0), .val (.int v12_s0), .val (.ref b14), .val (.int (r7 (0 : Int32) (0 : Int32))), .val (.int (1 : Int32)), .val (.int (r7 (0 : Int32) (1 : Int32))), .val (.int (r7 (0 : Int32) (1 : Int32))), .val (.int (1 : Int32))] [(.int (1 : Int32))])) t
        refine XS.istore X69.here hx rfl (hb hby at_154) rfl (l' := #[.val (.int i0), .val (.int i1), .val (.int i2), .val (.int (0 : Int32)), .val (.int v7_s0), .val (.int v12_s0), .val (.ref b14), .val (.int (r7 (0 : Int32) (0 : Int32))), .val (.int (1 : Int32)), .val (.int (r7 (0 : Int32) (1 : Int32))), .val (.int (r7 (0 : Int32) (1 : Int32))), .val (.int (1 : Int32))]) rfl ?_
        refine XS.iload X69.here hx rfl (hb hby at_156) rfl ?_
        show Steps p.tables e below (T69.setTop (mkF m 158 #[.val (.int i0), .val (.int i1), .val (.int i2), .val (.int (0 : Int32)), .val (.int v7_s0), .val (.int v12_s0), .val (.ref b14), .val (.int (r7 (0 : Int32) (0 : Int32))), .val (.int (1 : Int32)), .val (.int (r7 (0 : Int32) (1 : Int32))), .val (.int (r7 (0 : Int32) (1 : Int32))), .val (.int (1 : Int32))] [(.int (1 : Int32))])) t
        exact k)
      have F72 : Exa Z T64.heap b4_18 "java/util/ArrayList" := F54.keep Kc64
      obtain ⟨fs, hr, hrun, hended, hW, hsame⟩ := X69.leave (v := some (.int (1 : Int32))) (fun h => by rw [Bd.returns] at h; cases h)
      refine ⟨_, _, own_from hS0 (P71 _ ?_), hrun, hended, _, _, rfl, ?_, ⟨_, rfl⟩, hW, hsame.mono (by decide) (by decide)⟩
      · show Steps p.tables e below (T69.setTop (mkF m 158 #[.val (.int i0), .val (.int i1), .val (.int i2), .val (.int (0 : Int32)), .val (.int v7_s0), .val (.int v12_s0), .val (.ref b14), .val (.int (r7 (0 : Int32) (0 : Int32))), .val (.int (1 : Int32)), .val (.int (r7 (0 : Int32) (1 : Int32))), .val (.int (r7 (0 : Int32) (1 : Int32))), .val (.int (1 : Int32))] [(.int (1 : Int32))])) _
        exact retN X69 hx (t := .boolean) Bd.returns (by simp) (hb hby at_158) hr
      · show Q0 Z i0 i1 i2 z0_DEFAULTCAPACITY_EMPTY_ELEMENTDATA z0_EMPTY_LIST h0 n0 _ T69.heap _
        rw [e69]
        exact ⟨rfl, N69⟩
  · skip
    have P73 : own_Go p e below S0 (s₁.setTop (mkF m 15 #[.val (.int i0), .val (.int i1), .val (.int i2), .val (.int (1 : Int32)), .unset, .unset, .unset, .unset, .unset, .unset, .unset, .unset] [(.int (i2 &&& (2 : Int32)))])) := fun t k => P1 t (by
      show Steps p.tables e below (s₁.setTop (mkF m 3 #[.val (.int i0), .val (.int i1), .val (.int i2), .unset, .unset, .unset, .unset, .unset, .unset, .unset, .unset, .unset] [(.int (i2 &&& (1 : Int32)))])) t
      refine XS.ifNo X0.here hx rfl (hb hby at_3) rfl ((if0 _ _).trans (feq c2).1) ?_
      refine XS.iconst X0.here hx rfl (hb hby at_6) ?_
      refine XS.goto X0.here hx rfl (pc0 := 7) (pc' := 11) rfl (hb hby at_7) (by decide) (by decide) ?_
      refine XS.istoreN X0.here hx rfl (hb hby at_11) rfl (l' := #[.val (.int i0), .val (.int i1), .val (.int i2), .val (.int (1 : Int32)), .unset, .unset, .unset, .unset, .unset, .unset, .unset, .unset]) rfl ?_
      refine XS.iloadN X0.here hx rfl (hb hby at_12) rfl ?_
      refine XS.iconst X0.here hx rfl (hb hby at_13) ?_
      show Steps p.tables e below (s₁.setTop (mkF m 14 #[.val (.int i0), .val (.int i1), .val (.int i2), .val (.int (1 : Int32)), .unset, .unset, .unset, .unset, .unset, .unset, .unset, .unset] [(.int (2 : Int32)), (.int i2)])) t
      refine XS.iand X0.here hx rfl (hb hby at_14) rfl ?_
      show Steps p.tables e below (s₁.setTop (mkF m 15 #[.val (.int i0), .val (.int i1), .val (.int i2), .val (.int (1 : Int32)), .unset, .unset, .unset, .unset, .unset, .unset, .unset, .unset] [(.int (i2 &&& (2 : Int32)))])) t
      exact k)
    obtain ⟨v77_s0, hv77_s0, P77⟩ : ∃ (v77_s0 : Int32), (v77_s0 = (if (i2 &&& (2 : Int32)) = (0 : Int32) then (0 : Int32) else (1 : Int32))) ∧ (own_Go p e below S0 (s₁.setTop (mkF m 23 #[.val (.int i0), .val (.int i1), .val (.int i2), .val (.int (1 : Int32)), .unset, .unset, .unset, .unset, .unset, .unset, .unset, .unset] [(.int v77_s0)]))) := by
      by_cases c74 : (i2 &&& (2 : Int32)) = (0 : Int32)
      · skip
        have P75 : own_Go p e below S0 (s₁.setTop (mkF m 23 #[.val (.int i0), .val (.int i1), .val (.int i2), .val (.int (1 : Int32)), .unset, .unset, .unset, .unset, .unset, .unset, .unset, .unset] [(.int (0 : Int32))])) := fun t k => P73 t (by
          show Steps p.tables e below (s₁.setTop (mkF m 15 #[.val (.int i0), .val (.int i1), .val (.int i2), .val (.int (1 : Int32)), .unset, .unset, .unset, .unset, .unset, .unset, .unset, .unset] [(.int (i2 &&& (2 : Int32)))])) t
          refine XS.ifYes X0.here hx rfl (pc0 := 15) (pc' := 22) rfl (hb hby at_15) rfl ((if0 _ _).trans (teq c74).1) (by decide) (by decide) ?_
          refine XS.iconst X0.here hx rfl (hb hby at_22) ?_
          show Steps p.tables e below (s₁.setTop (mkF m 23 #[.val (.int i0), .val (.int i1), .val (.int i2), .val (.int (1 : Int32)), .unset, .unset, .unset, .unset, .unset, .unset, .unset, .unset] [(.int (0 : Int32))])) t
          exact k)
        exact ⟨(0 : Int32), (Eq.symm (if_pos c74)), P75⟩
      · skip
        have P76 : own_Go p e below S0 (s₁.setTop (mkF m 23 #[.val (.int i0), .val (.int i1), .val (.int i2), .val (.int (1 : Int32)), .unset, .unset, .unset, .unset, .unset, .unset, .unset, .unset] [(.int (1 : Int32))])) := fun t k => P73 t (by
          show Steps p.tables e below (s₁.setTop (mkF m 15 #[.val (.int i0), .val (.int i1), .val (.int i2), .val (.int (1 : Int32)), .unset, .unset, .unset, .unset, .unset, .unset, .unset, .unset] [(.int (i2 &&& (2 : Int32)))])) t
          refine XS.ifNo X0.here hx rfl (hb hby at_15) rfl ((if0 _ _).trans (feq c74).1) ?_
          refine XS.iconst X0.here hx rfl (hb hby at_18) ?_
          refine XS.goto X0.here hx rfl (pc0 := 19) (pc' := 23) rfl (hb hby at_19) (by decide) (by decide) ?_
          show Steps p.tables e below (s₁.setTop (mkF m 23 #[.val (.int i0), .val (.int i1), .val (.int i2), .val (.int (1 : Int32)), .unset, .unset, .unset, .unset, .unset, .unset, .unset, .unset] [(.int (1 : Int32))])) t
          exact k)
        exact ⟨(1 : Int32), (Eq.symm (if_neg c74)), P76⟩
    have P78 : own_Go p e below S0 (s₁.setTop (mkF m 28 #[.val (.int i0), .val (.int i1), .val (.int i2), .val (.int (1 : Int32)), .val (.int v77_s0), .unset, .unset, .unset, .unset, .unset, .unset, .unset] [(.int (i2 &&& (4 : Int32)))])) := fun t k => P77 t (by
      show Steps p.tables e below (s₁.setTop (mkF m 23 #[.val (.int i0), .val (.int i1), .val (.int i2), .val (.int (1 : Int32)), .unset, .unset, .unset, .unset, .unset, .unset, .unset, .unset] [(.int v77_s0)])) t
      refine XS.istore X0.here hx rfl (hb hby at_23) rfl (l' := #[.val (.int i0), .val (.int i1), .val (.int i2), .val (.int (1 : Int32)), .val (.int v77_s0), .unset, .unset, .unset, .unset, .unset, .unset, .unset]) rfl ?_
      refine XS.iloadN X0.here hx rfl (hb hby at_25) rfl ?_
      refine XS.iconst X0.here hx rfl (hb hby at_26) ?_
      refine XS.iand X0.here hx rfl (hb hby at_27) rfl ?_
      show Steps p.tables e below (s₁.setTop (mkF m 28 #[.val (.int i0), .val (.int i1), .val (.int i2), .val (.int (1 : Int32)), .val (.int v77_s0), .unset, .unset, .unset, .unset, .unset, .unset, .unset] [(.int (i2 &&& (4 : Int32)))])) t
      exact k)
    obtain ⟨v82_s0, hv82_s0, P82⟩ : ∃ (v82_s0 : Int32), (v82_s0 = (if (i2 &&& (4 : Int32)) = (0 : Int32) then (0 : Int32) else (1 : Int32))) ∧ (own_Go p e below S0 (s₁.setTop (mkF m 36 #[.val (.int i0), .val (.int i1), .val (.int i2), .val (.int (1 : Int32)), .val (.int v77_s0), .unset, .unset, .unset, .unset, .unset, .unset, .unset] [(.int v82_s0)]))) := by
      by_cases c79 : (i2 &&& (4 : Int32)) = (0 : Int32)
      · skip
        have P80 : own_Go p e below S0 (s₁.setTop (mkF m 36 #[.val (.int i0), .val (.int i1), .val (.int i2), .val (.int (1 : Int32)), .val (.int v77_s0), .unset, .unset, .unset, .unset, .unset, .unset, .unset] [(.int (0 : Int32))])) := fun t k => P78 t (by
          show Steps p.tables e below (s₁.setTop (mkF m 28 #[.val (.int i0), .val (.int i1), .val (.int i2), .val (.int (1 : Int32)), .val (.int v77_s0), .unset, .unset, .unset, .unset, .unset, .unset, .unset] [(.int (i2 &&& (4 : Int32)))])) t
          refine XS.ifYes X0.here hx rfl (pc0 := 28) (pc' := 35) rfl (hb hby at_28) rfl ((if0 _ _).trans (teq c79).1) (by decide) (by decide) ?_
          refine XS.iconst X0.here hx rfl (hb hby at_35) ?_
          show Steps p.tables e below (s₁.setTop (mkF m 36 #[.val (.int i0), .val (.int i1), .val (.int i2), .val (.int (1 : Int32)), .val (.int v77_s0), .unset, .unset, .unset, .unset, .unset, .unset, .unset] [(.int (0 : Int32))])) t
          exact k)
        exact ⟨(0 : Int32), (Eq.symm (if_pos c79)), P80⟩
      · skip
        have P81 : own_Go p e below S0 (s₁.setTop (mkF m 36 #[.val (.int i0), .val (.int i1), .val (.int i2), .val (.int (1 : Int32)), .val (.int v77_s0), .unset, .unset, .unset, .unset, .unset, .unset, .unset] [(.int (1 : Int32))])) := fun t k => P78 t (by
          show Steps p.tables e below (s₁.setTop (mkF m 28 #[.val (.int i0), .val (.int i1), .val (.int i2), .val (.int (1 : Int32)), .val (.int v77_s0), .unset, .unset, .unset, .unset, .unset, .unset, .unset] [(.int (i2 &&& (4 : Int32)))])) t
          refine XS.ifNo X0.here hx rfl (hb hby at_28) rfl ((if0 _ _).trans (feq c79).1) ?_
          refine XS.iconst X0.here hx rfl (hb hby at_31) ?_
          refine XS.goto X0.here hx rfl (pc0 := 32) (pc' := 36) rfl (hb hby at_32) (by decide) (by decide) ?_
          show Steps p.tables e below (s₁.setTop (mkF m 36 #[.val (.int i0), .val (.int i1), .val (.int i2), .val (.int (1 : Int32)), .val (.int v77_s0), .unset, .unset, .unset, .unset, .unset, .unset, .unset] [(.int (1 : Int32))])) t
          exact k)
        exact ⟨(1 : Int32), (Eq.symm (if_neg c79)), P81⟩
    have P83 : own_Go p e below S0 (s₁.setTop (mkF m 38 #[.val (.int i0), .val (.int i1), .val (.int i2), .val (.int (1 : Int32)), .val (.int v77_s0), .val (.int v82_s0), .unset, .unset, .unset, .unset, .unset, .unset] [])) := fun t k => P82 t (by
      show Steps p.tables e below (s₁.setTop (mkF m 36 #[.val (.int i0), .val (.int i1), .val (.int i2), .val (.int (1 : Int32)), .val (.int v77_s0), .unset, .unset, .unset, .unset, .unset, .unset, .unset] [(.int v82_s0)])) t
      refine XS.istore X0.here hx rfl (hb hby at_36) rfl (l' := #[.val (.int i0), .val (.int i1), .val (.int i2), .val (.int (1 : Int32)), .val (.int v77_s0), .val (.int v82_s0), .unset, .unset, .unset, .unset, .unset, .unset]) rfl ?_
      show Steps p.tables e below (s₁.setTop (mkF m 38 #[.val (.int i0), .val (.int i1), .val (.int i2), .val (.int (1 : Int32)), .val (.int v77_s0), .val (.int v82_s0), .unset, .unset, .unset, .unset, .unset, .unset] [])) t
      exact k)
    obtain ⟨T84, h84, X84, e84, E84, A84, D84, -, st84⟩ := newO X0 hx hZ hown (hw _ (List.mem_of_getElem? (i := 0) rfl)) (hw _ (List.mem_of_getElem? (i := 1) rfl)) (hw _ (List.mem_of_getElem? (i := 2) rfl)) e0 (g := (mkF m 38 #[.val (.int i0), .val (.int i1), .val (.int i2), .val (.int (1 : Int32)), .val (.int v77_s0), .val (.int v82_s0), .unset, .unset, .unset, .unset, .unset, .unset] [])) rfl (hb hby at_38) (by decide) (by decide)
    obtain ⟨b84, g84⟩ : ∃ z, z = h0.size := ⟨_, rfl⟩
    rw [← g84] at A84 D84 st84
    have sz_b84 : h0.size ≤ b84 := Nat.le_of_eq g84.symm
    have g_b84 : n0 ≤ b84 := Nat.le_trans Z0 sz_b84
    have o_b84 : h0.size ≤ b84 := sz_b84
    have K84 : Keep h0 h84 [] := (Keep.refl h0 []).ext E84
    have F84_transitions : Fld Z h84 b84 "com/example/penelope/penelope/program/Location" "transitions" "Ljava/util/List;" .null := D84 (Or.inr (hw _ (List.mem_of_getElem? (i := 34) rfl))) (ty := (.object "java/util/List")) (by decide)
    have F84_deadVariables : Fld Z h84 b84 "com/example/penelope/penelope/program/Location" "deadVariables" "Ljava/util/List;" .null := D84 (Or.inl (hw _ (List.mem_of_getElem? (i := 42) rfl))) (ty := (.object "java/util/List")) (by decide)
    have F84_id : Fld Z h84 b84 "com/example/penelope/penelope/program/Location" "id" "I" (.int (0 : Int32)) := D84 (Or.inr (hw _ (List.mem_of_getElem? (i := 44) rfl))) (ty := .int) (by decide)
    have F84_line : Fld Z h84 b84 "com/example/penelope/penelope/program/Location" "line" "I" (.int (0 : Int32)) := D84 (Or.inr (hw _ (List.mem_of_getElem? (i := 46) rfl))) (ty := .int) (by decide)
    have F84_end : Fld Z h84 b84 "com/example/penelope/penelope/program/Location" "end" "Z" (.int (0 : Int32)) := D84 (Or.inr (hw _ (List.mem_of_getElem? (i := 48) rfl))) (ty := .boolean) (by decide)
    have F84_validEnd : Fld Z h84 b84 "com/example/penelope/penelope/program/Location" "validEnd" "Z" (.int (0 : Int32)) := D84 (Or.inl (hw _ (List.mem_of_getElem? (i := 55) rfl))) (ty := .boolean) (by decide)
    have F84_accepting : Fld Z h84 b84 "com/example/penelope/penelope/program/Location" "accepting" "Z" (.int (0 : Int32)) := D84 (Or.inl (hw _ (List.mem_of_getElem? (i := 67) rfl))) (ty := .boolean) (by decide)
    have F84_independent : Fld Z h84 b84 "com/example/penelope/penelope/program/Location" "independent" "Z" (.int (0 : Int32)) := D84 (Or.inl (hw _ (List.mem_of_getElem? (i := 74) rfl))) (ty := .boolean) (by decide)
    have F84_breaksCycles : Fld Z h84 b84 "com/example/penelope/penelope/program/Location" "breaksCycles" "Z" (.int (0 : Int32)) := D84 (Or.inl (hw _ (List.mem_of_getElem? (i := 81) rfl))) (ty := .boolean) (by decide)
    have P84 : own_Go p e below S0 (T84.setTop (mkF m 41 #[.val (.int i0), .val (.int i1), .val (.int i2), .val (.int (1 : Int32)), .val (.int v77_s0), .val (.int v82_s0), .unset, .unset, .unset, .unset, .unset, .unset] [(.ref b84)])) := fun t k => P83 t (st84 _ k)
    have F85 : Sta Z h84 "java/util/ArrayList" "DEFAULTCAPACITY_EMPTY_ELEMENTDATA" "[Ljava/lang/Object;" (.ref z0_DEFAULTCAPACITY_EMPTY_ELEMENTDATA) := S_DEFAULTCAPACITY_EMPTY_ELEMENTDATA.ext E84
    have F86 : Sta Z h84 "java/util/ImmutableCollections" "EMPTY_LIST" "Ljava/util/ImmutableCollections$ListN;" (.ref z0_EMPTY_LIST) := S_EMPTY_LIST.ext E84
    have P87 : own_Go p e below S0 (T84.setTop (mkF m 45 #[.val (.int i0), .val (.int i1), .val (.int i2), .val (.int (1 : Int32)), .val (.int v77_s0), .val (.int v82_s0), .unset, .unset, .unset, .unset, .unset, .unset] [(.int (1 : Int32)), (.int i1), (.int i0), (.ref b84), (.ref b84)])) := fun t k => P84 t (by
      show Steps p.tables e below (T84.setTop (mkF m 41 #[.val (.int i0), .val (.int i1), .val (.int i2), .val (.int (1 : Int32)), .val (.int v77_s0), .val (.int v82_s0), .unset, .unset, .unset, .unset, .unset, .unset] [(.ref b84)])) t
      refine XS.dup X84.here hx rfl (hb hby at_41) rfl rfl ?_
      refine XS.iloadN X84.here hx rfl (hb hby at_42) rfl ?_
      refine XS.iloadN X84.here hx rfl (hb hby at_43) rfl ?_
      refine XS.iloadN X84.here hx rfl (hb hby at_44) rfl ?_
      show Steps p.tables e below (T84.setTop (mkF m 45 #[.val (.int i0), .val (.int i1), .val (.int i2), .val (.int (1 : Int32)), .val (.int v77_s0), .val (.int v82_s0), .unset, .unset, .unset, .unset, .unset, .unset] [(.int (1 : Int32)), (.int i1), (.int i0), (.ref b84), (.ref b84)])) t
      exact k)
    obtain ⟨_, _, ⟨T88, L88, k88, n88⟩, -, X88, ⟨Lc88, hQ88, l88, y88, z88⟩, st88⟩ := X84.specialBack hx (y := (⟨"com/example/penelope/penelope/program/Location", "<init>", "(IIZ)V"⟩ : MethodName)) rfl hown (mvT hZ (hw _ (List.mem_of_getElem? (i := 3) rfl))) (mvT hZ (hw _ (List.mem_of_getElem? (i := 4) rfl))) (mvT hZ (hw _ (List.mem_of_getElem? (i := 5) rfl))) (by decide) (backOf (W := 1) (rm1t l Z a0 hw [] b84 i0 i1 (0 : Int32) (0 : Int32) (0 : Int32) (0 : Int32) z0_DEFAULTCAPACITY_EMPTY_ELEMENTDATA .null z0_EMPTY_LIST .null (.int (0 : Int32)) (.int (0 : Int32)) (.int (0 : Int32)) h84 n0 (Nat.le_trans Z0 K84.1) F84_validEnd F84_accepting F84_independent F84_breaksCycles F85 A84 F84_transitions g_b84 F86 F84_deadVariables F84_id F84_line F84_end) hZ (hw _ (List.mem_of_getElem? (i := 5) rfl)) (hw _ (List.mem_of_getElem? (i := 2) rfl)) (by decide) (by decide)) (g := (mkF m 45 #[.val (.int i0), .val (.int i1), .val (.int i2), .val (.int (1 : Int32)), .val (.int v77_s0), .val (.int v82_s0), .unset, .unset, .unset, .unset, .unset, .unset] [(.int (1 : Int32)), (.int i1), (.int i0), (.ref b84), (.ref b84)])) rfl (by rw [hml]; rfl) (Steps.refl _) (a := b84) (argsL := [(.int i0), (.int i1), (.int (1 : Int32))]) (rest := [(.ref b84)]) (lenOf pd_2 rfl) rfl (by show 2 * 0 + _ ≤ _; exact Nat.le_of_eq rfl) (hb hby at_45) (fun _ _ => ⟨rfl, e84, (by decide : 1 + 1 ≤ _), (by decide : 9 + 3 ≤ _)⟩)
    dsimp only [Pt.U, Pt.locs, Pt.cells, Pt.slots] at X88 l88 y88 z88 st88 hQ88
    subst l88 y88 z88
    obtain ⟨b4_88, rfl, N88q, Kc88, sz_b4_88, F88_0, F88_1, F88_2, F88_3, F88_4, F88_5, F88_6, F88_7, F88_8, F88_9, F88_10, F88_11⟩ := hQ88
    have N88 := Fr.app N0 N88q
    have ne_b84_b4_88 : b84 ≠ b4_88 := Nat.ne_of_lt (Nat.lt_of_lt_of_le A84.lt sz_b4_88)
    have g_b4_88 : n0 ≤ b4_88 := Nat.le_trans (Nat.le_trans Z0 K84.1) sz_b4_88
    have o_b4_88 : h0.size ≤ b4_88 := Nat.le_trans K84.1 sz_b4_88
    have K88 : Keep h0 T88.heap [] := Keep.trans K84 Kc88 (allS (Or.inr o_b84) all0)
    have P88 : own_Go p e below S0 (T88.setTop (mkF m 48 #[.val (.int i0), .val (.int i1), .val (.int i2), .val (.int (1 : Int32)), .val (.int v77_s0), .val (.int v82_s0), .unset, .unset, .unset, .unset, .unset, .unset] [(.ref b84)])) := fun t k => P87 t (st88.trans k)
    have F89 : Exa Z T88.heap b84 "com/example/penelope/penelope/program/Location" := A84.keep Kc88
    have P90 : own_Go p e below S0 (T88.setTop (mkF m 52 #[.val (.int i0), .val (.int i1), .val (.int i2), .val (.int (1 : Int32)), .val (.int v77_s0), .val (.int v82_s0), .val (.ref b84), .unset, .unset, .unset, .unset, .unset] [(.ref b84)])) := fun t k => P88 t (by
      show Steps p.tables e below (T88.setTop (mkF m 48 #[.val (.int i0), .val (.int i1), .val (.int i2), .val (.int (1 : Int32)), .val (.int v77_s0), .val (.int v82_s0), .unset, .unset, .unset, .unset, .unset, .unset] [(.ref b84)])) t
      refine XS.astore X88.here hx rfl (hb hby at_48) rfl rfl (l' := #[.val (.int i0), .val (.int i1), .val (.int i2), .val (.int (1 : Int32)), .val (.int v77_s0), .val (.int v82_s0), .val (.ref b84), .unset, .unset, .unset, .unset, .unset]) rfl ?_
      refine XS.aload X88.here hx rfl (hb hby at_50) rfl rfl ?_
      show Steps p.tables e below (T88.setTop (mkF m 52 #[.val (.int i0), .val (.int i1), .val (.int i2), .val (.int (1 : Int32)), .val (.int v77_s0), .val (.int v82_s0), .val (.ref b84), .unset, .unset, .unset, .unset, .unset] [(.ref b84)])) t
      exact k)
    obtain ⟨cq91, kq91, q91a, q91b, q91c⟩ := isOf hZ rfl F89
    obtain ⟨_, _, ⟨T91, L91, k91, n91⟩, -, X91, ⟨Lc91, hQ91, l91, y91, z91⟩, st91⟩ := X88.virtualBack hx (y := (⟨"com/example/penelope/penelope/program/Location", "isValidEnd", "()Z"⟩ : MethodName)) (z := (⟨"com/example/penelope/penelope/program/Location", "isValidEnd", "()Z"⟩ : MethodName)) hown (mvT hZ (hw _ (List.mem_of_getElem? (i := 49) rfl))) (mvT hZ (hw _ (List.mem_of_getElem? (i := 50) rfl))) (notFace_of_selects (args := #[]) (mvT hZ (hw _ (List.mem_of_getElem? (i := 52) rfl)))) (mvT hZ (hw _ (List.mem_of_getElem? (i := 52) rfl))) (mvT hZ (hw _ (List.mem_of_getElem? (i := 51) rfl))) (by decide) (backOf (W := 0) (rm7 l Z a0 hw [] b84 (1 : Int32) (0 : Int32) T88.heap n0 (Nat.le_trans Z0 K88.1) F88_11 F88_0) hZ (hw _ (List.mem_of_getElem? (i := 53) rfl)) (hw _ (List.mem_of_getElem? (i := 2) rfl)) (by decide) (by decide)) q91a q91c (g := (mkF m 52 #[.val (.int i0), .val (.int i1), .val (.int i2), .val (.int (1 : Int32)), .val (.int v77_s0), .val (.int v82_s0), .val (.ref b84), .unset, .unset, .unset, .unset, .unset] [(.ref b84)])) rfl (by rw [hml]; rfl) (Steps.refl _) (argsL := []) (rest := []) (lenOf pd_3 rfl) rfl (by show 2 * 0 + _ ≤ _; exact Nat.le_of_eq rfl) (hb hby at_52) (fun _ _ => ⟨rfl, rfl, (by decide : 2 + 0 ≤ _), (by decide : 12 + 0 ≤ _)⟩)
    dsimp only [Pt.U, Pt.locs, Pt.cells, Pt.slots] at X91 l91 y91 z91 st91 hQ91
    subst l91 y91 z91
    obtain ⟨rfl, N91q, e91⟩ := hQ91
    have N91 := Fr.app N88 N91q
    have P91 : own_Go p e below S0 (T91.setTop (mkF m 55 #[.val (.int i0), .val (.int i1), .val (.int i2), .val (.int (1 : Int32)), .val (.int v77_s0), .val (.int v82_s0), .val (.ref b84), .unset, .unset, .unset, .unset, .unset] [(.int (r7 (1 : Int32) (0 : Int32)))])) := fun t k => P90 t (st91.trans k)
    have c92 : (r7 (1 : Int32) (0 : Int32)) = (1 : Int32) := by decide
    have F93 : Sta Z T88.heap "java/util/ArrayList" "DEFAULTCAPACITY_EMPTY_ELEMENTDATA" "[Ljava/lang/Object;" (.ref z0_DEFAULTCAPACITY_EMPTY_ELEMENTDATA) := own_staK F85 Kc88 (allS (own_plE A84) all0)
    have F94 : Sta Z T88.heap "java/util/ImmutableCollections" "EMPTY_LIST" "Ljava/util/ImmutableCollections$ListN;" (.ref z0_EMPTY_LIST) := own_staK F86 Kc88 (allS (own_plE A84) all0)
    have P95 : own_Go p e below S0 (T91.setTop (mkF m 72 #[.val (.int i0), .val (.int i1), .val (.int i2), .val (.int (1 : Int32)), .val (.int v77_s0), .val (.int v82_s0), .val (.ref b84), .val (.int (r7 (1 : Int32) (0 : Int32))), .val (.int (1 : Int32)), .unset, .unset, .unset] [(.int v82_s0)])) := fun t k => P91 t (by
      show Steps p.tables e below (T91.setTop (mkF m 55 #[.val (.int i0), .val (.int i1), .val (.int i2), .val (.int (1 : Int32)), .val (.int v77_s0), .val (.int v82_s0), .val (.ref b84), .unset, .unset, .unset, .unset, .unset] [(.int (r7 (1 : Int32) (0 : Int32)))])) t
      refine XS.istore X91.here hx rfl (hb hby at_55) rfl (l' := #[.val (.int i0), .val (.int i1), .val (.int i2), .val (.int (1 : Int32)), .val (.int v77_s0), .val (.int v82_s0), .val (.ref b84), .val (.int (r7 (1 : Int32) (0 : Int32))), .unset, .unset, .unset, .unset]) rfl ?_
      refine XS.iload X91.here hx rfl (hb hby at_57) rfl ?_
      refine XS.iloadN X91.here hx rfl (hb hby at_59) rfl ?_
      refine XS.icmpNo X91.here hx rfl (hb hby at_60) rfl (teq c92).2 ?_
      refine XS.iconst X91.here hx rfl (hb hby at_63) ?_
      refine XS.goto X91.here hx rfl (pc0 := 64) (pc' := 68) rfl (hb hby at_64) (by decide) (by decide) ?_
      show Steps p.tables e below (T91.setTop (mkF m 68 #[.val (.int i0), .val (.int i1), .val (.int i2), .val (.int (1 : Int32)), .val (.int v77_s0), .val (.int v82_s0), .val (.ref b84), .val (.int (r7 (1 : Int32) (0 : Int32))), .unset, .unset, .unset, .unset] [(.int (1 : Int32))])) t
      refine XS.istore X91.here hx rfl (hb hby at_68) rfl (l' := #[.val (.int i0), .val (.int i1), .val (.int i2), .val (.int (1 : Int32)), .val (.int v77_s0), .val (.int v82_s0), .val (.ref b84), .val (.int (r7 (1 : Int32) (0 : Int32))), .val (.int (1 : Int32)), .unset, .unset, .unset]) rfl ?_
      refine XS.iload X91.here hx rfl (hb hby at_70) rfl ?_
      show Steps p.tables e below (T91.setTop (mkF m 72 #[.val (.int i0), .val (.int i1), .val (.int i2), .val (.int (1 : Int32)), .val (.int v77_s0), .val (.int v82_s0), .val (.ref b84), .val (.int (r7 (1 : Int32) (0 : Int32))), .val (.int (1 : Int32)), .unset, .unset, .unset] [(.int v82_s0)])) t
      exact k)
    obtain ⟨T116, lo116, h116, v116_f_b84_accepting, v116_f_b84_independent, v116_f_b84_breaksCycles, X116, e116, N116, K116, F117, F118, F119, F120, F121, F122, F123, F124, F125, hv116_f_b84_accepting, hv116_f_b84_independent, hv116_f_b84_breaksCycles, P116⟩ : ∃ (T116 : State) (lo116 : List Loc) (h116 : Heap) (v116_f_b84_accepting : Int32) (v116_f_b84_independent : Int32) (v116_f_b84_breaksCycles : Int32), (Stand p l e room_1 s m #[(.int i0), (.int i1), (.int i2)] below meth c T116 lo116 2 12) ∧ (T116.heap = h116) ∧ (Fr n0 lo116) ∧ (Keep h0 h116 []) ∧ (Exa Z h116 b84 "com/example/penelope/penelope/program/Location") ∧ (Sta Z h116 "java/util/ArrayList" "DEFAULTCAPACITY_EMPTY_ELEMENTDATA" "[Ljava/lang/Object;" (.ref z0_DEFAULTCAPACITY_EMPTY_ELEMENTDATA)) ∧ (Sta Z h116 "java/util/ImmutableCollections" "EMPTY_LIST" "Ljava/util/ImmutableCollections$ListN;" (.ref z0_EMPTY_LIST)) ∧ (Fld Z h116 b84 "com/example/penelope/penelope/program/Location" "validEnd" "Z" (.int (0 : Int32))) ∧ (Fld Z h116 b84 "com/example/penelope/penelope/program/Location" "accepting" "Z" (.int v116_f_b84_accepting)) ∧ (Fld Z h116 b84 "com/example/penelope/penelope/program/Location" "independent" "Z" (.int v116_f_b84_independent)) ∧ (Fld Z h116 b84 "com/example/penelope/penelope/program/Location" "breaksCycles" "Z" (.int v116_f_b84_breaksCycles)) ∧ (Exa Z h116 b4_88 "java/util/ArrayList") ∧ (Fld Z h116 b84 "com/example/penelope/penelope/program/Location" "end" "Z" (.int (1 : Int32))) ∧ (v116_f_b84_accepting = (if v82_s0 = (0 : Int32) then (0 : Int32) else (1 : Int32))) ∧ (v116_f_b84_independent = (if v82_s0 = (0 : Int32) then (0 : Int32) else (1 : Int32))) ∧ (v116_f_b84_breaksCycles = (if v82_s0 = (0 : Int32) then (0 : Int32) else (1 : Int32))) ∧ (own_Go p e below S0 (T116.setTop (mkF m 90 #[.val (.int i0), .val (.int i1), .val (.int i2), .val (.int (1 : Int32)), .val (.int v77_s0), .val (.int v82_s0), .val (.ref b84), .val (.int (r7 (1 : Int32) (0 : Int32))), .val (.int (1 : Int32)), .unset, .unset, .unset] []))) := by
      by_cases c96 : v82_s0 = (0 : Int32)
      · skip
        have P97 : own_Go p e below S0 (T91.setTop (mkF m 90 #[.val (.int i0), .val (.int i1), .val (.int i2), .val (.int (1 : Int32)), .val (.int v77_s0), .val (.int v82_s0), .val (.ref b84), .val (.int (r7 (1 : Int32) (0 : Int32))), .val (.int (1 : Int32)), .unset, .unset, .unset] [])) := fun t k => P95 t (by
          show Steps p.tables e below (T91.setTop (mkF m 72 #[.val (.int i0), .val (.int i1), .val (.int i2), .val (.int (1 : Int32)), .val (.int v77_s0), .val (.int v82_s0), .val (.ref b84), .val (.int (r7 (1 : Int32) (0 : Int32))), .val (.int (1 : Int32)), .unset, .unset, .unset] [(.int v82_s0)])) t
          refine XS.ifYes X91.here hx rfl (pc0 := 72) (pc' := 90) rfl (hb hby at_72) rfl ((if0 _ _).trans (teq c96).1) (by decide) (by decide) ?_
          show Steps p.tables e below (T91.setTop (mkF m 90 #[.val (.int i0), .val (.int i1), .val (.int i2), .val (.int (1 : Int32)), .val (.int v77_s0), .val (.int v82_s0), .val (.ref b84), .val (.int (r7 (1 : Int32) (0 : Int32))), .val (.int (1 : Int32)), .unset, .unset, .unset] [])) t
          exact k)
        exact ⟨T91, _, T88.heap, (0 : Int32), (0 : Int32), (0 : Int32), X91, e91, N91, K88, F89, F93, F94, F88_0, F88_1, F88_2, F88_3, F88_4, F88_11, (Eq.symm (if_pos c96)), (Eq.symm (if_pos c96)), (Eq.symm (if_pos c96)), P97⟩
      · skip
        have P98 : own_Go p e below S0 (T91.setTop (mkF m 77 #[.val (.int i0), .val (.int i1), .val (.int i2), .val (.int (1 : Int32)), .val (.int v77_s0), .val (.int v82_s0), .val (.ref b84), .val (.int (r7 (1 : Int32) (0 : Int32))), .val (.int (1 : Int32)), .unset, .unset, .unset] [(.ref b84)])) := fun t k => P95 t (by
          show Steps p.tables e below (T91.setTop (mkF m 72 #[.val (.int i0), .val (.int i1), .val (.int i2), .val (.int (1 : Int32)), .val (.int v77_s0), .val (.int v82_s0), .val (.ref b84), .val (.int (r7 (1 : Int32) (0 : Int32))), .val (.int (1 : Int32)), .unset, .unset, .unset] [(.int v82_s0)])) t
          refine XS.ifNo X91.here hx rfl (hb hby at_72) rfl ((if0 _ _).trans (feq c96).1) ?_
          refine XS.aload X91.here hx rfl (hb hby at_75) rfl rfl ?_
          show Steps p.tables e below (T91.setTop (mkF m 77 #[.val (.int i0), .val (.int i1), .val (.int i2), .val (.int (1 : Int32)), .val (.int v77_s0), .val (.int v82_s0), .val (.ref b84), .val (.int (r7 (1 : Int32) (0 : Int32))), .val (.int (1 : Int32)), .unset, .unset, .unset] [(.ref b84)])) t
          exact k)
        obtain ⟨cq99, kq99, q99a, q99b, q99c⟩ := isOf hZ e91 F89
        obtain ⟨_, _, ⟨T99, L99, k99, n99⟩, -, X99, ⟨Lc99, hQ99, l99, y99, z99⟩, st99⟩ := X91.virtualBack hx (y := (⟨"com/example/penelope/penelope/program/Location", "markAccepting", "()V"⟩ : MethodName)) (z := (⟨"com/example/penelope/penelope/program/Location", "markAccepting", "()V"⟩ : MethodName)) hown (mvT hZ (hw _ (List.mem_of_getElem? (i := 61) rfl))) (mvT hZ (hw _ (List.mem_of_getElem? (i := 62) rfl))) (notFace_of_selects (args := #[]) (mvT hZ (hw _ (List.mem_of_getElem? (i := 64) rfl)))) (mvT hZ (hw _ (List.mem_of_getElem? (i := 64) rfl))) (mvT hZ (hw _ (List.mem_of_getElem? (i := 63) rfl))) (by decide) (backOf (W := 0) (rm9 l Z a0 hw [] b84 (1 : Int32) (0 : Int32) (0 : Int32) (0 : Int32) (0 : Int32) T88.heap n0 (Nat.le_trans Z0 K88.1) F88_11 F88_0 F88_1 F88_2 F88_3 F89 g_b84) hZ (hw _ (List.mem_of_getElem? (i := 65) rfl)) (hw _ (List.mem_of_getElem? (i := 2) rfl)) (by decide) (by decide)) q99a q99c (g := (mkF m 77 #[.val (.int i0), .val (.int i1), .val (.int i2), .val (.int (1 : Int32)), .val (.int v77_s0), .val (.int v82_s0), .val (.ref b84), .val (.int (r7 (1 : Int32) (0 : Int32))), .val (.int (1 : Int32)), .unset, .unset, .unset] [(.ref b84)])) rfl (by rw [hml]; rfl) (Steps.refl _) (argsL := []) (rest := []) (lenOf pd_0 rfl) rfl (by show 2 * 0 + _ ≤ _; exact Nat.le_of_eq rfl) (hb hby at_77) (fun _ _ => ⟨rfl, e91, (by decide : 2 + 0 ≤ _), (by decide : 12 + 0 ≤ _)⟩)
        dsimp only [Pt.U, Pt.locs, Pt.cells, Pt.slots] at X99 l99 y99 z99 st99 hQ99
        subst l99 y99 z99
        obtain ⟨rfl, N99q, Kc99, F99_0, F99_1, F99_2, F99_3, F99_4⟩ := hQ99
        have N99 := Fr.app N91 N99q
        have K99 : Keep h0 T99.heap [] := Keep.trans K88 Kc99 (allS (Or.inr o_b84) all0)
        have P99 : own_Go p e below S0 (T99.setTop (mkF m 80 #[.val (.int i0), .val (.int i1), .val (.int i2), .val (.int (1 : Int32)), .val (.int v77_s0), .val (.int v82_s0), .val (.ref b84), .val (.int (r7 (1 : Int32) (0 : Int32))), .val (.int (1 : Int32)), .unset, .unset, .unset] [])) := fun t k => P98 t (st99.trans k)
        have F100 : Exa Z T99.heap b84 "com/example/penelope/penelope/program/Location" := F89.keep Kc99
        have P101 : own_Go p e below S0 (T99.setTop (mkF m 82 #[.val (.int i0), .val (.int i1), .val (.int i2), .val (.int (1 : Int32)), .val (.int v77_s0), .val (.int v82_s0), .val (.ref b84), .val (.int (r7 (1 : Int32) (0 : Int32))), .val (.int (1 : Int32)), .unset, .unset, .unset] [(.ref b84)])) := fun t k => P99 t (by
          show Steps p.tables e below (T99.setTop (mkF m 80 #[.val (.int i0), .val (.int i1), .val (.int i2), .val (.int (1 : Int32)), .val (.int v77_s0), .val (.int v82_s0), .val (.ref b84), .val (.int (r7 (1 : Int32) (0 : Int32))), .val (.int (1 : Int32)), .unset, .unset, .unset] [])) t
          refine XS.aload X99.here hx rfl (hb hby at_80) rfl rfl ?_
          show Steps p.tables e below (T99.setTop (mkF m 82 #[.val (.int i0), .val (.int i1), .val (.int i2), .val (.int (1 : Int32)), .val (.int v77_s0), .val (.int v82_s0), .val (.ref b84), .val (.int (r7 (1 : Int32) (0 : Int32))), .val (.int (1 : Int32)), .unset, .unset, .unset] [(.ref b84)])) t
          exact k)
        obtain ⟨cq102, kq102, q102a, q102b, q102c⟩ := isOf hZ rfl F100
        obtain ⟨_, _, ⟨T102, L102, k102, n102⟩, -, X102, ⟨Lc102, hQ102, l102, y102, z102⟩, st102⟩ := X99.virtualBack hx (y := (⟨"com/example/penelope/penelope/program/Location", "markIndependent", "()V"⟩ : MethodName)) (z := (⟨"com/example/penelope/penelope/program/Location", "markIndependent", "()V"⟩ : MethodName)) hown (mvT hZ (hw _ (List.mem_of_getElem? (i := 68) rfl))) (mvT hZ (hw _ (List.mem_of_getElem? (i := 69) rfl))) (notFace_of_selects (args := #[]) (mvT hZ (hw _ (List.mem_of_getElem? (i := 71) rfl)))) (mvT hZ (hw _ (List.mem_of_getElem? (i := 71) rfl))) (mvT hZ (hw _ (List.mem_of_getElem? (i := 70) rfl))) (by decide) (backOf (W := 0) (rm10 l Z a0 hw [] b84 (1 : Int32) (0 : Int32) (1 : Int32) (0 : Int32) (0 : Int32) T99.heap n0 (Nat.le_trans Z0 K99.1) F99_0 F99_1 F99_2 F99_3 F99_4 F100 g_b84) hZ (hw _ (List.mem_of_getElem? (i := 72) rfl)) (hw _ (List.mem_of_getElem? (i := 2) rfl)) (by decide) (by decide)) q102a q102c (g := (mkF m 82 #[.val (.int i0), .val (.int i1), .val (.int i2), .val (.int (1 : Int32)), .val (.int v77_s0), .val (.int v82_s0), .val (.ref b84), .val (.int (r7 (1 : Int32) (0 : Int32))), .val (.int (1 : Int32)), .unset, .unset, .unset] [(.ref b84)])) rfl (by rw [hml]; rfl) (Steps.refl _) (argsL := []) (rest := []) (lenOf pd_0 rfl) rfl (by show 2 * 0 + _ ≤ _; exact Nat.le_of_eq rfl) (hb hby at_82) (fun _ _ => ⟨rfl, rfl, (by decide : 2 + 0 ≤ _), (by decide : 12 + 0 ≤ _)⟩)
        dsimp only [Pt.U, Pt.locs, Pt.cells, Pt.slots] at X102 l102 y102 z102 st102 hQ102
        subst l102 y102 z102
        obtain ⟨rfl, N102q, Kc102, F102_0, F102_1, F102_2, F102_3, F102_4⟩ := hQ102
        have N102 := Fr.app N99 N102q
        have K102 : Keep h0 T102.heap [] := Keep.trans K99 Kc102 (allS (Or.inr o_b84) all0)
        have P102 : own_Go p e below S0 (T102.setTop (mkF m 85 #[.val (.int i0), .val (.int i1), .val (.int i2), .val (.int (1 : Int32)), .val (.int v77_s0), .val (.int v82_s0), .val (.ref b84), .val (.int (r7 (1 : Int32) (0 : Int32))), .val (.int (1 : Int32)), .unset, .unset, .unset] [])) := fun t k => P101 t (st102.trans k)
        have F103 : Exa Z T102.heap b84 "com/example/penelope/penelope/program/Location" := F100.keep Kc102
        have P104 : own_Go p e below S0 (T102.setTop (mkF m 87 #[.val (.int i0), .val (.int i1), .val (.int i2), .val (.int (1 : Int32)), .val (.int v77_s0), .val (.int v82_s0), .val (.ref b84), .val (.int (r7 (1 : Int32) (0 : Int32))), .val (.int (1 : Int32)), .unset, .unset, .unset] [(.ref b84)])) := fun t k => P102 t (by
          show Steps p.tables e below (T102.setTop (mkF m 85 #[.val (.int i0), .val (.int i1), .val (.int i2), .val (.int (1 : Int32)), .val (.int v77_s0), .val (.int v82_s0), .val (.ref b84), .val (.int (r7 (1 : Int32) (0 : Int32))), .val (.int (1 : Int32)), .unset, .unset, .unset] [])) t
          refine XS.aload X102.here hx rfl (hb hby at_85) rfl rfl ?_
          show Steps p.tables e below (T102.setTop (mkF m 87 #[.val (.int i0), .val (.int i1), .val (.int i2), .val (.int (1 : Int32)), .val (.int v77_s0), .val (.int v82_s0), .val (.ref b84), .val (.int (r7 (1 : Int32) (0 : Int32))), .val (.int (1 : Int32)), .unset, .unset, .unset] [(.ref b84)])) t
          exact k)
        obtain ⟨cq105, kq105, q105a, q105b, q105c⟩ := isOf hZ rfl F103
        obtain ⟨_, _, ⟨T105, L105, k105, n105⟩, -, X105, ⟨Lc105, hQ105, l105, y105, z105⟩, st105⟩ := X102.virtualBack hx (y := (⟨"com/example/penelope/penelope/program/Location", "markBreaksCycles", "()V"⟩ : MethodName)) (z := (⟨"com/example/penelope/penelope/program/Location", "markBreaksCycles", "()V"⟩ : MethodName)) hown (mvT hZ (hw _ (List.mem_of_getElem? (i := 75) rfl))) (mvT hZ (hw _ (List.mem_of_getElem? (i := 76) rfl))) (notFace_of_selects (args := #[]) (mvT hZ (hw _ (List.mem_of_getElem? (i := 78) rfl)))) (mvT hZ (hw _ (List.mem_of_getElem? (i := 78) rfl))) (mvT hZ (hw _ (List.mem_of_getElem? (i := 77) rfl))) (by decide) (backOf (W := 0) (rm11 l Z a0 hw [] b84 (1 : Int32) (0 : Int32) (1 : Int32) (1 : Int32) (0 : Int32) T102.heap n0 (Nat.le_trans Z0 K102.1) F102_0 F102_1 F102_2 F102_3 F102_4 F103 g_b84) hZ (hw _ (List.mem_of_getElem? (i := 79) rfl)) (hw _ (List.mem_of_getElem? (i := 2) rfl)) (by decide) (by decide)) q105a q105c (g := (mkF m 87 #[.val (.int i0), .val (.int i1), .val (.int i2), .val (.int (1 : Int32)), .val (.int v77_s0), .val (.int v82_s0), .val (.ref b84), .val (.int (r7 (1 : Int32) (0 : Int32))), .val (.int (1 : Int32)), .unset, .unset, .unset] [(.ref b84)])) rfl (by rw [hml]; rfl) (Steps.refl _) (argsL := []) (rest := []) (lenOf pd_0 rfl) rfl (by show 2 * 0 + _ ≤ _; exact Nat.le_of_eq rfl) (hb hby at_87) (fun _ _ => ⟨rfl, rfl, (by decide : 2 + 0 ≤ _), (by decide : 12 + 0 ≤ _)⟩)
        dsimp only [Pt.U, Pt.locs, Pt.cells, Pt.slots] at X105 l105 y105 z105 st105 hQ105
        subst l105 y105 z105
        obtain ⟨rfl, N105q, Kc105, F105_0, F105_1, F105_2, F105_3, F105_4⟩ := hQ105
        have N105 := Fr.app N102 N105q
        have K105 : Keep h0 T105.heap [] := Keep.trans K102 Kc105 (allS (Or.inr o_b84) all0)
        have P105 : own_Go p e below S0 (T105.setTop (mkF m 90 #[.val (.int i0), .val (.int i1), .val (.int i2), .val (.int (1 : Int32)), .val (.int v77_s0), .val (.int v82_s0), .val (.ref b84), .val (.int (r7 (1 : Int32) (0 : Int32))), .val (.int (1 : Int32)), .unset, .unset, .unset] [])) := fun t k => P104 t (st105.trans k)
        have F106 : Exa Z T105.heap b84 "com/example/penelope/penelope/program/Location" := F103.keep Kc105
        have F107 : Sta Z T99.heap "java/util/ArrayList" "DEFAULTCAPACITY_EMPTY_ELEMENTDATA" "[Ljava/lang/Object;" (.ref z0_DEFAULTCAPACITY_EMPTY_ELEMENTDATA) := own_staK F93 Kc99 (allS (own_plE F89) all0)
        have F108 : Sta Z T102.heap "java/util/ArrayList" "DEFAULTCAPACITY_EMPTY_ELEMENTDATA" "[Ljava/lang/Object;" (.ref z0_DEFAULTCAPACITY_EMPTY_ELEMENTDATA) := own_staK F107 Kc102 (allS (own_plE F100) all0)
        have F109 : Sta Z T105.heap "java/util/ArrayList" "DEFAULTCAPACITY_EMPTY_ELEMENTDATA" "[Ljava/lang/Object;" (.ref z0_DEFAULTCAPACITY_EMPTY_ELEMENTDATA) := own_staK F108 Kc105 (allS (own_plE F103) all0)
        have F110 : Sta Z T99.heap "java/util/ImmutableCollections" "EMPTY_LIST" "Ljava/util/ImmutableCollections$ListN;" (.ref z0_EMPTY_LIST) := own_staK F94 Kc99 (allS (own_plE F89) all0)
        have F111 : Sta Z T102.heap "java/util/ImmutableCollections" "EMPTY_LIST" "Ljava/util/ImmutableCollections$ListN;" (.ref z0_EMPTY_LIST) := own_staK F110 Kc102 (allS (own_plE F100) all0)
        have F112 : Sta Z T105.heap "java/util/ImmutableCollections" "EMPTY_LIST" "Ljava/util/ImmutableCollections$ListN;" (.ref z0_EMPTY_LIST) := own_staK F111 Kc105 (allS (own_plE F103) all0)
        have F113 : Exa Z T99.heap b4_88 "java/util/ArrayList" := F88_4.keep Kc99
        have F114 : Exa Z T102.heap b4_88 "java/util/ArrayList" := F113.keep Kc102
        have F115 : Exa Z T105.heap b4_88 "java/util/ArrayList" := F114.keep Kc105
        exact ⟨T105, _, T105.heap, (1 : Int32), (1 : Int32), (1 : Int32), X105, rfl, N105, K105, F106, F109, F112, F105_1, F105_2, F105_3, F105_4, F115, F105_0, (Eq.symm (if_neg c96)), (Eq.symm (if_neg c96)), (Eq.symm (if_neg c96)), P105⟩
    have P126 : own_Go p e below S0 (T116.setTop (mkF m 92 #[.val (.int i0), .val (.int i1), .val (.int i2), .val (.int (1 : Int32)), .val (.int v77_s0), .val (.int v82_s0), .val (.ref b84), .val (.int (r7 (1 : Int32) (0 : Int32))), .val (.int (1 : Int32)), .unset, .unset, .unset] [(.int v77_s0)])) := fun t k => P116 t (by
      show Steps p.tables e below (T116.setTop (mkF m 90 #[.val (.int i0), .val (.int i1), .val (.int i2), .val (.int (1 : Int32)), .val (.int v77_s0), .val (.int v82_s0), .val (.ref b84), .val (.int (r7 (1 : Int32) (0 : Int32))), .val (.int (1 : Int32)), .unset, .unset, .unset] [])) t
      refine XS.iload X116.here hx rfl (hb hby at_90) rfl ?_
      show Steps p.tables e below (T116.setTop (mkF m 92 #[.val (.int i0), .val (.int i1), .val (.int i2), .val (.int (1 : Int32)), .val (.int v77_s0), .val (.int v82_s0), .val (.ref b84), .val (.int (r7 (1 : Int32) (0 : Int32))), .val (.int (1 : Int32)), .unset, .unset, .unset] [(.int v77_s0)])) t
      exact k)
    by_cases c127 : v77_s0 = (0 : Int32)
    · skip
      have P128 : own_Go p e below S0 (T116.setTop (mkF m 102 #[.val (.int i0), .val (.int i1), .val (.int i2), .val (.int (1 : Int32)), .val (.int v77_s0), .val (.int v82_s0), .val (.ref b84), .val (.int (r7 (1 : Int32) (0 : Int32))), .val (.int (1 : Int32)), .unset, .unset, .unset] [(.ref b84)])) := fun t k => P126 t (by
        show Steps p.tables e below (T116.setTop (mkF m 92 #[.val (.int i0), .val (.int i1), .val (.int i2), .val (.int (1 : Int32)), .val (.int v77_s0), .val (.int v82_s0), .val (.ref b84), .val (.int (r7 (1 : Int32) (0 : Int32))), .val (.int (1 : Int32)), .unset, .unset, .unset] [(.int v77_s0)])) t
        refine XS.ifYes X116.here hx rfl (pc0 := 92) (pc' := 100) rfl (hb hby at_92) rfl ((if0 _ _).trans (teq c127).1) (by decide) (by decide) ?_
        refine XS.aload X116.here hx rfl (hb hby at_100) rfl rfl ?_
        show Steps p.tables e below (T116.setTop (mkF m 102 #[.val (.int i0), .val (.int i1), .val (.int i2), .val (.int (1 : Int32)), .val (.int v77_s0), .val (.int v82_s0), .val (.ref b84), .val (.int (r7 (1 : Int32) (0 : Int32))), .val (.int (1 : Int32)), .unset, .unset, .unset] [(.ref b84)])) t
        exact k)
      obtain ⟨cq129, kq129, q129a, q129b, q129c⟩ := isOf hZ e116 F117
      obtain ⟨_, _, ⟨T129, L129, k129, n129⟩, -, X129, ⟨Lc129, hQ129, l129, y129, z129⟩, st129⟩ := X116.virtualBack hx (y := (⟨"com/example/penelope/penelope/program/Location", "isValidEnd", "()Z"⟩ : MethodName)) (z := (⟨"com/example/penelope/penelope/program/Location", "isValidEnd", "()Z"⟩ : MethodName)) hown (mvT hZ (hw _ (List.mem_of_getElem? (i := 49) rfl))) (mvT hZ (hw _ (List.mem_of_getElem? (i := 50) rfl))) (notFace_of_selects (args := #[]) (mvT hZ (hw _ (List.mem_of_getElem? (i := 52) rfl)))) (mvT hZ (hw _ (List.mem_of_getElem? (i := 52) rfl))) (mvT hZ (hw _ (List.mem_of_getElem? (i := 51) rfl))) (by decide) (backOf (W := 0) (rm7 l Z a0 hw [] b84 (1 : Int32) (0 : Int32) h116 n0 (Nat.le_trans Z0 K116.1) F125 F120) hZ (hw _ (List.mem_of_getElem? (i := 53) rfl)) (hw _ (List.mem_of_getElem? (i := 2) rfl)) (by decide) (by decide)) q129a q129c (g := (mkF m 102 #[.val (.int i0), .val (.int i1), .val (.int i2), .val (.int (1 : Int32)), .val (.int v77_s0), .val (.int v82_s0), .val (.ref b84), .val (.int (r7 (1 : Int32) (0 : Int32))), .val (.int (1 : Int32)), .unset, .unset, .unset] [(.ref b84)])) rfl (by rw [hml]; rfl) (Steps.refl _) (argsL := []) (rest := []) (lenOf pd_3 rfl) rfl (by show 2 * 0 + _ ≤ _; exact Nat.le_of_eq rfl) (hb hby at_102) (fun _ _ => ⟨rfl, e116, (by decide : 2 + 0 ≤ _), (by decide : 12 + 0 ≤ _)⟩)
      dsimp only [Pt.U, Pt.locs, Pt.cells, Pt.slots] at X129 l129 y129 z129 st129 hQ129
      subst l129 y129 z129
      obtain ⟨rfl, N129q, e129⟩ := hQ129
      have N129 := Fr.app N116 N129q
      have P129 : own_Go p e below S0 (T129.setTop (mkF m 105 #[.val (.int i0), .val (.int i1), .val (.int i2), .val (.int (1 : Int32)), .val (.int v77_s0), .val (.int v82_s0), .val (.ref b84), .val (.int (r7 (1 : Int32) (0 : Int32))), .val (.int (1 : Int32)), .unset, .unset, .unset] [(.int (r7 (1 : Int32) (0 : Int32)))])) := fun t k => P128 t (st129.trans k)
      have P130 : own_Go p e below S0 (T129.setTop (mkF m 109 #[.val (.int i0), .val (.int i1), .val (.int i2), .val (.int (1 : Int32)), .val (.int v77_s0), .val (.int v82_s0), .val (.ref b84), .val (.int (r7 (1 : Int32) (0 : Int32))), .val (.int (1 : Int32)), .val (.int (r7 (1 : Int32) (0 : Int32))), .unset, .unset] [(.ref b84)])) := fun t k => P129 t (by
        show Steps p.tables e below (T129.setTop (mkF m 105 #[.val (.int i0), .val (.int i1), .val (.int i2), .val (.int (1 : Int32)), .val (.int v77_s0), .val (.int v82_s0), .val (.ref b84), .val (.int (r7 (1 : Int32) (0 : Int32))), .val (.int (1 : Int32)), .unset, .unset, .unset] [(.int (r7 (1 : Int32) (0 : Int32)))])) t
        refine XS.istore X129.here hx rfl (hb hby at_105) rfl (l' := #[.val (.int i0), .val (.int i1), .val (.int i2), .val (.int (1 : Int32)), .val (.int v77_s0), .val (.int v82_s0), .val (.ref b84), .val (.int (r7 (1 : Int32) (0 : Int32))), .val (.int (1 : Int32)), .val (.int (r7 (1 : Int32) (0 : Int32))), .unset, .unset]) rfl ?_
        refine XS.aload X129.here hx rfl (hb hby at_107) rfl rfl ?_
        show Steps p.tables e below (T129.setTop (mkF m 109 #[.val (.int i0), .val (.int i1), .val (.int i2), .val (.int (1 : Int32)), .val (.int v77_s0), .val (.int v82_s0), .val (.ref b84), .val (.int (r7 (1 : Int32) (0 : Int32))), .val (.int (1 : Int32)), .val (.int (r7 (1 : Int32) (0 : Int32))), .unset, .unset] [(.ref b84)])) t
        exact k)
      obtain ⟨cq131, kq131, q131a, q131b, q131c⟩ := isOf hZ e129 F117
      obtain ⟨_, _, ⟨T131, L131, k131, n131⟩, -, X131, ⟨Lc131, hQ131, l131, y131, z131⟩, st131⟩ := X129.virtualBack hx (y := (⟨"com/example/penelope/penelope/program/Location", "isValidEnd", "()Z"⟩ : MethodName)) (z := (⟨"com/example/penelope/penelope/program/Location", "isValidEnd", "()Z"⟩ : MethodName)) hown (mvT hZ (hw _ (List.mem_of_getElem? (i := 49) rfl))) (mvT hZ (hw _ (List.mem_of_getElem? (i := 50) rfl))) (notFace_of_selects (args := #[]) (mvT hZ (hw _ (List.mem_of_getElem? (i := 52) rfl)))) (mvT hZ (hw _ (List.mem_of_getElem? (i := 52) rfl))) (mvT hZ (hw _ (List.mem_of_getElem? (i := 51) rfl))) (by decide) (backOf (W := 0) (rm7 l Z a0 hw [] b84 (1 : Int32) (0 : Int32) h116 n0 (Nat.le_trans Z0 K116.1) F125 F120) hZ (hw _ (List.mem_of_getElem? (i := 53) rfl)) (hw _ (List.mem_of_getElem? (i := 2) rfl)) (by decide) (by decide)) q131a q131c (g := (mkF m 109 #[.val (.int i0), .val (.int i1), .val (.int i2), .val (.int (1 : Int32)), .val (.int v77_s0), .val (.int v82_s0), .val (.ref b84), .val (.int (r7 (1 : Int32) (0 : Int32))), .val (.int (1 : Int32)), .val (.int (r7 (1 : Int32) (0 : Int32))), .unset, .unset] [(.ref b84)])) rfl (by rw [hml]; rfl) (Steps.refl _) (argsL := []) (rest := []) (lenOf pd_3 rfl) rfl (by show 2 * 0 + _ ≤ _; exact Nat.le_of_eq rfl) (hb hby at_109) (fun _ _ => ⟨rfl, e129, (by decide : 2 + 0 ≤ _), (by decide : 12 + 0 ≤ _)⟩)
      dsimp only [Pt.U, Pt.locs, Pt.cells, Pt.slots] at X131 l131 y131 z131 st131 hQ131
      subst l131 y131 z131
      obtain ⟨rfl, N131q, e131⟩ := hQ131
      have N131 := Fr.app N129 N131q
      have P131 : own_Go p e below S0 (T131.setTop (mkF m 112 #[.val (.int i0), .val (.int i1), .val (.int i2), .val (.int (1 : Int32)), .val (.int v77_s0), .val (.int v82_s0), .val (.ref b84), .val (.int (r7 (1 : Int32) (0 : Int32))), .val (.int (1 : Int32)), .val (.int (r7 (1 : Int32) (0 : Int32))), .unset, .unset] [(.int (r7 (1 : Int32) (0 : Int32)))])) := fun t k => P130 t (st131.trans k)
      have P132 : own_Go p e below S0 (T131.setTop (mkF m 158 #[.val (.int i0), .val (.int i1), .val (.int i2), .val (.int (1 : Int32)), .val (.int v77_s0), .val (.int v82_s0), .val (.ref b84), .val (.int (r7 (1 : Int32) (0 : Int32))), .val (.int (1 : Int32)), .val (.int (r7 (1 : Int32) (0 : Int32))), .val (.int (r7 (1 : Int32) (0 : Int32))), .val (.int (1 : Int32))] [(.int (1 : Int32))])) := fun t k => P131 t (by
        show Steps p.tables e below (T131.setTop (mkF m 112 #[.val (.int i0), .val (.int i1), .val (.int i2), .val (.int (1 : Int32)), .val (.int v77_s0), .val (.int v82_s0), .val (.ref b84), .val (.int (r7 (1 : Int32) (0 : Int32))), .val (.int (1 : Int32)), .val (.int (r7 (1 : Int32) (0 : Int32))), .unset, .unset] [(.int (r7 (1 : Int32) (0 : Int32)))])) t
        refine XS.istore X131.here hx rfl (hb hby at_112) rfl (l' := #[.val (.int i0), .val (.int i1), .val (.int i2), .val (.int (1 : Int32)), .val (.int v77_s0), .val (.int v82_s0), .val (.ref b84), .val (.int (r7 (1 : Int32) (0 : Int32))), .val (.int (1 : Int32)), .val (.int (r7 (1 : Int32) (0 : Int32))), .val (.int (r7 (1 : Int32) (0 : Int32))), .unset]) rfl ?_
        refine XS.iloadN X131.here hx rfl (hb hby at_114) rfl ?_
        refine XS.ifYes X131.here hx rfl (pc0 := 115) (pc' := 123) rfl (hb hby at_115) rfl ((if0 _ _).trans (feq (by decide)).2) (by decide) (by decide) ?_
        refine XS.iconst X131.here hx rfl (hb hby at_123) ?_
        refine XS.goto X131.here hx rfl (pc0 := 124) (pc' := 128) rfl (hb hby at_124) (by decide) (by decide) ?_
        refine XS.istore X131.here hx rfl (hb hby at_128) rfl (l' := #[.val (.int i0), .val (.int i1), .val (.int i2), .val (.int (1 : Int32)), .val (.int v77_s0), .val (.int v82_s0), .val (.ref b84), .val (.int (r7 (1 : Int32) (0 : Int32))), .val (.int (1 : Int32)), .val (.int (r7 (1 : Int32) (0 : Int32))), .val (.int (r7 (1 : Int32) (0 : Int32))), .val (.int (1 : Int32))]) rfl ?_
        show Steps p.tables e below (T131.setTop (mkF m 130 #[.val (.int i0), .val (.int i1), .val (.int i2), .val (.int (1 : Int32)), .val (.int v77_s0), .val (.int v82_s0), .val (.ref b84), .val (.int (r7 (1 : Int32) (0 : Int32))), .val (.int (1 : Int32)), .val (.int (r7 (1 : Int32) (0 : Int32))), .val (.int (r7 (1 : Int32) (0 : Int32))), .val (.int (1 : Int32))] [])) t
        refine XS.iload X131.here hx rfl (hb hby at_130) rfl ?_
        refine XS.ifNo X131.here hx rfl (hb hby at_132) rfl ((if0 _ _).trans (feq (by decide)).1) ?_
        refine XS.iload X131.here hx rfl (hb hby at_135) rfl ?_
        refine XS.iload X131.here hx rfl (hb hby at_137) rfl ?_
        refine XS.icmpNo X131.here hx rfl (hb hby at_139) rfl (teq c92).2 ?_
        refine XS.iload X131.here hx rfl (hb hby at_142) rfl ?_
        show Steps p.tables e below (T131.setTop (mkF m 144 #[.val (.int i0), .val (.int i1), .val (.int i2), .val (.int (1 : Int32)), .val (.int v77_s0), .val (.int v82_s0), .val (.ref b84), .val (.int (r7 (1 : Int32) (0 : Int32))), .val (.int (1 : Int32)), .val (.int (r7 (1 : Int32) (0 : Int32))), .val (.int (r7 (1 : Int32) (0 : Int32))), .val (.int (1 : Int32))] [(.int (r7 (1 : Int32) (0 : Int32)))])) t
        refine XS.iload X131.here hx rfl (hb hby at_144) rfl ?_
        refine XS.icmpNo X131.here hx rfl (hb hby at_146) rfl (teq c92).2 ?_
        refine XS.iconst X131.here hx rfl (hb hby at_149) ?_
        refine XS.goto X131.here hx rfl (pc0 := 150) (pc' := 154) rfl (hb hby at_150) (by decide) (by decide) ?_
        refine XS.istore X131.here hx rfl (hb hby at_154) rfl (l' := #[.val (.int i0), .val (.int i1), .val (.int i2), .val (.int (1 : Int32)), .val (.int v77_s0), .val (.int v82_s0), .val (.ref b84), .val (.int (r7 (1 : Int32) (0 : Int32))), .val (.int (1 : Int32)), .val (.int (r7 (1 : Int32) (0 : Int32))), .val (.int (r7 (1 : Int32) (0 : Int32))), .val (.int (1 : Int32))]) rfl ?_
        refine XS.iload X131.here hx rfl (hb hby at_156) rfl ?_
        show Steps p.tables e below (T131.setTop (mkF m 158 #[.val (.int i0), .val (.int i1), .val (.int i2), .val (.int (1 : Int32)), .val (.int v77_s0), .val (.int v82_s0), .val (.ref b84), .val (.int (r7 (1 : Int32) (0 : Int32))), .val (.int (1 : Int32)), .val (.int (r7 (1 : Int32) (0 : Int32))), .val (.int (r7 (1 : Int32) (0 : Int32))), .val (.int (1 : Int32))] [(.int (1 : Int32))])) t
        exact k)
      obtain ⟨fs, hr, hrun, hended, hW, hsame⟩ := X131.leave (v := some (.int (1 : Int32))) (fun h => by rw [Bd.returns] at h; cases h)
      refine ⟨_, _, own_from hS0 (P132 _ ?_), hrun, hended, _, _, rfl, ?_, ⟨_, rfl⟩, hW, hsame.mono (by decide) (by decide)⟩
      · show Steps p.tables e below (T131.setTop (mkF m 158 #[.val (.int i0), .val (.int i1), .val (.int i2), .val (.int (1 : Int32)), .val (.int v77_s0), .val (.int v82_s0), .val (.ref b84), .val (.int (r7 (1 : Int32) (0 : Int32))), .val (.int (1 : Int32)), .val (.int (r7 (1 : Int32) (0 : Int32))), .val (.int (r7 (1 : Int32) (0 : Int32))), .val (.int (1 : Int32))] [(.int (1 : Int32))])) _
        exact retN X131 hx (t := .boolean) Bd.returns (by simp) (hb hby at_158) hr
      · show Q0 Z i0 i1 i2 z0_DEFAULTCAPACITY_EMPTY_ELEMENTDATA z0_EMPTY_LIST h0 n0 _ T131.heap _
        rw [e131]
        exact ⟨rfl, N131⟩
    · skip
      have P133 : own_Go p e below S0 (T116.setTop (mkF m 97 #[.val (.int i0), .val (.int i1), .val (.int i2), .val (.int (1 : Int32)), .val (.int v77_s0), .val (.int v82_s0), .val (.ref b84), .val (.int (r7 (1 : Int32) (0 : Int32))), .val (.int (1 : Int32)), .unset, .unset, .unset] [(.ref b84)])) := fun t k => P126 t (by
        show Steps p.tables e below (T116.setTop (mkF m 92 #[.val (.int i0), .val (.int i1), .val (.int i2), .val (.int (1 : Int32)), .val (.int v77_s0), .val (.int v82_s0), .val (.ref b84), .val (.int (r7 (1 : Int32) (0 : Int32))), .val (.int (1 : Int32)), .unset, .unset, .unset] [(.int v77_s0)])) t
        refine XS.ifNo X116.here hx rfl (hb hby at_92) rfl ((if0 _ _).trans (feq c127).1) ?_
        refine XS.aload X116.here hx rfl (hb hby at_95) rfl rfl ?_
        show Steps p.tables e below (T116.setTop (mkF m 97 #[.val (.int i0), .val (.int i1), .val (.int i2), .val (.int (1 : Int32)), .val (.int v77_s0), .val (.int v82_s0), .val (.ref b84), .val (.int (r7 (1 : Int32) (0 : Int32))), .val (.int (1 : Int32)), .unset, .unset, .unset] [(.ref b84)])) t
        exact k)
      obtain ⟨cq134, kq134, q134a, q134b, q134c⟩ := isOf hZ e116 F117
      obtain ⟨_, _, ⟨T134, L134, k134, n134⟩, -, X134, ⟨Lc134, hQ134, l134, y134, z134⟩, st134⟩ := X116.virtualBack hx (y := (⟨"com/example/penelope/penelope/program/Location", "markValidEnd", "()V"⟩ : MethodName)) (z := (⟨"com/example/penelope/penelope/program/Location", "markValidEnd", "()V"⟩ : MethodName)) hown (mvT hZ (hw _ (List.mem_of_getElem? (i := 56) rfl))) (mvT hZ (hw _ (List.mem_of_getElem? (i := 57) rfl))) (notFace_of_selects (args := #[]) (mvT hZ (hw _ (List.mem_of_getElem? (i := 59) rfl)))) (mvT hZ (hw _ (List.mem_of_getElem? (i := 59) rfl))) (mvT hZ (hw _ (List.mem_of_getElem? (i := 58) rfl))) (by decide) (backOf (W := 0) (rm8 l Z a0 hw [] b84 (1 : Int32) (0 : Int32) v116_f_b84_accepting v116_f_b84_independent v116_f_b84_breaksCycles h116 n0 (Nat.le_trans Z0 K116.1) F125 F120 F121 F122 F123 F117 g_b84) hZ (hw _ (List.mem_of_getElem? (i := 60) rfl)) (hw _ (List.mem_of_getElem? (i := 2) rfl)) (by decide) (by decide)) q134a q134c (g := (mkF m 97 #[.val (.int i0), .val (.int i1), .val (.int i2), .val (.int (1 : Int32)), .val (.int v77_s0), .val (.int v82_s0), .val (.ref b84), .val (.int (r7 (1 : Int32) (0 : Int32))), .val (.int (1 : Int32)), .unset, .unset, .unset] [(.ref b84)])) rfl (by rw [hml]; rfl) (Steps.refl _) (argsL := []) (rest := []) (lenOf pd_0 rfl) rfl (by show 2 * 0 + _ ≤ _; exact Nat.le_of_eq rfl) (hb hby at_97) (fun _ _ => ⟨rfl, e116, (by decide : 2 + 0 ≤ _), (by decide : 12 + 0 ≤ _)⟩)
      dsimp only [Pt.U, Pt.locs, Pt.cells, Pt.slots] at X134 l134 y134 z134 st134 hQ134
      subst l134 y134 z134
      obtain ⟨rfl, N134q, Kc134, F134_0, F134_1, F134_2, F134_3, F134_4⟩ := hQ134
      have N134 := Fr.app N116 N134q
      have K134 : Keep h0 T134.heap [] := Keep.trans K116 Kc134 (allS (Or.inr o_b84) all0)
      have P134 : own_Go p e below S0 (T134.setTop (mkF m 100 #[.val (.int i0), .val (.int i1), .val (.int i2), .val (.int (1 : Int32)), .val (.int v77_s0), .val (.int v82_s0), .val (.ref b84), .val (.int (r7 (1 : Int32) (0 : Int32))), .val (.int (1 : Int32)), .unset, .unset, .unset] [])) := fun t k => P133 t (st134.trans k)
      have F135 : Exa Z T134.heap b84 "com/example/penelope/penelope/program/Location" := F117.keep Kc134
      have P136 : own_Go p e below S0 (T134.setTop (mkF m 102 #[.val (.int i0), .val (.int i1), .val (.int i2), .val (.int (1 : Int32)), .val (.int v77_s0), .val (.int v82_s0), .val (.ref b84), .val (.int (r7 (1 : Int32) (0 : Int32))), .val (.int (1 : Int32)), .unset, .unset, .unset] [(.ref b84)])) := fun t k => P134 t (by
        show Steps p.tables e below (T134.setTop (mkF m 100 #[.val (.int i0), .val (.int i1), .val (.int i2), .val (.int (1 : Int32)), .val (.int v77_s0), .val (.int v82_s0), .val (.ref b84), .val (.int (r7 (1 : Int32) (0 : Int32))), .val (.int (1 : Int32)), .unset, .unset, .unset] [])) t
        refine XS.aload X134.here hx rfl (hb hby at_100) rfl rfl ?_
        show Steps p.tables e below (T134.setTop (mkF m 102 #[.val (.int i0), .val (.int i1), .val (.int i2), .val (.int (1 : Int32)), .val (.int v77_s0), .val (.int v82_s0), .val (.ref b84), .val (.int (r7 (1 : Int32) (0 : Int32))), .val (.int (1 : Int32)), .unset, .unset, .unset] [(.ref b84)])) t
        exact k)
      obtain ⟨cq137, kq137, q137a, q137b, q137c⟩ := isOf hZ rfl F135
      obtain ⟨_, _, ⟨T137, L137, k137, n137⟩, -, X137, ⟨Lc137, hQ137, l137, y137, z137⟩, st137⟩ := X134.virtualBack hx (y := (⟨"com/example/penelope/penelope/program/Location", "isValidEnd", "()Z"⟩ : MethodName)) (z := (⟨"com/example/penelope/penelope/program/Location", "isValidEnd", "()Z"⟩ : MethodName)) hown (mvT hZ (hw _ (List.mem_of_getElem? (i := 49) rfl))) (mvT hZ (hw _ (List.mem_of_getElem? (i := 50) rfl))) (notFace_of_selects (args := #[]) (mvT hZ (hw _ (List.mem_of_getElem? (i := 52) rfl)))) (mvT hZ (hw _ (List.mem_of_getElem? (i := 52) rfl))) (mvT hZ (hw _ (List.mem_of_getElem? (i := 51) rfl))) (by decide) (backOf (W := 0) (rm7 l Z a0 hw [] b84 (1 : Int32) (1 : Int32) T134.heap n0 (Nat.le_trans Z0 K134.1) F134_0 F134_1) hZ (hw _ (List.mem_of_getElem? (i := 53) rfl)) (hw _ (List.mem_of_getElem? (i := 2) rfl)) (by decide) (by decide)) q137a q137c (g := (mkF m 102 #[.val (.int i0), .val (.int i1), .val (.int i2), .val (.int (1 : Int32)), .val (.int v77_s0), .val (.int v82_s0), .val (.ref b84), .val (.int (r7 (1 : Int32) (0 : Int32))), .val (.int (1 : Int32)), .unset, .unset, .unset] [(.ref b84)])) rfl (by rw [hml]; rfl) (Steps.refl _) (argsL := []) (rest := []) (lenOf pd_3 rfl) rfl (by show 2 * 0 + _ ≤ _; exact Nat.le_of_eq rfl) (hb hby at_102) (fun _ _ => ⟨rfl, rfl, (by decide : 2 + 0 ≤ _), (by decide : 12 + 0 ≤ _)⟩)
      dsimp only [Pt.U, Pt.locs, Pt.cells, Pt.slots] at X137 l137 y137 z137 st137 hQ137
      subst l137 y137 z137
      obtain ⟨rfl, N137q, e137⟩ := hQ137
      have N137 := Fr.app N134 N137q
      have P137 : own_Go p e below S0 (T137.setTop (mkF m 105 #[.val (.int i0), .val (.int i1), .val (.int i2), .val (.int (1 : Int32)), .val (.int v77_s0), .val (.int v82_s0), .val (.ref b84), .val (.int (r7 (1 : Int32) (0 : Int32))), .val (.int (1 : Int32)), .unset, .unset, .unset] [(.int (r7 (1 : Int32) (1 : Int32)))])) := fun t k => P136 t (st137.trans k)
      have P138 : own_Go p e below S0 (T137.setTop (mkF m 109 #[.val (.int i0), .val (.int i1), .val (.int i2), .val (.int (1 : Int32)), .val (.int v77_s0), .val (.int v82_s0), .val (.ref b84), .val (.int (r7 (1 : Int32) (0 : Int32))), .val (.int (1 : Int32)), .val (.int (r7 (1 : Int32) (1 : Int32))), .unset, .unset] [(.ref b84)])) := fun t k => P137 t (by
        show Steps p.tables e below (T137.setTop (mkF m 105 #[.val (.int i0), .val (.int i1), .val (.int i2), .val (.int (1 : Int32)), .val (.int v77_s0), .val (.int v82_s0), .val (.ref b84), .val (.int (r7 (1 : Int32) (0 : Int32))), .val (.int (1 : Int32)), .unset, .unset, .unset] [(.int (r7 (1 : Int32) (1 : Int32)))])) t
        refine XS.istore X137.here hx rfl (hb hby at_105) rfl (l' := #[.val (.int i0), .val (.int i1), .val (.int i2), .val (.int (1 : Int32)), .val (.int v77_s0), .val (.int v82_s0), .val (.ref b84), .val (.int (r7 (1 : Int32) (0 : Int32))), .val (.int (1 : Int32)), .val (.int (r7 (1 : Int32) (1 : Int32))), .unset, .unset]) rfl ?_
        refine XS.aload X137.here hx rfl (hb hby at_107) rfl rfl ?_
        show Steps p.tables e below (T137.setTop (mkF m 109 #[.val (.int i0), .val (.int i1), .val (.int i2), .val (.int (1 : Int32)), .val (.int v77_s0), .val (.int v82_s0), .val (.ref b84), .val (.int (r7 (1 : Int32) (0 : Int32))), .val (.int (1 : Int32)), .val (.int (r7 (1 : Int32) (1 : Int32))), .unset, .unset] [(.ref b84)])) t
        exact k)
      obtain ⟨cq139, kq139, q139a, q139b, q139c⟩ := isOf hZ e137 F135
      obtain ⟨_, _, ⟨T139, L139, k139, n139⟩, -, X139, ⟨Lc139, hQ139, l139, y139, z139⟩, st139⟩ := X137.virtualBack hx (y := (⟨"com/example/penelope/penelope/program/Location", "isValidEnd", "()Z"⟩ : MethodName)) (z := (⟨"com/example/penelope/penelope/program/Location", "isValidEnd", "()Z"⟩ : MethodName)) hown (mvT hZ (hw _ (List.mem_of_getElem? (i := 49) rfl))) (mvT hZ (hw _ (List.mem_of_getElem? (i := 50) rfl))) (notFace_of_selects (args := #[]) (mvT hZ (hw _ (List.mem_of_getElem? (i := 52) rfl)))) (mvT hZ (hw _ (List.mem_of_getElem? (i := 52) rfl))) (mvT hZ (hw _ (List.mem_of_getElem? (i := 51) rfl))) (by decide) (backOf (W := 0) (rm7 l Z a0 hw [] b84 (1 : Int32) (1 : Int32) T134.heap n0 (Nat.le_trans Z0 K134.1) F134_0 F134_1) hZ (hw _ (List.mem_of_getElem? (i := 53) rfl)) (hw _ (List.mem_of_getElem? (i := 2) rfl)) (by decide) (by decide)) q139a q139c (g := (mkF m 109 #[.val (.int i0), .val (.int i1), .val (.int i2), .val (.int (1 : Int32)), .val (.int v77_s0), .val (.int v82_s0), .val (.ref b84), .val (.int (r7 (1 : Int32) (0 : Int32))), .val (.int (1 : Int32)), .val (.int (r7 (1 : Int32) (1 : Int32))), .unset, .unset] [(.ref b84)])) rfl (by rw [hml]; rfl) (Steps.refl _) (argsL := []) (rest := []) (lenOf pd_3 rfl) rfl (by show 2 * 0 + _ ≤ _; exact Nat.le_of_eq rfl) (hb hby at_109) (fun _ _ => ⟨rfl, e137, (by decide : 2 + 0 ≤ _), (by decide : 12 + 0 ≤ _)⟩)
      dsimp only [Pt.U, Pt.locs, Pt.cells, Pt.slots] at X139 l139 y139 z139 st139 hQ139
      subst l139 y139 z139
      obtain ⟨rfl, N139q, e139⟩ := hQ139
      have N139 := Fr.app N137 N139q
      have P139 : own_Go p e below S0 (T139.setTop (mkF m 112 #[.val (.int i0), .val (.int i1), .val (.int i2), .val (.int (1 : Int32)), .val (.int v77_s0), .val (.int v82_s0), .val (.ref b84), .val (.int (r7 (1 : Int32) (0 : Int32))), .val (.int (1 : Int32)), .val (.int (r7 (1 : Int32) (1 : Int32))), .unset, .unset] [(.int (r7 (1 : Int32) (1 : Int32)))])) := fun t k => P138 t (st139.trans k)
      have c140 : (r7 (1 : Int32) (1 : Int32)) = (1 : Int32) := by decide
      have P141 : own_Go p e below S0 (T139.setTop (mkF m 158 #[.val (.int i0), .val (.int i1), .val (.int i2), .val (.int (1 : Int32)), .val (.int v77_s0), .val (.int v82_s0), .val (.ref b84), .val (.int (r7 (1 : Int32) (0 : Int32))), .val (.int (1 : Int32)), .val (.int (r7 (1 : Int32) (1 : Int32))), .val (.int (r7 (1 : Int32) (1 : Int32))), .val (.int (1 : Int32))] [(.int (1 : Int32))])) := fun t k => P139 t (by
        show Steps p.tables e below (T139.setTop (mkF m 112 #[.val (.int i0), .val (.int i1), .val (.int i2), .val (.int (1 : Int32)), .val (.int v77_s0), .val (.int v82_s0), .val (.ref b84), .val (.int (r7 (1 : Int32) (0 : Int32))), .val (.int (1 : Int32)), .val (.int (r7 (1 : Int32) (1 : Int32))), .unset, .unset] [(.int (r7 (1 : Int32) (1 : Int32)))])) t
        refine XS.istore X139.here hx rfl (hb hby at_112) rfl (l' := #[.val (.int i0), .val (.int i1), .val (.int i2), .val (.int (1 : Int32)), .val (.int v77_s0), .val (.int v82_s0), .val (.ref b84), .val (.int (r7 (1 : Int32) (0 : Int32))), .val (.int (1 : Int32)), .val (.int (r7 (1 : Int32) (1 : Int32))), .val (.int (r7 (1 : Int32) (1 : Int32))), .unset]) rfl ?_
        refine XS.iloadN X139.here hx rfl (hb hby at_114) rfl ?_
        refine XS.ifYes X139.here hx rfl (pc0 := 115) (pc' := 123) rfl (hb hby at_115) rfl ((if0 _ _).trans (feq (by decide)).2) (by decide) (by decide) ?_
        refine XS.iconst X139.here hx rfl (hb hby at_123) ?_
        refine XS.goto X139.here hx rfl (pc0 := 124) (pc' := 128) rfl (hb hby at_124) (by decide) (by decide) ?_
        refine XS.istore X139.here hx rfl (hb hby at_128) rfl (l' := #[.val (.int i0), .val (.int i1), .val (.int i2), .val (.int (1 : Int32)), .val (.int v77_s0), .val (.int v82_s0), .val (.ref b84), .val (.int (r7 (1 : Int32) (0 : Int32))), .val (.int (1 : Int32)), .val (.int (r7 (1 : Int32) (1 : Int32))), .val (.int (r7 (1 : Int32) (1 : Int32))), .val (.int (1 : Int32))]) rfl ?_
        show Steps p.tables e below (T139.setTop (mkF m 130 #[.val (.int i0), .val (.int i1), .val (.int i2), .val (.int (1 : Int32)), .val (.int v77_s0), .val (.int v82_s0), .val (.ref b84), .val (.int (r7 (1 : Int32) (0 : Int32))), .val (.int (1 : Int32)), .val (.int (r7 (1 : Int32) (1 : Int32))), .val (.int (r7 (1 : Int32) (1 : Int32))), .val (.int (1 : Int32))] [])) t
        refine XS.iload X139.here hx rfl (hb hby at_130) rfl ?_
        refine XS.ifNo X139.here hx rfl (hb hby at_132) rfl ((if0 _ _).trans (feq (by decide)).1) ?_
        refine XS.iload X139.here hx rfl (hb hby at_135) rfl ?_
        refine XS.iload X139.here hx rfl (hb hby at_137) rfl ?_
        refine XS.icmpNo X139.here hx rfl (hb hby at_139) rfl (teq c140).2 ?_
        refine XS.iload X139.here hx rfl (hb hby at_142) rfl ?_
        show Steps p.tables e below (T139.setTop (mkF m 144 #[.val (.int i0), .val (.int i1), .val (.int i2), .val (.int (1 : Int32)), .val (.int v77_s0), .val (.int v82_s0), .val (.ref b84), .val (.int (r7 (1 : Int32) (0 : Int32))), .val (.int (1 : Int32)), .val (.int (r7 (1 : Int32) (1 : Int32))), .val (.int (r7 (1 : Int32) (1 : Int32))), .val (.int (1 : Int32))] [(.int (r7 (1 : Int32) (1 : Int32)))])) t
        refine XS.iload X139.here hx rfl (hb hby at_144) rfl ?_
        refine XS.icmpNo X139.here hx rfl (hb hby at_146) rfl (teq c140).2 ?_
        refine XS.iconst X139.here hx rfl (hb hby at_149) ?_
        refine XS.goto X139.here hx rfl (pc0 := 150) (pc' := 154) rfl (hb hby at_150) (by decide) (by decide) ?_
        refine XS.istore X139.here hx rfl (hb hby at_154) rfl (l' := #[.val (.int i0), .val (.int i1), .val (.int i2), .val (.int (1 : Int32)), .val (.int v77_s0), .val (.int v82_s0), .val (.ref b84), .val (.int (r7 (1 : Int32) (0 : Int32))), .val (.int (1 : Int32)), .val (.int (r7 (1 : Int32) (1 : Int32))), .val (.int (r7 (1 : Int32) (1 : Int32))), .val (.int (1 : Int32))]) rfl ?_
        refine XS.iload X139.here hx rfl (hb hby at_156) rfl ?_
        show Steps p.tables e below (T139.setTop (mkF m 158 #[.val (.int i0), .val (.int i1), .val (.int i2), .val (.int (1 : Int32)), .val (.int v77_s0), .val (.int v82_s0), .val (.ref b84), .val (.int (r7 (1 : Int32) (0 : Int32))), .val (.int (1 : Int32)), .val (.int (r7 (1 : Int32) (1 : Int32))), .val (.int (r7 (1 : Int32) (1 : Int32))), .val (.int (1 : Int32))] [(.int (1 : Int32))])) t
        exact k)
      have F142 : Exa Z T134.heap b4_88 "java/util/ArrayList" := F124.keep Kc134
      obtain ⟨fs, hr, hrun, hended, hW, hsame⟩ := X139.leave (v := some (.int (1 : Int32))) (fun h => by rw [Bd.returns] at h; cases h)
      refine ⟨_, _, own_from hS0 (P141 _ ?_), hrun, hended, _, _, rfl, ?_, ⟨_, rfl⟩, hW, hsame.mono (by decide) (by decide)⟩
      · show Steps p.tables e below (T139.setTop (mkF m 158 #[.val (.int i0), .val (.int i1), .val (.int i2), .val (.int (1 : Int32)), .val (.int v77_s0), .val (.int v82_s0), .val (.ref b84), .val (.int (r7 (1 : Int32) (0 : Int32))), .val (.int (1 : Int32)), .val (.int (r7 (1 : Int32) (1 : Int32))), .val (.int (r7 (1 : Int32) (1 : Int32))), .val (.int (1 : Int32))] [(.int (1 : Int32))])) _
        exact retN X139 hx (t := .boolean) Bd.returns (by simp) (hb hby at_158) hr
      · show Q0 Z i0 i1 i2 z0_DEFAULTCAPACITY_EMPTY_ELEMENTDATA z0_EMPTY_LIST h0 n0 _ T139.heap _
        rw [e139]
        exact ⟨rfl, N139⟩
set_option maxRecDepth 65536 in
set_option maxHeartbeats 40000000 in
theorem comes_1 {Post : Tables → Env → Array Value → State → Outcome → State → Prop} (hpost : ∀ tb e args s v u, (limb_1_1.after args s (.returned v) u = true ∧ limb_1_2.after args s (.returned v) u = true ∧ True) → FrameEnd s (.returned v) u (Jvm.fieldLocs frame_1_writes args s ++ Jvm.arrayLocs frame_1_arrays args s ++ Jvm.staticLocs frame_1_statics s) 16 128 → Post tb e args s (.returned v) u) :
    ArmFor flags0 classFile x code maxLocals ret World_1 tables_1 room_1 Calls_1 rest_1 Pre_1 Post := by
  intro l hfl _ _ p e ha hc hk s m args below hf hA hF happ hP
  obtain ⟨hcalls, hrest, hpre⟩ := hP
  obtain ⟨-, -, -, hnamed, -, -, -, hat⟩ := (Spec.applies_iff hf).mp happ
  obtain ⟨hg, hn⟩ := and_e (Cond.before_iff.mp (show (Jvm.Cond.and given_1 narrow_1).before args s = true from hpre))
  obtain ⟨ga1, gb1⟩ := and_e hg
  obtain ⟨ga2, gb2⟩ := and_e gb1
  obtain ⟨ga3, gb3⟩ := and_e gb2
  obtain ⟨w0, w1, w2, rfl⟩ : ∃ w0 w1 w2 : Value, args = #[w0, w1, w2] := by
    have hs : args.size = 3 := by simpa [Cond.value, given_1] using ga1
    obtain ⟨L⟩ := args
    match L, hs with
    | [w0, w1, w2], _ => exact ⟨w0, w1, w2, rfl⟩
  have hw := fun d (hd : d ∈ tables_1) => atoms_spec (ws := Jvm.Cond.code x code maxLocals ret :: tables_1) hat d (List.mem_cons_of_mem _ hd)
  have hfit : Fit s := fun {y c} hc i hi => by
    obtain ⟨ha, rfl⟩ := Array.getElem?_eq_some_iff.mp hc
    have q := List.all_eq_true.mp ((Array.all_eq_true_iff_forall_mem.mp hF) _ (Array.getElem_mem ha)) i (List.mem_range.mpr hi)
    simpa [Array.getElem?_eq_getElem hi] using q
  obtain ⟨hsets, hown0⟩ := atoms_of _ (rest_1_c_eq ▸ (show rest_1_c.before _ s = true from hrest))
  obtain ⟨i0, ei0⟩ := is_v ga2
  obtain rfl : w0 = (.int i0) := Option.some.inj ei0
  obtain ⟨i1, ei1⟩ := is_v ga3
  obtain rfl : w1 = (.int i1) := Option.some.inj ei1
  obtain ⟨i2, ei2⟩ := is_v gb3
  obtain rfl : w2 = (.int i2) := Option.some.inj ei2
  obtain ⟨z0_DEFAULTCAPACITY_EMPTY_ELEMENTDATA, ev1⟩ := exa_v (Cond.before_iff.mp (hsets _ (List.mem_of_getElem? (i := 7) rfl)))
  have S_DEFAULTCAPACITY_EMPTY_ELEMENTDATA : Sta s s.heap "java/util/ArrayList" "DEFAULTCAPACITY_EMPTY_ELEMENTDATA" "[Ljava/lang/Object;" (.ref z0_DEFAULTCAPACITY_EMPTY_ELEMENTDATA) := Sta.start ev1 (Or.inr ⟨(hw _ (List.mem_of_getElem? (i := 11) rfl)), (hsets _ (List.mem_of_getElem? (i := 2) rfl))⟩)
  have Ex_z0_DEFAULTCAPACITY_EMPTY_ELEMENTDATA : Exa s s.heap z0_DEFAULTCAPACITY_EMPTY_ELEMENTDATA "[Ljava/lang/Object;" := Exa.start ev1 (Cond.before_iff.mp (hsets _ (List.mem_of_getElem? (i := 7) rfl)))
  obtain ⟨z0_EMPTY_LIST, ev2⟩ := exa_v (Cond.before_iff.mp (hsets _ (List.mem_of_getElem? (i := 11) rfl)))
  have S_EMPTY_LIST : Sta s s.heap "java/util/ImmutableCollections" "EMPTY_LIST" "Ljava/util/ImmutableCollections$ListN;" (.ref z0_EMPTY_LIST) := Sta.start ev2 (Or.inl (hsets _ (List.mem_of_getElem? (i := 10) rfl)))
  have Ex_z0_EMPTY_LIST : Exa s s.heap z0_EMPTY_LIST "java/util/ImmutableCollections$ListN" := Exa.start ev2 (Cond.before_iff.mp (hsets _ (List.mem_of_getElem? (i := 11) rfl)))
  obtain ⟨n, o, h1, h2, h3, _, L, rfl, ⟨rfl, N⟩, hq⟩ := rm0 l s _ hw tables_1 i0 i1 i2 z0_DEFAULTCAPACITY_EMPTY_ELEMENTDATA z0_EMPTY_LIST s.heap s.heap.size (Nat.le_refl _) S_DEFAULTCAPACITY_EMPTY_ELEMENTDATA S_EMPTY_LIST p e ha hc hk s m _ below hf ((Spec.applies_iff_loose hf).mp happ).1 ⟨rfl, State.Warmed39.refl s, rfl⟩ trivial
  refine ⟨n, _, h1, h2, h3, hpost _ _ _ _ _ _ ⟨Cond.after_iff.mpr rfl, Cond.after_iff.mpr (eq_i res_at (Term.int_eval (1)) rfl), trivial⟩ ⟨hq.1, hq.2.1, (hq.2.2.sift fun y hy => Or.inr (N y hy)).mono (by decide) (by decide)⟩⟩
theorem main_1_1 : Claimed_1_1 := comes_1 fun _ _ _ _ _ _ h hF => ⟨h.1, hF⟩
theorem main_1_2 : Claimed_1_2 := comes_1 fun _ _ _ _ _ _ h hF => ⟨h.2.1, hF⟩
end Jvm.Pilot.@@N@@
namespace Jvm.Pilot.@@N@@
open Jvm Jvm.ClassFile Sem Op Lib Jvm.Free Jvm.Stand Jvm.Pilot.@@N@@.Jvm.D
/-! MADE BY PROGRAM (witnessworld.py) out of the Statement's table words and the real class files: 22 classes; the members and pool entries that the words name. The judged class is class 1, her method 1. -/
namespace start1
open Jvm.ClassFile
def u (s : String) : CpInfo := .utf8 (stringToUtf16 s)
/-- a pool by its gaps: so many unusable entries, then the entry; so many at the end -/
def gap : Nat → List CpInfo → List CpInfo
  | 0, r => r
  | n + 1, r => .unusable :: gap n r
def poolList (es : List (Nat × CpInfo)) (last : Nat) : List CpInfo := es.foldr (fun e r => gap e.1 (e.2 :: r)) (gap last [])
def pool (es : List (Nat × CpInfo)) (last : Nat) : Array CpInfo := ⟨poolList es last⟩
def fileOf (pool : Array CpInfo) (this : Nat) (attrs : Array Attribute := #[]) (ms : Array MethodInfo := #[]) (fl : Nat := 33) (sup : Nat := 0) (ifs : Array Nat := #[]) (fds : Array FieldInfo := #[]) : ClassFile where
  minorVersion := 0
  majorVersion := 65
  constantPool := pool
  accessFlags := fl
  thisClass := this
  superClass := sup
  interfaces := ifs
  fields := fds
  methods := ms
  attributes := attrs
def plain (name : String) (sup : Option ClassId) : Class where
  name := name
  kind := .ordinary
  loader := none
  accessFlags := 33
  super := sup
  interfaces := #[]
  cf := none
  fields := #[]
  methods := #[]
  instanceTypes := #[]
  staticTypes := #[]
  resolved := #[]
  callSites := []
  init := .initialized
  statics := none
  mirror := none

def pool0 : Array CpInfo := pool [(5, u "<init>"), (0, u "()V"), (1, .class_ 10), (1, u "java/lang/Object")] 113

def k0c0 : Code := { maxStack := 0, maxLocals := 1, code := object_method_1_code, exceptionTable := #[], attributes := #[] }
def k0m0 : Method := { name := "<init>", desc := "()V", sig := { parameters := [], returnType := none }, accessFlags := 1, code := some k0c0 }
/-- java/lang/Object -/
def k0 : Class := { plain "java/lang/Object" none with
  accessFlags := 33
  interfaces := #[]
  cf := some (fileOf pool0 8 #[] #[{ accessFlags := 1, nameIndex := 5, descriptorIndex := 6, attributes := #[] }] 33 0 #[] #[])
  fields := #[]
  methods := #[k0m0]
  instanceTypes := #[]
  staticTypes := #[]
  resolved := Array.replicate 124 none
  statics := none }

def pool1 : Array CpInfo := pool [(2, .class_ 4), (1, u "java/lang/Object"), (0, u "<init>"), (0, u "()V"), (0, .class_ 8), (0, u "com/example/penelope/penelope/program/Location"), (0, .methodref 7 10), (0, .nameAndType 5 11), (0, u "(IIZ)V"), (0, .methodref 7 13), (0, .nameAndType 14 15), (0, u "isValidEnd"), (0, u "()Z"), (0, .methodref 7 17), (0, .nameAndType 18 6), (0, u "markAccepting"), (0, .methodref 7 20), (0, .nameAndType 21 6), (0, u "markIndependent"), (0, .methodref 7 23), (0, .nameAndType 24 6), (0, u "markBreaksCycles"), (0, .methodref 7 26), (0, .nameAndType 27 6), (0, u "markValidEnd"), (0, .class_ 29), (0, u "com/example/penelope/penelope/program/LocationIsValidEndPinLaw"), (2, u "law"), (0, u "(III)Z")] 3

def k1m0 : Method := { name := "<init>", desc := "()V", sig := { parameters := [], returnType := none }, accessFlags := 2, code := none }
def k1c1 : Code := { maxStack := 5, maxLocals := 12, code := code, exceptionTable := #[], attributes := #[] }
def k1m1 : Method := { name := "law", desc := "(III)Z", sig := { parameters := [.int, .int, .int], returnType := some .boolean }, accessFlags := 9, code := some k1c1 }
/-- com/example/penelope/penelope/program/LocationIsValidEndPinLaw -/
def k1 : Class := { plain "com/example/penelope/penelope/program/LocationIsValidEndPinLaw" (some 0) with
  accessFlags := 49
  interfaces := #[]
  cf := some (fileOf pool1 28 #[] #[{ accessFlags := 2, nameIndex := 5, descriptorIndex := 6, attributes := #[] }, { accessFlags := 9, nameIndex := 32, descriptorIndex := 33, attributes := #[] }] 49 2 #[] #[])
  fields := #[]
  methods := #[k1m0, k1m1]
  instanceTypes := #[]
  staticTypes := #[]
  resolved := Array.replicate 37 none
  statics := none }

def pool2 : Array CpInfo := pool [(1, .methodref 2 3), (0, .class_ 4), (0, .nameAndType 5 6), (0, u "java/lang/Object"), (0, u "<init>"), (0, u "()V"), (0, .class_ 8), (0, u "java/util/ArrayList"), (0, .methodref 7 3), (0, .fieldref 11 12), (0, .class_ 13), (0, .nameAndType 14 15), (0, u "com/example/penelope/penelope/program/Location"), (0, u "transitions"), (0, u "Ljava/util/List;"), (0, .interfaceMethodref 17 18), (0, .class_ 19), (0, .nameAndType 20 21), (0, u "java/util/List"), (0, u "of"), (0, u "()Ljava/util/List;"), (0, .fieldref 11 23), (0, .nameAndType 24 15), (0, u "deadVariables"), (0, .fieldref 11 26), (0, .nameAndType 27 28), (0, u "id"), (0, u "I"), (0, .fieldref 11 30), (0, .nameAndType 31 28), (0, u "line"), (0, .fieldref 11 33), (0, .nameAndType 34 35), (0, u "end"), (0, u "Z"), (0, .fieldref 11 37), (0, .nameAndType 38 35), (0, u "validEnd"), (0, .fieldref 11 40), (0, .nameAndType 41 35), (0, u "accepting"), (0, .fieldref 11 43), (0, .nameAndType 44 35), (0, u "independent"), (0, .fieldref 11 46), (0, .nameAndType 47 35), (0, u "breaksCycles"), (7, u "(IIZ)V"), (4, u "()Z"), (1, u "isValidEnd"), (1, u "markValidEnd"), (1, u "markAccepting"), (1, u "markIndependent"), (0, u "markBreaksCycles")] 6

def k2c0 : Code := { maxStack := 3, maxLocals := 4, code := prog_93_method_1_code, exceptionTable := #[], attributes := #[] }
def k2m0 : Method := { name := "<init>", desc := "(IIZ)V", sig := { parameters := [.int, .int, .boolean], returnType := none }, accessFlags := 0, code := some k2c0 }
def k2c1 : Code := { maxStack := 1, maxLocals := 1, code := prog_93_method_6_code, exceptionTable := #[], attributes := #[] }
def k2m1 : Method := { name := "isValidEnd", desc := "()Z", sig := { parameters := [], returnType := some .boolean }, accessFlags := 0, code := some k2c1 }
def k2c2 : Code := { maxStack := 2, maxLocals := 1, code := prog_93_method_7_code, exceptionTable := #[], attributes := #[] }
def k2m2 : Method := { name := "markValidEnd", desc := "()V", sig := { parameters := [], returnType := none }, accessFlags := 0, code := some k2c2 }
def k2c3 : Code := { maxStack := 2, maxLocals := 1, code := prog_93_method_9_code, exceptionTable := #[], attributes := #[] }
def k2m3 : Method := { name := "markAccepting", desc := "()V", sig := { parameters := [], returnType := none }, accessFlags := 0, code := some k2c3 }
def k2c4 : Code := { maxStack := 2, maxLocals := 1, code := prog_93_method_11_code, exceptionTable := #[], attributes := #[] }
def k2m4 : Method := { name := "markIndependent", desc := "()V", sig := { parameters := [], returnType := none }, accessFlags := 0, code := some k2c4 }
def k2c5 : Code := { maxStack := 2, maxLocals := 1, code := prog_93_method_13_code, exceptionTable := #[], attributes := #[] }
def k2m5 : Method := { name := "markBreaksCycles", desc := "()V", sig := { parameters := [], returnType := none }, accessFlags := 0, code := some k2c5 }
/-- com/example/penelope/penelope/program/Location -/
def k2 : Class := { plain "com/example/penelope/penelope/program/Location" (some 0) with
  accessFlags := 48
  interfaces := #[]
  cf := some (fileOf pool2 11 #[] #[{ accessFlags := 0, nameIndex := 5, descriptorIndex := 55, attributes := #[] }, { accessFlags := 0, nameIndex := 62, descriptorIndex := 60, attributes := #[] }, { accessFlags := 0, nameIndex := 64, descriptorIndex := 6, attributes := #[] }, { accessFlags := 0, nameIndex := 66, descriptorIndex := 6, attributes := #[] }, { accessFlags := 0, nameIndex := 68, descriptorIndex := 6, attributes := #[] }, { accessFlags := 0, nameIndex := 69, descriptorIndex := 6, attributes := #[] }] 48 2 #[] #[{ accessFlags := 18, nameIndex := 27, descriptorIndex := 28, attributes := #[] }, { accessFlags := 18, nameIndex := 31, descriptorIndex := 28, attributes := #[] }, { accessFlags := 18, nameIndex := 34, descriptorIndex := 35, attributes := #[] }, { accessFlags := 18, nameIndex := 14, descriptorIndex := 15, attributes := #[] }, { accessFlags := 2, nameIndex := 38, descriptorIndex := 35, attributes := #[] }, { accessFlags := 2, nameIndex := 41, descriptorIndex := 35, attributes := #[] }, { accessFlags := 2, nameIndex := 44, descriptorIndex := 35, attributes := #[] }, { accessFlags := 2, nameIndex := 47, descriptorIndex := 35, attributes := #[] }, { accessFlags := 2, nameIndex := 24, descriptorIndex := 15, attributes := #[] }])
  fields := #[{ name := "id", type := .int, accessFlags := 18, slot := 0, constantValue := 0 }, { name := "line", type := .int, accessFlags := 18, slot := 1, constantValue := 0 }, { name := "end", type := .boolean, accessFlags := 18, slot := 2, constantValue := 0 }, { name := "transitions", type := (.object "java/util/List"), accessFlags := 18, slot := 3, constantValue := 0 }, { name := "validEnd", type := .boolean, accessFlags := 2, slot := 4, constantValue := 0 }, { name := "accepting", type := .boolean, accessFlags := 2, slot := 5, constantValue := 0 }, { name := "independent", type := .boolean, accessFlags := 2, slot := 6, constantValue := 0 }, { name := "breaksCycles", type := .boolean, accessFlags := 2, slot := 7, constantValue := 0 }, { name := "deadVariables", type := (.object "java/util/List"), accessFlags := 2, slot := 8, constantValue := 0 }]
  methods := #[k2m0, k2m1, k2m2, k2m3, k2m4, k2m5]
  instanceTypes := #[.int, .int, .boolean, (.object "java/util/List"), .boolean, .boolean, .boolean, .boolean, (.object "java/util/List")]
  staticTypes := #[]
  resolved := Array.replicate 76 none
  statics := none }

def pool3 : Array CpInfo := pool [(8, .class_ 10), (1, u "java/lang/Iterable"), (24, .class_ 36), (0, u "java/lang/Object")] 25

/-- java/lang/Iterable -/
def k3 : Class := { plain "java/lang/Iterable" (some 0) with
  accessFlags := 1537
  interfaces := #[]
  cf := some (fileOf pool3 8 #[] #[] 1537 35 #[] #[])
  fields := #[]
  methods := #[]
  instanceTypes := #[]
  staticTypes := #[]
  resolved := Array.replicate 62 none
  statics := none }

def pool4 : Array CpInfo := pool [(10, .class_ 12), (1, u "java/util/Collection"), (47, .class_ 61), (0, u "java/lang/Object"), (0, .class_ 63), (0, u "java/lang/Iterable")] 51

/-- java/util/Collection -/
def k4 : Class := { plain "java/util/Collection" (some 0) with
  accessFlags := 1537
  interfaces := #[3]
  cf := some (fileOf pool4 10 #[] #[] 1537 60 #[62] #[])
  fields := #[]
  methods := #[]
  instanceTypes := #[]
  staticTypes := #[]
  resolved := Array.replicate 115 none
  statics := none }

def pool5 : Array CpInfo := pool [(1, .methodref 2 3), (0, .class_ 4), (0, .nameAndType 5 6), (0, u "java/lang/Object"), (0, u "<init>"), (0, u "()V"), (1, .class_ 10), (1, u "java/util/AbstractCollection"), (66, .class_ 78), (0, u "java/util/Collection")] 81

def k5c0 : Code := { maxStack := 1, maxLocals := 1, code := jdk_22_method_1_code, exceptionTable := #[], attributes := #[] }
def k5m0 : Method := { name := "<init>", desc := "()V", sig := { parameters := [], returnType := none }, accessFlags := 4, code := some k5c0 }
/-- java/util/AbstractCollection -/
def k5 : Class := { plain "java/util/AbstractCollection" (some 0) with
  accessFlags := 1057
  interfaces := #[4]
  cf := some (fileOf pool5 8 #[] #[{ accessFlags := 4, nameIndex := 5, descriptorIndex := 6, attributes := #[] }] 1057 2 #[77] #[])
  fields := #[]
  methods := #[k5m0]
  instanceTypes := #[]
  staticTypes := #[]
  resolved := Array.replicate 160 none
  statics := none }

def pool6 : Array CpInfo := pool [(8, .class_ 10), (1, u "java/util/SequencedCollection"), (15, .class_ 27), (0, u "java/lang/Object"), (0, .class_ 29), (0, u "java/util/Collection")] 27

/-- java/util/SequencedCollection -/
def k6 : Class := { plain "java/util/SequencedCollection" (some 0) with
  accessFlags := 1537
  interfaces := #[4]
  cf := some (fileOf pool6 8 #[] #[] 1537 26 #[28] #[])
  fields := #[]
  methods := #[]
  instanceTypes := #[]
  staticTypes := #[]
  resolved := Array.replicate 57 none
  statics := none }

def pool7 : Array CpInfo := pool [(8, .class_ 10), (1, u "java/util/List"), (77, u "of"), (1, .fieldref 91 92), (0, .class_ 93), (0, .nameAndType 94 95), (0, u "java/util/ImmutableCollections"), (0, u "EMPTY_LIST"), (0, u "Ljava/util/ImmutableCollections$ListN;"), (7, .class_ 104), (0, u "java/lang/Object"), (14, u "()Ljava/util/List;"), (0, .class_ 121), (0, u "java/util/SequencedCollection")] 129

def k7c0 : Code := { maxStack := 1, maxLocals := 0, code := jdk_40_method_36_code, exceptionTable := #[], attributes := #[] }
def k7m0 : Method := { name := "of", desc := "()Ljava/util/List;", sig := { parameters := [], returnType := some (.object "java/util/List") }, accessFlags := 9, code := some k7c0 }
/-- java/util/List -/
def k7 : Class := { plain "java/util/List" (some 0) with
  accessFlags := 1537
  interfaces := #[6]
  cf := some (fileOf pool7 8 #[] #[{ accessFlags := 9, nameIndex := 88, descriptorIndex := 119, attributes := #[] }] 1537 103 #[120] #[])
  fields := #[]
  methods := #[k7m0]
  instanceTypes := #[]
  staticTypes := #[]
  resolved := Array.replicate 251 none
  statics := none }

def pool8 : Array CpInfo := pool [(1, .methodref 2 3), (0, .class_ 4), (0, .nameAndType 5 6), (0, u "java/util/AbstractCollection"), (0, u "<init>"), (0, u "()V"), (0, .fieldref 8 9), (0, .class_ 10), (0, .nameAndType 11 12), (0, u "java/util/AbstractList"), (0, u "modCount"), (0, u "I"), (64, .class_ 78), (0, u "java/util/AbstractList$Itr"), (3, .class_ 83), (0, u "java/util/AbstractList$ListItr"), (9, .class_ 94), (0, u "java/util/AbstractList$RandomAccessSubList"), (3, .class_ 99), (0, u "java/util/AbstractList$SubList"), (33, .class_ 134), (0, u "java/util/List"), (73, .class_ 209), (0, u "java/util/AbstractList$SubList$1"), (0, .class_ 211), (0, u "java/util/AbstractList$RandomAccessSpliterator")] 6

def k8c0 : Code := { maxStack := 2, maxLocals := 1, code := jdk_39_method_1_code, exceptionTable := #[], attributes := #[] }
def k8m0 : Method := { name := "<init>", desc := "()V", sig := { parameters := [], returnType := none }, accessFlags := 4, code := some k8c0 }
/-- java/util/AbstractList -/
def k8 : Class := { plain "java/util/AbstractList" (some 5) with
  accessFlags := 1057
  interfaces := #[7]
  cf := some (fileOf pool8 8 #[.nestMembers #[93, 98, 208, 210, 82, 77]] #[{ accessFlags := 4, nameIndex := 5, descriptorIndex := 6, attributes := #[] }] 1057 2 #[133] #[{ accessFlags := 132, nameIndex := 11, descriptorIndex := 12, attributes := #[] }])
  fields := #[{ name := "modCount", type := .int, accessFlags := 132, slot := 0, constantValue := 0 }]
  methods := #[k8m0]
  instanceTypes := #[.int]
  staticTypes := #[]
  resolved := Array.replicate 218 none
  statics := none }

def pool9 : Array CpInfo := pool [(1, .class_ 2), (0, u "java/util/RandomAccess"), (0, .class_ 4), (0, u "java/lang/Object")] 2

/-- java/util/RandomAccess -/
def k9 : Class := { plain "java/util/RandomAccess" (some 0) with
  accessFlags := 1537
  interfaces := #[]
  cf := some (fileOf pool9 1 #[] #[] 1537 3 #[] #[])
  fields := #[]
  methods := #[]
  instanceTypes := #[]
  staticTypes := #[]
  resolved := Array.replicate 7 none
  statics := none }

def pool10 : Array CpInfo := pool [(1, .class_ 2), (0, u "java/lang/Cloneable"), (0, .class_ 4), (0, u "java/lang/Object")] 2

/-- java/lang/Cloneable -/
def k10 : Class := { plain "java/lang/Cloneable" (some 0) with
  accessFlags := 1537
  interfaces := #[]
  cf := some (fileOf pool10 1 #[] #[] 1537 3 #[] #[])
  fields := #[]
  methods := #[]
  instanceTypes := #[]
  staticTypes := #[]
  resolved := Array.replicate 7 none
  statics := none }

def pool11 : Array CpInfo := pool [(1, .class_ 2), (0, u "java/io/Serializable"), (0, .class_ 4), (0, u "java/lang/Object")] 2

/-- java/io/Serializable -/
def k11 : Class := { plain "java/io/Serializable" (some 0) with
  accessFlags := 1537
  interfaces := #[]
  cf := some (fileOf pool11 1 #[] #[] 1537 3 #[] #[])
  fields := #[]
  methods := #[]
  instanceTypes := #[]
  staticTypes := #[]
  resolved := Array.replicate 7 none
  statics := none }

def pool12 : Array CpInfo := pool [(1, .methodref 2 3), (0, .class_ 4), (0, .nameAndType 5 6), (0, u "java/util/AbstractList"), (0, u "<init>"), (0, u "()V"), (2, .fieldref 10 11), (0, .class_ 12), (0, .nameAndType 13 14), (0, u "java/util/ArrayList"), (0, u "elementData"), (0, u "[Ljava/lang/Object;"), (2, u "EMPTY_ELEMENTDATA"), (21, .fieldref 10 40), (0, .nameAndType 41 14), (0, u "DEFAULTCAPACITY_EMPTY_ELEMENTDATA"), (8, u "size"), (0, u "I"), (96, .class_ 149), (0, u "java/util/List"), (112, .class_ 263), (0, u "java/util/ArrayList$ListItr"), (3, .class_ 268), (0, u "java/util/ArrayList$Itr"), (7, .class_ 277), (0, u "java/util/ArrayList$SubList"), (12, .class_ 291), (0, u "java/util/ArrayList$ArrayListSpliterator"), (37, .class_ 330), (0, u "java/util/RandomAccess"), (0, .class_ 332), (0, u "java/lang/Cloneable"), (0, .class_ 334), (0, u "java/io/Serializable"), (0, u "serialVersionUID"), (0, u "J"), (3, u "DEFAULT_CAPACITY"), (159, .class_ 501), (0, u "java/util/ArrayList$SubList$2"), (0, .class_ 503), (0, u "java/util/ArrayList$SubList$1")] 5

def k12c0 : Code := { maxStack := 2, maxLocals := 1, code := jdk_38_method_2_code, exceptionTable := #[], attributes := #[] }
def k12m0 : Method := { name := "<init>", desc := "()V", sig := { parameters := [], returnType := none }, accessFlags := 1, code := some k12c0 }
/-- java/util/ArrayList -/
def k12 : Class := { plain "java/util/ArrayList" (some 8) with
  accessFlags := 33
  interfaces := #[7, 9, 10, 11]
  cf := some (fileOf pool12 10 #[.nestMembers #[290, 276, 500, 502, 262, 267]] #[{ accessFlags := 1, nameIndex := 5, descriptorIndex := 6, attributes := #[] }] 33 2 #[148, 329, 331, 333] #[{ accessFlags := 26, nameIndex := 335, descriptorIndex := 336, attributes := #[] }, { accessFlags := 26, nameIndex := 340, descriptorIndex := 51, attributes := #[] }, { accessFlags := 26, nameIndex := 17, descriptorIndex := 14, attributes := #[] }, { accessFlags := 26, nameIndex := 41, descriptorIndex := 14, attributes := #[] }, { accessFlags := 128, nameIndex := 13, descriptorIndex := 14, attributes := #[] }, { accessFlags := 2, nameIndex := 50, descriptorIndex := 51, attributes := #[] }])
  fields := #[{ name := "serialVersionUID", type := .long, accessFlags := 26, slot := 0, constantValue := 0 }, { name := "DEFAULT_CAPACITY", type := .int, accessFlags := 26, slot := 1, constantValue := 0 }, { name := "EMPTY_ELEMENTDATA", type := (.array (.object "java/lang/Object")), accessFlags := 26, slot := 2, constantValue := 0 }, { name := "DEFAULTCAPACITY_EMPTY_ELEMENTDATA", type := (.array (.object "java/lang/Object")), accessFlags := 26, slot := 3, constantValue := 0 }, { name := "elementData", type := (.array (.object "java/lang/Object")), accessFlags := 128, slot := 1, constantValue := 0 }, { name := "size", type := .int, accessFlags := 2, slot := 2, constantValue := 0 }]
  methods := #[k12m0]
  instanceTypes := #[.int, (.array (.object "java/lang/Object")), .int]
  staticTypes := #[.long, .int, (.array (.object "java/lang/Object")), (.array (.object "java/lang/Object"))]
  resolved := Array.replicate 509 none
  statics := some 0 }

def pool13 : Array CpInfo := pool [(2, .class_ 4), (1, u "java/lang/Object"), (0, u "<init>"), (0, u "()V"), (3, .class_ 11), (0, u "java/util/ImmutableCollections$List12"), (0, .class_ 13), (0, u "java/util/ImmutableCollections$ListN"), (3, u "Z"), (29, .class_ 49), (1, u "java/util/ImmutableCollections"), (0, u "$assertionsDisabled"), (5, u "[Ljava/lang/Object;"), (5, u "EMPTY_LIST"), (0, u "Ljava/util/ImmutableCollections$ListN;"), (8, u "EMPTY_LIST_NULLS"), (22, u "SALT32L"), (0, u "J"), (2, u "REVERSE"), (6, u "archivedObjects"), (2, u "EMPTY"), (0, u "Ljava/lang/Object;"), (0, .class_ 112), (0, u "java/util/ImmutableCollections$SetN"), (5, u "EMPTY_SET"), (0, u "Ljava/util/ImmutableCollections$SetN;"), (0, .class_ 121), (0, u "java/util/ImmutableCollections$MapN"), (3, u "EMPTY_MAP"), (0, u "Ljava/util/ImmutableCollections$MapN;"), (4, u "EXPAND_FACTOR"), (0, u "I"), (36, .class_ 170), (0, u "java/util/ImmutableCollections$MapN$MapNIterator"), (0, .class_ 172), (0, u "java/util/ImmutableCollections$MapN$1"), (0, .class_ 174), (0, u "java/util/ImmutableCollections$Map1"), (0, .class_ 176), (0, u "java/util/ImmutableCollections$AbstractImmutableMap"), (0, .class_ 178), (0, u "java/util/ImmutableCollections$SetN$SetNIterator"), (0, .class_ 180), (0, u "java/util/ImmutableCollections$Set12"), (0, .class_ 182), (0, u "java/util/ImmutableCollections$Set12$1"), (0, .class_ 184), (0, u "java/util/ImmutableCollections$AbstractImmutableSet"), (0, .class_ 186), (0, u "java/util/ImmutableCollections$SubList"), (0, .class_ 188), (0, u "java/util/ImmutableCollections$ListItr"), (0, .class_ 190), (0, u "java/util/ImmutableCollections$AbstractImmutableList"), (0, .class_ 192), (0, u "java/util/ImmutableCollections$AbstractImmutableCollection"), (0, .class_ 194), (0, u "java/util/ImmutableCollections$Access"), (0, .class_ 196), (0, u "java/util/ImmutableCollections$Access$1")] 16

def k13m0 : Method := { name := "<init>", desc := "()V", sig := { parameters := [], returnType := none }, accessFlags := 2, code := none }
/-- java/util/ImmutableCollections -/
def k13 : Class := { plain "java/util/ImmutableCollections" (some 0) with
  accessFlags := 32
  interfaces := #[]
  cf := some (fileOf pool13 47 #[.nestMembers #[120, 169, 171, 173, 175, 111, 177, 179, 181, 183, 12, 10, 185, 187, 189, 191, 193, 195]] #[{ accessFlags := 2, nameIndex := 5, descriptorIndex := 6, attributes := #[] }] 32 2 #[] #[{ accessFlags := 26, nameIndex := 95, descriptorIndex := 96, attributes := #[] }, { accessFlags := 26, nameIndex := 99, descriptorIndex := 17, attributes := #[] }, { accessFlags := 10, nameIndex := 106, descriptorIndex := 56, attributes := #[] }, { accessFlags := 26, nameIndex := 109, descriptorIndex := 110, attributes := #[] }, { accessFlags := 24, nameIndex := 62, descriptorIndex := 63, attributes := #[] }, { accessFlags := 24, nameIndex := 72, descriptorIndex := 63, attributes := #[] }, { accessFlags := 24, nameIndex := 118, descriptorIndex := 119, attributes := #[] }, { accessFlags := 24, nameIndex := 125, descriptorIndex := 126, attributes := #[] }, { accessFlags := 24, nameIndex := 131, descriptorIndex := 132, attributes := #[] }, { accessFlags := 4120, nameIndex := 50, descriptorIndex := 17, attributes := #[] }])
  fields := #[{ name := "SALT32L", type := .long, accessFlags := 26, slot := 0, constantValue := 0 }, { name := "REVERSE", type := .boolean, accessFlags := 26, slot := 1, constantValue := 0 }, { name := "archivedObjects", type := (.array (.object "java/lang/Object")), accessFlags := 10, slot := 2, constantValue := 0 }, { name := "EMPTY", type := (.object "java/lang/Object"), accessFlags := 26, slot := 3, constantValue := 0 }, { name := "EMPTY_LIST", type := (.object "java/util/ImmutableCollections$ListN"), accessFlags := 24, slot := 4, constantValue := 0 }, { name := "EMPTY_LIST_NULLS", type := (.object "java/util/ImmutableCollections$ListN"), accessFlags := 24, slot := 5, constantValue := 0 }, { name := "EMPTY_SET", type := (.object "java/util/ImmutableCollections$SetN"), accessFlags := 24, slot := 6, constantValue := 0 }, { name := "EMPTY_MAP", type := (.object "java/util/ImmutableCollections$MapN"), accessFlags := 24, slot := 7, constantValue := 0 }, { name := "EXPAND_FACTOR", type := .int, accessFlags := 24, slot := 8, constantValue := 0 }, { name := "$assertionsDisabled", type := .boolean, accessFlags := 4120, slot := 9, constantValue := 0 }]
  methods := #[k13m0]
  instanceTypes := #[]
  staticTypes := #[.long, .boolean, (.array (.object "java/lang/Object")), (.object "java/lang/Object"), (.object "java/util/ImmutableCollections$ListN"), (.object "java/util/ImmutableCollections$ListN"), (.object "java/util/ImmutableCollections$SetN"), (.object "java/util/ImmutableCollections$MapN"), .int, .boolean]
  resolved := Array.replicate 213 none
  statics := some 1 }

def pool14 : Array CpInfo := pool [(2, .class_ 4), (1, u "java/util/AbstractCollection"), (0, u "<init>"), (0, u "()V"), (1, .class_ 10), (1, u "java/util/ImmutableCollections"), (2, .class_ 14), (0, u "java/util/ImmutableCollections$AbstractImmutableCollection")] 41

def k14m0 : Method := { name := "<init>", desc := "()V", sig := { parameters := [], returnType := none }, accessFlags := 0, code := none }
/-- java/util/ImmutableCollections$AbstractImmutableCollection -/
def k14 : Class := { plain "java/util/ImmutableCollections$AbstractImmutableCollection" (some 5) with
  accessFlags := 1056
  interfaces := #[]
  cf := some (fileOf pool14 13 #[.nestHost 8] #[{ accessFlags := 0, nameIndex := 5, descriptorIndex := 6, attributes := #[] }] 1056 2 #[] #[])
  fields := #[]
  methods := #[k14m0]
  instanceTypes := #[]
  staticTypes := #[]
  resolved := Array.replicate 56 none
  statics := none }

def pool15 : Array CpInfo := pool [(2, .class_ 4), (1, u "java/util/ImmutableCollections$AbstractImmutableCollection"), (0, u "<init>"), (0, u "()V"), (1, .class_ 10), (1, u "java/util/ImmutableCollections"), (3, .class_ 16), (1, u "java/util/ImmutableCollections$AbstractImmutableList"), (60, .class_ 78), (0, u "java/util/List"), (45, .class_ 125), (0, u "java/util/RandomAccess")] 70

def k15m0 : Method := { name := "<init>", desc := "()V", sig := { parameters := [], returnType := none }, accessFlags := 0, code := none }
/-- java/util/ImmutableCollections$AbstractImmutableList -/
def k15 : Class := { plain "java/util/ImmutableCollections$AbstractImmutableList" (some 14) with
  accessFlags := 1056
  interfaces := #[7, 9]
  cf := some (fileOf pool15 14 #[.nestHost 8] #[{ accessFlags := 0, nameIndex := 5, descriptorIndex := 6, attributes := #[] }] 1056 2 #[77, 124] #[])
  fields := #[]
  methods := #[k15m0]
  instanceTypes := #[]
  staticTypes := #[]
  resolved := Array.replicate 196 none
  statics := none }

def pool16 : Array CpInfo := pool [(2, .class_ 4), (1, u "java/util/ImmutableCollections$AbstractImmutableList"), (3, .class_ 10), (1, u "java/util/ImmutableCollections$ListN"), (0, u "elements"), (0, u "[Ljava/lang/Object;"), (2, u "allowNulls"), (0, u "Z"), (42, .class_ 60), (0, u "java/io/Serializable"), (53, .class_ 115), (0, u "java/util/ImmutableCollections")] 3

/-- java/util/ImmutableCollections$ListN -/
def k16 : Class := { plain "java/util/ImmutableCollections$ListN" (some 15) with
  accessFlags := 48
  interfaces := #[11]
  cf := some (fileOf pool16 8 #[.nestHost 114] #[] 48 2 #[59] #[{ accessFlags := 18, nameIndex := 11, descriptorIndex := 12, attributes := #[] }, { accessFlags := 18, nameIndex := 15, descriptorIndex := 16, attributes := #[] }])
  fields := #[{ name := "elements", type := (.array (.object "java/lang/Object")), accessFlags := 18, slot := 0, constantValue := 0 }, { name := "allowNulls", type := .boolean, accessFlags := 18, slot := 1, constantValue := 0 }]
  methods := #[]
  instanceTypes := #[(.array (.object "java/lang/Object")), .boolean]
  staticTypes := #[]
  resolved := Array.replicate 119 none
  statics := none }

/-- the primitive byte -/
def k17 : Class := { plain "byte" none with kind := .primitive 'B', accessFlags := 0x411 }
/-- [B -/
def k18 : Class := { plain "[B" (some 0) with kind := .array 17 .byte, interfaces := #[10, 11], accessFlags := 1041 }

/-- the primitive int -/
def k19 : Class := { plain "int" none with kind := .primitive 'I', accessFlags := 0x411 }
/-- [I -/
def k20 : Class := { plain "[I" (some 0) with kind := .array 19 .int, interfaces := #[10, 11], accessFlags := 1041 }

/-- [Ljava/lang/Object; -/
def k21 : Class := { plain "[Ljava/lang/Object;" (some 0) with kind := .array 0 (.object "java/lang/Object"), interfaces := #[10, 11], accessFlags := 1041 }

def heap : Heap := #[{ cls := 12, slots := #[.long 0, .int 0, .ref 4, .ref 5], vm := .statics 12 },
  { cls := 13, slots := #[.long 0, .int 0, .null, .null, .ref 3, .null, .null, .null, .int 0, .int 0], vm := .statics 13 },
  { cls := 21, slots := #[], vm := .none },
  { cls := 16, slots := #[.ref 2, .int 0], vm := .none },
  { cls := 21, slots := #[], vm := .none },
  { cls := 21, slots := #[], vm := .none }]
def classes : Array Class := #[k0, k1, k2, k3, k4, k5, k6, k7, k8, k9, k10, k11, k12, k13, k14, k15, k16, k17, k18, k19, k20, k21]
def interned : List (Array UInt16 × Addr) := []
def slotsUsed : Nat := 16
def theMethod : MethodId := ⟨1, 1⟩
def args0 : Array Value := #[.int 5, .int 3, .int 6]
def aboutOver (below : List Frame) : State where
  vm := { classes := classes, interned := interned.toArray }
  heap := heap
  slotsUsed := slotsUsed
  threads := #[{ frames := .invoking theMethod args0 :: below }]
def below0 : List Frame := [.native { method := ⟨0, 0⟩, args := #[] }]
def about1 : State := aboutOver below0
def p0 : Program := .bare "" "" ""
def e0 : Env := launch0.env 0 0 0
theorem w_frames : about1.frames = Frame.invoking theMethod args0 :: below0 := rfl
set_option maxRecDepth 65536 in
theorem w_args : argsFit about1.vm theMethod args0 = true := by decide +kernel
set_option maxRecDepth 65536 in
theorem w_heap : heapFits about1 = true := by decide +kernel
set_option maxRecDepth 65536 in
theorem w_runnable : about1.curStatus? = some .runnable := by decide +kernel
set_option maxRecDepth 65536 in
theorem w_alone : about1.alone = true := by decide +kernel
set_option maxRecDepth 65536 in
theorem w_named : about1.methodNamed? x = some theMethod := by decide +kernel
set_option maxRecDepth 65536 in
theorem w_hears : about1.hears theMethod below0 = true := by decide +kernel
set_option maxRecDepth 65536 in
theorem w_ripe : about1.ripe theMethod args0 below0 = true := by decide +kernel
theorem w_running : about1.status = .running := rfl
set_option maxRecDepth 65536 in
theorem w_room : about1.hasRoom e0.platform room_1 = true :=
  launch0.hasRoom_least _ room_1 (by decide +kernel) (by decide +kernel) (by decide +kernel) (by decide +kernel) (by decide +kernel) (by decide +kernel)
theorem allAtoms_all (ts : List Jvm.Cond) (a : Array Jvm.Value) (st : Jvm.State) : (allAtoms ts).before a st = ts.all (fun c => c.before a st) := by
  induction ts with
  | nil => rfl
  | cons c t ih =>
    show (Jvm.Cond.and c (allAtoms t)).before a st = _
    rw [Jvm.Cond.before_and, ih, List.all_cons]
def words1 : List Jvm.Cond := Jvm.Cond.code x code maxLocals ret :: tables_1
/-- a 'code' word, met by the world's own term for the bytes: nothing is compared byte by byte -/
theorem code_word {y : MethodName} {bytes : ByteArray} {mx : Nat} {rt : Option FieldType} {a : Array Value} {s : State} {m : MethodId} {meth : Method} {c : Code} (h1 : s.methodNamed? y = some m) (h2 : s.vm.method? m = some meth) (h3 : meth.code = some c) (h4 : c.code = bytes)
    (h5 : (c.maxLocals == mx && c.exceptionTable.isEmpty && decide (c.maxStack ≤ mostOperands) && decide (meth.sig.returnType = rt) && !meth.locks && decide (parseMethodDescriptor y.desc = some meth.sig)) = true) : (Jvm.Cond.code y bytes mx rt).before a s = true := by
  simp only [Bool.and_eq_true, beq_iff_eq, Bool.not_eq_true', decide_eq_true_eq] at h5
  obtain ⟨⟨⟨⟨⟨g1, g2⟩, g3⟩, g4⟩, g5⟩, g6⟩ := h5
  simp [Cond.before, Cond.holds, Cond.value, h1, h2, h3, h4, g1, g2, g3, g4, g5, g6]
def isCode : Jvm.Cond → Bool
  | .code _ _ _ _ => true
  | _ => false
theorem all_split {L : List Jvm.Cond} {P : Jvm.Cond → Bool} (h1 : L.all (fun c => isCode c || P c) = true) (h2 : ∀ c ∈ L.filter isCode, P c = true) : L.all P = true := by
  refine List.all_eq_true.mpr fun c hc => ?_
  have h := List.all_eq_true.mp h1 c hc
  rcases Bool.eq_false_or_eq_true (isCode c) with hi | hi
  · exact h2 c (List.mem_filter.mpr ⟨hc, hi⟩)
  · simpa [hi] using h
set_option maxRecDepth 65536 in
theorem w_c0 : (Jvm.Cond.code x code maxLocals ret).before args0 about1 = true := code_word (m := ⟨1, 1⟩) (meth := k1m1) (c := k1c1) (by decide +kernel) rfl rfl rfl (by decide +kernel)
set_option maxRecDepth 65536 in
theorem w_c1 : (Jvm.Cond.code ({ cls := "com/example/penelope/penelope/program/Location", name := "<init>", desc := "(IIZ)V" } : Jvm.MethodName) prog_93_method_1_code (4 : Nat) (Option.none : Option Jvm.ClassFile.FieldType)).before args0 about1 = true := code_word (m := ⟨2, 0⟩) (meth := k2m0) (c := k2c0) (by decide +kernel) rfl rfl rfl (by decide +kernel)
set_option maxRecDepth 65536 in
theorem w_c2 : (Jvm.Cond.code ({ cls := "java/lang/Object", name := "<init>", desc := "()V" } : Jvm.MethodName) object_method_1_code (1 : Nat) (Option.none : Option Jvm.ClassFile.FieldType)).before args0 about1 = true := code_word (m := ⟨0, 0⟩) (meth := k0m0) (c := k0c0) (by decide +kernel) rfl rfl rfl (by decide +kernel)
set_option maxRecDepth 65536 in
theorem w_c3 : (Jvm.Cond.code ({ cls := "java/util/ArrayList", name := "<init>", desc := "()V" } : Jvm.MethodName) jdk_38_method_2_code (1 : Nat) (Option.none : Option Jvm.ClassFile.FieldType)).before args0 about1 = true := code_word (m := ⟨12, 0⟩) (meth := k12m0) (c := k12c0) (by decide +kernel) rfl rfl rfl (by decide +kernel)
set_option maxRecDepth 65536 in
theorem w_c4 : (Jvm.Cond.code ({ cls := "java/util/AbstractList", name := "<init>", desc := "()V" } : Jvm.MethodName) jdk_39_method_1_code (1 : Nat) (Option.none : Option Jvm.ClassFile.FieldType)).before args0 about1 = true := code_word (m := ⟨8, 0⟩) (meth := k8m0) (c := k8c0) (by decide +kernel) rfl rfl rfl (by decide +kernel)
set_option maxRecDepth 65536 in
theorem w_c5 : (Jvm.Cond.code ({ cls := "java/util/AbstractCollection", name := "<init>", desc := "()V" } : Jvm.MethodName) jdk_22_method_1_code (1 : Nat) (Option.none : Option Jvm.ClassFile.FieldType)).before args0 about1 = true := code_word (m := ⟨5, 0⟩) (meth := k5m0) (c := k5c0) (by decide +kernel) rfl rfl rfl (by decide +kernel)
set_option maxRecDepth 65536 in
theorem w_c6 : (Jvm.Cond.code ({ cls := "java/util/List", name := "of", desc := "()Ljava/util/List;" } : Jvm.MethodName) jdk_40_method_36_code (0 : Nat) (Option.some (Jvm.ClassFile.FieldType.object "java/util/List"))).before args0 about1 = true := code_word (m := ⟨7, 0⟩) (meth := k7m0) (c := k7c0) (by decide +kernel) rfl rfl rfl (by decide +kernel)
set_option maxRecDepth 65536 in
theorem w_c7 : (Jvm.Cond.code ({ cls := "com/example/penelope/penelope/program/Location", name := "isValidEnd", desc := "()Z" } : Jvm.MethodName) prog_93_method_6_code (1 : Nat) (Option.some Jvm.ClassFile.FieldType.boolean)).before args0 about1 = true := code_word (m := ⟨2, 1⟩) (meth := k2m1) (c := k2c1) (by decide +kernel) rfl rfl rfl (by decide +kernel)
set_option maxRecDepth 65536 in
theorem w_c8 : (Jvm.Cond.code ({ cls := "com/example/penelope/penelope/program/Location", name := "markValidEnd", desc := "()V" } : Jvm.MethodName) prog_93_method_7_code (1 : Nat) (Option.none : Option Jvm.ClassFile.FieldType)).before args0 about1 = true := code_word (m := ⟨2, 2⟩) (meth := k2m2) (c := k2c2) (by decide +kernel) rfl rfl rfl (by decide +kernel)
set_option maxRecDepth 65536 in
theorem w_c9 : (Jvm.Cond.code ({ cls := "com/example/penelope/penelope/program/Location", name := "markAccepting", desc := "()V" } : Jvm.MethodName) prog_93_method_9_code (1 : Nat) (Option.none : Option Jvm.ClassFile.FieldType)).before args0 about1 = true := code_word (m := ⟨2, 3⟩) (meth := k2m3) (c := k2c3) (by decide +kernel) rfl rfl rfl (by decide +kernel)
set_option maxRecDepth 65536 in
theorem w_c10 : (Jvm.Cond.code ({ cls := "com/example/penelope/penelope/program/Location", name := "markIndependent", desc := "()V" } : Jvm.MethodName) prog_93_method_11_code (1 : Nat) (Option.none : Option Jvm.ClassFile.FieldType)).before args0 about1 = true := code_word (m := ⟨2, 4⟩) (meth := k2m4) (c := k2c4) (by decide +kernel) rfl rfl rfl (by decide +kernel)
set_option maxRecDepth 65536 in
theorem w_c11 : (Jvm.Cond.code ({ cls := "com/example/penelope/penelope/program/Location", name := "markBreaksCycles", desc := "()V" } : Jvm.MethodName) prog_93_method_13_code (1 : Nat) (Option.none : Option Jvm.ClassFile.FieldType)).before args0 about1 = true := code_word (m := ⟨2, 5⟩) (meth := k2m5) (c := k2c5) (by decide +kernel) rfl rfl rfl (by decide +kernel)
def codes1 : List Jvm.Cond := [Jvm.Cond.code x code maxLocals ret, Jvm.Cond.code ({ cls := "com/example/penelope/penelope/program/Location", name := "<init>", desc := "(IIZ)V" } : Jvm.MethodName) prog_93_method_1_code (4 : Nat) (Option.none : Option Jvm.ClassFile.FieldType), Jvm.Cond.code ({ cls := "java/lang/Object", name := "<init>", desc := "()V" } : Jvm.MethodName) object_method_1_code (1 : Nat) (Option.none : Option Jvm.ClassFile.FieldType), Jvm.Cond.code ({ cls := "java/util/ArrayList", name := "<init>", desc := "()V" } : Jvm.MethodName) jdk_38_method_2_code (1 : Nat) (Option.none : Option Jvm.ClassFile.FieldType), Jvm.Cond.code ({ cls := "java/util/AbstractList", name := "<init>", desc := "()V" } : Jvm.MethodName) jdk_39_method_1_code (1 : Nat) (Option.none : Option Jvm.ClassFile.FieldType), Jvm.Cond.code ({ cls := "java/util/AbstractCollection", name := "<init>", desc := "()V" } : Jvm.MethodName) jdk_22_method_1_code (1 : Nat) (Option.none : Option Jvm.ClassFile.FieldType), Jvm.Cond.code ({ cls := "java/util/List", name := "of", desc := "()Ljava/util/List;" } : Jvm.MethodName) jdk_40_method_36_code (0 : Nat) (Option.some (Jvm.ClassFile.FieldType.object "java/util/List")), Jvm.Cond.code ({ cls := "com/example/penelope/penelope/program/Location", name := "isValidEnd", desc := "()Z" } : Jvm.MethodName) prog_93_method_6_code (1 : Nat) (Option.some Jvm.ClassFile.FieldType.boolean), Jvm.Cond.code ({ cls := "com/example/penelope/penelope/program/Location", name := "markValidEnd", desc := "()V" } : Jvm.MethodName) prog_93_method_7_code (1 : Nat) (Option.none : Option Jvm.ClassFile.FieldType), Jvm.Cond.code ({ cls := "com/example/penelope/penelope/program/Location", name := "markAccepting", desc := "()V" } : Jvm.MethodName) prog_93_method_9_code (1 : Nat) (Option.none : Option Jvm.ClassFile.FieldType), Jvm.Cond.code ({ cls := "com/example/penelope/penelope/program/Location", name := "markIndependent", desc := "()V" } : Jvm.MethodName) prog_93_method_11_code (1 : Nat) (Option.none : Option Jvm.ClassFile.FieldType), Jvm.Cond.code ({ cls := "com/example/penelope/penelope/program/Location", name := "markBreaksCycles", desc := "()V" } : Jvm.MethodName) prog_93_method_13_code (1 : Nat) (Option.none : Option Jvm.ClassFile.FieldType)]
set_option maxRecDepth 65536 in
theorem codes_eq : words1.filter isCode = codes1 := rfl
theorem w_codes : ∀ c ∈ words1.filter isCode, c.before args0 about1 = true := by
  rw [codes_eq]
  intro c hc
  simp only [codes1, List.mem_cons, List.not_mem_nil, or_false] at hc
  rcases hc with rfl | rfl | rfl | rfl | rfl | rfl | rfl | rfl | rfl | rfl | rfl | rfl
  · exact w_c0
  · exact w_c1
  · exact w_c2
  · exact w_c3
  · exact w_c4
  · exact w_c5
  · exact w_c6
  · exact w_c7
  · exact w_c8
  · exact w_c9
  · exact w_c10
  · exact w_c11
set_option maxRecDepth 65536 in
theorem w_t1 : (words1.take 24).all (fun c => isCode c || c.before args0 about1) = true := by decide +kernel
set_option maxRecDepth 65536 in
theorem w_t2 : ((words1.drop 24).take 24).all (fun c => isCode c || c.before args0 about1) = true := by decide +kernel
set_option maxRecDepth 65536 in
theorem w_t3 : (((words1.drop 24).drop 24).take 24).all (fun c => isCode c || c.before args0 about1) = true := by decide +kernel
set_option maxRecDepth 65536 in
theorem w_t4 : (((words1.drop 24).drop 24).drop 24).all (fun c => isCode c || c.before args0 about1) = true := by decide +kernel
theorem w_tables : (allAtoms (Jvm.Cond.code x code maxLocals ret :: tables_1)).before args0 about1 = true := by
  rw [allAtoms_all]
  show words1.all (fun c => c.before args0 about1) = true
  refine all_split ?_ w_codes
  rw [← List.take_append_drop 24 words1, List.all_append, w_t1, ← List.take_append_drop 24 (words1.drop 24), List.all_append, w_t2, ← List.take_append_drop 24 ((words1.drop 24).drop 24), List.all_append, w_t3, w_t4]
  rfl
set_option maxRecDepth 65536 in
theorem w_rest : rest_1_c.before args0 about1 = true := by decide +kernel
set_option maxRecDepth 65536 in
theorem w_case : (Jvm.Cond.and given_1 narrow_1).before args0 about1 = true := by decide +kernel
theorem w_applies : (headSpec (Jvm.Cond.code x code maxLocals ret :: tables_1) room_1).applies x e0.platform about1 = true :=
  (Spec.applies_iff w_frames).mpr ⟨w_running, w_runnable, w_alone, w_named, w_hears, w_ripe, w_room, w_tables⟩
theorem atStart : AtStart classFile x code maxLocals ret World_1 tables_1 room_1 Calls_1 rest_1 Pre_1 launch0 p0 e0 about1 theMethod args0 below0 :=
  ⟨lists_1, trivial, launch0.admits_env _ _ _, launch0.least_env, fairChoices_fair.cas, fairChoices_fair.clock, w_frames, w_args, w_heap, w_applies, trivial, w_rest, w_case⟩
end start1
theorem witness_1 : WitnessClaimed_1 := ⟨start1.p0, start1.e0, start1.about1, start1.theMethod, start1.args0, start1.below0, start1.atStart⟩
end Jvm.Pilot.@@N@@
