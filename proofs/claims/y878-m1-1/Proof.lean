import JvmDerived
import JvmDerived.Pilot.@@N@@Statement
import JvmDerived.Pilot.@@N@@Code
set_option linter.unusedVariables false
set_option linter.unusedSimpArgs false
namespace Jvm.RoadKit
open Sem ClassFile Op Lib Jvm.Stand Jvm.Free Jvm.LawKit
section New
variable {p : Program} {l : Launch} {e : Env} {R : Room} {s : State} {m : MethodId} {args : Array Value} {below : List Frame} {meth : Method} {c : Code} {T : State} {locs : List Loc} {cells slots : Nat}
theorem retI (X : Stand p l e R s m args below meth c T locs cells slots) (hx : p.tables.exec = Jvm.exec) {pc : Nat} {Ls : Array Slot} {z : Int32} {rest : List Value} (hret : meth.sig.returnType = some .int) (hd : decode c.code pc = .ok (.ireturn, 1)) {fs : List Frame}
    (hl : ∀ (f : JFrame) (acts : List Action), f.method = m → f.locked = none → f.entered = [] → (doReturn e (T.setTop f) acts (some (.int z))).1 = T.setFrames fs) : Steps p.tables e below (T.setTop (mkF m pc Ls (.int z :: rest))) (T.setFrames fs) := by
  have hm' : T.vm.method? m = some meth := X.method'
  have hn : narrow .int (.int z) = .int z := rfl
  show Steps p.tables e below (T.setTop { method := m, pc := pc, locals := Ls, stack := _ :: rest, locked := none }) _
  jvm_step X.here [X.here.top, hx, hd, hm', hret, hn]
  first | (intro acts; rw [hl _ acts rfl rfl rfl]) | rw [hl _ _ rfl rfl rfl]
  exact Steps.refl _
end New
end Jvm.RoadKit
namespace Jvm.Pilot.@@N@@
open Jvm Jvm.ClassFile Sem Op Lib Jvm.Free Jvm.Stand Jvm.LawKit Jvm.RoadKit Bundle Jvm.Pilot.@@N@@.Jvm.D
abbrev own_Go (p : Program) (e : Env) (below : List Frame) (A B : State) : Prop := ∀ t, Steps p.tables e below B t → Steps p.tables e below A t
theorem own_from {p : Program} {e : Env} {below : List Frame} {A B t : State} (h : A = B) (k : Steps p.tables e below A t) : Steps p.tables e below B t := h ▸ k
theorem own_ite1 {P : Prop} [Decidable P] (h : P) : ¬ ((if P then (1 : Int32) else (0 : Int32)) = (0 : Int32)) := by rw [if_pos h]; decide
theorem own_ite0 {P : Prop} [Decidable P] (h : ¬ P) : (if P then (1 : Int32) else (0 : Int32)) = (0 : Int32) := if_neg h
def own_Pl (h : Heap) (a : Addr) : Prop := ∃ c : Cell, h[a]? = some c ∧ c.vm.isStatics = false
theorem own_plE {Z : State} {h : Heap} {a : Addr} {C : String} (F : Exa Z h a C) : own_Pl h a := by obtain ⟨cell, k, h1, _, _, h4, _⟩ := F; exact ⟨cell, h1, h4⟩
theorem own_plF {Z : State} {h : Heap} {a : Addr} {C n d : String} {v : Value} (F : Fld Z h a C n d v) : own_Pl h a := by obtain ⟨cell, cf, k, i, f, h1, _, _, _, h5, _⟩ := F; exact ⟨cell, h1, h5⟩
theorem own_plA {Z : State} {h : Heap} {a : Addr} {k : ClassId} {ty : FieldType} {n : Int32} {vs : List Value} {d : Value} (F : Arv Z h a k ty n vs d) : own_Pl h a := by obtain ⟨c, A, _⟩ := F; exact ⟨c, A.1, A.plain⟩
theorem own_staK {Z : State} {h h' : Heap} {C n d : String} {v : Value} {ws : List Addr} (F : Sta Z h C n d v) (K : Keep h h' ws) (q : ∀ x ∈ ws, own_Pl h x) : Sta Z h' C n d v := by
  obtain ⟨cf, i, k, f, st, cell, h1, h2, h3, h4, h5, h6, h7⟩ := F
  refine ⟨cf, i, k, f, st, cell, h1, h2, h3, h4, K.2.1 st cell h5 fun z => ?_, h6, h7⟩
  obtain ⟨c, q1, q2⟩ := q st z
  cases h5.symm.trans q1
  rw [h6] at q2; cases q2
theorem own_insK {Z : State} {h h' : Heap} {a : Addr} {C : String} {bo : Bool} {ws : List Addr} (F : Ins Z h a C bo) (K : Keep h h' ws) : Ins Z h' a C bo := by
  obtain ⟨cell, cT, h1, h2, h3⟩ := F
  obtain ⟨c', q1, q2, q3, q4⟩ := K.2.2 a cell h1
  exact ⟨c', cT, q1, h2, by rw [q2, q3]; exact h3⟩
theorem own_atI {c : Cell} {vs : List Value} {d : Value} {ty : FieldType} {j : Int32} (H : Has c vs d) (G : ∀ i, i < c.slots.size → fits ty (vs.getD i d) = true) (q : ¬ (j < 0 ∨ c.slots.size ≤ j.toNatClampNeg)) (ht : ty = .int ∨ ty = .boolean ∨ ty = .byte ∨ ty = .char ∨ ty = .short) : ∃ z, c.slots[j.toNatClampNeg]? = some (.int z) := by
  have hlt := Nat.lt_of_not_le fun y => q (Or.inr y)
  obtain ⟨z, hz⟩ := fit_I (G _ hlt) ht
  exact ⟨z, by rw [H _ hlt, hz]⟩
theorem own_cat {v : Value} (h : v.isRef = true) : v.category = 1 := by cases v <;> simp [Value.isRef, Value.category] at h ⊢
theorem pn_1 : plainName "com/example/strict_acl/strictacl/Decision" = true := by first | (simp [plainName, overriddenIn]; done) | decide +kernel
theorem d1_0 : decode prog_10_method_4_code 0 = .ok (.iload_n 0, 1) := by decide +kernel
theorem d1_1 : decode prog_10_method_4_code 1 = .ok (.ifCond .eq 9, 3) := by decide +kernel
theorem d1_4 : decode prog_10_method_4_code 4 = .ok (.getstatic 3, 3) := by decide +kernel
theorem d1_7 : decode prog_10_method_4_code 7 = .ok (.goto 6, 3) := by decide +kernel
theorem d1_13 : decode prog_10_method_4_code 13 = .ok (.areturn, 1) := by decide +kernel
theorem ef_1t (m : MethodId)  : entryFrame m #[(.int (1 : Int32))] 1 = mkF m 0 #[.val (.int (1 : Int32))] [] := by first | (simp [entryFrame, mkF, argsToLocals, Value.category]; done) | rfl
def Q1t (Z : State) (z1t_ALLOWED : Addr) (h0 : Heap) (n0 : Nat) (v : Option Value) (h : Heap) (L : List Loc) : Prop := v = some (.ref z1t_ALLOWED) ∧ Fr n0 L ∧ h = h0
set_option maxRecDepth 65536 in
set_option maxHeartbeats 40000000 in
theorem rm1t (l : Launch) (Z : State) (a0 : Array Value) (hw : ∀ d ∈ tables_1, d.before a0 Z = true) (ws : List Jvm.Cond) (z1t_ALLOWED : Addr) (h0 : Heap) (n0 : Nat) (Z0 : n0 ≤ h0.size) (S_ALLOWED : Sta Z h0 "com/example/strict_acl/strictacl/Decision" "ALLOWED" "Lcom/example/strict_acl/strictacl/Decision;" (.ref z1t_ALLOWED)) :
    MetFree l (⟨"com/example/strict_acl/strictacl/Decision", "of", "(Z)Lcom/example/strict_acl/strictacl/Decision;"⟩ : MethodName) (head1 (Jvm.Cond.code (⟨"com/example/strict_acl/strictacl/Decision", "of", "(Z)Lcom/example/strict_acl/strictacl/Decision;"⟩ : MethodName) prog_10_method_4_code 1 (some (.object "com/example/strict_acl/strictacl/Decision")) :: ws) ({ frames := 0, cells := 0, slots := 0, locals := 0 } : Room)) (fun a U => a = #[(.int (1 : Int32))] ∧ Z.Warmed39 U.vm ∧ U.heap = h0) (fun _ _ _ _ _ => True) (fun _ U o U' => ∃ v L, o = .returned v ∧ Q1t Z z1t_ALLOWED h0 n0 v U'.heap L ∧ FrameEnd U o U' L ({ frames := 0, cells := 0, slots := 0, locals := 0 } : Room).cells ({ frames := 0, cells := 0, slots := 0, locals := 0 } : Room).slots) := by
  refine MetFree.of_bodySF (plainFor_of_name pn_1) hisR ?_
  intro p e s m args below meth c s₁ Bd hml0 hP hK
  obtain ⟨rfl, hZ, hh⟩ := hP
  have hx := Bd.exec
  have hby := Bd.bytes
  have hml : c.maxLocals = 1 := hml0
  have hown : s.vm.findClass "com/example/strict_acl/strictacl/Decision" = some m.cls := findClass_of_methodNamed Bd.named
  have hnm := (name_of_methodNamed Bd.named Bd.method).1
  have X0 : Stand p l e ({ frames := 0, cells := 0, slots := 0, locals := 0 } : Room) s m #[(.int (1 : Int32))] below meth c s₁ [] 0 0 := Stand.of_body Bd
  have e0 : s₁.heap = h0 := by rw [← hh, Bd.state]; rfl
  have N0 := Fr.nil n0
  obtain ⟨S0, hS0⟩ : ∃ z, z = s₁.setTop (entryFrame m #[(.int (1 : Int32))] 1) := ⟨_, rfl⟩
  have P0 : own_Go p e below S0 (s₁.setTop (mkF m 0 #[.val (.int (1 : Int32))] [])) := fun t k => by rw [hS0]; exact castTop (ef_1t m ) k
  have P1 : own_Go p e below S0 (s₁.setTop (mkF m 4 #[.val (.int (1 : Int32))] [])) := fun t k => P0 t (by
    show Steps p.tables e below (s₁.setTop (mkF m 0 #[.val (.int (1 : Int32))] [])) t
    refine XS.iloadN X0.here hx rfl (hb hby d1_0) rfl ?_
    refine XS.ifNo X0.here hx rfl (hb hby d1_1) rfl ((if0 _ _).trans (feq (by decide)).1) ?_
    show Steps p.tables e below (s₁.setTop (mkF m 4 #[.val (.int (1 : Int32))] [])) t
    exact k)
  obtain ⟨T2, X2, e2, st2⟩ := getS2 X0 hx hZ hown (host := "") (Or.inl (hw _ (List.mem_of_getElem? (i := 6) rfl))) Via.refl e0 S_ALLOWED (g := (mkF m 4 #[.val (.int (1 : Int32))] [])) rfl (hb hby d1_4)
  have P2 : own_Go p e below S0 (T2.setTop (mkF m 7 #[.val (.int (1 : Int32))] [(.ref z1t_ALLOWED)])) := fun t k => P1 t (st2 _ k)
  have P3 : own_Go p e below S0 (T2.setTop (mkF m 13 #[.val (.int (1 : Int32))] [(.ref z1t_ALLOWED)])) := fun t k => P2 t (by
    show Steps p.tables e below (T2.setTop (mkF m 7 #[.val (.int (1 : Int32))] [(.ref z1t_ALLOWED)])) t
    refine XS.goto X2.here hx rfl (pc0 := 7) (pc' := 13) rfl (hb hby d1_7) (by decide) (by decide) ?_
    show Steps p.tables e below (T2.setTop (mkF m 13 #[.val (.int (1 : Int32))] [(.ref z1t_ALLOWED)])) t
    exact k)
  obtain ⟨fs, hr, hrun, hended, hW, hsame⟩ := X2.leave (v := some (.ref z1t_ALLOWED)) (fun h => by rw [Bd.returns] at h; cases h)
  refine ⟨_, _, own_from hS0 (P3 _ ?_), hrun, hended, _, _, rfl, ?_, ⟨_, rfl⟩, hW, hsame.mono (by decide) (by decide)⟩
  · show Steps p.tables e below (T2.setTop (mkF m 13 #[.val (.int (1 : Int32))] [(.ref z1t_ALLOWED)])) _
    jvm_step X2.here [X2.here.top, hx, (hb hby d1_13), X2.method', Bd.returns, Value.isRef, FieldType.isReference]
    first | (intro acts; rw [hr _ acts rfl rfl rfl]) | rw [hr _ _ rfl rfl rfl]
    exact Steps.refl _
  · show Q1t Z z1t_ALLOWED h0 n0 _ T2.heap _
    rw [e2]
    exact ⟨rfl, N0, rfl⟩
theorem d1_10 : decode prog_10_method_4_code 10 = .ok (.getstatic 7, 3) := by decide +kernel
theorem ef_1f (m : MethodId)  : entryFrame m #[(.int (0 : Int32))] 1 = mkF m 0 #[.val (.int (0 : Int32))] [] := by first | (simp [entryFrame, mkF, argsToLocals, Value.category]; done) | rfl
def Q1f (Z : State) (z1f_DENIED : Addr) (h0 : Heap) (n0 : Nat) (v : Option Value) (h : Heap) (L : List Loc) : Prop := v = some (.ref z1f_DENIED) ∧ Fr n0 L ∧ h = h0
set_option maxRecDepth 65536 in
set_option maxHeartbeats 40000000 in
theorem rm1f (l : Launch) (Z : State) (a0 : Array Value) (hw : ∀ d ∈ tables_1, d.before a0 Z = true) (ws : List Jvm.Cond) (z1f_DENIED : Addr) (h0 : Heap) (n0 : Nat) (Z0 : n0 ≤ h0.size) (S_DENIED : Sta Z h0 "com/example/strict_acl/strictacl/Decision" "DENIED" "Lcom/example/strict_acl/strictacl/Decision;" (.ref z1f_DENIED)) :
    MetFree l (⟨"com/example/strict_acl/strictacl/Decision", "of", "(Z)Lcom/example/strict_acl/strictacl/Decision;"⟩ : MethodName) (head1 (Jvm.Cond.code (⟨"com/example/strict_acl/strictacl/Decision", "of", "(Z)Lcom/example/strict_acl/strictacl/Decision;"⟩ : MethodName) prog_10_method_4_code 1 (some (.object "com/example/strict_acl/strictacl/Decision")) :: ws) ({ frames := 0, cells := 0, slots := 0, locals := 0 } : Room)) (fun a U => a = #[(.int (0 : Int32))] ∧ Z.Warmed39 U.vm ∧ U.heap = h0) (fun _ _ _ _ _ => True) (fun _ U o U' => ∃ v L, o = .returned v ∧ Q1f Z z1f_DENIED h0 n0 v U'.heap L ∧ FrameEnd U o U' L ({ frames := 0, cells := 0, slots := 0, locals := 0 } : Room).cells ({ frames := 0, cells := 0, slots := 0, locals := 0 } : Room).slots) := by
  refine MetFree.of_bodySF (plainFor_of_name pn_1) hisR ?_
  intro p e s m args below meth c s₁ Bd hml0 hP hK
  obtain ⟨rfl, hZ, hh⟩ := hP
  have hx := Bd.exec
  have hby := Bd.bytes
  have hml : c.maxLocals = 1 := hml0
  have hown : s.vm.findClass "com/example/strict_acl/strictacl/Decision" = some m.cls := findClass_of_methodNamed Bd.named
  have hnm := (name_of_methodNamed Bd.named Bd.method).1
  have X0 : Stand p l e ({ frames := 0, cells := 0, slots := 0, locals := 0 } : Room) s m #[(.int (0 : Int32))] below meth c s₁ [] 0 0 := Stand.of_body Bd
  have e0 : s₁.heap = h0 := by rw [← hh, Bd.state]; rfl
  have N0 := Fr.nil n0
  obtain ⟨S0, hS0⟩ : ∃ z, z = s₁.setTop (entryFrame m #[(.int (0 : Int32))] 1) := ⟨_, rfl⟩
  have P0 : own_Go p e below S0 (s₁.setTop (mkF m 0 #[.val (.int (0 : Int32))] [])) := fun t k => by rw [hS0]; exact castTop (ef_1f m ) k
  have P1 : own_Go p e below S0 (s₁.setTop (mkF m 10 #[.val (.int (0 : Int32))] [])) := fun t k => P0 t (by
    show Steps p.tables e below (s₁.setTop (mkF m 0 #[.val (.int (0 : Int32))] [])) t
    refine XS.iloadN X0.here hx rfl (hb hby d1_0) rfl ?_
    refine XS.ifYes X0.here hx rfl (pc0 := 1) (pc' := 10) rfl (hb hby d1_1) rfl ((if0 _ _).trans (teq (by decide)).1) (by decide) (by decide) ?_
    show Steps p.tables e below (s₁.setTop (mkF m 10 #[.val (.int (0 : Int32))] [])) t
    exact k)
  obtain ⟨T2, X2, e2, st2⟩ := getS2 X0 hx hZ hown (host := "") (Or.inl (hw _ (List.mem_of_getElem? (i := 4) rfl))) Via.refl e0 S_DENIED (g := (mkF m 10 #[.val (.int (0 : Int32))] [])) rfl (hb hby d1_10)
  have P2 : own_Go p e below S0 (T2.setTop (mkF m 13 #[.val (.int (0 : Int32))] [(.ref z1f_DENIED)])) := fun t k => P1 t (st2 _ k)
  obtain ⟨fs, hr, hrun, hended, hW, hsame⟩ := X2.leave (v := some (.ref z1f_DENIED)) (fun h => by rw [Bd.returns] at h; cases h)
  refine ⟨_, _, own_from hS0 (P2 _ ?_), hrun, hended, _, _, rfl, ?_, ⟨_, rfl⟩, hW, hsame.mono (by decide) (by decide)⟩
  · show Steps p.tables e below (T2.setTop (mkF m 13 #[.val (.int (0 : Int32))] [(.ref z1f_DENIED)])) _
    jvm_step X2.here [X2.here.top, hx, (hb hby d1_13), X2.method', Bd.returns, Value.isRef, FieldType.isReference]
    first | (intro acts; rw [hr _ acts rfl rfl rfl]) | rw [hr _ _ rfl rfl rfl]
    exact Steps.refl _
  · show Q1f Z z1f_DENIED h0 n0 _ T2.heap _
    rw [e2]
    exact ⟨rfl, N0, rfl⟩
theorem pd_0 : parseMethodDescriptor "(Z)Lcom/example/strict_acl/strictacl/Decision;" = some ⟨[.boolean], some (.object "com/example/strict_acl/strictacl/Decision")⟩ := by decide +kernel
theorem pn_0 : plainName "com/example/strict_acl/strictacl/DecisionOfPinLaw" = true := by first | (simp [plainName, overriddenIn]; done) | decide +kernel
theorem ef_0 (m : MethodId) (i0 : Int32) : entryFrame m #[(.int i0)] maxLocals = mkF m 0 #[.val (.int i0), .unset, .unset, .unset, .unset, .unset] [] := by first | (simp [entryFrame, mkF, argsToLocals, Value.category, maxLocals]; done) | rfl
def Q0 (Z : State) (i0 : Int32) (z0_DENIED : Addr) (z0_ALLOWED : Addr) (h0 : Heap) (n0 : Nat) (v : Option Value) (h : Heap) (L : List Loc) : Prop := v = some (.int 1) ∧ Fr n0 L
set_option maxRecDepth 65536 in
set_option maxHeartbeats 40000000 in
theorem rm0 (l : Launch) (Z : State) (a0 : Array Value) (hw : ∀ d ∈ tables_1, d.before a0 Z = true) (ws : List Jvm.Cond) (i0 : Int32) (z0_DENIED : Addr) (z0_ALLOWED : Addr) (h0 : Heap) (n0 : Nat) (Z0 : n0 ≤ h0.size) (S_DENIED : Sta Z h0 "com/example/strict_acl/strictacl/Decision" "DENIED" "Lcom/example/strict_acl/strictacl/Decision;" (.ref z0_DENIED)) (S_ALLOWED : Sta Z h0 "com/example/strict_acl/strictacl/Decision" "ALLOWED" "Lcom/example/strict_acl/strictacl/Decision;" (.ref z0_ALLOWED)) (hne_z0_DENIED_z0_ALLOWED : z0_DENIED ≠ z0_ALLOWED) :
    MetFree l x (head1 (Jvm.Cond.code x code maxLocals ret :: ws) room_1) (fun a U => a = #[(.int i0)] ∧ Z.Warmed39 U.vm ∧ U.heap = h0) (fun _ _ _ _ _ => True) (fun _ U o U' => ∃ v L, o = .returned v ∧ Q0 Z i0 z0_DENIED z0_ALLOWED h0 n0 v U'.heap L ∧ FrameEnd U o U' L room_1.cells room_1.slots) := by
  refine MetFree.of_bodySF (plainFor_of_name pn_0) hisR ?_
  intro p e s m args below meth c s₁ Bd hml0 hP hK
  obtain ⟨rfl, hZ, hh⟩ := hP
  have hx := Bd.exec
  have hby := Bd.bytes
  have hml : c.maxLocals = 6 := hml0
  have hown : s.vm.findClass "com/example/strict_acl/strictacl/DecisionOfPinLaw" = some m.cls := findClass_of_methodNamed Bd.named
  have hnm := (name_of_methodNamed Bd.named Bd.method).1
  have X0 : Stand p l e room_1 s m #[(.int i0)] below meth c s₁ [] 0 0 := Stand.of_body Bd
  have e0 : s₁.heap = h0 := by rw [← hh, Bd.state]; rfl
  have N0 := Fr.nil n0
  obtain ⟨S0, hS0⟩ : ∃ z, z = s₁.setTop (entryFrame m #[(.int i0)] maxLocals) := ⟨_, rfl⟩
  have P0 : own_Go p e below S0 (s₁.setTop (mkF m 0 #[.val (.int i0), .unset, .unset, .unset, .unset, .unset] [])) := fun t k => by rw [hS0]; exact castTop (ef_0 m i0) k
  have P1 : own_Go p e below S0 (s₁.setTop (mkF m 3 #[.val (.int i0), .unset, .unset, .unset, .unset, .unset] [(.int (i0 &&& (1 : Int32)))])) := fun t k => P0 t (by
    show Steps p.tables e below (s₁.setTop (mkF m 0 #[.val (.int i0), .unset, .unset, .unset, .unset, .unset] [])) t
    refine XS.iloadN X0.here hx rfl (hb hby at_0) rfl ?_
    refine XS.iconst X0.here hx rfl (hb hby at_1) ?_
    refine XS.iand X0.here hx rfl (hb hby at_2) rfl ?_
    show Steps p.tables e below (s₁.setTop (mkF m 3 #[.val (.int i0), .unset, .unset, .unset, .unset, .unset] [(.int (i0 &&& (1 : Int32)))])) t
    exact k)
  by_cases c2 : (i0 &&& (1 : Int32)) = (0 : Int32)
  · skip
    have P3 : own_Go p e below S0 (s₁.setTop (mkF m 13 #[.val (.int i0), .val (.int (0 : Int32)), .unset, .unset, .unset, .unset] [(.int (0 : Int32))])) := fun t k => P1 t (by
      show Steps p.tables e below (s₁.setTop (mkF m 3 #[.val (.int i0), .unset, .unset, .unset, .unset, .unset] [(.int (i0 &&& (1 : Int32)))])) t
      refine XS.ifYes X0.here hx rfl (pc0 := 3) (pc' := 10) rfl (hb hby at_3) rfl ((if0 _ _).trans (teq c2).1) (by decide) (by decide) ?_
      refine XS.iconst X0.here hx rfl (hb hby at_10) ?_
      refine XS.istoreN X0.here hx rfl (hb hby at_11) rfl (l' := #[.val (.int i0), .val (.int (0 : Int32)), .unset, .unset, .unset, .unset]) rfl ?_
      refine XS.iloadN X0.here hx rfl (hb hby at_12) rfl ?_
      show Steps p.tables e below (s₁.setTop (mkF m 13 #[.val (.int i0), .val (.int (0 : Int32)), .unset, .unset, .unset, .unset] [(.int (0 : Int32))])) t
      exact k)
    obtain ⟨_, _, ⟨T4, L4, k4, n4⟩, -, X4, ⟨Lc4, hQ4, l4, y4, z4⟩, st4⟩ := Jvm.LawKit.callS X0 hx (y := (⟨"com/example/strict_acl/strictacl/Decision", "of", "(Z)Lcom/example/strict_acl/strictacl/Decision;"⟩ : MethodName)) hown (mvT hZ (hw _ (List.mem_of_getElem? (i := 0) rfl))) (mvT hZ (hw _ (List.mem_of_getElem? (i := 1) rfl))) (mvT hZ (hw _ (List.mem_of_getElem? (i := 2) rfl))) (mvT hZ (hw _ (List.mem_of_getElem? (i := 3) rfl))) (by decide) (backOf (W := 0) (rm1f l Z a0 hw [] z0_DENIED h0 n0 Z0 S_DENIED) hZ (hw _ (List.mem_of_getElem? (i := 3) rfl)) (hw _ (List.mem_of_getElem? (i := 2) rfl)) (by decide) (by decide)) (g := (mkF m 13 #[.val (.int i0), .val (.int (0 : Int32)), .unset, .unset, .unset, .unset] [(.int (0 : Int32))])) rfl (by rw [hml]; rfl) (argsL := [(.int (0 : Int32))]) (rest := []) (lenOf pd_0 rfl) rfl (by show 2 * 0 + _ ≤ _; exact Nat.le_of_eq rfl) (hb hby at_13) (fun _ _ => ⟨rfl, e0, (by decide : 0 + 0 ≤ _), (by decide : 0 + 0 ≤ _)⟩)
    dsimp only [Pt.U, Pt.locs, Pt.cells, Pt.slots] at X4 l4 y4 z4 st4 hQ4
    subst l4 y4 z4
    obtain ⟨rfl, N4q, e4⟩ := hQ4
    have N4 := Fr.app N0 N4q
    have P4 : own_Go p e below S0 (T4.setTop (mkF m 16 #[.val (.int i0), .val (.int (0 : Int32)), .unset, .unset, .unset, .unset] [(.ref z0_DENIED)])) := fun t k => P3 t (st4 _ k)
    have P5 : own_Go p e below S0 (T4.setTop (mkF m 26 #[.val (.int i0), .val (.int (0 : Int32)), .val (.ref z0_DENIED), .unset, .unset, .unset] [(.int (1 : Int32))])) := fun t k => P4 t (by
      show Steps p.tables e below (T4.setTop (mkF m 16 #[.val (.int i0), .val (.int (0 : Int32)), .unset, .unset, .unset, .unset] [(.ref z0_DENIED)])) t
      refine XS.astoreN X4.here hx rfl (hb hby at_16) rfl rfl (l' := #[.val (.int i0), .val (.int (0 : Int32)), .val (.ref z0_DENIED), .unset, .unset, .unset]) rfl ?_
      refine XS.iloadN X4.here hx rfl (hb hby at_17) rfl ?_
      refine XS.ifNo X4.here hx rfl (hb hby at_18) rfl ((if0 _ _).trans (teq (by decide)).2) ?_
      refine XS.iconst X4.here hx rfl (hb hby at_21) ?_
      refine XS.goto X4.here hx rfl (pc0 := 22) (pc' := 26) rfl (hb hby at_22) (by decide) (by decide) ?_
      show Steps p.tables e below (T4.setTop (mkF m 26 #[.val (.int i0), .val (.int (0 : Int32)), .val (.ref z0_DENIED), .unset, .unset, .unset] [(.int (1 : Int32))])) t
      exact k)
    obtain ⟨_, _, ⟨T6, L6, k6, n6⟩, -, X6, ⟨Lc6, hQ6, l6, y6, z6⟩, st6⟩ := Jvm.LawKit.callS X4 hx (y := (⟨"com/example/strict_acl/strictacl/Decision", "of", "(Z)Lcom/example/strict_acl/strictacl/Decision;"⟩ : MethodName)) hown (mvT hZ (hw _ (List.mem_of_getElem? (i := 0) rfl))) (mvT hZ (hw _ (List.mem_of_getElem? (i := 1) rfl))) (mvT hZ (hw _ (List.mem_of_getElem? (i := 2) rfl))) (mvT hZ (hw _ (List.mem_of_getElem? (i := 3) rfl))) (by decide) (backOf (W := 0) (rm1t l Z a0 hw [] z0_ALLOWED h0 n0 Z0 S_ALLOWED) hZ (hw _ (List.mem_of_getElem? (i := 3) rfl)) (hw _ (List.mem_of_getElem? (i := 2) rfl)) (by decide) (by decide)) (g := (mkF m 26 #[.val (.int i0), .val (.int (0 : Int32)), .val (.ref z0_DENIED), .unset, .unset, .unset] [(.int (1 : Int32))])) rfl (by rw [hml]; rfl) (argsL := [(.int (1 : Int32))]) (rest := []) (lenOf pd_0 rfl) rfl (by show 2 * 0 + _ ≤ _; exact Nat.le_of_eq rfl) (hb hby at_26) (fun _ _ => ⟨rfl, e4, (by decide : 0 + 0 ≤ _), (by decide : 0 + 0 ≤ _)⟩)
    dsimp only [Pt.U, Pt.locs, Pt.cells, Pt.slots] at X6 l6 y6 z6 st6 hQ6
    subst l6 y6 z6
    obtain ⟨rfl, N6q, e6⟩ := hQ6
    have N6 := Fr.app N4 N6q
    have P6 : own_Go p e below S0 (T6.setTop (mkF m 29 #[.val (.int i0), .val (.int (0 : Int32)), .val (.ref z0_DENIED), .unset, .unset, .unset] [(.ref z0_ALLOWED)])) := fun t k => P5 t (st6 _ k)
    have P7 : own_Go p e below S0 (T6.setTop (mkF m 41 #[.val (.int i0), .val (.int (0 : Int32)), .val (.ref z0_DENIED), .val (.ref z0_ALLOWED), .unset, .unset] [(.ref z0_DENIED)])) := fun t k => P6 t (by
      show Steps p.tables e below (T6.setTop (mkF m 29 #[.val (.int i0), .val (.int (0 : Int32)), .val (.ref z0_DENIED), .unset, .unset, .unset] [(.ref z0_ALLOWED)])) t
      refine XS.astoreN X6.here hx rfl (hb hby at_29) rfl rfl (l' := #[.val (.int i0), .val (.int (0 : Int32)), .val (.ref z0_DENIED), .val (.ref z0_ALLOWED), .unset, .unset]) rfl ?_
      refine XS.aloadN X6.here hx rfl (hb hby at_30) rfl rfl ?_
      refine XS.ifnullNo X6.here hx rfl (hb hby at_31) rfl ?_
      refine XS.aloadN X6.here hx rfl (hb hby at_34) rfl rfl ?_
      refine XS.ifnonnullYes X6.here hx rfl (pc0 := 35) (pc' := 40) rfl (hb hby at_35) rfl (by decide) (by decide) ?_
      refine XS.aloadN X6.here hx rfl (hb hby at_40) rfl rfl ?_
      show Steps p.tables e below (T6.setTop (mkF m 41 #[.val (.int i0), .val (.int (0 : Int32)), .val (.ref z0_DENIED), .val (.ref z0_ALLOWED), .unset, .unset] [(.ref z0_DENIED)])) t
      exact k)
    obtain ⟨T8, X8, e8, st8⟩ := getS2 X6 hx hZ hown (host := "") (Or.inl (hw _ (List.mem_of_getElem? (i := 8) rfl))) Via.refl e6 S_ALLOWED (g := (mkF m 41 #[.val (.int i0), .val (.int (0 : Int32)), .val (.ref z0_DENIED), .val (.ref z0_ALLOWED), .unset, .unset] [(.ref z0_DENIED)])) rfl (hb hby at_41)
    have P8 : own_Go p e below S0 (T8.setTop (mkF m 44 #[.val (.int i0), .val (.int (0 : Int32)), .val (.ref z0_DENIED), .val (.ref z0_ALLOWED), .unset, .unset] [(.ref z0_ALLOWED), (.ref z0_DENIED)])) := fun t k => P7 t (st8 _ k)
    have P9 : own_Go p e below S0 (T8.setTop (mkF m 57 #[.val (.int i0), .val (.int (0 : Int32)), .val (.ref z0_DENIED), .val (.ref z0_ALLOWED), .unset, .unset] [(.ref z0_DENIED)])) := fun t k => P8 t (by
      show Steps p.tables e below (T8.setTop (mkF m 44 #[.val (.int i0), .val (.int (0 : Int32)), .val (.ref z0_DENIED), .val (.ref z0_ALLOWED), .unset, .unset] [(.ref z0_ALLOWED), (.ref z0_DENIED)])) t
      refine Jvm.RoadKit.acmp (g := (mkF m 44 #[.val (.int i0), .val (.int (0 : Int32)), .val (.ref z0_DENIED), .val (.ref z0_ALLOWED), .unset, .unset] [(.ref z0_ALLOWED), (.ref z0_DENIED)])) X8 hx rfl rfl rfl (pc0 := 44) (pc' := 51) (same := false) rfl (hb hby at_44) rfl (decide_eq_false fun q => hne_z0_DENIED_z0_ALLOWED (Value.ref.inj q)) (by decide) (by decide) ?_
      refine XS.iconst X8.here hx rfl (hb hby at_51) ?_
      refine XS.iloadN X8.here hx rfl (hb hby at_52) rfl ?_
      refine XS.icmpNo X8.here hx rfl (hb hby at_53) rfl (teq (by decide)).2 ?_
      refine XS.aloadN X8.here hx rfl (hb hby at_56) rfl rfl ?_
      show Steps p.tables e below (T8.setTop (mkF m 57 #[.val (.int i0), .val (.int (0 : Int32)), .val (.ref z0_DENIED), .val (.ref z0_ALLOWED), .unset, .unset] [(.ref z0_DENIED)])) t
      exact k)
    obtain ⟨T10, X10, e10, st10⟩ := getS2 X8 hx hZ hown (host := "") (Or.inl (hw _ (List.mem_of_getElem? (i := 9) rfl))) Via.refl e8 S_DENIED (g := (mkF m 57 #[.val (.int i0), .val (.int (0 : Int32)), .val (.ref z0_DENIED), .val (.ref z0_ALLOWED), .unset, .unset] [(.ref z0_DENIED)])) rfl (hb hby at_57)
    have P10 : own_Go p e below S0 (T10.setTop (mkF m 60 #[.val (.int i0), .val (.int (0 : Int32)), .val (.ref z0_DENIED), .val (.ref z0_ALLOWED), .unset, .unset] [(.ref z0_DENIED), (.ref z0_DENIED)])) := fun t k => P9 t (st10 _ k)
    have P11 : own_Go p e below S0 (T10.setTop (mkF m 88 #[.val (.int i0), .val (.int (0 : Int32)), .val (.ref z0_DENIED), .val (.ref z0_ALLOWED), .val (.int (1 : Int32)), .unset] [(.ref z0_ALLOWED)])) := fun t k => P10 t (by
      show Steps p.tables e below (T10.setTop (mkF m 60 #[.val (.int i0), .val (.int (0 : Int32)), .val (.ref z0_DENIED), .val (.ref z0_ALLOWED), .unset, .unset] [(.ref z0_DENIED), (.ref z0_DENIED)])) t
      refine Jvm.RoadKit.acmp (g := (mkF m 60 #[.val (.int i0), .val (.int (0 : Int32)), .val (.ref z0_DENIED), .val (.ref z0_ALLOWED), .unset, .unset] [(.ref z0_DENIED), (.ref z0_DENIED)])) X10 hx rfl rfl rfl (pc0 := 60) (pc' := 63) (same := true) rfl (hb hby at_60) rfl (decide_eq_true rfl) (by decide) (by decide) ?_
      refine XS.iconst X10.here hx rfl (hb hby at_63) ?_
      refine XS.goto X10.here hx rfl (pc0 := 64) (pc' := 68) rfl (hb hby at_64) (by decide) (by decide) ?_
      refine XS.iloadN X10.here hx rfl (hb hby at_68) rfl ?_
      refine XS.ifNo X10.here hx rfl (hb hby at_69) rfl ((if0 _ _).trans (teq (by decide)).2) ?_
      refine XS.iconst X10.here hx rfl (hb hby at_72) ?_
      show Steps p.tables e below (T10.setTop (mkF m 73 #[.val (.int i0), .val (.int (0 : Int32)), .val (.ref z0_DENIED), .val (.ref z0_ALLOWED), .unset, .unset] [(.int (1 : Int32)), (.int (1 : Int32))])) t
      refine XS.goto X10.here hx rfl (pc0 := 73) (pc' := 77) rfl (hb hby at_73) (by decide) (by decide) ?_
      refine XS.icmpNo X10.here hx rfl (hb hby at_77) rfl (teq (by decide)).2 ?_
      refine XS.iconst X10.here hx rfl (hb hby at_80) ?_
      refine XS.goto X10.here hx rfl (pc0 := 81) (pc' := 85) rfl (hb hby at_81) (by decide) (by decide) ?_
      refine XS.istore X10.here hx rfl (hb hby at_85) rfl (l' := #[.val (.int i0), .val (.int (0 : Int32)), .val (.ref z0_DENIED), .val (.ref z0_ALLOWED), .val (.int (1 : Int32)), .unset]) rfl ?_
      refine XS.aloadN X10.here hx rfl (hb hby at_87) rfl rfl ?_
      show Steps p.tables e below (T10.setTop (mkF m 88 #[.val (.int i0), .val (.int (0 : Int32)), .val (.ref z0_DENIED), .val (.ref z0_ALLOWED), .val (.int (1 : Int32)), .unset] [(.ref z0_ALLOWED)])) t
      exact k)
    obtain ⟨T12, X12, e12, st12⟩ := getS2 X10 hx hZ hown (host := "") (Or.inl (hw _ (List.mem_of_getElem? (i := 8) rfl))) Via.refl e10 S_ALLOWED (g := (mkF m 88 #[.val (.int i0), .val (.int (0 : Int32)), .val (.ref z0_DENIED), .val (.ref z0_ALLOWED), .val (.int (1 : Int32)), .unset] [(.ref z0_ALLOWED)])) rfl (hb hby at_88)
    have P12 : own_Go p e below S0 (T12.setTop (mkF m 91 #[.val (.int i0), .val (.int (0 : Int32)), .val (.ref z0_DENIED), .val (.ref z0_ALLOWED), .val (.int (1 : Int32)), .unset] [(.ref z0_ALLOWED), (.ref z0_ALLOWED)])) := fun t k => P11 t (st12 _ k)
    have P13 : own_Go p e below S0 (T12.setTop (mkF m 112 #[.val (.int i0), .val (.int (0 : Int32)), .val (.ref z0_DENIED), .val (.ref z0_ALLOWED), .val (.int (1 : Int32)), .unset] [(.ref z0_ALLOWED)])) := fun t k => P12 t (by
      show Steps p.tables e below (T12.setTop (mkF m 91 #[.val (.int i0), .val (.int (0 : Int32)), .val (.ref z0_DENIED), .val (.ref z0_ALLOWED), .val (.int (1 : Int32)), .unset] [(.ref z0_ALLOWED), (.ref z0_ALLOWED)])) t
      refine Jvm.RoadKit.acmp (g := (mkF m 91 #[.val (.int i0), .val (.int (0 : Int32)), .val (.ref z0_DENIED), .val (.ref z0_ALLOWED), .val (.int (1 : Int32)), .unset] [(.ref z0_ALLOWED), (.ref z0_ALLOWED)])) X12 hx rfl rfl rfl (pc0 := 91) (pc' := 94) (same := true) rfl (hb hby at_91) rfl (decide_eq_true rfl) (by decide) (by decide) ?_
      refine XS.iconst X12.here hx rfl (hb hby at_94) ?_
      refine XS.goto X12.here hx rfl (pc0 := 95) (pc' := 99) rfl (hb hby at_95) (by decide) (by decide) ?_
      refine XS.iloadN X12.here hx rfl (hb hby at_99) rfl ?_
      refine XS.ifNo X12.here hx rfl (hb hby at_100) rfl ((if0 _ _).trans (teq (by decide)).2) ?_
      refine XS.iconst X12.here hx rfl (hb hby at_103) ?_
      show Steps p.tables e below (T12.setTop (mkF m 104 #[.val (.int i0), .val (.int (0 : Int32)), .val (.ref z0_DENIED), .val (.ref z0_ALLOWED), .val (.int (1 : Int32)), .unset] [(.int (1 : Int32)), (.int (1 : Int32))])) t
      refine XS.goto X12.here hx rfl (pc0 := 104) (pc' := 108) rfl (hb hby at_104) (by decide) (by decide) ?_
      refine XS.icmpNo X12.here hx rfl (hb hby at_108) rfl (teq (by decide)).2 ?_
      refine XS.aloadN X12.here hx rfl (hb hby at_111) rfl rfl ?_
      show Steps p.tables e below (T12.setTop (mkF m 112 #[.val (.int i0), .val (.int (0 : Int32)), .val (.ref z0_DENIED), .val (.ref z0_ALLOWED), .val (.int (1 : Int32)), .unset] [(.ref z0_ALLOWED)])) t
      exact k)
    obtain ⟨T14, X14, e14, st14⟩ := getS2 X12 hx hZ hown (host := "") (Or.inl (hw _ (List.mem_of_getElem? (i := 9) rfl))) Via.refl e12 S_DENIED (g := (mkF m 112 #[.val (.int i0), .val (.int (0 : Int32)), .val (.ref z0_DENIED), .val (.ref z0_ALLOWED), .val (.int (1 : Int32)), .unset] [(.ref z0_ALLOWED)])) rfl (hb hby at_112)
    have P14 : own_Go p e below S0 (T14.setTop (mkF m 115 #[.val (.int i0), .val (.int (0 : Int32)), .val (.ref z0_DENIED), .val (.ref z0_ALLOWED), .val (.int (1 : Int32)), .unset] [(.ref z0_DENIED), (.ref z0_ALLOWED)])) := fun t k => P13 t (st14 _ k)
    have P15 : own_Go p e below S0 (T14.setTop (mkF m 154 #[.val (.int i0), .val (.int (0 : Int32)), .val (.ref z0_DENIED), .val (.ref z0_ALLOWED), .val (.int (1 : Int32)), .val (.int (1 : Int32))] [(.int (1 : Int32))])) := fun t k => P14 t (by
      show Steps p.tables e below (T14.setTop (mkF m 115 #[.val (.int i0), .val (.int (0 : Int32)), .val (.ref z0_DENIED), .val (.ref z0_ALLOWED), .val (.int (1 : Int32)), .unset] [(.ref z0_DENIED), (.ref z0_ALLOWED)])) t
      refine Jvm.RoadKit.acmp (g := (mkF m 115 #[.val (.int i0), .val (.int (0 : Int32)), .val (.ref z0_DENIED), .val (.ref z0_ALLOWED), .val (.int (1 : Int32)), .unset] [(.ref z0_DENIED), (.ref z0_ALLOWED)])) X14 hx rfl rfl rfl (pc0 := 115) (pc' := 122) (same := false) rfl (hb hby at_115) rfl (decide_eq_false fun q => (Ne.symm hne_z0_DENIED_z0_ALLOWED) (Value.ref.inj q)) (by decide) (by decide) ?_
      refine XS.iconst X14.here hx rfl (hb hby at_122) ?_
      refine XS.iloadN X14.here hx rfl (hb hby at_123) rfl ?_
      refine XS.icmpNo X14.here hx rfl (hb hby at_124) rfl (teq (by decide)).2 ?_
      refine XS.iconst X14.here hx rfl (hb hby at_127) ?_
      refine XS.goto X14.here hx rfl (pc0 := 128) (pc' := 132) rfl (hb hby at_128) (by decide) (by decide) ?_
      show Steps p.tables e below (T14.setTop (mkF m 132 #[.val (.int i0), .val (.int (0 : Int32)), .val (.ref z0_DENIED), .val (.ref z0_ALLOWED), .val (.int (1 : Int32)), .unset] [(.int (1 : Int32))])) t
      refine XS.istore X14.here hx rfl (hb hby at_132) rfl (l' := #[.val (.int i0), .val (.int (0 : Int32)), .val (.ref z0_DENIED), .val (.ref z0_ALLOWED), .val (.int (1 : Int32)), .val (.int (1 : Int32))]) rfl ?_
      refine XS.iload X14.here hx rfl (hb hby at_134) rfl ?_
      refine XS.ifNo X14.here hx rfl (hb hby at_136) rfl ((if0 _ _).trans (feq (by decide)).1) ?_
      refine XS.iload X14.here hx rfl (hb hby at_139) rfl ?_
      refine XS.ifNo X14.here hx rfl (hb hby at_141) rfl ((if0 _ _).trans (feq (by decide)).1) ?_
      refine XS.aloadN X14.here hx rfl (hb hby at_144) rfl rfl ?_
      show Steps p.tables e below (T14.setTop (mkF m 145 #[.val (.int i0), .val (.int (0 : Int32)), .val (.ref z0_DENIED), .val (.ref z0_ALLOWED), .val (.int (1 : Int32)), .val (.int (1 : Int32))] [(.ref z0_DENIED)])) t
      refine XS.aloadN X14.here hx rfl (hb hby at_145) rfl rfl ?_
      refine Jvm.RoadKit.acmp (g := (mkF m 146 #[.val (.int i0), .val (.int (0 : Int32)), .val (.ref z0_DENIED), .val (.ref z0_ALLOWED), .val (.int (1 : Int32)), .val (.int (1 : Int32))] [(.ref z0_ALLOWED), (.ref z0_DENIED)])) X14 hx rfl rfl rfl (pc0 := 146) (pc' := 149) (same := false) rfl (hb hby at_146) rfl (decide_eq_false fun q => hne_z0_DENIED_z0_ALLOWED (Value.ref.inj q)) (by decide) (by decide) ?_
      refine XS.iconst X14.here hx rfl (hb hby at_149) ?_
      refine XS.goto X14.here hx rfl (pc0 := 150) (pc' := 154) rfl (hb hby at_150) (by decide) (by decide) ?_
      show Steps p.tables e below (T14.setTop (mkF m 154 #[.val (.int i0), .val (.int (0 : Int32)), .val (.ref z0_DENIED), .val (.ref z0_ALLOWED), .val (.int (1 : Int32)), .val (.int (1 : Int32))] [(.int (1 : Int32))])) t
      exact k)
    obtain ⟨fs, hr, hrun, hended, hW, hsame⟩ := X14.leave (v := some (.int (1 : Int32))) (fun h => by rw [Bd.returns] at h; cases h)
    refine ⟨_, _, own_from hS0 (P15 _ ?_), hrun, hended, _, _, rfl, ?_, ⟨_, rfl⟩, hW, hsame.mono (by decide) (by decide)⟩
    · show Steps p.tables e below (T14.setTop (mkF m 154 #[.val (.int i0), .val (.int (0 : Int32)), .val (.ref z0_DENIED), .val (.ref z0_ALLOWED), .val (.int (1 : Int32)), .val (.int (1 : Int32))] [(.int (1 : Int32))])) _
      exact retN X14 hx (t := .boolean) Bd.returns (by simp) (hb hby at_154) hr
    · show Q0 Z i0 z0_DENIED z0_ALLOWED h0 n0 _ T14.heap _
      rw [e14]
      exact ⟨rfl, N6⟩
  · skip
    have P16 : own_Go p e below S0 (s₁.setTop (mkF m 13 #[.val (.int i0), .val (.int (1 : Int32)), .unset, .unset, .unset, .unset] [(.int (1 : Int32))])) := fun t k => P1 t (by
      show Steps p.tables e below (s₁.setTop (mkF m 3 #[.val (.int i0), .unset, .unset, .unset, .unset, .unset] [(.int (i0 &&& (1 : Int32)))])) t
      refine XS.ifNo X0.here hx rfl (hb hby at_3) rfl ((if0 _ _).trans (feq c2).1) ?_
      refine XS.iconst X0.here hx rfl (hb hby at_6) ?_
      refine XS.goto X0.here hx rfl (pc0 := 7) (pc' := 11) rfl (hb hby at_7) (by decide) (by decide) ?_
      refine XS.istoreN X0.here hx rfl (hb hby at_11) rfl (l' := #[.val (.int i0), .val (.int (1 : Int32)), .unset, .unset, .unset, .unset]) rfl ?_
      refine XS.iloadN X0.here hx rfl (hb hby at_12) rfl ?_
      show Steps p.tables e below (s₁.setTop (mkF m 13 #[.val (.int i0), .val (.int (1 : Int32)), .unset, .unset, .unset, .unset] [(.int (1 : Int32))])) t
      exact k)
    obtain ⟨_, _, ⟨T17, L17, k17, n17⟩, -, X17, ⟨Lc17, hQ17, l17, y17, z17⟩, st17⟩ := Jvm.LawKit.callS X0 hx (y := (⟨"com/example/strict_acl/strictacl/Decision", "of", "(Z)Lcom/example/strict_acl/strictacl/Decision;"⟩ : MethodName)) hown (mvT hZ (hw _ (List.mem_of_getElem? (i := 0) rfl))) (mvT hZ (hw _ (List.mem_of_getElem? (i := 1) rfl))) (mvT hZ (hw _ (List.mem_of_getElem? (i := 2) rfl))) (mvT hZ (hw _ (List.mem_of_getElem? (i := 3) rfl))) (by decide) (backOf (W := 0) (rm1t l Z a0 hw [] z0_ALLOWED h0 n0 Z0 S_ALLOWED) hZ (hw _ (List.mem_of_getElem? (i := 3) rfl)) (hw _ (List.mem_of_getElem? (i := 2) rfl)) (by decide) (by decide)) (g := (mkF m 13 #[.val (.int i0), .val (.int (1 : Int32)), .unset, .unset, .unset, .unset] [(.int (1 : Int32))])) rfl (by rw [hml]; rfl) (argsL := [(.int (1 : Int32))]) (rest := []) (lenOf pd_0 rfl) rfl (by show 2 * 0 + _ ≤ _; exact Nat.le_of_eq rfl) (hb hby at_13) (fun _ _ => ⟨rfl, e0, (by decide : 0 + 0 ≤ _), (by decide : 0 + 0 ≤ _)⟩)
    dsimp only [Pt.U, Pt.locs, Pt.cells, Pt.slots] at X17 l17 y17 z17 st17 hQ17
    subst l17 y17 z17
    obtain ⟨rfl, N17q, e17⟩ := hQ17
    have N17 := Fr.app N0 N17q
    have P17 : own_Go p e below S0 (T17.setTop (mkF m 16 #[.val (.int i0), .val (.int (1 : Int32)), .unset, .unset, .unset, .unset] [(.ref z0_ALLOWED)])) := fun t k => P16 t (st17 _ k)
    have P18 : own_Go p e below S0 (T17.setTop (mkF m 26 #[.val (.int i0), .val (.int (1 : Int32)), .val (.ref z0_ALLOWED), .unset, .unset, .unset] [(.int (0 : Int32))])) := fun t k => P17 t (by
      show Steps p.tables e below (T17.setTop (mkF m 16 #[.val (.int i0), .val (.int (1 : Int32)), .unset, .unset, .unset, .unset] [(.ref z0_ALLOWED)])) t
      refine XS.astoreN X17.here hx rfl (hb hby at_16) rfl rfl (l' := #[.val (.int i0), .val (.int (1 : Int32)), .val (.ref z0_ALLOWED), .unset, .unset, .unset]) rfl ?_
      refine XS.iloadN X17.here hx rfl (hb hby at_17) rfl ?_
      refine XS.ifYes X17.here hx rfl (pc0 := 18) (pc' := 25) rfl (hb hby at_18) rfl ((if0 _ _).trans (feq (by decide)).2) (by decide) (by decide) ?_
      refine XS.iconst X17.here hx rfl (hb hby at_25) ?_
      show Steps p.tables e below (T17.setTop (mkF m 26 #[.val (.int i0), .val (.int (1 : Int32)), .val (.ref z0_ALLOWED), .unset, .unset, .unset] [(.int (0 : Int32))])) t
      exact k)
    obtain ⟨_, _, ⟨T19, L19, k19, n19⟩, -, X19, ⟨Lc19, hQ19, l19, y19, z19⟩, st19⟩ := Jvm.LawKit.callS X17 hx (y := (⟨"com/example/strict_acl/strictacl/Decision", "of", "(Z)Lcom/example/strict_acl/strictacl/Decision;"⟩ : MethodName)) hown (mvT hZ (hw _ (List.mem_of_getElem? (i := 0) rfl))) (mvT hZ (hw _ (List.mem_of_getElem? (i := 1) rfl))) (mvT hZ (hw _ (List.mem_of_getElem? (i := 2) rfl))) (mvT hZ (hw _ (List.mem_of_getElem? (i := 3) rfl))) (by decide) (backOf (W := 0) (rm1f l Z a0 hw [] z0_DENIED h0 n0 Z0 S_DENIED) hZ (hw _ (List.mem_of_getElem? (i := 3) rfl)) (hw _ (List.mem_of_getElem? (i := 2) rfl)) (by decide) (by decide)) (g := (mkF m 26 #[.val (.int i0), .val (.int (1 : Int32)), .val (.ref z0_ALLOWED), .unset, .unset, .unset] [(.int (0 : Int32))])) rfl (by rw [hml]; rfl) (argsL := [(.int (0 : Int32))]) (rest := []) (lenOf pd_0 rfl) rfl (by show 2 * 0 + _ ≤ _; exact Nat.le_of_eq rfl) (hb hby at_26) (fun _ _ => ⟨rfl, e17, (by decide : 0 + 0 ≤ _), (by decide : 0 + 0 ≤ _)⟩)
    dsimp only [Pt.U, Pt.locs, Pt.cells, Pt.slots] at X19 l19 y19 z19 st19 hQ19
    subst l19 y19 z19
    obtain ⟨rfl, N19q, e19⟩ := hQ19
    have N19 := Fr.app N17 N19q
    have P19 : own_Go p e below S0 (T19.setTop (mkF m 29 #[.val (.int i0), .val (.int (1 : Int32)), .val (.ref z0_ALLOWED), .unset, .unset, .unset] [(.ref z0_DENIED)])) := fun t k => P18 t (st19 _ k)
    have P20 : own_Go p e below S0 (T19.setTop (mkF m 41 #[.val (.int i0), .val (.int (1 : Int32)), .val (.ref z0_ALLOWED), .val (.ref z0_DENIED), .unset, .unset] [(.ref z0_ALLOWED)])) := fun t k => P19 t (by
      show Steps p.tables e below (T19.setTop (mkF m 29 #[.val (.int i0), .val (.int (1 : Int32)), .val (.ref z0_ALLOWED), .unset, .unset, .unset] [(.ref z0_DENIED)])) t
      refine XS.astoreN X19.here hx rfl (hb hby at_29) rfl rfl (l' := #[.val (.int i0), .val (.int (1 : Int32)), .val (.ref z0_ALLOWED), .val (.ref z0_DENIED), .unset, .unset]) rfl ?_
      refine XS.aloadN X19.here hx rfl (hb hby at_30) rfl rfl ?_
      refine XS.ifnullNo X19.here hx rfl (hb hby at_31) rfl ?_
      refine XS.aloadN X19.here hx rfl (hb hby at_34) rfl rfl ?_
      refine XS.ifnonnullYes X19.here hx rfl (pc0 := 35) (pc' := 40) rfl (hb hby at_35) rfl (by decide) (by decide) ?_
      refine XS.aloadN X19.here hx rfl (hb hby at_40) rfl rfl ?_
      show Steps p.tables e below (T19.setTop (mkF m 41 #[.val (.int i0), .val (.int (1 : Int32)), .val (.ref z0_ALLOWED), .val (.ref z0_DENIED), .unset, .unset] [(.ref z0_ALLOWED)])) t
      exact k)
    obtain ⟨T21, X21, e21, st21⟩ := getS2 X19 hx hZ hown (host := "") (Or.inl (hw _ (List.mem_of_getElem? (i := 8) rfl))) Via.refl e19 S_ALLOWED (g := (mkF m 41 #[.val (.int i0), .val (.int (1 : Int32)), .val (.ref z0_ALLOWED), .val (.ref z0_DENIED), .unset, .unset] [(.ref z0_ALLOWED)])) rfl (hb hby at_41)
    have P21 : own_Go p e below S0 (T21.setTop (mkF m 44 #[.val (.int i0), .val (.int (1 : Int32)), .val (.ref z0_ALLOWED), .val (.ref z0_DENIED), .unset, .unset] [(.ref z0_ALLOWED), (.ref z0_ALLOWED)])) := fun t k => P20 t (st21 _ k)
    have P22 : own_Go p e below S0 (T21.setTop (mkF m 57 #[.val (.int i0), .val (.int (1 : Int32)), .val (.ref z0_ALLOWED), .val (.ref z0_DENIED), .unset, .unset] [(.ref z0_ALLOWED)])) := fun t k => P21 t (by
      show Steps p.tables e below (T21.setTop (mkF m 44 #[.val (.int i0), .val (.int (1 : Int32)), .val (.ref z0_ALLOWED), .val (.ref z0_DENIED), .unset, .unset] [(.ref z0_ALLOWED), (.ref z0_ALLOWED)])) t
      refine Jvm.RoadKit.acmp (g := (mkF m 44 #[.val (.int i0), .val (.int (1 : Int32)), .val (.ref z0_ALLOWED), .val (.ref z0_DENIED), .unset, .unset] [(.ref z0_ALLOWED), (.ref z0_ALLOWED)])) X21 hx rfl rfl rfl (pc0 := 44) (pc' := 47) (same := true) rfl (hb hby at_44) rfl (decide_eq_true rfl) (by decide) (by decide) ?_
      refine XS.iconst X21.here hx rfl (hb hby at_47) ?_
      refine XS.goto X21.here hx rfl (pc0 := 48) (pc' := 52) rfl (hb hby at_48) (by decide) (by decide) ?_
      refine XS.iloadN X21.here hx rfl (hb hby at_52) rfl ?_
      refine XS.icmpNo X21.here hx rfl (hb hby at_53) rfl (teq (by decide)).2 ?_
      refine XS.aloadN X21.here hx rfl (hb hby at_56) rfl rfl ?_
      show Steps p.tables e below (T21.setTop (mkF m 57 #[.val (.int i0), .val (.int (1 : Int32)), .val (.ref z0_ALLOWED), .val (.ref z0_DENIED), .unset, .unset] [(.ref z0_ALLOWED)])) t
      exact k)
    obtain ⟨T23, X23, e23, st23⟩ := getS2 X21 hx hZ hown (host := "") (Or.inl (hw _ (List.mem_of_getElem? (i := 9) rfl))) Via.refl e21 S_DENIED (g := (mkF m 57 #[.val (.int i0), .val (.int (1 : Int32)), .val (.ref z0_ALLOWED), .val (.ref z0_DENIED), .unset, .unset] [(.ref z0_ALLOWED)])) rfl (hb hby at_57)
    have P23 : own_Go p e below S0 (T23.setTop (mkF m 60 #[.val (.int i0), .val (.int (1 : Int32)), .val (.ref z0_ALLOWED), .val (.ref z0_DENIED), .unset, .unset] [(.ref z0_DENIED), (.ref z0_ALLOWED)])) := fun t k => P22 t (st23 _ k)
    have P24 : own_Go p e below S0 (T23.setTop (mkF m 88 #[.val (.int i0), .val (.int (1 : Int32)), .val (.ref z0_ALLOWED), .val (.ref z0_DENIED), .val (.int (1 : Int32)), .unset] [(.ref z0_DENIED)])) := fun t k => P23 t (by
      show Steps p.tables e below (T23.setTop (mkF m 60 #[.val (.int i0), .val (.int (1 : Int32)), .val (.ref z0_ALLOWED), .val (.ref z0_DENIED), .unset, .unset] [(.ref z0_DENIED), (.ref z0_ALLOWED)])) t
      refine Jvm.RoadKit.acmp (g := (mkF m 60 #[.val (.int i0), .val (.int (1 : Int32)), .val (.ref z0_ALLOWED), .val (.ref z0_DENIED), .unset, .unset] [(.ref z0_DENIED), (.ref z0_ALLOWED)])) X23 hx rfl rfl rfl (pc0 := 60) (pc' := 67) (same := false) rfl (hb hby at_60) rfl (decide_eq_false fun q => (Ne.symm hne_z0_DENIED_z0_ALLOWED) (Value.ref.inj q)) (by decide) (by decide) ?_
      refine XS.iconst X23.here hx rfl (hb hby at_67) ?_
      refine XS.iloadN X23.here hx rfl (hb hby at_68) rfl ?_
      refine XS.ifYes X23.here hx rfl (pc0 := 69) (pc' := 76) rfl (hb hby at_69) rfl ((if0 _ _).trans (feq (by decide)).2) (by decide) (by decide) ?_
      refine XS.iconst X23.here hx rfl (hb hby at_76) ?_
      refine XS.icmpNo X23.here hx rfl (hb hby at_77) rfl (teq (by decide)).2 ?_
      show Steps p.tables e below (T23.setTop (mkF m 80 #[.val (.int i0), .val (.int (1 : Int32)), .val (.ref z0_ALLOWED), .val (.ref z0_DENIED), .unset, .unset] [])) t
      refine XS.iconst X23.here hx rfl (hb hby at_80) ?_
      refine XS.goto X23.here hx rfl (pc0 := 81) (pc' := 85) rfl (hb hby at_81) (by decide) (by decide) ?_
      refine XS.istore X23.here hx rfl (hb hby at_85) rfl (l' := #[.val (.int i0), .val (.int (1 : Int32)), .val (.ref z0_ALLOWED), .val (.ref z0_DENIED), .val (.int (1 : Int32)), .unset]) rfl ?_
      refine XS.aloadN X23.here hx rfl (hb hby at_87) rfl rfl ?_
      show Steps p.tables e below (T23.setTop (mkF m 88 #[.val (.int i0), .val (.int (1 : Int32)), .val (.ref z0_ALLOWED), .val (.ref z0_DENIED), .val (.int (1 : Int32)), .unset] [(.ref z0_DENIED)])) t
      exact k)
    obtain ⟨T25, X25, e25, st25⟩ := getS2 X23 hx hZ hown (host := "") (Or.inl (hw _ (List.mem_of_getElem? (i := 8) rfl))) Via.refl e23 S_ALLOWED (g := (mkF m 88 #[.val (.int i0), .val (.int (1 : Int32)), .val (.ref z0_ALLOWED), .val (.ref z0_DENIED), .val (.int (1 : Int32)), .unset] [(.ref z0_DENIED)])) rfl (hb hby at_88)
    have P25 : own_Go p e below S0 (T25.setTop (mkF m 91 #[.val (.int i0), .val (.int (1 : Int32)), .val (.ref z0_ALLOWED), .val (.ref z0_DENIED), .val (.int (1 : Int32)), .unset] [(.ref z0_ALLOWED), (.ref z0_DENIED)])) := fun t k => P24 t (st25 _ k)
    have P26 : own_Go p e below S0 (T25.setTop (mkF m 112 #[.val (.int i0), .val (.int (1 : Int32)), .val (.ref z0_ALLOWED), .val (.ref z0_DENIED), .val (.int (1 : Int32)), .unset] [(.ref z0_DENIED)])) := fun t k => P25 t (by
      show Steps p.tables e below (T25.setTop (mkF m 91 #[.val (.int i0), .val (.int (1 : Int32)), .val (.ref z0_ALLOWED), .val (.ref z0_DENIED), .val (.int (1 : Int32)), .unset] [(.ref z0_ALLOWED), (.ref z0_DENIED)])) t
      refine Jvm.RoadKit.acmp (g := (mkF m 91 #[.val (.int i0), .val (.int (1 : Int32)), .val (.ref z0_ALLOWED), .val (.ref z0_DENIED), .val (.int (1 : Int32)), .unset] [(.ref z0_ALLOWED), (.ref z0_DENIED)])) X25 hx rfl rfl rfl (pc0 := 91) (pc' := 98) (same := false) rfl (hb hby at_91) rfl (decide_eq_false fun q => hne_z0_DENIED_z0_ALLOWED (Value.ref.inj q)) (by decide) (by decide) ?_
      refine XS.iconst X25.here hx rfl (hb hby at_98) ?_
      refine XS.iloadN X25.here hx rfl (hb hby at_99) rfl ?_
      refine XS.ifYes X25.here hx rfl (pc0 := 100) (pc' := 107) rfl (hb hby at_100) rfl ((if0 _ _).trans (feq (by decide)).2) (by decide) (by decide) ?_
      refine XS.iconst X25.here hx rfl (hb hby at_107) ?_
      refine XS.icmpNo X25.here hx rfl (hb hby at_108) rfl (teq (by decide)).2 ?_
      show Steps p.tables e below (T25.setTop (mkF m 111 #[.val (.int i0), .val (.int (1 : Int32)), .val (.ref z0_ALLOWED), .val (.ref z0_DENIED), .val (.int (1 : Int32)), .unset] [])) t
      refine XS.aloadN X25.here hx rfl (hb hby at_111) rfl rfl ?_
      show Steps p.tables e below (T25.setTop (mkF m 112 #[.val (.int i0), .val (.int (1 : Int32)), .val (.ref z0_ALLOWED), .val (.ref z0_DENIED), .val (.int (1 : Int32)), .unset] [(.ref z0_DENIED)])) t
      exact k)
    obtain ⟨T27, X27, e27, st27⟩ := getS2 X25 hx hZ hown (host := "") (Or.inl (hw _ (List.mem_of_getElem? (i := 9) rfl))) Via.refl e25 S_DENIED (g := (mkF m 112 #[.val (.int i0), .val (.int (1 : Int32)), .val (.ref z0_ALLOWED), .val (.ref z0_DENIED), .val (.int (1 : Int32)), .unset] [(.ref z0_DENIED)])) rfl (hb hby at_112)
    have P27 : own_Go p e below S0 (T27.setTop (mkF m 115 #[.val (.int i0), .val (.int (1 : Int32)), .val (.ref z0_ALLOWED), .val (.ref z0_DENIED), .val (.int (1 : Int32)), .unset] [(.ref z0_DENIED), (.ref z0_DENIED)])) := fun t k => P26 t (st27 _ k)
    have P28 : own_Go p e below S0 (T27.setTop (mkF m 154 #[.val (.int i0), .val (.int (1 : Int32)), .val (.ref z0_ALLOWED), .val (.ref z0_DENIED), .val (.int (1 : Int32)), .val (.int (1 : Int32))] [(.int (1 : Int32))])) := fun t k => P27 t (by
      show Steps p.tables e below (T27.setTop (mkF m 115 #[.val (.int i0), .val (.int (1 : Int32)), .val (.ref z0_ALLOWED), .val (.ref z0_DENIED), .val (.int (1 : Int32)), .unset] [(.ref z0_DENIED), (.ref z0_DENIED)])) t
      refine Jvm.RoadKit.acmp (g := (mkF m 115 #[.val (.int i0), .val (.int (1 : Int32)), .val (.ref z0_ALLOWED), .val (.ref z0_DENIED), .val (.int (1 : Int32)), .unset] [(.ref z0_DENIED), (.ref z0_DENIED)])) X27 hx rfl rfl rfl (pc0 := 115) (pc' := 118) (same := true) rfl (hb hby at_115) rfl (decide_eq_true rfl) (by decide) (by decide) ?_
      refine XS.iconst X27.here hx rfl (hb hby at_118) ?_
      refine XS.goto X27.here hx rfl (pc0 := 119) (pc' := 123) rfl (hb hby at_119) (by decide) (by decide) ?_
      refine XS.iloadN X27.here hx rfl (hb hby at_123) rfl ?_
      refine XS.icmpNo X27.here hx rfl (hb hby at_124) rfl (teq (by decide)).2 ?_
      refine XS.iconst X27.here hx rfl (hb hby at_127) ?_
      show Steps p.tables e below (T27.setTop (mkF m 128 #[.val (.int i0), .val (.int (1 : Int32)), .val (.ref z0_ALLOWED), .val (.ref z0_DENIED), .val (.int (1 : Int32)), .unset] [(.int (1 : Int32))])) t
      refine XS.goto X27.here hx rfl (pc0 := 128) (pc' := 132) rfl (hb hby at_128) (by decide) (by decide) ?_
      refine XS.istore X27.here hx rfl (hb hby at_132) rfl (l' := #[.val (.int i0), .val (.int (1 : Int32)), .val (.ref z0_ALLOWED), .val (.ref z0_DENIED), .val (.int (1 : Int32)), .val (.int (1 : Int32))]) rfl ?_
      refine XS.iload X27.here hx rfl (hb hby at_134) rfl ?_
      refine XS.ifNo X27.here hx rfl (hb hby at_136) rfl ((if0 _ _).trans (feq (by decide)).1) ?_
      refine XS.iload X27.here hx rfl (hb hby at_139) rfl ?_
      refine XS.ifNo X27.here hx rfl (hb hby at_141) rfl ((if0 _ _).trans (feq (by decide)).1) ?_
      show Steps p.tables e below (T27.setTop (mkF m 144 #[.val (.int i0), .val (.int (1 : Int32)), .val (.ref z0_ALLOWED), .val (.ref z0_DENIED), .val (.int (1 : Int32)), .val (.int (1 : Int32))] [])) t
      refine XS.aloadN X27.here hx rfl (hb hby at_144) rfl rfl ?_
      refine XS.aloadN X27.here hx rfl (hb hby at_145) rfl rfl ?_
      refine Jvm.RoadKit.acmp (g := (mkF m 146 #[.val (.int i0), .val (.int (1 : Int32)), .val (.ref z0_ALLOWED), .val (.ref z0_DENIED), .val (.int (1 : Int32)), .val (.int (1 : Int32))] [(.ref z0_DENIED), (.ref z0_ALLOWED)])) X27 hx rfl rfl rfl (pc0 := 146) (pc' := 149) (same := false) rfl (hb hby at_146) rfl (decide_eq_false fun q => (Ne.symm hne_z0_DENIED_z0_ALLOWED) (Value.ref.inj q)) (by decide) (by decide) ?_
      refine XS.iconst X27.here hx rfl (hb hby at_149) ?_
      refine XS.goto X27.here hx rfl (pc0 := 150) (pc' := 154) rfl (hb hby at_150) (by decide) (by decide) ?_
      show Steps p.tables e below (T27.setTop (mkF m 154 #[.val (.int i0), .val (.int (1 : Int32)), .val (.ref z0_ALLOWED), .val (.ref z0_DENIED), .val (.int (1 : Int32)), .val (.int (1 : Int32))] [(.int (1 : Int32))])) t
      exact k)
    obtain ⟨fs, hr, hrun, hended, hW, hsame⟩ := X27.leave (v := some (.int (1 : Int32))) (fun h => by rw [Bd.returns] at h; cases h)
    refine ⟨_, _, own_from hS0 (P28 _ ?_), hrun, hended, _, _, rfl, ?_, ⟨_, rfl⟩, hW, hsame.mono (by decide) (by decide)⟩
    · show Steps p.tables e below (T27.setTop (mkF m 154 #[.val (.int i0), .val (.int (1 : Int32)), .val (.ref z0_ALLOWED), .val (.ref z0_DENIED), .val (.int (1 : Int32)), .val (.int (1 : Int32))] [(.int (1 : Int32))])) _
      exact retN X27 hx (t := .boolean) Bd.returns (by simp) (hb hby at_154) hr
    · show Q0 Z i0 z0_DENIED z0_ALLOWED h0 n0 _ T27.heap _
      rw [e27]
      exact ⟨rfl, N19⟩
set_option maxRecDepth 65536 in
set_option maxHeartbeats 40000000 in
theorem comes_1 {Post : Tables → Env → Array Value → State → Outcome → State → Prop} (hpost : ∀ tb e args s v u, (limb_1_1.after args s (.returned v) u = true ∧ limb_1_2.after args s (.returned v) u = true ∧ True) → FrameEnd s (.returned v) u (Jvm.fieldLocs frame_1_writes args s ++ Jvm.arrayLocs frame_1_arrays args s ++ Jvm.staticLocs frame_1_statics s) 0 0 → Post tb e args s (.returned v) u) :
    ArmFor flags0 classFile x code maxLocals ret World_1 tables_1 room_1 Calls_1 rest_1 Pre_1 Post := by
  intro l hfl _ _ p e ha hc hk s m args below hf hA hF happ hP
  obtain ⟨hcalls, hrest, hpre⟩ := hP
  obtain ⟨-, -, -, hnamed, -, -, -, hat⟩ := (Spec.applies_iff hf).mp happ
  obtain ⟨hg, hn⟩ := and_e (Cond.before_iff.mp (show (Jvm.Cond.and given_1 narrow_1).before args s = true from hpre))
  obtain ⟨ga1, gb1⟩ := and_e hg
  obtain ⟨w0, rfl⟩ : ∃ w0 : Value, args = #[w0] := by
    have hs : args.size = 1 := by simpa [Cond.value, given_1] using ga1
    obtain ⟨L⟩ := args
    match L, hs with
    | [w0], _ => exact ⟨w0, rfl⟩
  have hw := fun d (hd : d ∈ tables_1) => atoms_spec (ws := Jvm.Cond.code x code maxLocals ret :: tables_1) hat d (List.mem_cons_of_mem _ hd)
  have hfit : Fit s := fun {y c} hc i hi => by
    obtain ⟨ha, rfl⟩ := Array.getElem?_eq_some_iff.mp hc
    have q := List.all_eq_true.mp ((Array.all_eq_true_iff_forall_mem.mp hF) _ (Array.getElem_mem ha)) i (List.mem_range.mpr hi)
    simpa [Array.getElem?_eq_getElem hi] using q
  obtain ⟨i0, ei0⟩ := is_v gb1
  obtain rfl : w0 = (.int i0) := Option.some.inj ei0
  obtain ⟨ga2, gb2⟩ := and_e hn
  obtain ⟨ga3, gb3⟩ := and_e gb2
  obtain ⟨ga4, gb4⟩ := and_e gb3
  obtain ⟨z0_DENIED, ev1⟩ := exa_v ga2
  have S_DENIED : Sta s s.heap "com/example/strict_acl/strictacl/Decision" "DENIED" "Lcom/example/strict_acl/strictacl/Decision;" (.ref z0_DENIED) := Sta.start ev1 (Or.inr ⟨(hw _ (List.mem_of_getElem? (i := 2) rfl)), (hw _ (List.mem_of_getElem? (i := 5) rfl))⟩)
  have Ex_z0_DENIED : Exa s s.heap z0_DENIED "com/example/strict_acl/strictacl/Decision" := Exa.start ev1 ga2
  have Od_z0_DENIED : Fld s s.heap z0_DENIED "java/lang/Enum" "ordinal" "I" (.int (1 : Int32)) := Fld.start ((fld_at ev1).symm.trans (Cond.eq_int (Cond.before_iff.mpr ga4) rfl))
  obtain ⟨z0_ALLOWED, ev2⟩ := exa_v ga3
  have S_ALLOWED : Sta s s.heap "com/example/strict_acl/strictacl/Decision" "ALLOWED" "Lcom/example/strict_acl/strictacl/Decision;" (.ref z0_ALLOWED) := Sta.start ev2 (Or.inr ⟨(hw _ (List.mem_of_getElem? (i := 2) rfl)), (hw _ (List.mem_of_getElem? (i := 7) rfl))⟩)
  have Ex_z0_ALLOWED : Exa s s.heap z0_ALLOWED "com/example/strict_acl/strictacl/Decision" := Exa.start ev2 ga3
  have Od_z0_ALLOWED : Fld s s.heap z0_ALLOWED "java/lang/Enum" "ordinal" "I" (.int (0 : Int32)) := Fld.start ((fld_at ev2).symm.trans (Cond.eq_int (Cond.before_iff.mpr gb4) rfl))
  obtain ⟨n, o, h1, h2, h3, _, L, rfl, ⟨rfl, N⟩, hq⟩ := rm0 l s _ hw tables_1 i0 z0_DENIED z0_ALLOWED s.heap s.heap.size (Nat.le_refl _) S_DENIED S_ALLOWED (Fld.ne Od_z0_DENIED Od_z0_ALLOWED (fun q => absurd (Value.int.inj q) (by decide))) p e ha hc hk s m _ below hf ((Spec.applies_iff_loose hf).mp happ).1 ⟨rfl, State.Warmed39.refl s, rfl⟩ trivial
  refine ⟨n, _, h1, h2, h3, hpost _ _ _ _ _ _ ⟨Cond.after_iff.mpr rfl, Cond.after_iff.mpr (eq_i res_at (Term.int_eval (1)) rfl), trivial⟩ ⟨hq.1, hq.2.1, (hq.2.2.sift fun y hy => Or.inr (N y hy)).mono (by decide) (by decide)⟩⟩
theorem main_1_1 : Claimed_1_1 := comes_1 fun _ _ _ _ _ _ h hF => ⟨h.1, hF⟩
theorem main_1_2 : Claimed_1_2 := comes_1 fun _ _ _ _ _ _ h hF => ⟨h.2.1, hF⟩
end Jvm.Pilot.@@N@@
namespace Jvm.Pilot.@@N@@
open Jvm Jvm.ClassFile Sem Op Lib Jvm.Free Jvm.Stand Jvm.Pilot.@@N@@.Jvm.D
/-! MADE BY PROGRAM (witnessworld.py) out of the Statement's table words and the real class files: 12 classes; the members and pool entries that the words name. The judged class is class 1, her method 1. -/
namespace start1
open Jvm.ClassFile
def u (s : String) : CpInfo := .utf8 (stringToUtf16 s)
/-- a pool by its gaps: so many unusable entries, then the entry; so many at the end -/
def gap : Nat → List CpInfo → List CpInfo
  | 0, r => r
  | n + 1, r => .unusable :: gap n r
def poolList (es : List (Nat × CpInfo)) (last : Nat) : List CpInfo := es.foldr (fun e r => gap e.1 (e.2 :: r)) (gap last [])
def pool (es : List (Nat × CpInfo)) (last : Nat) : Array CpInfo := ⟨poolList es last⟩
def fileOf (pool : Array CpInfo) (this : Nat) (attrs : Array Attribute := #[]) (ms : Array MethodInfo := #[]) (fl : Nat := 33) (sup : Nat := 0) (ifs : Array Nat := #[]) (fds : Array FieldInfo := #[]) : ClassFile where
  minorVersion := 0
  majorVersion := 65
  constantPool := pool
  accessFlags := fl
  thisClass := this
  superClass := sup
  interfaces := ifs
  fields := fds
  methods := ms
  attributes := attrs
def plain (name : String) (sup : Option ClassId) : Class where
  name := name
  kind := .ordinary
  loader := none
  accessFlags := 33
  super := sup
  interfaces := #[]
  cf := none
  fields := #[]
  methods := #[]
  instanceTypes := #[]
  staticTypes := #[]
  resolved := #[]
  callSites := []
  init := .initialized
  statics := none
  mirror := none

def pool0 : Array CpInfo := pool [(5, u "<init>"), (0, u "()V"), (1, .class_ 10), (1, u "java/lang/Object")] 113

def k0m0 : Method := { name := "<init>", desc := "()V", sig := { parameters := [], returnType := none }, accessFlags := 1, code := none }
/-- java/lang/Object -/
def k0 : Class := { plain "java/lang/Object" none with
  accessFlags := 33
  interfaces := #[]
  cf := some (fileOf pool0 8 #[] #[{ accessFlags := 1, nameIndex := 5, descriptorIndex := 6, attributes := #[] }] 33 0 #[] #[])
  fields := #[]
  methods := #[k0m0]
  instanceTypes := #[]
  staticTypes := #[]
  resolved := Array.replicate 124 none
  statics := none }

def pool1 : Array CpInfo := pool [(2, .class_ 4), (1, u "java/lang/Object"), (0, u "<init>"), (0, u "()V"), (0, .methodref 8 9), (0, .class_ 10), (0, .nameAndType 11 12), (0, u "com/example/strict_acl/strictacl/Decision"), (0, u "of"), (0, u "(Z)Lcom/example/strict_acl/strictacl/Decision;"), (0, .fieldref 8 14), (0, .nameAndType 15 16), (0, u "ALLOWED"), (0, u "Lcom/example/strict_acl/strictacl/Decision;"), (0, .fieldref 8 18), (0, .nameAndType 19 16), (0, u "DENIED"), (0, .class_ 21), (0, u "com/example/strict_acl/strictacl/DecisionOfPinLaw"), (2, u "law"), (0, u "(I)Z")] 3

def k1m0 : Method := { name := "<init>", desc := "()V", sig := { parameters := [], returnType := none }, accessFlags := 2, code := none }
def k1c1 : Code := { maxStack := 2, maxLocals := 6, code := code, exceptionTable := #[], attributes := #[] }
def k1m1 : Method := { name := "law", desc := "(I)Z", sig := { parameters := [.int], returnType := some .boolean }, accessFlags := 9, code := some k1c1 }
/-- com/example/strict_acl/strictacl/DecisionOfPinLaw -/
def k1 : Class := { plain "com/example/strict_acl/strictacl/DecisionOfPinLaw" (some 0) with
  accessFlags := 49
  interfaces := #[]
  cf := some (fileOf pool1 20 #[] #[{ accessFlags := 2, nameIndex := 5, descriptorIndex := 6, attributes := #[] }, { accessFlags := 9, nameIndex := 24, descriptorIndex := 25, attributes := #[] }] 49 2 #[] #[])
  fields := #[]
  methods := #[k1m0, k1m1]
  instanceTypes := #[]
  staticTypes := #[]
  resolved := Array.replicate 29 none
  statics := none }

def pool2 : Array CpInfo := pool [(1, .class_ 2), (0, u "java/lang/constant/Constable"), (0, .class_ 4), (0, u "java/lang/Object")] 6

/-- java/lang/constant/Constable -/
def k2 : Class := { plain "java/lang/constant/Constable" (some 0) with
  accessFlags := 1537
  interfaces := #[]
  cf := some (fileOf pool2 1 #[] #[] 1537 3 #[] #[])
  fields := #[]
  methods := #[]
  instanceTypes := #[]
  staticTypes := #[]
  resolved := Array.replicate 11 none
  statics := none }

def pool3 : Array CpInfo := pool [(1, .class_ 2), (0, u "java/lang/Comparable"), (0, .class_ 4), (0, u "java/lang/Object")] 7

/-- java/lang/Comparable -/
def k3 : Class := { plain "java/lang/Comparable" (some 0) with
  accessFlags := 1537
  interfaces := #[]
  cf := some (fileOf pool3 1 #[] #[] 1537 3 #[] #[])
  fields := #[]
  methods := #[]
  instanceTypes := #[]
  staticTypes := #[]
  resolved := Array.replicate 12 none
  statics := none }

def pool4 : Array CpInfo := pool [(1, .class_ 2), (0, u "java/io/Serializable"), (0, .class_ 4), (0, u "java/lang/Object")] 2

/-- java/io/Serializable -/
def k4 : Class := { plain "java/io/Serializable" (some 0) with
  accessFlags := 1537
  interfaces := #[]
  cf := some (fileOf pool4 1 #[] #[] 1537 3 #[] #[])
  fields := #[]
  methods := #[]
  instanceTypes := #[]
  staticTypes := #[]
  resolved := Array.replicate 7 none
  statics := none }

def pool5 : Array CpInfo := pool [(2, .class_ 4), (1, u "java/lang/Enum"), (0, u "name"), (0, u "Ljava/lang/String;"), (2, u "ordinal"), (0, u "I"), (1, .class_ 14), (1, u "java/lang/Object"), (4, u "hash"), (86, .class_ 108), (1, u "java/lang/Enum$EnumDesc"), (2, .class_ 112), (0, u "java/lang/constant/Constable"), (0, .class_ 114), (0, u "java/lang/Comparable"), (0, .class_ 116), (0, u "java/io/Serializable")] 87

/-- java/lang/Enum -/
def k5 : Class := { plain "java/lang/Enum" (some 0) with
  accessFlags := 1057
  interfaces := #[2, 3, 4]
  cf := some (fileOf pool5 2 #[.nestMembers #[106]] #[] 1057 12 #[111, 113, 115] #[{ accessFlags := 18, nameIndex := 5, descriptorIndex := 6, attributes := #[] }, { accessFlags := 18, nameIndex := 9, descriptorIndex := 10, attributes := #[] }, { accessFlags := 2, nameIndex := 19, descriptorIndex := 10, attributes := #[] }])
  fields := #[{ name := "name", type := (.object "java/lang/String"), accessFlags := 18, slot := 0, constantValue := 0 }, { name := "ordinal", type := .int, accessFlags := 18, slot := 1, constantValue := 0 }, { name := "hash", type := .int, accessFlags := 2, slot := 2, constantValue := 0 }]
  methods := #[]
  instanceTypes := #[(.object "java/lang/String"), .int, .int]
  staticTypes := #[]
  resolved := Array.replicate 204 none
  statics := none }

def pool6 : Array CpInfo := pool [(1, .class_ 2), (0, u "com/example/strict_acl/strictacl/Decision"), (0, .fieldref 1 4), (0, .nameAndType 5 6), (0, u "ALLOWED"), (0, u "Lcom/example/strict_acl/strictacl/Decision;"), (0, .fieldref 1 8), (0, .nameAndType 9 6), (0, u "DENIED"), (2, u "$VALUES"), (0, u "[Lcom/example/strict_acl/strictacl/Decision;"), (6, .class_ 22), (1, u "java/lang/Enum"), (20, u "of"), (0, u "(Z)Lcom/example/strict_acl/strictacl/Decision;")] 5

def k6c0 : Code := { maxStack := 1, maxLocals := 1, code := prog_10_method_4_code, exceptionTable := #[], attributes := #[] }
def k6m0 : Method := { name := "of", desc := "(Z)Lcom/example/strict_acl/strictacl/Decision;", sig := { parameters := [.boolean], returnType := some (.object "com/example/strict_acl/strictacl/Decision") }, accessFlags := 8, code := some k6c0 }
/-- com/example/strict_acl/strictacl/Decision -/
def k6 : Class := { plain "com/example/strict_acl/strictacl/Decision" (some 5) with
  accessFlags := 16432
  interfaces := #[]
  cf := some (fileOf pool6 1 #[] #[{ accessFlags := 8, nameIndex := 43, descriptorIndex := 44, attributes := #[] }] 16432 20 #[] #[{ accessFlags := 16409, nameIndex := 5, descriptorIndex := 6, attributes := #[] }, { accessFlags := 16409, nameIndex := 9, descriptorIndex := 6, attributes := #[] }, { accessFlags := 4122, nameIndex := 12, descriptorIndex := 13, attributes := #[] }])
  fields := #[{ name := "ALLOWED", type := (.object "com/example/strict_acl/strictacl/Decision"), accessFlags := 16409, slot := 0, constantValue := 0 }, { name := "DENIED", type := (.object "com/example/strict_acl/strictacl/Decision"), accessFlags := 16409, slot := 1, constantValue := 0 }, { name := "$VALUES", type := (.array (.object "com/example/strict_acl/strictacl/Decision")), accessFlags := 4122, slot := 2, constantValue := 0 }]
  methods := #[k6m0]
  instanceTypes := #[(.object "java/lang/String"), .int, .int]
  staticTypes := #[(.object "com/example/strict_acl/strictacl/Decision"), (.object "com/example/strict_acl/strictacl/Decision"), (.array (.object "com/example/strict_acl/strictacl/Decision"))]
  resolved := Array.replicate 50 none
  statics := some 0 }

def pool7 : Array CpInfo := pool [(1, u "java/lang/Cloneable"), (0, .class_ 1), (0, u "java/lang/Object"), (0, .class_ 3)] 3

/-- java/lang/Cloneable -/
def k7 : Class := { plain "java/lang/Cloneable" (some 0) with
  accessFlags := 1537
  interfaces := #[]
  cf := some (fileOf pool7 2 #[] #[] 1537 4 #[] #[])
  fields := #[]
  methods := #[]
  instanceTypes := #[]
  staticTypes := #[]
  resolved := Array.replicate 8 none
  statics := none }

/-- the primitive byte -/
def k8 : Class := { plain "byte" none with kind := .primitive 'B', accessFlags := 0x411 }
/-- [B -/
def k9 : Class := { plain "[B" (some 0) with kind := .array 8 .byte, interfaces := #[7, 4], accessFlags := 1041 }

/-- the primitive int -/
def k10 : Class := { plain "int" none with kind := .primitive 'I', accessFlags := 0x411 }
/-- [I -/
def k11 : Class := { plain "[I" (some 0) with kind := .array 10 .int, interfaces := #[7, 4], accessFlags := 1041 }

def heap : Heap := #[{ cls := 6, slots := #[.ref 1, .ref 2, .null], vm := .statics 6 },
  { cls := 6, slots := #[.null, .int 0, .int 0], vm := .none },
  { cls := 6, slots := #[.null, .int 1, .int 0], vm := .none }]
def classes : Array Class := #[k0, k1, k2, k3, k4, k5, k6, k7, k8, k9, k10, k11]
def interned : List (Array UInt16 × Addr) := []
def slotsUsed : Nat := 9
def theMethod : MethodId := ⟨1, 1⟩
def args0 : Array Value := #[.int 5]
def aboutOver (below : List Frame) : State where
  vm := { classes := classes, interned := interned.toArray }
  heap := heap
  slotsUsed := slotsUsed
  threads := #[{ frames := .invoking theMethod args0 :: below }]
def below0 : List Frame := [.native { method := ⟨0, 0⟩, args := #[] }]
def about1 : State := aboutOver below0
def p0 : Program := .bare "" "" ""
def e0 : Env := launch0.env 0 0 0
theorem w_frames : about1.frames = Frame.invoking theMethod args0 :: below0 := rfl
set_option maxRecDepth 65536 in
theorem w_args : argsFit about1.vm theMethod args0 = true := by decide +kernel
set_option maxRecDepth 65536 in
theorem w_heap : heapFits about1 = true := by decide +kernel
set_option maxRecDepth 65536 in
theorem w_runnable : about1.curStatus? = some .runnable := by decide +kernel
set_option maxRecDepth 65536 in
theorem w_alone : about1.alone = true := by decide +kernel
set_option maxRecDepth 65536 in
theorem w_named : about1.methodNamed? x = some theMethod := by decide +kernel
set_option maxRecDepth 65536 in
theorem w_hears : about1.hears theMethod below0 = true := by decide +kernel
set_option maxRecDepth 65536 in
theorem w_ripe : about1.ripe theMethod args0 below0 = true := by decide +kernel
theorem w_running : about1.status = .running := rfl
set_option maxRecDepth 65536 in
theorem w_room : about1.hasRoom e0.platform room_1 = true :=
  launch0.hasRoom_least _ room_1 (by decide +kernel) (by decide +kernel) (by decide +kernel) (by decide +kernel) (by decide +kernel) (by decide +kernel)
theorem allAtoms_all (ts : List Jvm.Cond) (a : Array Jvm.Value) (st : Jvm.State) : (allAtoms ts).before a st = ts.all (fun c => c.before a st) := by
  induction ts with
  | nil => rfl
  | cons c t ih =>
    show (Jvm.Cond.and c (allAtoms t)).before a st = _
    rw [Jvm.Cond.before_and, ih, List.all_cons]
def words1 : List Jvm.Cond := Jvm.Cond.code x code maxLocals ret :: tables_1
/-- a 'code' word, met by the world's own term for the bytes: nothing is compared byte by byte -/
theorem code_word {y : MethodName} {bytes : ByteArray} {mx : Nat} {rt : Option FieldType} {a : Array Value} {s : State} {m : MethodId} {meth : Method} {c : Code} (h1 : s.methodNamed? y = some m) (h2 : s.vm.method? m = some meth) (h3 : meth.code = some c) (h4 : c.code = bytes)
    (h5 : (c.maxLocals == mx && c.exceptionTable.isEmpty && decide (c.maxStack ≤ mostOperands) && decide (meth.sig.returnType = rt) && !meth.locks && decide (parseMethodDescriptor y.desc = some meth.sig)) = true) : (Jvm.Cond.code y bytes mx rt).before a s = true := by
  simp only [Bool.and_eq_true, beq_iff_eq, Bool.not_eq_true', decide_eq_true_eq] at h5
  obtain ⟨⟨⟨⟨⟨g1, g2⟩, g3⟩, g4⟩, g5⟩, g6⟩ := h5
  simp [Cond.before, Cond.holds, Cond.value, h1, h2, h3, h4, g1, g2, g3, g4, g5, g6]
def isCode : Jvm.Cond → Bool
  | .code _ _ _ _ => true
  | _ => false
theorem all_split {L : List Jvm.Cond} {P : Jvm.Cond → Bool} (h1 : L.all (fun c => isCode c || P c) = true) (h2 : ∀ c ∈ L.filter isCode, P c = true) : L.all P = true := by
  refine List.all_eq_true.mpr fun c hc => ?_
  have h := List.all_eq_true.mp h1 c hc
  rcases Bool.eq_false_or_eq_true (isCode c) with hi | hi
  · exact h2 c (List.mem_filter.mpr ⟨hc, hi⟩)
  · simpa [hi] using h
set_option maxRecDepth 65536 in
theorem w_c0 : (Jvm.Cond.code x code maxLocals ret).before args0 about1 = true := code_word (m := ⟨1, 1⟩) (meth := k1m1) (c := k1c1) (by decide +kernel) rfl rfl rfl (by decide +kernel)
set_option maxRecDepth 65536 in
theorem w_c1 : (Jvm.Cond.code ({ cls := "com/example/strict_acl/strictacl/Decision", name := "of", desc := "(Z)Lcom/example/strict_acl/strictacl/Decision;" } : Jvm.MethodName) prog_10_method_4_code (1 : Nat) (Option.some (Jvm.ClassFile.FieldType.object "com/example/strict_acl/strictacl/Decision"))).before args0 about1 = true := code_word (m := ⟨6, 0⟩) (meth := k6m0) (c := k6c0) (by decide +kernel) rfl rfl rfl (by decide +kernel)
def codes1 : List Jvm.Cond := [Jvm.Cond.code x code maxLocals ret, Jvm.Cond.code ({ cls := "com/example/strict_acl/strictacl/Decision", name := "of", desc := "(Z)Lcom/example/strict_acl/strictacl/Decision;" } : Jvm.MethodName) prog_10_method_4_code (1 : Nat) (Option.some (Jvm.ClassFile.FieldType.object "com/example/strict_acl/strictacl/Decision"))]
set_option maxRecDepth 65536 in
theorem codes_eq : words1.filter isCode = codes1 := rfl
theorem w_codes : ∀ c ∈ words1.filter isCode, c.before args0 about1 = true := by
  rw [codes_eq]
  intro c hc
  simp only [codes1, List.mem_cons, List.not_mem_nil, or_false] at hc
  rcases hc with rfl | rfl
  · exact w_c0
  · exact w_c1
set_option maxRecDepth 65536 in
theorem w_t1 : words1.all (fun c => isCode c || c.before args0 about1) = true := by decide +kernel
theorem w_tables : (allAtoms (Jvm.Cond.code x code maxLocals ret :: tables_1)).before args0 about1 = true := by
  rw [allAtoms_all]
  show words1.all (fun c => c.before args0 about1) = true
  refine all_split ?_ w_codes
  rw [w_t1]
set_option maxRecDepth 65536 in
theorem w_case : (Jvm.Cond.and given_1 narrow_1).before args0 about1 = true := by decide +kernel
theorem w_applies : (headSpec (Jvm.Cond.code x code maxLocals ret :: tables_1) room_1).applies x e0.platform about1 = true :=
  (Spec.applies_iff w_frames).mpr ⟨w_running, w_runnable, w_alone, w_named, w_hears, w_ripe, w_room, w_tables⟩
theorem atStart : AtStart classFile x code maxLocals ret World_1 tables_1 room_1 Calls_1 rest_1 Pre_1 launch0 p0 e0 about1 theMethod args0 below0 :=
  ⟨lists_1, trivial, launch0.admits_env _ _ _, launch0.least_env, fairChoices_fair.cas, fairChoices_fair.clock, w_frames, w_args, w_heap, w_applies, trivial, trivial, w_case⟩
end start1
theorem witness_1 : WitnessClaimed_1 := ⟨start1.p0, start1.e0, start1.about1, start1.theMethod, start1.args0, start1.below0, start1.atStart⟩
end Jvm.Pilot.@@N@@
