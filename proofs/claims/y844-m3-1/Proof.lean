import JvmDerived
import JvmDerived.Pilot.@@N@@Statement
import JvmDerived.Pilot.@@N@@Code
set_option linter.unusedVariables false
set_option linter.unusedSimpArgs false
namespace Jvm.RoadKit
open Sem ClassFile Op Lib Jvm.Stand Jvm.Free Jvm.LawKit
section New
variable {p : Program} {l : Launch} {e : Env} {R : Room} {s : State} {m : MethodId} {args : Array Value} {below : List Frame} {meth : Method} {c : Code} {T : State} {locs : List Loc} {cells slots : Nat}
theorem retI (X : Stand p l e R s m args below meth c T locs cells slots) (hx : p.tables.exec = Jvm.exec) {pc : Nat} {Ls : Array Slot} {z : Int32} {rest : List Value} (hret : meth.sig.returnType = some .int) (hd : decode c.code pc = .ok (.ireturn, 1)) {fs : List Frame}
    (hl : ∀ (f : JFrame) (acts : List Action), f.method = m → f.locked = none → f.entered = [] → (doReturn e (T.setTop f) acts (some (.int z))).1 = T.setFrames fs) : Steps p.tables e below (T.setTop (mkF m pc Ls (.int z :: rest))) (T.setFrames fs) := by
  have hm' : T.vm.method? m = some meth := X.method'
  have hn : narrow .int (.int z) = .int z := rfl
  show Steps p.tables e below (T.setTop { method := m, pc := pc, locals := Ls, stack := _ :: rest, locked := none }) _
  jvm_step X.here [X.here.top, hx, hd, hm', hret, hn]
  first | (intro acts; rw [hl _ acts rfl rfl rfl]) | rw [hl _ _ rfl rfl rfl]
  exact Steps.refl _
end New
end Jvm.RoadKit
namespace Jvm.Pilot.@@N@@
open Jvm Jvm.ClassFile Sem Op Lib Jvm.Free Jvm.Stand Jvm.LawKit Jvm.RoadKit Bundle Jvm.Pilot.@@N@@.Jvm.D
abbrev own_Go (p : Program) (e : Env) (below : List Frame) (A B : State) : Prop := ∀ t, Steps p.tables e below B t → Steps p.tables e below A t
theorem own_from {p : Program} {e : Env} {below : List Frame} {A B t : State} (h : A = B) (k : Steps p.tables e below A t) : Steps p.tables e below B t := h ▸ k
theorem own_ite1 {P : Prop} [Decidable P] (h : P) : ¬ ((if P then (1 : Int32) else (0 : Int32)) = (0 : Int32)) := by rw [if_pos h]; decide
theorem own_ite0 {P : Prop} [Decidable P] (h : ¬ P) : (if P then (1 : Int32) else (0 : Int32)) = (0 : Int32) := if_neg h
def own_Pl (h : Heap) (a : Addr) : Prop := ∃ c : Cell, h[a]? = some c ∧ c.vm.isStatics = false
theorem own_plE {Z : State} {h : Heap} {a : Addr} {C : String} (F : Exa Z h a C) : own_Pl h a := by obtain ⟨cell, k, h1, _, _, h4, _⟩ := F; exact ⟨cell, h1, h4⟩
theorem own_plF {Z : State} {h : Heap} {a : Addr} {C n d : String} {v : Value} (F : Fld Z h a C n d v) : own_Pl h a := by obtain ⟨cell, cf, k, i, f, h1, _, _, _, h5, _⟩ := F; exact ⟨cell, h1, h5⟩
theorem own_plA {Z : State} {h : Heap} {a : Addr} {k : ClassId} {ty : FieldType} {n : Int32} {vs : List Value} {d : Value} (F : Arv Z h a k ty n vs d) : own_Pl h a := by obtain ⟨c, A, _⟩ := F; exact ⟨c, A.1, A.plain⟩
theorem own_staK {Z : State} {h h' : Heap} {C n d : String} {v : Value} {ws : List Addr} (F : Sta Z h C n d v) (K : Keep h h' ws) (q : ∀ x ∈ ws, own_Pl h x) : Sta Z h' C n d v := by
  obtain ⟨cf, i, k, f, st, cell, h1, h2, h3, h4, h5, h6, h7⟩ := F
  refine ⟨cf, i, k, f, st, cell, h1, h2, h3, h4, K.2.1 st cell h5 fun z => ?_, h6, h7⟩
  obtain ⟨c, q1, q2⟩ := q st z
  cases h5.symm.trans q1
  rw [h6] at q2; cases q2
theorem own_insK {Z : State} {h h' : Heap} {a : Addr} {C : String} {bo : Bool} {ws : List Addr} (F : Ins Z h a C bo) (K : Keep h h' ws) : Ins Z h' a C bo := by
  obtain ⟨cell, cT, h1, h2, h3⟩ := F
  obtain ⟨c', q1, q2, q3, q4⟩ := K.2.2 a cell h1
  exact ⟨c', cT, q1, h2, by rw [q2, q3]; exact h3⟩
theorem own_atI {c : Cell} {vs : List Value} {d : Value} {ty : FieldType} {j : Int32} (H : Has c vs d) (G : ∀ i, i < c.slots.size → fits ty (vs.getD i d) = true) (q : ¬ (j < 0 ∨ c.slots.size ≤ j.toNatClampNeg)) (ht : ty = .int ∨ ty = .boolean ∨ ty = .byte ∨ ty = .char ∨ ty = .short) : ∃ z, c.slots[j.toNatClampNeg]? = some (.int z) := by
  have hlt := Nat.lt_of_not_le fun y => q (Or.inr y)
  obtain ⟨z, hz⟩ := fit_I (G _ hlt) ht
  exact ⟨z, by rw [H _ hlt, hz]⟩
theorem own_cat {v : Value} (h : v.isRef = true) : v.category = 1 := by cases v <;> simp [Value.isRef, Value.category] at h ⊢
theorem pn_2 : plainName "com/example/penelope/penelope/program/Move" = true := by first | (simp [plainName, overriddenIn]; done) | decide +kernel
theorem d2_0 : decode prog_94_method_4_code 0 = .ok (.aload_n 0, 1) := by decide +kernel
theorem d2_1 : decode prog_94_method_4_code 1 = .ok (.invokespecial 25, 3) := by decide +kernel
theorem d2_4 : decode prog_94_method_4_code 4 = .ok (.aload_n 0, 1) := by decide +kernel
theorem d2_5 : decode prog_94_method_4_code 5 = .ok (.iload_n 1, 1) := by decide +kernel
theorem d2_6 : decode prog_94_method_4_code 6 = .ok (.putfield 7, 3) := by decide +kernel
theorem d2_9 : decode prog_94_method_4_code 9 = .ok (.aload_n 0, 1) := by decide +kernel
theorem d2_10 : decode prog_94_method_4_code 10 = .ok (.iload_n 2, 1) := by decide +kernel
theorem d2_11 : decode prog_94_method_4_code 11 = .ok (.putfield 11, 3) := by decide +kernel
theorem d2_14 : decode prog_94_method_4_code 14 = .ok (.aload_n 0, 1) := by decide +kernel
theorem d2_15 : decode prog_94_method_4_code 15 = .ok (.aload_n 3, 1) := by decide +kernel
theorem d2_16 : decode prog_94_method_4_code 16 = .ok (.putfield 14, 3) := by decide +kernel
theorem d2_19 : decode prog_94_method_4_code 19 = .ok (.aload_n 0, 1) := by decide +kernel
theorem d2_20 : decode prog_94_method_4_code 20 = .ok (.iload 4, 2) := by decide +kernel
theorem d2_22 : decode prog_94_method_4_code 22 = .ok (.putfield 18, 3) := by decide +kernel
theorem d2_25 : decode prog_94_method_4_code 25 = .ok (.aload_n 0, 1) := by decide +kernel
theorem d2_26 : decode prog_94_method_4_code 26 = .ok (.aload 5, 2) := by decide +kernel
theorem d2_28 : decode prog_94_method_4_code 28 = .ok (.putfield 21, 3) := by decide +kernel
theorem d2_31 : decode prog_94_method_4_code 31 = .ok (.aload_n 0, 1) := by decide +kernel
theorem d2_32 : decode prog_94_method_4_code 32 = .ok (.aload 6, 2) := by decide +kernel
theorem d2_34 : decode prog_94_method_4_code 34 = .ok (.putfield 30, 3) := by decide +kernel
theorem d2_37 : decode prog_94_method_4_code 37 = .ok (.return_, 1) := by decide +kernel
theorem ef_2n (m : MethodId) (q2n_0 : Addr) (q2n_1 : Int32) (q2n_2 : Int32) (q2n_4 : Int32) : entryFrame m #[(.ref q2n_0), (.int q2n_1), (.int q2n_2), .null, (.int q2n_4), .null, .null] 7 = mkF m 0 #[.val (.ref q2n_0), .val (.int q2n_1), .val (.int q2n_2), .val .null, .val (.int q2n_4), .val .null, .val .null] [] := by first | (simp [entryFrame, mkF, argsToLocals, Value.category]; done) | rfl
def Q2n (Z : State) (q2n_0 : Addr) (q2n_1 : Int32) (q2n_2 : Int32) (q2n_4 : Int32) (u2n_q2n_0_pid : Value) (u2n_q2n_0_process : Value) (u2n_q2n_0_type : Value) (u2n_q2n_0_choice : Value) (u2n_q2n_0_transition : Value) (u2n_q2n_0_receiver : Value) (h0 : Heap) (n0 : Nat) (v : Option Value) (h : Heap) (L : List Loc) : Prop := v = none ∧ Fr n0 L ∧ Keep h0 h [q2n_0] ∧ Fld Z h q2n_0 "com/example/penelope/penelope/program/Move" "pid" "I" (.int q2n_1) ∧ Fld Z h q2n_0 "com/example/penelope/penelope/program/Move" "process" "I" (.int q2n_2) ∧ Fld Z h q2n_0 "com/example/penelope/penelope/program/Move" "type" "Lcom/example/penelope/penelope/program/ProcessType;" .null ∧ Fld Z h q2n_0 "com/example/penelope/penelope/program/Move" "choice" "I" (.int q2n_4) ∧ Fld Z h q2n_0 "com/example/penelope/penelope/program/Move" "transition" "Lcom/example/penelope/penelope/program/Transition;" .null ∧ Fld Z h q2n_0 "com/example/penelope/penelope/program/Move" "receiver" "Lcom/example/penelope/penelope/program/Move;" .null
set_option maxRecDepth 65536 in
set_option maxHeartbeats 40000000 in
theorem rm2n (l : Launch) (Z : State) (a0 : Array Value) (hw : ∀ d ∈ tables_1, d.before a0 Z = true) (ws : List Jvm.Cond) (q2n_0 : Addr) (q2n_1 : Int32) (q2n_2 : Int32) (q2n_4 : Int32) (u2n_q2n_0_pid : Value) (u2n_q2n_0_process : Value) (u2n_q2n_0_type : Value) (u2n_q2n_0_choice : Value) (u2n_q2n_0_transition : Value) (u2n_q2n_0_receiver : Value) (h0 : Heap) (n0 : Nat) (Z0 : n0 ≤ h0.size) (E_q2n_0 : Exa Z h0 q2n_0 "com/example/penelope/penelope/program/Move") (F_q2n_0_pid : Fld Z h0 q2n_0 "com/example/penelope/penelope/program/Move" "pid" "I" u2n_q2n_0_pid) (g_q2n_0 : n0 ≤ q2n_0) (F_q2n_0_process : Fld Z h0 q2n_0 "com/example/penelope/penelope/program/Move" "process" "I" u2n_q2n_0_process) (F_q2n_0_type : Fld Z h0 q2n_0 "com/example/penelope/penelope/program/Move" "type" "Lcom/example/penelope/penelope/program/ProcessType;" u2n_q2n_0_type) (F_q2n_0_choice : Fld Z h0 q2n_0 "com/example/penelope/penelope/program/Move" "choice" "I" u2n_q2n_0_choice) (F_q2n_0_transition : Fld Z h0 q2n_0 "com/example/penelope/penelope/program/Move" "transition" "Lcom/example/penelope/penelope/program/Transition;" u2n_q2n_0_transition) (F_q2n_0_receiver : Fld Z h0 q2n_0 "com/example/penelope/penelope/program/Move" "receiver" "Lcom/example/penelope/penelope/program/Move;" u2n_q2n_0_receiver) :
    MetFree l (⟨"com/example/penelope/penelope/program/Move", "<init>", "(IILcom/example/penelope/penelope/program/ProcessType;ILcom/example/penelope/penelope/program/Transition;Lcom/example/penelope/penelope/program/Move;)V"⟩ : MethodName) (head1 (Jvm.Cond.code (⟨"com/example/penelope/penelope/program/Move", "<init>", "(IILcom/example/penelope/penelope/program/ProcessType;ILcom/example/penelope/penelope/program/Transition;Lcom/example/penelope/penelope/program/Move;)V"⟩ : MethodName) prog_94_method_4_code 7 none :: ws) ({ frames := 1, cells := 0, slots := 0, locals := 12 } : Room)) (fun a U => a = #[(.ref q2n_0), (.int q2n_1), (.int q2n_2), .null, (.int q2n_4), .null, .null] ∧ Z.Warmed39 U.vm ∧ U.heap = h0) (fun _ _ _ _ _ => True) (fun _ U o U' => ∃ v L, o = .returned v ∧ Q2n Z q2n_0 q2n_1 q2n_2 q2n_4 u2n_q2n_0_pid u2n_q2n_0_process u2n_q2n_0_type u2n_q2n_0_choice u2n_q2n_0_transition u2n_q2n_0_receiver h0 n0 v U'.heap L ∧ FrameEnd U o U' L ({ frames := 1, cells := 0, slots := 0, locals := 12 } : Room).cells ({ frames := 1, cells := 0, slots := 0, locals := 12 } : Room).slots) := by
  refine MetFree.of_bodySF (plainFor_of_name pn_2) hisR ?_
  intro p e s m args below meth c s₁ Bd hml0 hP hK
  obtain ⟨rfl, hZ, hh⟩ := hP
  have hx := Bd.exec
  have hby := Bd.bytes
  have hml : c.maxLocals = 7 := hml0
  have hown : s.vm.findClass "com/example/penelope/penelope/program/Move" = some m.cls := findClass_of_methodNamed Bd.named
  have hnm := (name_of_methodNamed Bd.named Bd.method).1
  have X0 : Stand p l e ({ frames := 1, cells := 0, slots := 0, locals := 12 } : Room) s m #[(.ref q2n_0), (.int q2n_1), (.int q2n_2), .null, (.int q2n_4), .null, .null] below meth c s₁ [] 0 0 := Stand.of_body Bd
  have e0 : s₁.heap = h0 := by rw [← hh, Bd.state]; rfl
  have N0 := Fr.nil n0
  obtain ⟨S0, hS0⟩ : ∃ z, z = s₁.setTop (entryFrame m #[(.ref q2n_0), (.int q2n_1), (.int q2n_2), .null, (.int q2n_4), .null, .null] 7) := ⟨_, rfl⟩
  have P0 : own_Go p e below S0 (s₁.setTop (mkF m 0 #[.val (.ref q2n_0), .val (.int q2n_1), .val (.int q2n_2), .val .null, .val (.int q2n_4), .val .null, .val .null] [])) := fun t k => by rw [hS0]; exact castTop (ef_2n m q2n_0 q2n_1 q2n_2 q2n_4) k
  have P1 : own_Go p e below S0 (s₁.setTop (mkF m 1 #[.val (.ref q2n_0), .val (.int q2n_1), .val (.int q2n_2), .val .null, .val (.int q2n_4), .val .null, .val .null] [(.ref q2n_0)])) := fun t k => P0 t (by
    show Steps p.tables e below (s₁.setTop (mkF m 0 #[.val (.ref q2n_0), .val (.int q2n_1), .val (.int q2n_2), .val .null, .val (.int q2n_4), .val .null, .val .null] [])) t
    refine XS.aloadN X0.here hx rfl (hb hby d2_0) rfl rfl ?_
    show Steps p.tables e below (s₁.setTop (mkF m 1 #[.val (.ref q2n_0), .val (.int q2n_1), .val (.int q2n_2), .val .null, .val (.int q2n_4), .val .null, .val .null] [(.ref q2n_0)])) t
    exact k)
  obtain ⟨T2, X2, e2, st2⟩ := initO X0 hx hZ hown (hw _ (List.mem_of_getElem? (i := 9) rfl)) (hw _ (List.mem_of_getElem? (i := 10) rfl)) (hw _ (List.mem_of_getElem? (i := 11) rfl)) e0 (g := (mkF m 1 #[.val (.ref q2n_0), .val (.int q2n_1), .val (.int q2n_2), .val .null, .val (.int q2n_4), .val .null, .val .null] [(.ref q2n_0)])) rfl (by rw [hml]; rfl) rfl (hb hby d2_1) (by decide) (W := 0) (by show 2 * 0 + _ ≤ _; exact Nat.le_of_eq rfl) (by decide)
  have P2 : own_Go p e below S0 (T2.setTop (mkF m 4 #[.val (.ref q2n_0), .val (.int q2n_1), .val (.int q2n_2), .val .null, .val (.int q2n_4), .val .null, .val .null] [])) := fun t k => P1 t (st2 _ k)
  have P3 : own_Go p e below S0 (T2.setTop (mkF m 6 #[.val (.ref q2n_0), .val (.int q2n_1), .val (.int q2n_2), .val .null, .val (.int q2n_4), .val .null, .val .null] [(.int q2n_1), (.ref q2n_0)])) := fun t k => P2 t (by
    show Steps p.tables e below (T2.setTop (mkF m 4 #[.val (.ref q2n_0), .val (.int q2n_1), .val (.int q2n_2), .val .null, .val (.int q2n_4), .val .null, .val .null] [])) t
    refine XS.aloadN X2.here hx rfl (hb hby d2_4) rfl rfl ?_
    refine XS.iloadN X2.here hx rfl (hb hby d2_5) rfl ?_
    show Steps p.tables e below (T2.setTop (mkF m 6 #[.val (.ref q2n_0), .val (.int q2n_1), .val (.int q2n_2), .val .null, .val (.int q2n_4), .val .null, .val .null] [(.int q2n_1), (.ref q2n_0)])) t
    exact k)
  obtain ⟨T4, h4, X4, e4, W4, st4⟩ := putF X2 hx hZ hown (host := "") (Or.inl (hw _ (List.mem_of_getElem? (i := 12) rfl))) Via.refl e2 F_q2n_0_pid E_q2n_0 (Or.inr ⟨(hw _ (List.mem_of_getElem? (i := 13) rfl)), rfl, hnm⟩) (hw _ (List.mem_of_getElem? (i := 1) rfl)) (ty := .int) (by decide) rfl rfl (g := (mkF m 6 #[.val (.ref q2n_0), .val (.int q2n_1), .val (.int q2n_2), .val .null, .val (.int q2n_4), .val .null, .val .null] [(.int q2n_1), (.ref q2n_0)])) rfl rfl (hb hby d2_6)
  have K4 : Keep h0 h4 [q2n_0] := (Keep.refl h0 [q2n_0]).wr W4 (Or.inl (by simp))
  have N4 := Fr.snoc X4 N0 g_q2n_0
  have F4w : Fld Z h4 q2n_0 "com/example/penelope/penelope/program/Move" "pid" "I" (.int q2n_1) := F_q2n_0_pid.same W4
  have P4 : own_Go p e below S0 (T4.setTop (mkF m 9 #[.val (.ref q2n_0), .val (.int q2n_1), .val (.int q2n_2), .val .null, .val (.int q2n_4), .val .null, .val .null] [])) := fun t k => P3 t (st4 _ k)
  have F5 : Exa Z h4 q2n_0 "com/example/penelope/penelope/program/Move" := E_q2n_0.wr W4
  have F6 : Fld Z h4 q2n_0 "com/example/penelope/penelope/program/Move" "process" "I" u2n_q2n_0_process := F_q2n_0_process.other W4 (Or.inr (slot_ne (Or.inr (hw _ (List.mem_of_getElem? (i := 15) rfl))) (Or.inr (hw _ (List.mem_of_getElem? (i := 13) rfl))) (by decide) (t := .int) (t' := .int) (by decide) (by decide)))
  have P7 : own_Go p e below S0 (T4.setTop (mkF m 11 #[.val (.ref q2n_0), .val (.int q2n_1), .val (.int q2n_2), .val .null, .val (.int q2n_4), .val .null, .val .null] [(.int q2n_2), (.ref q2n_0)])) := fun t k => P4 t (by
    show Steps p.tables e below (T4.setTop (mkF m 9 #[.val (.ref q2n_0), .val (.int q2n_1), .val (.int q2n_2), .val .null, .val (.int q2n_4), .val .null, .val .null] [])) t
    refine XS.aloadN X4.here hx rfl (hb hby d2_9) rfl rfl ?_
    refine XS.iloadN X4.here hx rfl (hb hby d2_10) rfl ?_
    show Steps p.tables e below (T4.setTop (mkF m 11 #[.val (.ref q2n_0), .val (.int q2n_1), .val (.int q2n_2), .val .null, .val (.int q2n_4), .val .null, .val .null] [(.int q2n_2), (.ref q2n_0)])) t
    exact k)
  obtain ⟨T8, h8, X8, e8, W8, st8⟩ := putF X4 hx hZ hown (host := "") (Or.inl (hw _ (List.mem_of_getElem? (i := 14) rfl))) Via.refl e4 F6 F5 (Or.inr ⟨(hw _ (List.mem_of_getElem? (i := 15) rfl)), rfl, hnm⟩) (hw _ (List.mem_of_getElem? (i := 1) rfl)) (ty := .int) (by decide) rfl rfl (g := (mkF m 11 #[.val (.ref q2n_0), .val (.int q2n_1), .val (.int q2n_2), .val .null, .val (.int q2n_4), .val .null, .val .null] [(.int q2n_2), (.ref q2n_0)])) rfl rfl (hb hby d2_11)
  have K8 : Keep h0 h8 [q2n_0] := K4.wr W8 (Or.inl (by simp))
  have N8 := Fr.snoc X8 N4 g_q2n_0
  have F8w : Fld Z h8 q2n_0 "com/example/penelope/penelope/program/Move" "process" "I" (.int q2n_2) := F6.same W8
  have P8 : own_Go p e below S0 (T8.setTop (mkF m 14 #[.val (.ref q2n_0), .val (.int q2n_1), .val (.int q2n_2), .val .null, .val (.int q2n_4), .val .null, .val .null] [])) := fun t k => P7 t (st8 _ k)
  have F9 : Exa Z h8 q2n_0 "com/example/penelope/penelope/program/Move" := F5.wr W8
  have F10 : Fld Z h4 q2n_0 "com/example/penelope/penelope/program/Move" "type" "Lcom/example/penelope/penelope/program/ProcessType;" u2n_q2n_0_type := F_q2n_0_type.other W4 (Or.inr (slot_ne (Or.inr (hw _ (List.mem_of_getElem? (i := 17) rfl))) (Or.inr (hw _ (List.mem_of_getElem? (i := 13) rfl))) (by decide) (t := (.object "com/example/penelope/penelope/program/ProcessType")) (t' := .int) (by decide) (by decide)))
  have F11 : Fld Z h8 q2n_0 "com/example/penelope/penelope/program/Move" "type" "Lcom/example/penelope/penelope/program/ProcessType;" u2n_q2n_0_type := F10.other W8 (Or.inr (slot_ne (Or.inr (hw _ (List.mem_of_getElem? (i := 17) rfl))) (Or.inr (hw _ (List.mem_of_getElem? (i := 15) rfl))) (by decide) (t := (.object "com/example/penelope/penelope/program/ProcessType")) (t' := .int) (by decide) (by decide)))
  have P12 : own_Go p e below S0 (T8.setTop (mkF m 16 #[.val (.ref q2n_0), .val (.int q2n_1), .val (.int q2n_2), .val .null, .val (.int q2n_4), .val .null, .val .null] [.null, (.ref q2n_0)])) := fun t k => P8 t (by
    show Steps p.tables e below (T8.setTop (mkF m 14 #[.val (.ref q2n_0), .val (.int q2n_1), .val (.int q2n_2), .val .null, .val (.int q2n_4), .val .null, .val .null] [])) t
    refine XS.aloadN X8.here hx rfl (hb hby d2_14) rfl rfl ?_
    refine XS.aloadN X8.here hx rfl (hb hby d2_15) rfl rfl ?_
    show Steps p.tables e below (T8.setTop (mkF m 16 #[.val (.ref q2n_0), .val (.int q2n_1), .val (.int q2n_2), .val .null, .val (.int q2n_4), .val .null, .val .null] [.null, (.ref q2n_0)])) t
    exact k)
  obtain ⟨T13, h13, X13, e13, W13, st13⟩ := putF X8 hx hZ hown (host := "") (Or.inl (hw _ (List.mem_of_getElem? (i := 16) rfl))) Via.refl e8 F11 F9 (Or.inr ⟨(hw _ (List.mem_of_getElem? (i := 17) rfl)), rfl, hnm⟩) (hw _ (List.mem_of_getElem? (i := 1) rfl)) (ty := (.object "com/example/penelope/penelope/program/ProcessType")) (by decide) rfl rfl (g := (mkF m 16 #[.val (.ref q2n_0), .val (.int q2n_1), .val (.int q2n_2), .val .null, .val (.int q2n_4), .val .null, .val .null] [.null, (.ref q2n_0)])) rfl rfl (hb hby d2_16)
  have K13 : Keep h0 h13 [q2n_0] := K8.wr W13 (Or.inl (by simp))
  have N13 := Fr.snoc X13 N8 g_q2n_0
  have F13w : Fld Z h13 q2n_0 "com/example/penelope/penelope/program/Move" "type" "Lcom/example/penelope/penelope/program/ProcessType;" .null := F11.same W13
  have P13 : own_Go p e below S0 (T13.setTop (mkF m 19 #[.val (.ref q2n_0), .val (.int q2n_1), .val (.int q2n_2), .val .null, .val (.int q2n_4), .val .null, .val .null] [])) := fun t k => P12 t (st13 _ k)
  have F14 : Exa Z h13 q2n_0 "com/example/penelope/penelope/program/Move" := F9.wr W13
  have F15 : Fld Z h4 q2n_0 "com/example/penelope/penelope/program/Move" "choice" "I" u2n_q2n_0_choice := F_q2n_0_choice.other W4 (Or.inr (slot_ne (Or.inr (hw _ (List.mem_of_getElem? (i := 19) rfl))) (Or.inr (hw _ (List.mem_of_getElem? (i := 13) rfl))) (by decide) (t := .int) (t' := .int) (by decide) (by decide)))
  have F16 : Fld Z h8 q2n_0 "com/example/penelope/penelope/program/Move" "choice" "I" u2n_q2n_0_choice := F15.other W8 (Or.inr (slot_ne (Or.inr (hw _ (List.mem_of_getElem? (i := 19) rfl))) (Or.inr (hw _ (List.mem_of_getElem? (i := 15) rfl))) (by decide) (t := .int) (t' := .int) (by decide) (by decide)))
  have F17 : Fld Z h13 q2n_0 "com/example/penelope/penelope/program/Move" "choice" "I" u2n_q2n_0_choice := F16.other W13 (Or.inr (slot_ne (Or.inr (hw _ (List.mem_of_getElem? (i := 19) rfl))) (Or.inr (hw _ (List.mem_of_getElem? (i := 17) rfl))) (by decide) (t := .int) (t' := (.object "com/example/penelope/penelope/program/ProcessType")) (by decide) (by decide)))
  have P18 : own_Go p e below S0 (T13.setTop (mkF m 22 #[.val (.ref q2n_0), .val (.int q2n_1), .val (.int q2n_2), .val .null, .val (.int q2n_4), .val .null, .val .null] [(.int q2n_4), (.ref q2n_0)])) := fun t k => P13 t (by
    show Steps p.tables e below (T13.setTop (mkF m 19 #[.val (.ref q2n_0), .val (.int q2n_1), .val (.int q2n_2), .val .null, .val (.int q2n_4), .val .null, .val .null] [])) t
    refine XS.aloadN X13.here hx rfl (hb hby d2_19) rfl rfl ?_
    refine XS.iload X13.here hx rfl (hb hby d2_20) rfl ?_
    show Steps p.tables e below (T13.setTop (mkF m 22 #[.val (.ref q2n_0), .val (.int q2n_1), .val (.int q2n_2), .val .null, .val (.int q2n_4), .val .null, .val .null] [(.int q2n_4), (.ref q2n_0)])) t
    exact k)
  obtain ⟨T19, h19, X19, e19, W19, st19⟩ := putF X13 hx hZ hown (host := "") (Or.inl (hw _ (List.mem_of_getElem? (i := 18) rfl))) Via.refl e13 F17 F14 (Or.inr ⟨(hw _ (List.mem_of_getElem? (i := 19) rfl)), rfl, hnm⟩) (hw _ (List.mem_of_getElem? (i := 1) rfl)) (ty := .int) (by decide) rfl rfl (g := (mkF m 22 #[.val (.ref q2n_0), .val (.int q2n_1), .val (.int q2n_2), .val .null, .val (.int q2n_4), .val .null, .val .null] [(.int q2n_4), (.ref q2n_0)])) rfl rfl (hb hby d2_22)
  have K19 : Keep h0 h19 [q2n_0] := K13.wr W19 (Or.inl (by simp))
  have N19 := Fr.snoc X19 N13 g_q2n_0
  have F19w : Fld Z h19 q2n_0 "com/example/penelope/penelope/program/Move" "choice" "I" (.int q2n_4) := F17.same W19
  have P19 : own_Go p e below S0 (T19.setTop (mkF m 25 #[.val (.ref q2n_0), .val (.int q2n_1), .val (.int q2n_2), .val .null, .val (.int q2n_4), .val .null, .val .null] [])) := fun t k => P18 t (st19 _ k)
  have F20 : Exa Z h19 q2n_0 "com/example/penelope/penelope/program/Move" := F14.wr W19
  have F21 : Fld Z h4 q2n_0 "com/example/penelope/penelope/program/Move" "transition" "Lcom/example/penelope/penelope/program/Transition;" u2n_q2n_0_transition := F_q2n_0_transition.other W4 (Or.inr (slot_ne (Or.inr (hw _ (List.mem_of_getElem? (i := 21) rfl))) (Or.inr (hw _ (List.mem_of_getElem? (i := 13) rfl))) (by decide) (t := (.object "com/example/penelope/penelope/program/Transition")) (t' := .int) (by decide) (by decide)))
  have F22 : Fld Z h8 q2n_0 "com/example/penelope/penelope/program/Move" "transition" "Lcom/example/penelope/penelope/program/Transition;" u2n_q2n_0_transition := F21.other W8 (Or.inr (slot_ne (Or.inr (hw _ (List.mem_of_getElem? (i := 21) rfl))) (Or.inr (hw _ (List.mem_of_getElem? (i := 15) rfl))) (by decide) (t := (.object "com/example/penelope/penelope/program/Transition")) (t' := .int) (by decide) (by decide)))
  have F23 : Fld Z h13 q2n_0 "com/example/penelope/penelope/program/Move" "transition" "Lcom/example/penelope/penelope/program/Transition;" u2n_q2n_0_transition := F22.other W13 (Or.inr (slot_ne (Or.inr (hw _ (List.mem_of_getElem? (i := 21) rfl))) (Or.inr (hw _ (List.mem_of_getElem? (i := 17) rfl))) (by decide) (t := (.object "com/example/penelope/penelope/program/Transition")) (t' := (.object "com/example/penelope/penelope/program/ProcessType")) (by decide) (by decide)))
  have F24 : Fld Z h19 q2n_0 "com/example/penelope/penelope/program/Move" "transition" "Lcom/example/penelope/penelope/program/Transition;" u2n_q2n_0_transition := F23.other W19 (Or.inr (slot_ne (Or.inr (hw _ (List.mem_of_getElem? (i := 21) rfl))) (Or.inr (hw _ (List.mem_of_getElem? (i := 19) rfl))) (by decide) (t := (.object "com/example/penelope/penelope/program/Transition")) (t' := .int) (by decide) (by decide)))
  have P25 : own_Go p e below S0 (T19.setTop (mkF m 28 #[.val (.ref q2n_0), .val (.int q2n_1), .val (.int q2n_2), .val .null, .val (.int q2n_4), .val .null, .val .null] [.null, (.ref q2n_0)])) := fun t k => P19 t (by
    show Steps p.tables e below (T19.setTop (mkF m 25 #[.val (.ref q2n_0), .val (.int q2n_1), .val (.int q2n_2), .val .null, .val (.int q2n_4), .val .null, .val .null] [])) t
    refine XS.aloadN X19.here hx rfl (hb hby d2_25) rfl rfl ?_
    refine XS.aload X19.here hx rfl (hb hby d2_26) rfl rfl ?_
    show Steps p.tables e below (T19.setTop (mkF m 28 #[.val (.ref q2n_0), .val (.int q2n_1), .val (.int q2n_2), .val .null, .val (.int q2n_4), .val .null, .val .null] [.null, (.ref q2n_0)])) t
    exact k)
  obtain ⟨T26, h26, X26, e26, W26, st26⟩ := putF X19 hx hZ hown (host := "") (Or.inl (hw _ (List.mem_of_getElem? (i := 20) rfl))) Via.refl e19 F24 F20 (Or.inr ⟨(hw _ (List.mem_of_getElem? (i := 21) rfl)), rfl, hnm⟩) (hw _ (List.mem_of_getElem? (i := 1) rfl)) (ty := (.object "com/example/penelope/penelope/program/Transition")) (by decide) rfl rfl (g := (mkF m 28 #[.val (.ref q2n_0), .val (.int q2n_1), .val (.int q2n_2), .val .null, .val (.int q2n_4), .val .null, .val .null] [.null, (.ref q2n_0)])) rfl rfl (hb hby d2_28)
  have K26 : Keep h0 h26 [q2n_0] := K19.wr W26 (Or.inl (by simp))
  have N26 := Fr.snoc X26 N19 g_q2n_0
  have F26w : Fld Z h26 q2n_0 "com/example/penelope/penelope/program/Move" "transition" "Lcom/example/penelope/penelope/program/Transition;" .null := F24.same W26
  have P26 : own_Go p e below S0 (T26.setTop (mkF m 31 #[.val (.ref q2n_0), .val (.int q2n_1), .val (.int q2n_2), .val .null, .val (.int q2n_4), .val .null, .val .null] [])) := fun t k => P25 t (st26 _ k)
  have F27 : Exa Z h26 q2n_0 "com/example/penelope/penelope/program/Move" := F20.wr W26
  have F28 : Fld Z h4 q2n_0 "com/example/penelope/penelope/program/Move" "receiver" "Lcom/example/penelope/penelope/program/Move;" u2n_q2n_0_receiver := F_q2n_0_receiver.other W4 (Or.inr (slot_ne (Or.inr (hw _ (List.mem_of_getElem? (i := 23) rfl))) (Or.inr (hw _ (List.mem_of_getElem? (i := 13) rfl))) (by decide) (t := (.object "com/example/penelope/penelope/program/Move")) (t' := .int) (by decide) (by decide)))
  have F29 : Fld Z h8 q2n_0 "com/example/penelope/penelope/program/Move" "receiver" "Lcom/example/penelope/penelope/program/Move;" u2n_q2n_0_receiver := F28.other W8 (Or.inr (slot_ne (Or.inr (hw _ (List.mem_of_getElem? (i := 23) rfl))) (Or.inr (hw _ (List.mem_of_getElem? (i := 15) rfl))) (by decide) (t := (.object "com/example/penelope/penelope/program/Move")) (t' := .int) (by decide) (by decide)))
  have F30 : Fld Z h13 q2n_0 "com/example/penelope/penelope/program/Move" "receiver" "Lcom/example/penelope/penelope/program/Move;" u2n_q2n_0_receiver := F29.other W13 (Or.inr (slot_ne (Or.inr (hw _ (List.mem_of_getElem? (i := 23) rfl))) (Or.inr (hw _ (List.mem_of_getElem? (i := 17) rfl))) (by decide) (t := (.object "com/example/penelope/penelope/program/Move")) (t' := (.object "com/example/penelope/penelope/program/ProcessType")) (by decide) (by decide)))
  have F31 : Fld Z h19 q2n_0 "com/example/penelope/penelope/program/Move" "receiver" "Lcom/example/penelope/penelope/program/Move;" u2n_q2n_0_receiver := F30.other W19 (Or.inr (slot_ne (Or.inr (hw _ (List.mem_of_getElem? (i := 23) rfl))) (Or.inr (hw _ (List.mem_of_getElem? (i := 19) rfl))) (by decide) (t := (.object "com/example/penelope/penelope/program/Move")) (t' := .int) (by decide) (by decide)))
  have F32 : Fld Z h26 q2n_0 "com/example/penelope/penelope/program/Move" "receiver" "Lcom/example/penelope/penelope/program/Move;" u2n_q2n_0_receiver := F31.other W26 (Or.inr (slot_ne (Or.inr (hw _ (List.mem_of_getElem? (i := 23) rfl))) (Or.inr (hw _ (List.mem_of_getElem? (i := 21) rfl))) (by decide) (t := (.object "com/example/penelope/penelope/program/Move")) (t' := (.object "com/example/penelope/penelope/program/Transition")) (by decide) (by decide)))
  have P33 : own_Go p e below S0 (T26.setTop (mkF m 34 #[.val (.ref q2n_0), .val (.int q2n_1), .val (.int q2n_2), .val .null, .val (.int q2n_4), .val .null, .val .null] [.null, (.ref q2n_0)])) := fun t k => P26 t (by
    show Steps p.tables e below (T26.setTop (mkF m 31 #[.val (.ref q2n_0), .val (.int q2n_1), .val (.int q2n_2), .val .null, .val (.int q2n_4), .val .null, .val .null] [])) t
    refine XS.aloadN X26.here hx rfl (hb hby d2_31) rfl rfl ?_
    refine XS.aload X26.here hx rfl (hb hby d2_32) rfl rfl ?_
    show Steps p.tables e below (T26.setTop (mkF m 34 #[.val (.ref q2n_0), .val (.int q2n_1), .val (.int q2n_2), .val .null, .val (.int q2n_4), .val .null, .val .null] [.null, (.ref q2n_0)])) t
    exact k)
  obtain ⟨T34, h34, X34, e34, W34, st34⟩ := putF X26 hx hZ hown (host := "") (Or.inl (hw _ (List.mem_of_getElem? (i := 22) rfl))) Via.refl e26 F32 F27 (Or.inr ⟨(hw _ (List.mem_of_getElem? (i := 23) rfl)), rfl, hnm⟩) (hw _ (List.mem_of_getElem? (i := 1) rfl)) (ty := (.object "com/example/penelope/penelope/program/Move")) (by decide) rfl rfl (g := (mkF m 34 #[.val (.ref q2n_0), .val (.int q2n_1), .val (.int q2n_2), .val .null, .val (.int q2n_4), .val .null, .val .null] [.null, (.ref q2n_0)])) rfl rfl (hb hby d2_34)
  have K34 : Keep h0 h34 [q2n_0] := K26.wr W34 (Or.inl (by simp))
  have N34 := Fr.snoc X34 N26 g_q2n_0
  have F34w : Fld Z h34 q2n_0 "com/example/penelope/penelope/program/Move" "receiver" "Lcom/example/penelope/penelope/program/Move;" .null := F32.same W34
  have P34 : own_Go p e below S0 (T34.setTop (mkF m 37 #[.val (.ref q2n_0), .val (.int q2n_1), .val (.int q2n_2), .val .null, .val (.int q2n_4), .val .null, .val .null] [])) := fun t k => P33 t (st34 _ k)
  have F35 : Fld Z h8 q2n_0 "com/example/penelope/penelope/program/Move" "pid" "I" (.int q2n_1) := F4w.other W8 (Or.inr (slot_ne (Or.inr (hw _ (List.mem_of_getElem? (i := 13) rfl))) (Or.inr (hw _ (List.mem_of_getElem? (i := 15) rfl))) (by decide) (t := .int) (t' := .int) (by decide) (by decide)))
  have F36 : Fld Z h13 q2n_0 "com/example/penelope/penelope/program/Move" "pid" "I" (.int q2n_1) := F35.other W13 (Or.inr (slot_ne (Or.inr (hw _ (List.mem_of_getElem? (i := 13) rfl))) (Or.inr (hw _ (List.mem_of_getElem? (i := 17) rfl))) (by decide) (t := .int) (t' := (.object "com/example/penelope/penelope/program/ProcessType")) (by decide) (by decide)))
  have F37 : Fld Z h19 q2n_0 "com/example/penelope/penelope/program/Move" "pid" "I" (.int q2n_1) := F36.other W19 (Or.inr (slot_ne (Or.inr (hw _ (List.mem_of_getElem? (i := 13) rfl))) (Or.inr (hw _ (List.mem_of_getElem? (i := 19) rfl))) (by decide) (t := .int) (t' := .int) (by decide) (by decide)))
  have F38 : Fld Z h26 q2n_0 "com/example/penelope/penelope/program/Move" "pid" "I" (.int q2n_1) := F37.other W26 (Or.inr (slot_ne (Or.inr (hw _ (List.mem_of_getElem? (i := 13) rfl))) (Or.inr (hw _ (List.mem_of_getElem? (i := 21) rfl))) (by decide) (t := .int) (t' := (.object "com/example/penelope/penelope/program/Transition")) (by decide) (by decide)))
  have F39 : Fld Z h34 q2n_0 "com/example/penelope/penelope/program/Move" "pid" "I" (.int q2n_1) := F38.other W34 (Or.inr (slot_ne (Or.inr (hw _ (List.mem_of_getElem? (i := 13) rfl))) (Or.inr (hw _ (List.mem_of_getElem? (i := 23) rfl))) (by decide) (t := .int) (t' := (.object "com/example/penelope/penelope/program/Move")) (by decide) (by decide)))
  have F40 : Fld Z h13 q2n_0 "com/example/penelope/penelope/program/Move" "process" "I" (.int q2n_2) := F8w.other W13 (Or.inr (slot_ne (Or.inr (hw _ (List.mem_of_getElem? (i := 15) rfl))) (Or.inr (hw _ (List.mem_of_getElem? (i := 17) rfl))) (by decide) (t := .int) (t' := (.object "com/example/penelope/penelope/program/ProcessType")) (by decide) (by decide)))
  have F41 : Fld Z h19 q2n_0 "com/example/penelope/penelope/program/Move" "process" "I" (.int q2n_2) := F40.other W19 (Or.inr (slot_ne (Or.inr (hw _ (List.mem_of_getElem? (i := 15) rfl))) (Or.inr (hw _ (List.mem_of_getElem? (i := 19) rfl))) (by decide) (t := .int) (t' := .int) (by decide) (by decide)))
  have F42 : Fld Z h26 q2n_0 "com/example/penelope/penelope/program/Move" "process" "I" (.int q2n_2) := F41.other W26 (Or.inr (slot_ne (Or.inr (hw _ (List.mem_of_getElem? (i := 15) rfl))) (Or.inr (hw _ (List.mem_of_getElem? (i := 21) rfl))) (by decide) (t := .int) (t' := (.object "com/example/penelope/penelope/program/Transition")) (by decide) (by decide)))
  have F43 : Fld Z h34 q2n_0 "com/example/penelope/penelope/program/Move" "process" "I" (.int q2n_2) := F42.other W34 (Or.inr (slot_ne (Or.inr (hw _ (List.mem_of_getElem? (i := 15) rfl))) (Or.inr (hw _ (List.mem_of_getElem? (i := 23) rfl))) (by decide) (t := .int) (t' := (.object "com/example/penelope/penelope/program/Move")) (by decide) (by decide)))
  have F44 : Fld Z h19 q2n_0 "com/example/penelope/penelope/program/Move" "type" "Lcom/example/penelope/penelope/program/ProcessType;" .null := F13w.other W19 (Or.inr (slot_ne (Or.inr (hw _ (List.mem_of_getElem? (i := 17) rfl))) (Or.inr (hw _ (List.mem_of_getElem? (i := 19) rfl))) (by decide) (t := (.object "com/example/penelope/penelope/program/ProcessType")) (t' := .int) (by decide) (by decide)))
  have F45 : Fld Z h26 q2n_0 "com/example/penelope/penelope/program/Move" "type" "Lcom/example/penelope/penelope/program/ProcessType;" .null := F44.other W26 (Or.inr (slot_ne (Or.inr (hw _ (List.mem_of_getElem? (i := 17) rfl))) (Or.inr (hw _ (List.mem_of_getElem? (i := 21) rfl))) (by decide) (t := (.object "com/example/penelope/penelope/program/ProcessType")) (t' := (.object "com/example/penelope/penelope/program/Transition")) (by decide) (by decide)))
  have F46 : Fld Z h34 q2n_0 "com/example/penelope/penelope/program/Move" "type" "Lcom/example/penelope/penelope/program/ProcessType;" .null := F45.other W34 (Or.inr (slot_ne (Or.inr (hw _ (List.mem_of_getElem? (i := 17) rfl))) (Or.inr (hw _ (List.mem_of_getElem? (i := 23) rfl))) (by decide) (t := (.object "com/example/penelope/penelope/program/ProcessType")) (t' := (.object "com/example/penelope/penelope/program/Move")) (by decide) (by decide)))
  have F47 : Fld Z h26 q2n_0 "com/example/penelope/penelope/program/Move" "choice" "I" (.int q2n_4) := F19w.other W26 (Or.inr (slot_ne (Or.inr (hw _ (List.mem_of_getElem? (i := 19) rfl))) (Or.inr (hw _ (List.mem_of_getElem? (i := 21) rfl))) (by decide) (t := .int) (t' := (.object "com/example/penelope/penelope/program/Transition")) (by decide) (by decide)))
  have F48 : Fld Z h34 q2n_0 "com/example/penelope/penelope/program/Move" "choice" "I" (.int q2n_4) := F47.other W34 (Or.inr (slot_ne (Or.inr (hw _ (List.mem_of_getElem? (i := 19) rfl))) (Or.inr (hw _ (List.mem_of_getElem? (i := 23) rfl))) (by decide) (t := .int) (t' := (.object "com/example/penelope/penelope/program/Move")) (by decide) (by decide)))
  have F49 : Fld Z h34 q2n_0 "com/example/penelope/penelope/program/Move" "transition" "Lcom/example/penelope/penelope/program/Transition;" .null := F26w.other W34 (Or.inr (slot_ne (Or.inr (hw _ (List.mem_of_getElem? (i := 21) rfl))) (Or.inr (hw _ (List.mem_of_getElem? (i := 23) rfl))) (by decide) (t := (.object "com/example/penelope/penelope/program/Transition")) (t' := (.object "com/example/penelope/penelope/program/Move")) (by decide) (by decide)))
  obtain ⟨fs, hr, hrun, hended, hW, hsame⟩ := X34.leave (v := none) (fun _ => rfl)
  refine ⟨_, _, own_from hS0 (P34 _ ?_), hrun, hended, _, _, rfl, ?_, ⟨_, rfl⟩, hW, hsame.mono (by decide) (by decide)⟩
  · show Steps p.tables e below (T34.setTop (mkF m 37 #[.val (.ref q2n_0), .val (.int q2n_1), .val (.int q2n_2), .val .null, .val (.int q2n_4), .val .null, .val .null] [])) _
    exact X34.returnOut hx Bd.returns (hb hby d2_37) hr
  · show Q2n Z q2n_0 q2n_1 q2n_2 q2n_4 u2n_q2n_0_pid u2n_q2n_0_process u2n_q2n_0_type u2n_q2n_0_choice u2n_q2n_0_transition u2n_q2n_0_receiver h0 n0 _ T34.heap _
    rw [e34]
    exact ⟨rfl, N34, K34, F39, F43, F46, F48, F49, F34w⟩
theorem ef_2r (m : MethodId) (q2r_0 : Addr) (q2r_1 : Int32) (q2r_2 : Int32) (q2r_4 : Int32) (q2r_6 : Addr) : entryFrame m #[(.ref q2r_0), (.int q2r_1), (.int q2r_2), .null, (.int q2r_4), .null, (.ref q2r_6)] 7 = mkF m 0 #[.val (.ref q2r_0), .val (.int q2r_1), .val (.int q2r_2), .val .null, .val (.int q2r_4), .val .null, .val (.ref q2r_6)] [] := by first | (simp [entryFrame, mkF, argsToLocals, Value.category]; done) | rfl
def Q2r (Z : State) (q2r_0 : Addr) (q2r_1 : Int32) (q2r_2 : Int32) (q2r_4 : Int32) (q2r_6 : Addr) (u2r_q2r_0_pid : Value) (u2r_q2r_0_process : Value) (u2r_q2r_0_type : Value) (u2r_q2r_0_choice : Value) (u2r_q2r_0_transition : Value) (u2r_q2r_0_receiver : Value) (h0 : Heap) (n0 : Nat) (v : Option Value) (h : Heap) (L : List Loc) : Prop := v = none ∧ Fr n0 L ∧ Keep h0 h [q2r_0] ∧ Fld Z h q2r_0 "com/example/penelope/penelope/program/Move" "pid" "I" (.int q2r_1) ∧ Fld Z h q2r_0 "com/example/penelope/penelope/program/Move" "process" "I" (.int q2r_2) ∧ Fld Z h q2r_0 "com/example/penelope/penelope/program/Move" "type" "Lcom/example/penelope/penelope/program/ProcessType;" .null ∧ Fld Z h q2r_0 "com/example/penelope/penelope/program/Move" "choice" "I" (.int q2r_4) ∧ Fld Z h q2r_0 "com/example/penelope/penelope/program/Move" "transition" "Lcom/example/penelope/penelope/program/Transition;" .null ∧ Fld Z h q2r_0 "com/example/penelope/penelope/program/Move" "receiver" "Lcom/example/penelope/penelope/program/Move;" (.ref q2r_6)
set_option maxRecDepth 65536 in
set_option maxHeartbeats 40000000 in
theorem rm2r (l : Launch) (Z : State) (a0 : Array Value) (hw : ∀ d ∈ tables_1, d.before a0 Z = true) (ws : List Jvm.Cond) (q2r_0 : Addr) (q2r_1 : Int32) (q2r_2 : Int32) (q2r_4 : Int32) (q2r_6 : Addr) (u2r_q2r_0_pid : Value) (u2r_q2r_0_process : Value) (u2r_q2r_0_type : Value) (u2r_q2r_0_choice : Value) (u2r_q2r_0_transition : Value) (u2r_q2r_0_receiver : Value) (h0 : Heap) (n0 : Nat) (Z0 : n0 ≤ h0.size) (E_q2r_0 : Exa Z h0 q2r_0 "com/example/penelope/penelope/program/Move") (F_q2r_0_pid : Fld Z h0 q2r_0 "com/example/penelope/penelope/program/Move" "pid" "I" u2r_q2r_0_pid) (g_q2r_0 : n0 ≤ q2r_0) (F_q2r_0_process : Fld Z h0 q2r_0 "com/example/penelope/penelope/program/Move" "process" "I" u2r_q2r_0_process) (F_q2r_0_type : Fld Z h0 q2r_0 "com/example/penelope/penelope/program/Move" "type" "Lcom/example/penelope/penelope/program/ProcessType;" u2r_q2r_0_type) (F_q2r_0_choice : Fld Z h0 q2r_0 "com/example/penelope/penelope/program/Move" "choice" "I" u2r_q2r_0_choice) (F_q2r_0_transition : Fld Z h0 q2r_0 "com/example/penelope/penelope/program/Move" "transition" "Lcom/example/penelope/penelope/program/Transition;" u2r_q2r_0_transition) (F_q2r_0_receiver : Fld Z h0 q2r_0 "com/example/penelope/penelope/program/Move" "receiver" "Lcom/example/penelope/penelope/program/Move;" u2r_q2r_0_receiver) :
    MetFree l (⟨"com/example/penelope/penelope/program/Move", "<init>", "(IILcom/example/penelope/penelope/program/ProcessType;ILcom/example/penelope/penelope/program/Transition;Lcom/example/penelope/penelope/program/Move;)V"⟩ : MethodName) (head1 (Jvm.Cond.code (⟨"com/example/penelope/penelope/program/Move", "<init>", "(IILcom/example/penelope/penelope/program/ProcessType;ILcom/example/penelope/penelope/program/Transition;Lcom/example/penelope/penelope/program/Move;)V"⟩ : MethodName) prog_94_method_4_code 7 none :: ws) ({ frames := 1, cells := 0, slots := 0, locals := 12 } : Room)) (fun a U => a = #[(.ref q2r_0), (.int q2r_1), (.int q2r_2), .null, (.int q2r_4), .null, (.ref q2r_6)] ∧ Z.Warmed39 U.vm ∧ U.heap = h0) (fun _ _ _ _ _ => True) (fun _ U o U' => ∃ v L, o = .returned v ∧ Q2r Z q2r_0 q2r_1 q2r_2 q2r_4 q2r_6 u2r_q2r_0_pid u2r_q2r_0_process u2r_q2r_0_type u2r_q2r_0_choice u2r_q2r_0_transition u2r_q2r_0_receiver h0 n0 v U'.heap L ∧ FrameEnd U o U' L ({ frames := 1, cells := 0, slots := 0, locals := 12 } : Room).cells ({ frames := 1, cells := 0, slots := 0, locals := 12 } : Room).slots) := by
  refine MetFree.of_bodySF (plainFor_of_name pn_2) hisR ?_
  intro p e s m args below meth c s₁ Bd hml0 hP hK
  obtain ⟨rfl, hZ, hh⟩ := hP
  have hx := Bd.exec
  have hby := Bd.bytes
  have hml : c.maxLocals = 7 := hml0
  have hown : s.vm.findClass "com/example/penelope/penelope/program/Move" = some m.cls := findClass_of_methodNamed Bd.named
  have hnm := (name_of_methodNamed Bd.named Bd.method).1
  have X0 : Stand p l e ({ frames := 1, cells := 0, slots := 0, locals := 12 } : Room) s m #[(.ref q2r_0), (.int q2r_1), (.int q2r_2), .null, (.int q2r_4), .null, (.ref q2r_6)] below meth c s₁ [] 0 0 := Stand.of_body Bd
  have e0 : s₁.heap = h0 := by rw [← hh, Bd.state]; rfl
  have N0 := Fr.nil n0
  obtain ⟨S0, hS0⟩ : ∃ z, z = s₁.setTop (entryFrame m #[(.ref q2r_0), (.int q2r_1), (.int q2r_2), .null, (.int q2r_4), .null, (.ref q2r_6)] 7) := ⟨_, rfl⟩
  have P0 : own_Go p e below S0 (s₁.setTop (mkF m 0 #[.val (.ref q2r_0), .val (.int q2r_1), .val (.int q2r_2), .val .null, .val (.int q2r_4), .val .null, .val (.ref q2r_6)] [])) := fun t k => by rw [hS0]; exact castTop (ef_2r m q2r_0 q2r_1 q2r_2 q2r_4 q2r_6) k
  have P1 : own_Go p e below S0 (s₁.setTop (mkF m 1 #[.val (.ref q2r_0), .val (.int q2r_1), .val (.int q2r_2), .val .null, .val (.int q2r_4), .val .null, .val (.ref q2r_6)] [(.ref q2r_0)])) := fun t k => P0 t (by
    show Steps p.tables e below (s₁.setTop (mkF m 0 #[.val (.ref q2r_0), .val (.int q2r_1), .val (.int q2r_2), .val .null, .val (.int q2r_4), .val .null, .val (.ref q2r_6)] [])) t
    refine XS.aloadN X0.here hx rfl (hb hby d2_0) rfl rfl ?_
    show Steps p.tables e below (s₁.setTop (mkF m 1 #[.val (.ref q2r_0), .val (.int q2r_1), .val (.int q2r_2), .val .null, .val (.int q2r_4), .val .null, .val (.ref q2r_6)] [(.ref q2r_0)])) t
    exact k)
  obtain ⟨T2, X2, e2, st2⟩ := initO X0 hx hZ hown (hw _ (List.mem_of_getElem? (i := 9) rfl)) (hw _ (List.mem_of_getElem? (i := 10) rfl)) (hw _ (List.mem_of_getElem? (i := 11) rfl)) e0 (g := (mkF m 1 #[.val (.ref q2r_0), .val (.int q2r_1), .val (.int q2r_2), .val .null, .val (.int q2r_4), .val .null, .val (.ref q2r_6)] [(.ref q2r_0)])) rfl (by rw [hml]; rfl) rfl (hb hby d2_1) (by decide) (W := 0) (by show 2 * 0 + _ ≤ _; exact Nat.le_of_eq rfl) (by decide)
  have P2 : own_Go p e below S0 (T2.setTop (mkF m 4 #[.val (.ref q2r_0), .val (.int q2r_1), .val (.int q2r_2), .val .null, .val (.int q2r_4), .val .null, .val (.ref q2r_6)] [])) := fun t k => P1 t (st2 _ k)
  have P3 : own_Go p e below S0 (T2.setTop (mkF m 6 #[.val (.ref q2r_0), .val (.int q2r_1), .val (.int q2r_2), .val .null, .val (.int q2r_4), .val .null, .val (.ref q2r_6)] [(.int q2r_1), (.ref q2r_0)])) := fun t k => P2 t (by
    show Steps p.tables e below (T2.setTop (mkF m 4 #[.val (.ref q2r_0), .val (.int q2r_1), .val (.int q2r_2), .val .null, .val (.int q2r_4), .val .null, .val (.ref q2r_6)] [])) t
    refine XS.aloadN X2.here hx rfl (hb hby d2_4) rfl rfl ?_
    refine XS.iloadN X2.here hx rfl (hb hby d2_5) rfl ?_
    show Steps p.tables e below (T2.setTop (mkF m 6 #[.val (.ref q2r_0), .val (.int q2r_1), .val (.int q2r_2), .val .null, .val (.int q2r_4), .val .null, .val (.ref q2r_6)] [(.int q2r_1), (.ref q2r_0)])) t
    exact k)
  obtain ⟨T4, h4, X4, e4, W4, st4⟩ := putF X2 hx hZ hown (host := "") (Or.inl (hw _ (List.mem_of_getElem? (i := 12) rfl))) Via.refl e2 F_q2r_0_pid E_q2r_0 (Or.inr ⟨(hw _ (List.mem_of_getElem? (i := 13) rfl)), rfl, hnm⟩) (hw _ (List.mem_of_getElem? (i := 1) rfl)) (ty := .int) (by decide) rfl rfl (g := (mkF m 6 #[.val (.ref q2r_0), .val (.int q2r_1), .val (.int q2r_2), .val .null, .val (.int q2r_4), .val .null, .val (.ref q2r_6)] [(.int q2r_1), (.ref q2r_0)])) rfl rfl (hb hby d2_6)
  have K4 : Keep h0 h4 [q2r_0] := (Keep.refl h0 [q2r_0]).wr W4 (Or.inl (by simp))
  have N4 := Fr.snoc X4 N0 g_q2r_0
  have F4w : Fld Z h4 q2r_0 "com/example/penelope/penelope/program/Move" "pid" "I" (.int q2r_1) := F_q2r_0_pid.same W4
  have P4 : own_Go p e below S0 (T4.setTop (mkF m 9 #[.val (.ref q2r_0), .val (.int q2r_1), .val (.int q2r_2), .val .null, .val (.int q2r_4), .val .null, .val (.ref q2r_6)] [])) := fun t k => P3 t (st4 _ k)
  have F5 : Exa Z h4 q2r_0 "com/example/penelope/penelope/program/Move" := E_q2r_0.wr W4
  have F6 : Fld Z h4 q2r_0 "com/example/penelope/penelope/program/Move" "process" "I" u2r_q2r_0_process := F_q2r_0_process.other W4 (Or.inr (slot_ne (Or.inr (hw _ (List.mem_of_getElem? (i := 15) rfl))) (Or.inr (hw _ (List.mem_of_getElem? (i := 13) rfl))) (by decide) (t := .int) (t' := .int) (by decide) (by decide)))
  have P7 : own_Go p e below S0 (T4.setTop (mkF m 11 #[.val (.ref q2r_0), .val (.int q2r_1), .val (.int q2r_2), .val .null, .val (.int q2r_4), .val .null, .val (.ref q2r_6)] [(.int q2r_2), (.ref q2r_0)])) := fun t k => P4 t (by
    show Steps p.tables e below (T4.setTop (mkF m 9 #[.val (.ref q2r_0), .val (.int q2r_1), .val (.int q2r_2), .val .null, .val (.int q2r_4), .val .null, .val (.ref q2r_6)] [])) t
    refine XS.aloadN X4.here hx rfl (hb hby d2_9) rfl rfl ?_
    refine XS.iloadN X4.here hx rfl (hb hby d2_10) rfl ?_
    show Steps p.tables e below (T4.setTop (mkF m 11 #[.val (.ref q2r_0), .val (.int q2r_1), .val (.int q2r_2), .val .null, .val (.int q2r_4), .val .null, .val (.ref q2r_6)] [(.int q2r_2), (.ref q2r_0)])) t
    exact k)
  obtain ⟨T8, h8, X8, e8, W8, st8⟩ := putF X4 hx hZ hown (host := "") (Or.inl (hw _ (List.mem_of_getElem? (i := 14) rfl))) Via.refl e4 F6 F5 (Or.inr ⟨(hw _ (List.mem_of_getElem? (i := 15) rfl)), rfl, hnm⟩) (hw _ (List.mem_of_getElem? (i := 1) rfl)) (ty := .int) (by decide) rfl rfl (g := (mkF m 11 #[.val (.ref q2r_0), .val (.int q2r_1), .val (.int q2r_2), .val .null, .val (.int q2r_4), .val .null, .val (.ref q2r_6)] [(.int q2r_2), (.ref q2r_0)])) rfl rfl (hb hby d2_11)
  have K8 : Keep h0 h8 [q2r_0] := K4.wr W8 (Or.inl (by simp))
  have N8 := Fr.snoc X8 N4 g_q2r_0
  have F8w : Fld Z h8 q2r_0 "com/example/penelope/penelope/program/Move" "process" "I" (.int q2r_2) := F6.same W8
  have P8 : own_Go p e below S0 (T8.setTop (mkF m 14 #[.val (.ref q2r_0), .val (.int q2r_1), .val (.int q2r_2), .val .null, .val (.int q2r_4), .val .null, .val (.ref q2r_6)] [])) := fun t k => P7 t (st8 _ k)
  have F9 : Exa Z h8 q2r_0 "com/example/penelope/penelope/program/Move" := F5.wr W8
  have F10 : Fld Z h4 q2r_0 "com/example/penelope/penelope/program/Move" "type" "Lcom/example/penelope/penelope/program/ProcessType;" u2r_q2r_0_type := F_q2r_0_type.other W4 (Or.inr (slot_ne (Or.inr (hw _ (List.mem_of_getElem? (i := 17) rfl))) (Or.inr (hw _ (List.mem_of_getElem? (i := 13) rfl))) (by decide) (t := (.object "com/example/penelope/penelope/program/ProcessType")) (t' := .int) (by decide) (by decide)))
  have F11 : Fld Z h8 q2r_0 "com/example/penelope/penelope/program/Move" "type" "Lcom/example/penelope/penelope/program/ProcessType;" u2r_q2r_0_type := F10.other W8 (Or.inr (slot_ne (Or.inr (hw _ (List.mem_of_getElem? (i := 17) rfl))) (Or.inr (hw _ (List.mem_of_getElem? (i := 15) rfl))) (by decide) (t := (.object "com/example/penelope/penelope/program/ProcessType")) (t' := .int) (by decide) (by decide)))
  have P12 : own_Go p e below S0 (T8.setTop (mkF m 16 #[.val (.ref q2r_0), .val (.int q2r_1), .val (.int q2r_2), .val .null, .val (.int q2r_4), .val .null, .val (.ref q2r_6)] [.null, (.ref q2r_0)])) := fun t k => P8 t (by
    show Steps p.tables e below (T8.setTop (mkF m 14 #[.val (.ref q2r_0), .val (.int q2r_1), .val (.int q2r_2), .val .null, .val (.int q2r_4), .val .null, .val (.ref q2r_6)] [])) t
    refine XS.aloadN X8.here hx rfl (hb hby d2_14) rfl rfl ?_
    refine XS.aloadN X8.here hx rfl (hb hby d2_15) rfl rfl ?_
    show Steps p.tables e below (T8.setTop (mkF m 16 #[.val (.ref q2r_0), .val (.int q2r_1), .val (.int q2r_2), .val .null, .val (.int q2r_4), .val .null, .val (.ref q2r_6)] [.null, (.ref q2r_0)])) t
    exact k)
  obtain ⟨T13, h13, X13, e13, W13, st13⟩ := putF X8 hx hZ hown (host := "") (Or.inl (hw _ (List.mem_of_getElem? (i := 16) rfl))) Via.refl e8 F11 F9 (Or.inr ⟨(hw _ (List.mem_of_getElem? (i := 17) rfl)), rfl, hnm⟩) (hw _ (List.mem_of_getElem? (i := 1) rfl)) (ty := (.object "com/example/penelope/penelope/program/ProcessType")) (by decide) rfl rfl (g := (mkF m 16 #[.val (.ref q2r_0), .val (.int q2r_1), .val (.int q2r_2), .val .null, .val (.int q2r_4), .val .null, .val (.ref q2r_6)] [.null, (.ref q2r_0)])) rfl rfl (hb hby d2_16)
  have K13 : Keep h0 h13 [q2r_0] := K8.wr W13 (Or.inl (by simp))
  have N13 := Fr.snoc X13 N8 g_q2r_0
  have F13w : Fld Z h13 q2r_0 "com/example/penelope/penelope/program/Move" "type" "Lcom/example/penelope/penelope/program/ProcessType;" .null := F11.same W13
  have P13 : own_Go p e below S0 (T13.setTop (mkF m 19 #[.val (.ref q2r_0), .val (.int q2r_1), .val (.int q2r_2), .val .null, .val (.int q2r_4), .val .null, .val (.ref q2r_6)] [])) := fun t k => P12 t (st13 _ k)
  have F14 : Exa Z h13 q2r_0 "com/example/penelope/penelope/program/Move" := F9.wr W13
  have F15 : Fld Z h4 q2r_0 "com/example/penelope/penelope/program/Move" "choice" "I" u2r_q2r_0_choice := F_q2r_0_choice.other W4 (Or.inr (slot_ne (Or.inr (hw _ (List.mem_of_getElem? (i := 19) rfl))) (Or.inr (hw _ (List.mem_of_getElem? (i := 13) rfl))) (by decide) (t := .int) (t' := .int) (by decide) (by decide)))
  have F16 : Fld Z h8 q2r_0 "com/example/penelope/penelope/program/Move" "choice" "I" u2r_q2r_0_choice := F15.other W8 (Or.inr (slot_ne (Or.inr (hw _ (List.mem_of_getElem? (i := 19) rfl))) (Or.inr (hw _ (List.mem_of_getElem? (i := 15) rfl))) (by decide) (t := .int) (t' := .int) (by decide) (by decide)))
  have F17 : Fld Z h13 q2r_0 "com/example/penelope/penelope/program/Move" "choice" "I" u2r_q2r_0_choice := F16.other W13 (Or.inr (slot_ne (Or.inr (hw _ (List.mem_of_getElem? (i := 19) rfl))) (Or.inr (hw _ (List.mem_of_getElem? (i := 17) rfl))) (by decide) (t := .int) (t' := (.object "com/example/penelope/penelope/program/ProcessType")) (by decide) (by decide)))
  have P18 : own_Go p e below S0 (T13.setTop (mkF m 22 #[.val (.ref q2r_0), .val (.int q2r_1), .val (.int q2r_2), .val .null, .val (.int q2r_4), .val .null, .val (.ref q2r_6)] [(.int q2r_4), (.ref q2r_0)])) := fun t k => P13 t (by
    show Steps p.tables e below (T13.setTop (mkF m 19 #[.val (.ref q2r_0), .val (.int q2r_1), .val (.int q2r_2), .val .null, .val (.int q2r_4), .val .null, .val (.ref q2r_6)] [])) t
    refine XS.aloadN X13.here hx rfl (hb hby d2_19) rfl rfl ?_
    refine XS.iload X13.here hx rfl (hb hby d2_20) rfl ?_
    show Steps p.tables e below (T13.setTop (mkF m 22 #[.val (.ref q2r_0), .val (.int q2r_1), .val (.int q2r_2), .val .null, .val (.int q2r_4), .val .null, .val (.ref q2r_6)] [(.int q2r_4), (.ref q2r_0)])) t
    exact k)
  obtain ⟨T19, h19, X19, e19, W19, st19⟩ := putF X13 hx hZ hown (host := "") (Or.inl (hw _ (List.mem_of_getElem? (i := 18) rfl))) Via.refl e13 F17 F14 (Or.inr ⟨(hw _ (List.mem_of_getElem? (i := 19) rfl)), rfl, hnm⟩) (hw _ (List.mem_of_getElem? (i := 1) rfl)) (ty := .int) (by decide) rfl rfl (g := (mkF m 22 #[.val (.ref q2r_0), .val (.int q2r_1), .val (.int q2r_2), .val .null, .val (.int q2r_4), .val .null, .val (.ref q2r_6)] [(.int q2r_4), (.ref q2r_0)])) rfl rfl (hb hby d2_22)
  have K19 : Keep h0 h19 [q2r_0] := K13.wr W19 (Or.inl (by simp))
  have N19 := Fr.snoc X19 N13 g_q2r_0
  have F19w : Fld Z h19 q2r_0 "com/example/penelope/penelope/program/Move" "choice" "I" (.int q2r_4) := F17.same W19
  have P19 : own_Go p e below S0 (T19.setTop (mkF m 25 #[.val (.ref q2r_0), .val (.int q2r_1), .val (.int q2r_2), .val .null, .val (.int q2r_4), .val .null, .val (.ref q2r_6)] [])) := fun t k => P18 t (st19 _ k)
  have F20 : Exa Z h19 q2r_0 "com/example/penelope/penelope/program/Move" := F14.wr W19
  have F21 : Fld Z h4 q2r_0 "com/example/penelope/penelope/program/Move" "transition" "Lcom/example/penelope/penelope/program/Transition;" u2r_q2r_0_transition := F_q2r_0_transition.other W4 (Or.inr (slot_ne (Or.inr (hw _ (List.mem_of_getElem? (i := 21) rfl))) (Or.inr (hw _ (List.mem_of_getElem? (i := 13) rfl))) (by decide) (t := (.object "com/example/penelope/penelope/program/Transition")) (t' := .int) (by decide) (by decide)))
  have F22 : Fld Z h8 q2r_0 "com/example/penelope/penelope/program/Move" "transition" "Lcom/example/penelope/penelope/program/Transition;" u2r_q2r_0_transition := F21.other W8 (Or.inr (slot_ne (Or.inr (hw _ (List.mem_of_getElem? (i := 21) rfl))) (Or.inr (hw _ (List.mem_of_getElem? (i := 15) rfl))) (by decide) (t := (.object "com/example/penelope/penelope/program/Transition")) (t' := .int) (by decide) (by decide)))
  have F23 : Fld Z h13 q2r_0 "com/example/penelope/penelope/program/Move" "transition" "Lcom/example/penelope/penelope/program/Transition;" u2r_q2r_0_transition := F22.other W13 (Or.inr (slot_ne (Or.inr (hw _ (List.mem_of_getElem? (i := 21) rfl))) (Or.inr (hw _ (List.mem_of_getElem? (i := 17) rfl))) (by decide) (t := (.object "com/example/penelope/penelope/program/Transition")) (t' := (.object "com/example/penelope/penelope/program/ProcessType")) (by decide) (by decide)))
  have F24 : Fld Z h19 q2r_0 "com/example/penelope/penelope/program/Move" "transition" "Lcom/example/penelope/penelope/program/Transition;" u2r_q2r_0_transition := F23.other W19 (Or.inr (slot_ne (Or.inr (hw _ (List.mem_of_getElem? (i := 21) rfl))) (Or.inr (hw _ (List.mem_of_getElem? (i := 19) rfl))) (by decide) (t := (.object "com/example/penelope/penelope/program/Transition")) (t' := .int) (by decide) (by decide)))
  have P25 : own_Go p e below S0 (T19.setTop (mkF m 28 #[.val (.ref q2r_0), .val (.int q2r_1), .val (.int q2r_2), .val .null, .val (.int q2r_4), .val .null, .val (.ref q2r_6)] [.null, (.ref q2r_0)])) := fun t k => P19 t (by
    show Steps p.tables e below (T19.setTop (mkF m 25 #[.val (.ref q2r_0), .val (.int q2r_1), .val (.int q2r_2), .val .null, .val (.int q2r_4), .val .null, .val (.ref q2r_6)] [])) t
    refine XS.aloadN X19.here hx rfl (hb hby d2_25) rfl rfl ?_
    refine XS.aload X19.here hx rfl (hb hby d2_26) rfl rfl ?_
    show Steps p.tables e below (T19.setTop (mkF m 28 #[.val (.ref q2r_0), .val (.int q2r_1), .val (.int q2r_2), .val .null, .val (.int q2r_4), .val .null, .val (.ref q2r_6)] [.null, (.ref q2r_0)])) t
    exact k)
  obtain ⟨T26, h26, X26, e26, W26, st26⟩ := putF X19 hx hZ hown (host := "") (Or.inl (hw _ (List.mem_of_getElem? (i := 20) rfl))) Via.refl e19 F24 F20 (Or.inr ⟨(hw _ (List.mem_of_getElem? (i := 21) rfl)), rfl, hnm⟩) (hw _ (List.mem_of_getElem? (i := 1) rfl)) (ty := (.object "com/example/penelope/penelope/program/Transition")) (by decide) rfl rfl (g := (mkF m 28 #[.val (.ref q2r_0), .val (.int q2r_1), .val (.int q2r_2), .val .null, .val (.int q2r_4), .val .null, .val (.ref q2r_6)] [.null, (.ref q2r_0)])) rfl rfl (hb hby d2_28)
  have K26 : Keep h0 h26 [q2r_0] := K19.wr W26 (Or.inl (by simp))
  have N26 := Fr.snoc X26 N19 g_q2r_0
  have F26w : Fld Z h26 q2r_0 "com/example/penelope/penelope/program/Move" "transition" "Lcom/example/penelope/penelope/program/Transition;" .null := F24.same W26
  have P26 : own_Go p e below S0 (T26.setTop (mkF m 31 #[.val (.ref q2r_0), .val (.int q2r_1), .val (.int q2r_2), .val .null, .val (.int q2r_4), .val .null, .val (.ref q2r_6)] [])) := fun t k => P25 t (st26 _ k)
  have F27 : Exa Z h26 q2r_0 "com/example/penelope/penelope/program/Move" := F20.wr W26
  have F28 : Fld Z h4 q2r_0 "com/example/penelope/penelope/program/Move" "receiver" "Lcom/example/penelope/penelope/program/Move;" u2r_q2r_0_receiver := F_q2r_0_receiver.other W4 (Or.inr (slot_ne (Or.inr (hw _ (List.mem_of_getElem? (i := 23) rfl))) (Or.inr (hw _ (List.mem_of_getElem? (i := 13) rfl))) (by decide) (t := (.object "com/example/penelope/penelope/program/Move")) (t' := .int) (by decide) (by decide)))
  have F29 : Fld Z h8 q2r_0 "com/example/penelope/penelope/program/Move" "receiver" "Lcom/example/penelope/penelope/program/Move;" u2r_q2r_0_receiver := F28.other W8 (Or.inr (slot_ne (Or.inr (hw _ (List.mem_of_getElem? (i := 23) rfl))) (Or.inr (hw _ (List.mem_of_getElem? (i := 15) rfl))) (by decide) (t := (.object "com/example/penelope/penelope/program/Move")) (t' := .int) (by decide) (by decide)))
  have F30 : Fld Z h13 q2r_0 "com/example/penelope/penelope/program/Move" "receiver" "Lcom/example/penelope/penelope/program/Move;" u2r_q2r_0_receiver := F29.other W13 (Or.inr (slot_ne (Or.inr (hw _ (List.mem_of_getElem? (i := 23) rfl))) (Or.inr (hw _ (List.mem_of_getElem? (i := 17) rfl))) (by decide) (t := (.object "com/example/penelope/penelope/program/Move")) (t' := (.object "com/example/penelope/penelope/program/ProcessType")) (by decide) (by decide)))
  have F31 : Fld Z h19 q2r_0 "com/example/penelope/penelope/program/Move" "receiver" "Lcom/example/penelope/penelope/program/Move;" u2r_q2r_0_receiver := F30.other W19 (Or.inr (slot_ne (Or.inr (hw _ (List.mem_of_getElem? (i := 23) rfl))) (Or.inr (hw _ (List.mem_of_getElem? (i := 19) rfl))) (by decide) (t := (.object "com/example/penelope/penelope/program/Move")) (t' := .int) (by decide) (by decide)))
  have F32 : Fld Z h26 q2r_0 "com/example/penelope/penelope/program/Move" "receiver" "Lcom/example/penelope/penelope/program/Move;" u2r_q2r_0_receiver := F31.other W26 (Or.inr (slot_ne (Or.inr (hw _ (List.mem_of_getElem? (i := 23) rfl))) (Or.inr (hw _ (List.mem_of_getElem? (i := 21) rfl))) (by decide) (t := (.object "com/example/penelope/penelope/program/Move")) (t' := (.object "com/example/penelope/penelope/program/Transition")) (by decide) (by decide)))
  have P33 : own_Go p e below S0 (T26.setTop (mkF m 34 #[.val (.ref q2r_0), .val (.int q2r_1), .val (.int q2r_2), .val .null, .val (.int q2r_4), .val .null, .val (.ref q2r_6)] [(.ref q2r_6), (.ref q2r_0)])) := fun t k => P26 t (by
    show Steps p.tables e below (T26.setTop (mkF m 31 #[.val (.ref q2r_0), .val (.int q2r_1), .val (.int q2r_2), .val .null, .val (.int q2r_4), .val .null, .val (.ref q2r_6)] [])) t
    refine XS.aloadN X26.here hx rfl (hb hby d2_31) rfl rfl ?_
    refine XS.aload X26.here hx rfl (hb hby d2_32) rfl rfl ?_
    show Steps p.tables e below (T26.setTop (mkF m 34 #[.val (.ref q2r_0), .val (.int q2r_1), .val (.int q2r_2), .val .null, .val (.int q2r_4), .val .null, .val (.ref q2r_6)] [(.ref q2r_6), (.ref q2r_0)])) t
    exact k)
  obtain ⟨T34, h34, X34, e34, W34, st34⟩ := putF X26 hx hZ hown (host := "") (Or.inl (hw _ (List.mem_of_getElem? (i := 22) rfl))) Via.refl e26 F32 F27 (Or.inr ⟨(hw _ (List.mem_of_getElem? (i := 23) rfl)), rfl, hnm⟩) (hw _ (List.mem_of_getElem? (i := 1) rfl)) (ty := (.object "com/example/penelope/penelope/program/Move")) (by decide) rfl rfl (g := (mkF m 34 #[.val (.ref q2r_0), .val (.int q2r_1), .val (.int q2r_2), .val .null, .val (.int q2r_4), .val .null, .val (.ref q2r_6)] [(.ref q2r_6), (.ref q2r_0)])) rfl rfl (hb hby d2_34)
  have K34 : Keep h0 h34 [q2r_0] := K26.wr W34 (Or.inl (by simp))
  have N34 := Fr.snoc X34 N26 g_q2r_0
  have F34w : Fld Z h34 q2r_0 "com/example/penelope/penelope/program/Move" "receiver" "Lcom/example/penelope/penelope/program/Move;" (.ref q2r_6) := F32.same W34
  have P34 : own_Go p e below S0 (T34.setTop (mkF m 37 #[.val (.ref q2r_0), .val (.int q2r_1), .val (.int q2r_2), .val .null, .val (.int q2r_4), .val .null, .val (.ref q2r_6)] [])) := fun t k => P33 t (st34 _ k)
  have F35 : Fld Z h8 q2r_0 "com/example/penelope/penelope/program/Move" "pid" "I" (.int q2r_1) := F4w.other W8 (Or.inr (slot_ne (Or.inr (hw _ (List.mem_of_getElem? (i := 13) rfl))) (Or.inr (hw _ (List.mem_of_getElem? (i := 15) rfl))) (by decide) (t := .int) (t' := .int) (by decide) (by decide)))
  have F36 : Fld Z h13 q2r_0 "com/example/penelope/penelope/program/Move" "pid" "I" (.int q2r_1) := F35.other W13 (Or.inr (slot_ne (Or.inr (hw _ (List.mem_of_getElem? (i := 13) rfl))) (Or.inr (hw _ (List.mem_of_getElem? (i := 17) rfl))) (by decide) (t := .int) (t' := (.object "com/example/penelope/penelope/program/ProcessType")) (by decide) (by decide)))
  have F37 : Fld Z h19 q2r_0 "com/example/penelope/penelope/program/Move" "pid" "I" (.int q2r_1) := F36.other W19 (Or.inr (slot_ne (Or.inr (hw _ (List.mem_of_getElem? (i := 13) rfl))) (Or.inr (hw _ (List.mem_of_getElem? (i := 19) rfl))) (by decide) (t := .int) (t' := .int) (by decide) (by decide)))
  have F38 : Fld Z h26 q2r_0 "com/example/penelope/penelope/program/Move" "pid" "I" (.int q2r_1) := F37.other W26 (Or.inr (slot_ne (Or.inr (hw _ (List.mem_of_getElem? (i := 13) rfl))) (Or.inr (hw _ (List.mem_of_getElem? (i := 21) rfl))) (by decide) (t := .int) (t' := (.object "com/example/penelope/penelope/program/Transition")) (by decide) (by decide)))
  have F39 : Fld Z h34 q2r_0 "com/example/penelope/penelope/program/Move" "pid" "I" (.int q2r_1) := F38.other W34 (Or.inr (slot_ne (Or.inr (hw _ (List.mem_of_getElem? (i := 13) rfl))) (Or.inr (hw _ (List.mem_of_getElem? (i := 23) rfl))) (by decide) (t := .int) (t' := (.object "com/example/penelope/penelope/program/Move")) (by decide) (by decide)))
  have F40 : Fld Z h13 q2r_0 "com/example/penelope/penelope/program/Move" "process" "I" (.int q2r_2) := F8w.other W13 (Or.inr (slot_ne (Or.inr (hw _ (List.mem_of_getElem? (i := 15) rfl))) (Or.inr (hw _ (List.mem_of_getElem? (i := 17) rfl))) (by decide) (t := .int) (t' := (.object "com/example/penelope/penelope/program/ProcessType")) (by decide) (by decide)))
  have F41 : Fld Z h19 q2r_0 "com/example/penelope/penelope/program/Move" "process" "I" (.int q2r_2) := F40.other W19 (Or.inr (slot_ne (Or.inr (hw _ (List.mem_of_getElem? (i := 15) rfl))) (Or.inr (hw _ (List.mem_of_getElem? (i := 19) rfl))) (by decide) (t := .int) (t' := .int) (by decide) (by decide)))
  have F42 : Fld Z h26 q2r_0 "com/example/penelope/penelope/program/Move" "process" "I" (.int q2r_2) := F41.other W26 (Or.inr (slot_ne (Or.inr (hw _ (List.mem_of_getElem? (i := 15) rfl))) (Or.inr (hw _ (List.mem_of_getElem? (i := 21) rfl))) (by decide) (t := .int) (t' := (.object "com/example/penelope/penelope/program/Transition")) (by decide) (by decide)))
  have F43 : Fld Z h34 q2r_0 "com/example/penelope/penelope/program/Move" "process" "I" (.int q2r_2) := F42.other W34 (Or.inr (slot_ne (Or.inr (hw _ (List.mem_of_getElem? (i := 15) rfl))) (Or.inr (hw _ (List.mem_of_getElem? (i := 23) rfl))) (by decide) (t := .int) (t' := (.object "com/example/penelope/penelope/program/Move")) (by decide) (by decide)))
  have F44 : Fld Z h19 q2r_0 "com/example/penelope/penelope/program/Move" "type" "Lcom/example/penelope/penelope/program/ProcessType;" .null := F13w.other W19 (Or.inr (slot_ne (Or.inr (hw _ (List.mem_of_getElem? (i := 17) rfl))) (Or.inr (hw _ (List.mem_of_getElem? (i := 19) rfl))) (by decide) (t := (.object "com/example/penelope/penelope/program/ProcessType")) (t' := .int) (by decide) (by decide)))
  have F45 : Fld Z h26 q2r_0 "com/example/penelope/penelope/program/Move" "type" "Lcom/example/penelope/penelope/program/ProcessType;" .null := F44.other W26 (Or.inr (slot_ne (Or.inr (hw _ (List.mem_of_getElem? (i := 17) rfl))) (Or.inr (hw _ (List.mem_of_getElem? (i := 21) rfl))) (by decide) (t := (.object "com/example/penelope/penelope/program/ProcessType")) (t' := (.object "com/example/penelope/penelope/program/Transition")) (by decide) (by decide)))
  have F46 : Fld Z h34 q2r_0 "com/example/penelope/penelope/program/Move" "type" "Lcom/example/penelope/penelope/program/ProcessType;" .null := F45.other W34 (Or.inr (slot_ne (Or.inr (hw _ (List.mem_of_getElem? (i := 17) rfl))) (Or.inr (hw _ (List.mem_of_getElem? (i := 23) rfl))) (by decide) (t := (.object "com/example/penelope/penelope/program/ProcessType")) (t' := (.object "com/example/penelope/penelope/program/Move")) (by decide) (by decide)))
  have F47 : Fld Z h26 q2r_0 "com/example/penelope/penelope/program/Move" "choice" "I" (.int q2r_4) := F19w.other W26 (Or.inr (slot_ne (Or.inr (hw _ (List.mem_of_getElem? (i := 19) rfl))) (Or.inr (hw _ (List.mem_of_getElem? (i := 21) rfl))) (by decide) (t := .int) (t' := (.object "com/example/penelope/penelope/program/Transition")) (by decide) (by decide)))
  have F48 : Fld Z h34 q2r_0 "com/example/penelope/penelope/program/Move" "choice" "I" (.int q2r_4) := F47.other W34 (Or.inr (slot_ne (Or.inr (hw _ (List.mem_of_getElem? (i := 19) rfl))) (Or.inr (hw _ (List.mem_of_getElem? (i := 23) rfl))) (by decide) (t := .int) (t' := (.object "com/example/penelope/penelope/program/Move")) (by decide) (by decide)))
  have F49 : Fld Z h34 q2r_0 "com/example/penelope/penelope/program/Move" "transition" "Lcom/example/penelope/penelope/program/Transition;" .null := F26w.other W34 (Or.inr (slot_ne (Or.inr (hw _ (List.mem_of_getElem? (i := 21) rfl))) (Or.inr (hw _ (List.mem_of_getElem? (i := 23) rfl))) (by decide) (t := (.object "com/example/penelope/penelope/program/Transition")) (t' := (.object "com/example/penelope/penelope/program/Move")) (by decide) (by decide)))
  obtain ⟨fs, hr, hrun, hended, hW, hsame⟩ := X34.leave (v := none) (fun _ => rfl)
  refine ⟨_, _, own_from hS0 (P34 _ ?_), hrun, hended, _, _, rfl, ?_, ⟨_, rfl⟩, hW, hsame.mono (by decide) (by decide)⟩
  · show Steps p.tables e below (T34.setTop (mkF m 37 #[.val (.ref q2r_0), .val (.int q2r_1), .val (.int q2r_2), .val .null, .val (.int q2r_4), .val .null, .val (.ref q2r_6)] [])) _
    exact X34.returnOut hx Bd.returns (hb hby d2_37) hr
  · show Q2r Z q2r_0 q2r_1 q2r_2 q2r_4 q2r_6 u2r_q2r_0_pid u2r_q2r_0_process u2r_q2r_0_type u2r_q2r_0_choice u2r_q2r_0_transition u2r_q2r_0_receiver h0 n0 _ T34.heap _
    rw [e34]
    exact ⟨rfl, N34, K34, F39, F43, F46, F48, F49, F34w⟩
theorem pd_0 : parseMethodDescriptor "(IILcom/example/penelope/penelope/program/ProcessType;ILcom/example/penelope/penelope/program/Transition;Lcom/example/penelope/penelope/program/Move;)V" = some ⟨[.int, .int, (.object "com/example/penelope/penelope/program/ProcessType"), .int, (.object "com/example/penelope/penelope/program/Transition"), (.object "com/example/penelope/penelope/program/Move")], none⟩ := by decide +kernel
theorem d1_0 : decode prog_94_method_2_code 0 = .ok (.aload_n 0, 1) := by decide +kernel
theorem d1_1 : decode prog_94_method_2_code 1 = .ok (.iconst (-1), 1) := by decide +kernel
theorem d1_2 : decode prog_94_method_2_code 2 = .ok (.iconst (-1), 1) := by decide +kernel
theorem d1_3 : decode prog_94_method_2_code 3 = .ok (.aload_n 1, 1) := by decide +kernel
theorem d1_4 : decode prog_94_method_2_code 4 = .ok (.iload_n 2, 1) := by decide +kernel
theorem d1_5 : decode prog_94_method_2_code 5 = .ok (.aload_n 3, 1) := by decide +kernel
theorem d1_6 : decode prog_94_method_2_code 6 = .ok (.aconst_null, 1) := by decide +kernel
theorem d1_7 : decode prog_94_method_2_code 7 = .ok (.invokespecial 1, 3) := by decide +kernel
theorem d1_10 : decode prog_94_method_2_code 10 = .ok (.return_, 1) := by decide +kernel
theorem ef_1 (m : MethodId) (q1_0 : Addr) (q1_2 : Int32) : entryFrame m #[(.ref q1_0), .null, (.int q1_2), .null] 4 = mkF m 0 #[.val (.ref q1_0), .val .null, .val (.int q1_2), .val .null] [] := by first | (simp [entryFrame, mkF, argsToLocals, Value.category]; done) | rfl
def Q1 (Z : State) (q1_0 : Addr) (q1_2 : Int32) (u1_q1_0_pid : Value) (u1_q1_0_process : Value) (u1_q1_0_type : Value) (u1_q1_0_choice : Value) (u1_q1_0_transition : Value) (u1_q1_0_receiver : Value) (h0 : Heap) (n0 : Nat) (v : Option Value) (h : Heap) (L : List Loc) : Prop := v = none ∧ Fr n0 L ∧ Keep h0 h [q1_0] ∧ Fld Z h q1_0 "com/example/penelope/penelope/program/Move" "pid" "I" (.int (-1 : Int32)) ∧ Fld Z h q1_0 "com/example/penelope/penelope/program/Move" "process" "I" (.int (-1 : Int32)) ∧ Fld Z h q1_0 "com/example/penelope/penelope/program/Move" "type" "Lcom/example/penelope/penelope/program/ProcessType;" .null ∧ Fld Z h q1_0 "com/example/penelope/penelope/program/Move" "choice" "I" (.int q1_2) ∧ Fld Z h q1_0 "com/example/penelope/penelope/program/Move" "transition" "Lcom/example/penelope/penelope/program/Transition;" .null ∧ Fld Z h q1_0 "com/example/penelope/penelope/program/Move" "receiver" "Lcom/example/penelope/penelope/program/Move;" .null
set_option maxRecDepth 65536 in
set_option maxHeartbeats 40000000 in
theorem rm1 (l : Launch) (Z : State) (a0 : Array Value) (hw : ∀ d ∈ tables_1, d.before a0 Z = true) (ws : List Jvm.Cond) (q1_0 : Addr) (q1_2 : Int32) (u1_q1_0_pid : Value) (u1_q1_0_process : Value) (u1_q1_0_type : Value) (u1_q1_0_choice : Value) (u1_q1_0_transition : Value) (u1_q1_0_receiver : Value) (h0 : Heap) (n0 : Nat) (Z0 : n0 ≤ h0.size) (E_q1_0 : Exa Z h0 q1_0 "com/example/penelope/penelope/program/Move") (F_q1_0_pid : Fld Z h0 q1_0 "com/example/penelope/penelope/program/Move" "pid" "I" u1_q1_0_pid) (g_q1_0 : n0 ≤ q1_0) (F_q1_0_process : Fld Z h0 q1_0 "com/example/penelope/penelope/program/Move" "process" "I" u1_q1_0_process) (F_q1_0_type : Fld Z h0 q1_0 "com/example/penelope/penelope/program/Move" "type" "Lcom/example/penelope/penelope/program/ProcessType;" u1_q1_0_type) (F_q1_0_choice : Fld Z h0 q1_0 "com/example/penelope/penelope/program/Move" "choice" "I" u1_q1_0_choice) (F_q1_0_transition : Fld Z h0 q1_0 "com/example/penelope/penelope/program/Move" "transition" "Lcom/example/penelope/penelope/program/Transition;" u1_q1_0_transition) (F_q1_0_receiver : Fld Z h0 q1_0 "com/example/penelope/penelope/program/Move" "receiver" "Lcom/example/penelope/penelope/program/Move;" u1_q1_0_receiver) :
    MetFree l (⟨"com/example/penelope/penelope/program/Move", "<init>", "(Lcom/example/penelope/penelope/program/ProcessType;ILcom/example/penelope/penelope/program/Transition;)V"⟩ : MethodName) (head1 (Jvm.Cond.code (⟨"com/example/penelope/penelope/program/Move", "<init>", "(Lcom/example/penelope/penelope/program/ProcessType;ILcom/example/penelope/penelope/program/Transition;)V"⟩ : MethodName) prog_94_method_2_code 4 none :: ws) ({ frames := 2, cells := 0, slots := 0, locals := 30 } : Room)) (fun a U => a = #[(.ref q1_0), .null, (.int q1_2), .null] ∧ Z.Warmed39 U.vm ∧ U.heap = h0) (fun _ _ _ _ _ => True) (fun _ U o U' => ∃ v L, o = .returned v ∧ Q1 Z q1_0 q1_2 u1_q1_0_pid u1_q1_0_process u1_q1_0_type u1_q1_0_choice u1_q1_0_transition u1_q1_0_receiver h0 n0 v U'.heap L ∧ FrameEnd U o U' L ({ frames := 2, cells := 0, slots := 0, locals := 30 } : Room).cells ({ frames := 2, cells := 0, slots := 0, locals := 30 } : Room).slots) := by
  refine MetFree.of_bodySF (plainFor_of_name pn_2) hisR ?_
  intro p e s m args below meth c s₁ Bd hml0 hP hK
  obtain ⟨rfl, hZ, hh⟩ := hP
  have hx := Bd.exec
  have hby := Bd.bytes
  have hml : c.maxLocals = 4 := hml0
  have hown : s.vm.findClass "com/example/penelope/penelope/program/Move" = some m.cls := findClass_of_methodNamed Bd.named
  have hnm := (name_of_methodNamed Bd.named Bd.method).1
  have X0 : Stand p l e ({ frames := 2, cells := 0, slots := 0, locals := 30 } : Room) s m #[(.ref q1_0), .null, (.int q1_2), .null] below meth c s₁ [] 0 0 := Stand.of_body Bd
  have e0 : s₁.heap = h0 := by rw [← hh, Bd.state]; rfl
  have N0 := Fr.nil n0
  obtain ⟨S0, hS0⟩ : ∃ z, z = s₁.setTop (entryFrame m #[(.ref q1_0), .null, (.int q1_2), .null] 4) := ⟨_, rfl⟩
  have P0 : own_Go p e below S0 (s₁.setTop (mkF m 0 #[.val (.ref q1_0), .val .null, .val (.int q1_2), .val .null] [])) := fun t k => by rw [hS0]; exact castTop (ef_1 m q1_0 q1_2) k
  have P1 : own_Go p e below S0 (s₁.setTop (mkF m 7 #[.val (.ref q1_0), .val .null, .val (.int q1_2), .val .null] [.null, .null, (.int q1_2), .null, (.int (-1 : Int32)), (.int (-1 : Int32)), (.ref q1_0)])) := fun t k => P0 t (by
    show Steps p.tables e below (s₁.setTop (mkF m 0 #[.val (.ref q1_0), .val .null, .val (.int q1_2), .val .null] [])) t
    refine XS.aloadN X0.here hx rfl (hb hby d1_0) rfl rfl ?_
    refine XS.iconst X0.here hx rfl (hb hby d1_1) ?_
    refine XS.iconst X0.here hx rfl (hb hby d1_2) ?_
    refine XS.aloadN X0.here hx rfl (hb hby d1_3) rfl rfl ?_
    refine XS.iloadN X0.here hx rfl (hb hby d1_4) rfl ?_
    refine XS.aloadN X0.here hx rfl (hb hby d1_5) rfl rfl ?_
    show Steps p.tables e below (s₁.setTop (mkF m 6 #[.val (.ref q1_0), .val .null, .val (.int q1_2), .val .null] [.null, (.int q1_2), .null, (.int (-1 : Int32)), (.int (-1 : Int32)), (.ref q1_0)])) t
    refine XS.aconstNull X0.here hx rfl (hb hby d1_6) ?_
    show Steps p.tables e below (s₁.setTop (mkF m 7 #[.val (.ref q1_0), .val .null, .val (.int q1_2), .val .null] [.null, .null, (.int q1_2), .null, (.int (-1 : Int32)), (.int (-1 : Int32)), (.ref q1_0)])) t
    exact k)
  obtain ⟨_, _, ⟨T2, L2, k2, n2⟩, -, X2, ⟨Lc2, hQ2, l2, y2, z2⟩, st2⟩ := X0.specialBack hx (y := (⟨"com/example/penelope/penelope/program/Move", "<init>", "(IILcom/example/penelope/penelope/program/ProcessType;ILcom/example/penelope/penelope/program/Transition;Lcom/example/penelope/penelope/program/Move;)V"⟩ : MethodName)) rfl hown (mvT hZ (hw _ (List.mem_of_getElem? (i := 6) rfl))) (mvT hZ (hw _ (List.mem_of_getElem? (i := 7) rfl))) (mvT hZ (hw _ (List.mem_of_getElem? (i := 8) rfl))) (by decide) (backOf (W := 0) (rm2n l Z a0 hw [] q1_0 (-1 : Int32) (-1 : Int32) q1_2 u1_q1_0_pid u1_q1_0_process u1_q1_0_type u1_q1_0_choice u1_q1_0_transition u1_q1_0_receiver h0 n0 Z0 E_q1_0 F_q1_0_pid g_q1_0 F_q1_0_process F_q1_0_type F_q1_0_choice F_q1_0_transition F_q1_0_receiver) hZ (hw _ (List.mem_of_getElem? (i := 8) rfl)) (hw _ (List.mem_of_getElem? (i := 2) rfl)) (by decide) (by decide)) (g := (mkF m 7 #[.val (.ref q1_0), .val .null, .val (.int q1_2), .val .null] [.null, .null, (.int q1_2), .null, (.int (-1 : Int32)), (.int (-1 : Int32)), (.ref q1_0)])) rfl (by rw [hml]; rfl) (Steps.refl _) (a := q1_0) (argsL := [(.int (-1 : Int32)), (.int (-1 : Int32)), .null, (.int q1_2), .null, .null]) (rest := []) (lenOf pd_0 rfl) rfl (by show 2 * 0 + _ ≤ _; exact Nat.le_of_eq rfl) (hb hby d1_7) (fun _ _ => ⟨rfl, e0, (by decide : 0 + 0 ≤ _), (by decide : 0 + 0 ≤ _)⟩)
  dsimp only [Pt.U, Pt.locs, Pt.cells, Pt.slots] at X2 l2 y2 z2 st2 hQ2
  subst l2 y2 z2
  obtain ⟨rfl, N2q, Kc2, F2_0, F2_1, F2_2, F2_3, F2_4, F2_5⟩ := hQ2
  have N2 := Fr.app N0 N2q
  have K2 : Keep h0 T2.heap [q1_0] := Keep.trans (Keep.refl h0 [q1_0]) Kc2 (allS (Or.inl (by simp)) all0)
  have P2 : own_Go p e below S0 (T2.setTop (mkF m 10 #[.val (.ref q1_0), .val .null, .val (.int q1_2), .val .null] [])) := fun t k => P1 t (st2.trans k)
  obtain ⟨fs, hr, hrun, hended, hW, hsame⟩ := X2.leave (v := none) (fun _ => rfl)
  refine ⟨_, _, own_from hS0 (P2 _ ?_), hrun, hended, _, _, rfl, ?_, ⟨_, rfl⟩, hW, hsame.mono (by decide) (by decide)⟩
  · show Steps p.tables e below (T2.setTop (mkF m 10 #[.val (.ref q1_0), .val .null, .val (.int q1_2), .val .null] [])) _
    exact X2.returnOut hx Bd.returns (hb hby d1_10) hr
  · show Q1 Z q1_0 q1_2 u1_q1_0_pid u1_q1_0_process u1_q1_0_type u1_q1_0_choice u1_q1_0_transition u1_q1_0_receiver h0 n0 _ T2.heap _
    exact ⟨rfl, N2, K2, F2_0, F2_1, F2_2, F2_3, F2_4, F2_5⟩
theorem d4_0 : decode prog_94_method_1_code 0 = .ok (.aload_n 0, 1) := by decide +kernel
theorem d4_1 : decode prog_94_method_1_code 1 = .ok (.iload_n 1, 1) := by decide +kernel
theorem d4_2 : decode prog_94_method_1_code 2 = .ok (.iload_n 2, 1) := by decide +kernel
theorem d4_3 : decode prog_94_method_1_code 3 = .ok (.aload_n 3, 1) := by decide +kernel
theorem d4_4 : decode prog_94_method_1_code 4 = .ok (.iload 4, 2) := by decide +kernel
theorem d4_6 : decode prog_94_method_1_code 6 = .ok (.aload 5, 2) := by decide +kernel
theorem d4_8 : decode prog_94_method_1_code 8 = .ok (.aconst_null, 1) := by decide +kernel
theorem d4_9 : decode prog_94_method_1_code 9 = .ok (.invokespecial 1, 3) := by decide +kernel
theorem d4_12 : decode prog_94_method_1_code 12 = .ok (.return_, 1) := by decide +kernel
theorem ef_4 (m : MethodId) (q4_0 : Addr) (q4_1 : Int32) (q4_2 : Int32) (q4_4 : Int32) : entryFrame m #[(.ref q4_0), (.int q4_1), (.int q4_2), .null, (.int q4_4), .null] 6 = mkF m 0 #[.val (.ref q4_0), .val (.int q4_1), .val (.int q4_2), .val .null, .val (.int q4_4), .val .null] [] := by first | (simp [entryFrame, mkF, argsToLocals, Value.category]; done) | rfl
def Q4 (Z : State) (q4_0 : Addr) (q4_1 : Int32) (q4_2 : Int32) (q4_4 : Int32) (u4_q4_0_pid : Value) (u4_q4_0_process : Value) (u4_q4_0_type : Value) (u4_q4_0_choice : Value) (u4_q4_0_transition : Value) (u4_q4_0_receiver : Value) (h0 : Heap) (n0 : Nat) (v : Option Value) (h : Heap) (L : List Loc) : Prop := v = none ∧ Fr n0 L ∧ Keep h0 h [q4_0] ∧ Fld Z h q4_0 "com/example/penelope/penelope/program/Move" "pid" "I" (.int q4_1) ∧ Fld Z h q4_0 "com/example/penelope/penelope/program/Move" "process" "I" (.int q4_2) ∧ Fld Z h q4_0 "com/example/penelope/penelope/program/Move" "type" "Lcom/example/penelope/penelope/program/ProcessType;" .null ∧ Fld Z h q4_0 "com/example/penelope/penelope/program/Move" "choice" "I" (.int q4_4) ∧ Fld Z h q4_0 "com/example/penelope/penelope/program/Move" "transition" "Lcom/example/penelope/penelope/program/Transition;" .null ∧ Fld Z h q4_0 "com/example/penelope/penelope/program/Move" "receiver" "Lcom/example/penelope/penelope/program/Move;" .null
set_option maxRecDepth 65536 in
set_option maxHeartbeats 40000000 in
theorem rm4 (l : Launch) (Z : State) (a0 : Array Value) (hw : ∀ d ∈ tables_1, d.before a0 Z = true) (ws : List Jvm.Cond) (q4_0 : Addr) (q4_1 : Int32) (q4_2 : Int32) (q4_4 : Int32) (u4_q4_0_pid : Value) (u4_q4_0_process : Value) (u4_q4_0_type : Value) (u4_q4_0_choice : Value) (u4_q4_0_transition : Value) (u4_q4_0_receiver : Value) (h0 : Heap) (n0 : Nat) (Z0 : n0 ≤ h0.size) (E_q4_0 : Exa Z h0 q4_0 "com/example/penelope/penelope/program/Move") (F_q4_0_pid : Fld Z h0 q4_0 "com/example/penelope/penelope/program/Move" "pid" "I" u4_q4_0_pid) (g_q4_0 : n0 ≤ q4_0) (F_q4_0_process : Fld Z h0 q4_0 "com/example/penelope/penelope/program/Move" "process" "I" u4_q4_0_process) (F_q4_0_type : Fld Z h0 q4_0 "com/example/penelope/penelope/program/Move" "type" "Lcom/example/penelope/penelope/program/ProcessType;" u4_q4_0_type) (F_q4_0_choice : Fld Z h0 q4_0 "com/example/penelope/penelope/program/Move" "choice" "I" u4_q4_0_choice) (F_q4_0_transition : Fld Z h0 q4_0 "com/example/penelope/penelope/program/Move" "transition" "Lcom/example/penelope/penelope/program/Transition;" u4_q4_0_transition) (F_q4_0_receiver : Fld Z h0 q4_0 "com/example/penelope/penelope/program/Move" "receiver" "Lcom/example/penelope/penelope/program/Move;" u4_q4_0_receiver) :
    MetFree l (⟨"com/example/penelope/penelope/program/Move", "<init>", "(IILcom/example/penelope/penelope/program/ProcessType;ILcom/example/penelope/penelope/program/Transition;)V"⟩ : MethodName) (head1 (Jvm.Cond.code (⟨"com/example/penelope/penelope/program/Move", "<init>", "(IILcom/example/penelope/penelope/program/ProcessType;ILcom/example/penelope/penelope/program/Transition;)V"⟩ : MethodName) prog_94_method_1_code 6 none :: ws) ({ frames := 2, cells := 0, slots := 0, locals := 30 } : Room)) (fun a U => a = #[(.ref q4_0), (.int q4_1), (.int q4_2), .null, (.int q4_4), .null] ∧ Z.Warmed39 U.vm ∧ U.heap = h0) (fun _ _ _ _ _ => True) (fun _ U o U' => ∃ v L, o = .returned v ∧ Q4 Z q4_0 q4_1 q4_2 q4_4 u4_q4_0_pid u4_q4_0_process u4_q4_0_type u4_q4_0_choice u4_q4_0_transition u4_q4_0_receiver h0 n0 v U'.heap L ∧ FrameEnd U o U' L ({ frames := 2, cells := 0, slots := 0, locals := 30 } : Room).cells ({ frames := 2, cells := 0, slots := 0, locals := 30 } : Room).slots) := by
  refine MetFree.of_bodySF (plainFor_of_name pn_2) hisR ?_
  intro p e s m args below meth c s₁ Bd hml0 hP hK
  obtain ⟨rfl, hZ, hh⟩ := hP
  have hx := Bd.exec
  have hby := Bd.bytes
  have hml : c.maxLocals = 6 := hml0
  have hown : s.vm.findClass "com/example/penelope/penelope/program/Move" = some m.cls := findClass_of_methodNamed Bd.named
  have hnm := (name_of_methodNamed Bd.named Bd.method).1
  have X0 : Stand p l e ({ frames := 2, cells := 0, slots := 0, locals := 30 } : Room) s m #[(.ref q4_0), (.int q4_1), (.int q4_2), .null, (.int q4_4), .null] below meth c s₁ [] 0 0 := Stand.of_body Bd
  have e0 : s₁.heap = h0 := by rw [← hh, Bd.state]; rfl
  have N0 := Fr.nil n0
  obtain ⟨S0, hS0⟩ : ∃ z, z = s₁.setTop (entryFrame m #[(.ref q4_0), (.int q4_1), (.int q4_2), .null, (.int q4_4), .null] 6) := ⟨_, rfl⟩
  have P0 : own_Go p e below S0 (s₁.setTop (mkF m 0 #[.val (.ref q4_0), .val (.int q4_1), .val (.int q4_2), .val .null, .val (.int q4_4), .val .null] [])) := fun t k => by rw [hS0]; exact castTop (ef_4 m q4_0 q4_1 q4_2 q4_4) k
  have P1 : own_Go p e below S0 (s₁.setTop (mkF m 9 #[.val (.ref q4_0), .val (.int q4_1), .val (.int q4_2), .val .null, .val (.int q4_4), .val .null] [.null, .null, (.int q4_4), .null, (.int q4_2), (.int q4_1), (.ref q4_0)])) := fun t k => P0 t (by
    show Steps p.tables e below (s₁.setTop (mkF m 0 #[.val (.ref q4_0), .val (.int q4_1), .val (.int q4_2), .val .null, .val (.int q4_4), .val .null] [])) t
    refine XS.aloadN X0.here hx rfl (hb hby d4_0) rfl rfl ?_
    refine XS.iloadN X0.here hx rfl (hb hby d4_1) rfl ?_
    refine XS.iloadN X0.here hx rfl (hb hby d4_2) rfl ?_
    refine XS.aloadN X0.here hx rfl (hb hby d4_3) rfl rfl ?_
    refine XS.iload X0.here hx rfl (hb hby d4_4) rfl ?_
    refine XS.aload X0.here hx rfl (hb hby d4_6) rfl rfl ?_
    show Steps p.tables e below (s₁.setTop (mkF m 8 #[.val (.ref q4_0), .val (.int q4_1), .val (.int q4_2), .val .null, .val (.int q4_4), .val .null] [.null, (.int q4_4), .null, (.int q4_2), (.int q4_1), (.ref q4_0)])) t
    refine XS.aconstNull X0.here hx rfl (hb hby d4_8) ?_
    show Steps p.tables e below (s₁.setTop (mkF m 9 #[.val (.ref q4_0), .val (.int q4_1), .val (.int q4_2), .val .null, .val (.int q4_4), .val .null] [.null, .null, (.int q4_4), .null, (.int q4_2), (.int q4_1), (.ref q4_0)])) t
    exact k)
  obtain ⟨_, _, ⟨T2, L2, k2, n2⟩, -, X2, ⟨Lc2, hQ2, l2, y2, z2⟩, st2⟩ := X0.specialBack hx (y := (⟨"com/example/penelope/penelope/program/Move", "<init>", "(IILcom/example/penelope/penelope/program/ProcessType;ILcom/example/penelope/penelope/program/Transition;Lcom/example/penelope/penelope/program/Move;)V"⟩ : MethodName)) rfl hown (mvT hZ (hw _ (List.mem_of_getElem? (i := 6) rfl))) (mvT hZ (hw _ (List.mem_of_getElem? (i := 7) rfl))) (mvT hZ (hw _ (List.mem_of_getElem? (i := 8) rfl))) (by decide) (backOf (W := 0) (rm2n l Z a0 hw [] q4_0 q4_1 q4_2 q4_4 u4_q4_0_pid u4_q4_0_process u4_q4_0_type u4_q4_0_choice u4_q4_0_transition u4_q4_0_receiver h0 n0 Z0 E_q4_0 F_q4_0_pid g_q4_0 F_q4_0_process F_q4_0_type F_q4_0_choice F_q4_0_transition F_q4_0_receiver) hZ (hw _ (List.mem_of_getElem? (i := 8) rfl)) (hw _ (List.mem_of_getElem? (i := 2) rfl)) (by decide) (by decide)) (g := (mkF m 9 #[.val (.ref q4_0), .val (.int q4_1), .val (.int q4_2), .val .null, .val (.int q4_4), .val .null] [.null, .null, (.int q4_4), .null, (.int q4_2), (.int q4_1), (.ref q4_0)])) rfl (by rw [hml]; rfl) (Steps.refl _) (a := q4_0) (argsL := [(.int q4_1), (.int q4_2), .null, (.int q4_4), .null, .null]) (rest := []) (lenOf pd_0 rfl) rfl (by show 2 * 0 + _ ≤ _; exact Nat.le_of_eq rfl) (hb hby d4_9) (fun _ _ => ⟨rfl, e0, (by decide : 0 + 0 ≤ _), (by decide : 0 + 0 ≤ _)⟩)
  dsimp only [Pt.U, Pt.locs, Pt.cells, Pt.slots] at X2 l2 y2 z2 st2 hQ2
  subst l2 y2 z2
  obtain ⟨rfl, N2q, Kc2, F2_0, F2_1, F2_2, F2_3, F2_4, F2_5⟩ := hQ2
  have N2 := Fr.app N0 N2q
  have K2 : Keep h0 T2.heap [q4_0] := Keep.trans (Keep.refl h0 [q4_0]) Kc2 (allS (Or.inl (by simp)) all0)
  have P2 : own_Go p e below S0 (T2.setTop (mkF m 12 #[.val (.ref q4_0), .val (.int q4_1), .val (.int q4_2), .val .null, .val (.int q4_4), .val .null] [])) := fun t k => P1 t (st2.trans k)
  obtain ⟨fs, hr, hrun, hended, hW, hsame⟩ := X2.leave (v := none) (fun _ => rfl)
  refine ⟨_, _, own_from hS0 (P2 _ ?_), hrun, hended, _, _, rfl, ?_, ⟨_, rfl⟩, hW, hsame.mono (by decide) (by decide)⟩
  · show Steps p.tables e below (T2.setTop (mkF m 12 #[.val (.ref q4_0), .val (.int q4_1), .val (.int q4_2), .val .null, .val (.int q4_4), .val .null] [])) _
    exact X2.returnOut hx Bd.returns (hb hby d4_12) hr
  · show Q4 Z q4_0 q4_1 q4_2 q4_4 u4_q4_0_pid u4_q4_0_process u4_q4_0_type u4_q4_0_choice u4_q4_0_transition u4_q4_0_receiver h0 n0 _ T2.heap _
    exact ⟨rfl, N2, K2, F2_0, F2_1, F2_2, F2_3, F2_4, F2_5⟩
theorem d5_0 : decode prog_94_method_3_code 0 = .ok (.aload_n 0, 1) := by decide +kernel
theorem d5_1 : decode prog_94_method_3_code 1 = .ok (.aload_n 1, 1) := by decide +kernel
theorem d5_2 : decode prog_94_method_3_code 2 = .ok (.getfield 7, 3) := by decide +kernel
theorem d5_5 : decode prog_94_method_3_code 5 = .ok (.aload_n 1, 1) := by decide +kernel
theorem d5_6 : decode prog_94_method_3_code 6 = .ok (.getfield 11, 3) := by decide +kernel
theorem d5_9 : decode prog_94_method_3_code 9 = .ok (.aload_n 1, 1) := by decide +kernel
theorem d5_10 : decode prog_94_method_3_code 10 = .ok (.getfield 14, 3) := by decide +kernel
theorem d5_13 : decode prog_94_method_3_code 13 = .ok (.aload_n 1, 1) := by decide +kernel
theorem d5_14 : decode prog_94_method_3_code 14 = .ok (.getfield 18, 3) := by decide +kernel
theorem d5_17 : decode prog_94_method_3_code 17 = .ok (.aload_n 1, 1) := by decide +kernel
theorem d5_18 : decode prog_94_method_3_code 18 = .ok (.getfield 21, 3) := by decide +kernel
theorem d5_21 : decode prog_94_method_3_code 21 = .ok (.aload_n 2, 1) := by decide +kernel
theorem d5_22 : decode prog_94_method_3_code 22 = .ok (.invokespecial 1, 3) := by decide +kernel
theorem d5_25 : decode prog_94_method_3_code 25 = .ok (.return_, 1) := by decide +kernel
theorem ef_5 (m : MethodId) (q5_0 : Addr) (q5_1 : Addr) (q5_2 : Addr) : entryFrame m #[(.ref q5_0), (.ref q5_1), (.ref q5_2)] 3 = mkF m 0 #[.val (.ref q5_0), .val (.ref q5_1), .val (.ref q5_2)] [] := by first | (simp [entryFrame, mkF, argsToLocals, Value.category]; done) | rfl
def Q5 (Z : State) (q5_0 : Addr) (q5_1 : Addr) (q5_2 : Addr) (w5_q5_1_pid : Int32) (w5_q5_1_process : Int32) (w5_q5_1_choice : Int32) (u5_q5_0_pid : Value) (u5_q5_0_process : Value) (u5_q5_0_type : Value) (u5_q5_0_choice : Value) (u5_q5_0_transition : Value) (u5_q5_0_receiver : Value) (h0 : Heap) (n0 : Nat) (v : Option Value) (h : Heap) (L : List Loc) : Prop := v = none ∧ Fr n0 L ∧ Keep h0 h [q5_0] ∧ Fld Z h q5_0 "com/example/penelope/penelope/program/Move" "pid" "I" (.int w5_q5_1_pid) ∧ Fld Z h q5_0 "com/example/penelope/penelope/program/Move" "process" "I" (.int w5_q5_1_process) ∧ Fld Z h q5_0 "com/example/penelope/penelope/program/Move" "type" "Lcom/example/penelope/penelope/program/ProcessType;" .null ∧ Fld Z h q5_0 "com/example/penelope/penelope/program/Move" "choice" "I" (.int w5_q5_1_choice) ∧ Fld Z h q5_0 "com/example/penelope/penelope/program/Move" "transition" "Lcom/example/penelope/penelope/program/Transition;" .null ∧ Fld Z h q5_0 "com/example/penelope/penelope/program/Move" "receiver" "Lcom/example/penelope/penelope/program/Move;" (.ref q5_2)
set_option maxRecDepth 65536 in
set_option maxHeartbeats 40000000 in
theorem rm5 (l : Launch) (Z : State) (a0 : Array Value) (hw : ∀ d ∈ tables_1, d.before a0 Z = true) (ws : List Jvm.Cond) (q5_0 : Addr) (q5_1 : Addr) (q5_2 : Addr) (w5_q5_1_pid : Int32) (w5_q5_1_process : Int32) (w5_q5_1_choice : Int32) (u5_q5_0_pid : Value) (u5_q5_0_process : Value) (u5_q5_0_type : Value) (u5_q5_0_choice : Value) (u5_q5_0_transition : Value) (u5_q5_0_receiver : Value) (h0 : Heap) (n0 : Nat) (Z0 : n0 ≤ h0.size) (F_q5_1_pid : Fld Z h0 q5_1 "com/example/penelope/penelope/program/Move" "pid" "I" (.int w5_q5_1_pid)) (F_q5_1_process : Fld Z h0 q5_1 "com/example/penelope/penelope/program/Move" "process" "I" (.int w5_q5_1_process)) (F_q5_1_type : Fld Z h0 q5_1 "com/example/penelope/penelope/program/Move" "type" "Lcom/example/penelope/penelope/program/ProcessType;" .null) (F_q5_1_choice : Fld Z h0 q5_1 "com/example/penelope/penelope/program/Move" "choice" "I" (.int w5_q5_1_choice)) (F_q5_1_transition : Fld Z h0 q5_1 "com/example/penelope/penelope/program/Move" "transition" "Lcom/example/penelope/penelope/program/Transition;" .null) (E_q5_0 : Exa Z h0 q5_0 "com/example/penelope/penelope/program/Move") (F_q5_0_pid : Fld Z h0 q5_0 "com/example/penelope/penelope/program/Move" "pid" "I" u5_q5_0_pid) (g_q5_0 : n0 ≤ q5_0) (F_q5_0_process : Fld Z h0 q5_0 "com/example/penelope/penelope/program/Move" "process" "I" u5_q5_0_process) (F_q5_0_type : Fld Z h0 q5_0 "com/example/penelope/penelope/program/Move" "type" "Lcom/example/penelope/penelope/program/ProcessType;" u5_q5_0_type) (F_q5_0_choice : Fld Z h0 q5_0 "com/example/penelope/penelope/program/Move" "choice" "I" u5_q5_0_choice) (F_q5_0_transition : Fld Z h0 q5_0 "com/example/penelope/penelope/program/Move" "transition" "Lcom/example/penelope/penelope/program/Transition;" u5_q5_0_transition) (F_q5_0_receiver : Fld Z h0 q5_0 "com/example/penelope/penelope/program/Move" "receiver" "Lcom/example/penelope/penelope/program/Move;" u5_q5_0_receiver) :
    MetFree l (⟨"com/example/penelope/penelope/program/Move", "<init>", "(Lcom/example/penelope/penelope/program/Move;Lcom/example/penelope/penelope/program/Move;)V"⟩ : MethodName) (head1 (Jvm.Cond.code (⟨"com/example/penelope/penelope/program/Move", "<init>", "(Lcom/example/penelope/penelope/program/Move;Lcom/example/penelope/penelope/program/Move;)V"⟩ : MethodName) prog_94_method_3_code 3 none :: ws) ({ frames := 2, cells := 0, slots := 0, locals := 30 } : Room)) (fun a U => a = #[(.ref q5_0), (.ref q5_1), (.ref q5_2)] ∧ Z.Warmed39 U.vm ∧ U.heap = h0) (fun _ _ _ _ _ => True) (fun _ U o U' => ∃ v L, o = .returned v ∧ Q5 Z q5_0 q5_1 q5_2 w5_q5_1_pid w5_q5_1_process w5_q5_1_choice u5_q5_0_pid u5_q5_0_process u5_q5_0_type u5_q5_0_choice u5_q5_0_transition u5_q5_0_receiver h0 n0 v U'.heap L ∧ FrameEnd U o U' L ({ frames := 2, cells := 0, slots := 0, locals := 30 } : Room).cells ({ frames := 2, cells := 0, slots := 0, locals := 30 } : Room).slots) := by
  refine MetFree.of_bodySF (plainFor_of_name pn_2) hisR ?_
  intro p e s m args below meth c s₁ Bd hml0 hP hK
  obtain ⟨rfl, hZ, hh⟩ := hP
  have hx := Bd.exec
  have hby := Bd.bytes
  have hml : c.maxLocals = 3 := hml0
  have hown : s.vm.findClass "com/example/penelope/penelope/program/Move" = some m.cls := findClass_of_methodNamed Bd.named
  have hnm := (name_of_methodNamed Bd.named Bd.method).1
  have X0 : Stand p l e ({ frames := 2, cells := 0, slots := 0, locals := 30 } : Room) s m #[(.ref q5_0), (.ref q5_1), (.ref q5_2)] below meth c s₁ [] 0 0 := Stand.of_body Bd
  have e0 : s₁.heap = h0 := by rw [← hh, Bd.state]; rfl
  have N0 := Fr.nil n0
  obtain ⟨S0, hS0⟩ : ∃ z, z = s₁.setTop (entryFrame m #[(.ref q5_0), (.ref q5_1), (.ref q5_2)] 3) := ⟨_, rfl⟩
  have P0 : own_Go p e below S0 (s₁.setTop (mkF m 0 #[.val (.ref q5_0), .val (.ref q5_1), .val (.ref q5_2)] [])) := fun t k => by rw [hS0]; exact castTop (ef_5 m q5_0 q5_1 q5_2) k
  have P1 : own_Go p e below S0 (s₁.setTop (mkF m 2 #[.val (.ref q5_0), .val (.ref q5_1), .val (.ref q5_2)] [(.ref q5_1), (.ref q5_0)])) := fun t k => P0 t (by
    show Steps p.tables e below (s₁.setTop (mkF m 0 #[.val (.ref q5_0), .val (.ref q5_1), .val (.ref q5_2)] [])) t
    refine XS.aloadN X0.here hx rfl (hb hby d5_0) rfl rfl ?_
    refine XS.aloadN X0.here hx rfl (hb hby d5_1) rfl rfl ?_
    show Steps p.tables e below (s₁.setTop (mkF m 2 #[.val (.ref q5_0), .val (.ref q5_1), .val (.ref q5_2)] [(.ref q5_1), (.ref q5_0)])) t
    exact k)
  obtain ⟨T2, X2, e2, st2⟩ := getF X0 hx hZ hown (host := "") (Or.inl (hw _ (List.mem_of_getElem? (i := 12) rfl))) Via.refl e0 F_q5_1_pid (g := (mkF m 2 #[.val (.ref q5_0), .val (.ref q5_1), .val (.ref q5_2)] [(.ref q5_1), (.ref q5_0)])) rfl rfl (hb hby d5_2)
  have P2 : own_Go p e below S0 (T2.setTop (mkF m 5 #[.val (.ref q5_0), .val (.ref q5_1), .val (.ref q5_2)] [(.int w5_q5_1_pid), (.ref q5_0)])) := fun t k => P1 t (st2 _ k)
  have P3 : own_Go p e below S0 (T2.setTop (mkF m 6 #[.val (.ref q5_0), .val (.ref q5_1), .val (.ref q5_2)] [(.ref q5_1), (.int w5_q5_1_pid), (.ref q5_0)])) := fun t k => P2 t (by
    show Steps p.tables e below (T2.setTop (mkF m 5 #[.val (.ref q5_0), .val (.ref q5_1), .val (.ref q5_2)] [(.int w5_q5_1_pid), (.ref q5_0)])) t
    refine XS.aloadN X2.here hx rfl (hb hby d5_5) rfl rfl ?_
    show Steps p.tables e below (T2.setTop (mkF m 6 #[.val (.ref q5_0), .val (.ref q5_1), .val (.ref q5_2)] [(.ref q5_1), (.int w5_q5_1_pid), (.ref q5_0)])) t
    exact k)
  obtain ⟨T4, X4, e4, st4⟩ := getF X2 hx hZ hown (host := "") (Or.inl (hw _ (List.mem_of_getElem? (i := 14) rfl))) Via.refl e2 F_q5_1_process (g := (mkF m 6 #[.val (.ref q5_0), .val (.ref q5_1), .val (.ref q5_2)] [(.ref q5_1), (.int w5_q5_1_pid), (.ref q5_0)])) rfl rfl (hb hby d5_6)
  have P4 : own_Go p e below S0 (T4.setTop (mkF m 9 #[.val (.ref q5_0), .val (.ref q5_1), .val (.ref q5_2)] [(.int w5_q5_1_process), (.int w5_q5_1_pid), (.ref q5_0)])) := fun t k => P3 t (st4 _ k)
  have P5 : own_Go p e below S0 (T4.setTop (mkF m 10 #[.val (.ref q5_0), .val (.ref q5_1), .val (.ref q5_2)] [(.ref q5_1), (.int w5_q5_1_process), (.int w5_q5_1_pid), (.ref q5_0)])) := fun t k => P4 t (by
    show Steps p.tables e below (T4.setTop (mkF m 9 #[.val (.ref q5_0), .val (.ref q5_1), .val (.ref q5_2)] [(.int w5_q5_1_process), (.int w5_q5_1_pid), (.ref q5_0)])) t
    refine XS.aloadN X4.here hx rfl (hb hby d5_9) rfl rfl ?_
    show Steps p.tables e below (T4.setTop (mkF m 10 #[.val (.ref q5_0), .val (.ref q5_1), .val (.ref q5_2)] [(.ref q5_1), (.int w5_q5_1_process), (.int w5_q5_1_pid), (.ref q5_0)])) t
    exact k)
  obtain ⟨T6, X6, e6, st6⟩ := getF X4 hx hZ hown (host := "") (Or.inl (hw _ (List.mem_of_getElem? (i := 16) rfl))) Via.refl e4 F_q5_1_type (g := (mkF m 10 #[.val (.ref q5_0), .val (.ref q5_1), .val (.ref q5_2)] [(.ref q5_1), (.int w5_q5_1_process), (.int w5_q5_1_pid), (.ref q5_0)])) rfl rfl (hb hby d5_10)
  have P6 : own_Go p e below S0 (T6.setTop (mkF m 13 #[.val (.ref q5_0), .val (.ref q5_1), .val (.ref q5_2)] [.null, (.int w5_q5_1_process), (.int w5_q5_1_pid), (.ref q5_0)])) := fun t k => P5 t (st6 _ k)
  have P7 : own_Go p e below S0 (T6.setTop (mkF m 14 #[.val (.ref q5_0), .val (.ref q5_1), .val (.ref q5_2)] [(.ref q5_1), .null, (.int w5_q5_1_process), (.int w5_q5_1_pid), (.ref q5_0)])) := fun t k => P6 t (by
    show Steps p.tables e below (T6.setTop (mkF m 13 #[.val (.ref q5_0), .val (.ref q5_1), .val (.ref q5_2)] [.null, (.int w5_q5_1_process), (.int w5_q5_1_pid), (.ref q5_0)])) t
    refine XS.aloadN X6.here hx rfl (hb hby d5_13) rfl rfl ?_
    show Steps p.tables e below (T6.setTop (mkF m 14 #[.val (.ref q5_0), .val (.ref q5_1), .val (.ref q5_2)] [(.ref q5_1), .null, (.int w5_q5_1_process), (.int w5_q5_1_pid), (.ref q5_0)])) t
    exact k)
  obtain ⟨T8, X8, e8, st8⟩ := getF X6 hx hZ hown (host := "") (Or.inl (hw _ (List.mem_of_getElem? (i := 18) rfl))) Via.refl e6 F_q5_1_choice (g := (mkF m 14 #[.val (.ref q5_0), .val (.ref q5_1), .val (.ref q5_2)] [(.ref q5_1), .null, (.int w5_q5_1_process), (.int w5_q5_1_pid), (.ref q5_0)])) rfl rfl (hb hby d5_14)
  have P8 : own_Go p e below S0 (T8.setTop (mkF m 17 #[.val (.ref q5_0), .val (.ref q5_1), .val (.ref q5_2)] [(.int w5_q5_1_choice), .null, (.int w5_q5_1_process), (.int w5_q5_1_pid), (.ref q5_0)])) := fun t k => P7 t (st8 _ k)
  have P9 : own_Go p e below S0 (T8.setTop (mkF m 18 #[.val (.ref q5_0), .val (.ref q5_1), .val (.ref q5_2)] [(.ref q5_1), (.int w5_q5_1_choice), .null, (.int w5_q5_1_process), (.int w5_q5_1_pid), (.ref q5_0)])) := fun t k => P8 t (by
    show Steps p.tables e below (T8.setTop (mkF m 17 #[.val (.ref q5_0), .val (.ref q5_1), .val (.ref q5_2)] [(.int w5_q5_1_choice), .null, (.int w5_q5_1_process), (.int w5_q5_1_pid), (.ref q5_0)])) t
    refine XS.aloadN X8.here hx rfl (hb hby d5_17) rfl rfl ?_
    show Steps p.tables e below (T8.setTop (mkF m 18 #[.val (.ref q5_0), .val (.ref q5_1), .val (.ref q5_2)] [(.ref q5_1), (.int w5_q5_1_choice), .null, (.int w5_q5_1_process), (.int w5_q5_1_pid), (.ref q5_0)])) t
    exact k)
  obtain ⟨T10, X10, e10, st10⟩ := getF X8 hx hZ hown (host := "") (Or.inl (hw _ (List.mem_of_getElem? (i := 20) rfl))) Via.refl e8 F_q5_1_transition (g := (mkF m 18 #[.val (.ref q5_0), .val (.ref q5_1), .val (.ref q5_2)] [(.ref q5_1), (.int w5_q5_1_choice), .null, (.int w5_q5_1_process), (.int w5_q5_1_pid), (.ref q5_0)])) rfl rfl (hb hby d5_18)
  have P10 : own_Go p e below S0 (T10.setTop (mkF m 21 #[.val (.ref q5_0), .val (.ref q5_1), .val (.ref q5_2)] [.null, (.int w5_q5_1_choice), .null, (.int w5_q5_1_process), (.int w5_q5_1_pid), (.ref q5_0)])) := fun t k => P9 t (st10 _ k)
  have P11 : own_Go p e below S0 (T10.setTop (mkF m 22 #[.val (.ref q5_0), .val (.ref q5_1), .val (.ref q5_2)] [(.ref q5_2), .null, (.int w5_q5_1_choice), .null, (.int w5_q5_1_process), (.int w5_q5_1_pid), (.ref q5_0)])) := fun t k => P10 t (by
    show Steps p.tables e below (T10.setTop (mkF m 21 #[.val (.ref q5_0), .val (.ref q5_1), .val (.ref q5_2)] [.null, (.int w5_q5_1_choice), .null, (.int w5_q5_1_process), (.int w5_q5_1_pid), (.ref q5_0)])) t
    refine XS.aloadN X10.here hx rfl (hb hby d5_21) rfl rfl ?_
    show Steps p.tables e below (T10.setTop (mkF m 22 #[.val (.ref q5_0), .val (.ref q5_1), .val (.ref q5_2)] [(.ref q5_2), .null, (.int w5_q5_1_choice), .null, (.int w5_q5_1_process), (.int w5_q5_1_pid), (.ref q5_0)])) t
    exact k)
  obtain ⟨_, _, ⟨T12, L12, k12, n12⟩, -, X12, ⟨Lc12, hQ12, l12, y12, z12⟩, st12⟩ := X10.specialBack hx (y := (⟨"com/example/penelope/penelope/program/Move", "<init>", "(IILcom/example/penelope/penelope/program/ProcessType;ILcom/example/penelope/penelope/program/Transition;Lcom/example/penelope/penelope/program/Move;)V"⟩ : MethodName)) rfl hown (mvT hZ (hw _ (List.mem_of_getElem? (i := 6) rfl))) (mvT hZ (hw _ (List.mem_of_getElem? (i := 7) rfl))) (mvT hZ (hw _ (List.mem_of_getElem? (i := 8) rfl))) (by decide) (backOf (W := 0) (rm2r l Z a0 hw [] q5_0 w5_q5_1_pid w5_q5_1_process w5_q5_1_choice q5_2 u5_q5_0_pid u5_q5_0_process u5_q5_0_type u5_q5_0_choice u5_q5_0_transition u5_q5_0_receiver h0 n0 Z0 E_q5_0 F_q5_0_pid g_q5_0 F_q5_0_process F_q5_0_type F_q5_0_choice F_q5_0_transition F_q5_0_receiver) hZ (hw _ (List.mem_of_getElem? (i := 8) rfl)) (hw _ (List.mem_of_getElem? (i := 2) rfl)) (by decide) (by decide)) (g := (mkF m 22 #[.val (.ref q5_0), .val (.ref q5_1), .val (.ref q5_2)] [(.ref q5_2), .null, (.int w5_q5_1_choice), .null, (.int w5_q5_1_process), (.int w5_q5_1_pid), (.ref q5_0)])) rfl (by rw [hml]; rfl) (Steps.refl _) (a := q5_0) (argsL := [(.int w5_q5_1_pid), (.int w5_q5_1_process), .null, (.int w5_q5_1_choice), .null, (.ref q5_2)]) (rest := []) (lenOf pd_0 rfl) rfl (by show 2 * 0 + _ ≤ _; exact Nat.le_of_eq rfl) (hb hby d5_22) (fun _ _ => ⟨rfl, e10, (by decide : 0 + 0 ≤ _), (by decide : 0 + 0 ≤ _)⟩)
  dsimp only [Pt.U, Pt.locs, Pt.cells, Pt.slots] at X12 l12 y12 z12 st12 hQ12
  subst l12 y12 z12
  obtain ⟨rfl, N12q, Kc12, F12_0, F12_1, F12_2, F12_3, F12_4, F12_5⟩ := hQ12
  have N12 := Fr.app N0 N12q
  have K12 : Keep h0 T12.heap [q5_0] := Keep.trans (Keep.refl h0 [q5_0]) Kc12 (allS (Or.inl (by simp)) all0)
  have P12 : own_Go p e below S0 (T12.setTop (mkF m 25 #[.val (.ref q5_0), .val (.ref q5_1), .val (.ref q5_2)] [])) := fun t k => P11 t (st12.trans k)
  obtain ⟨fs, hr, hrun, hended, hW, hsame⟩ := X12.leave (v := none) (fun _ => rfl)
  refine ⟨_, _, own_from hS0 (P12 _ ?_), hrun, hended, _, _, rfl, ?_, ⟨_, rfl⟩, hW, hsame.mono (by decide) (by decide)⟩
  · show Steps p.tables e below (T12.setTop (mkF m 25 #[.val (.ref q5_0), .val (.ref q5_1), .val (.ref q5_2)] [])) _
    exact X12.returnOut hx Bd.returns (hb hby d5_25) hr
  · show Q5 Z q5_0 q5_1 q5_2 w5_q5_1_pid w5_q5_1_process w5_q5_1_choice u5_q5_0_pid u5_q5_0_process u5_q5_0_type u5_q5_0_choice u5_q5_0_transition u5_q5_0_receiver h0 n0 _ T12.heap _
    exact ⟨rfl, N12, K12, F12_0, F12_1, F12_2, F12_3, F12_4, F12_5⟩
theorem d6_0 : decode prog_94_method_6_code 0 = .ok (.aload_n 0, 1) := by decide +kernel
theorem d6_1 : decode prog_94_method_6_code 1 = .ok (.getfield 7, 3) := by decide +kernel
theorem d6_4 : decode prog_94_method_6_code 4 = .ok (.iconst (-1), 1) := by decide +kernel
theorem d6_5 : decode prog_94_method_6_code 5 = .ok (.if_icmp .ne 7, 3) := by decide +kernel
theorem d6_8 : decode prog_94_method_6_code 8 = .ok (.iconst 1, 1) := by decide +kernel
theorem d6_9 : decode prog_94_method_6_code 9 = .ok (.goto 4, 3) := by decide +kernel
theorem d6_12 : decode prog_94_method_6_code 12 = .ok (.iconst 0, 1) := by decide +kernel
theorem d6_13 : decode prog_94_method_6_code 13 = .ok (.ireturn, 1) := by decide +kernel
theorem ef_6 (m : MethodId) (q6_0 : Addr) : entryFrame m #[(.ref q6_0)] 1 = mkF m 0 #[.val (.ref q6_0)] [] := by first | (simp [entryFrame, mkF, argsToLocals, Value.category]; done) | rfl
def r6 (w6_q6_0_pid : Int32) : Int32 := (if w6_q6_0_pid = (-1 : Int32) then (1 : Int32) else (0 : Int32))
def Q6 (Z : State) (q6_0 : Addr) (w6_q6_0_pid : Int32) (h0 : Heap) (n0 : Nat) (v : Option Value) (h : Heap) (L : List Loc) : Prop := v = some (.int (r6 w6_q6_0_pid)) ∧ Fr n0 L ∧ h = h0
set_option maxRecDepth 65536 in
set_option maxHeartbeats 40000000 in
theorem rm6 (l : Launch) (Z : State) (a0 : Array Value) (hw : ∀ d ∈ tables_1, d.before a0 Z = true) (ws : List Jvm.Cond) (q6_0 : Addr) (w6_q6_0_pid : Int32) (h0 : Heap) (n0 : Nat) (Z0 : n0 ≤ h0.size) (F_q6_0_pid : Fld Z h0 q6_0 "com/example/penelope/penelope/program/Move" "pid" "I" (.int w6_q6_0_pid)) :
    MetFree l (⟨"com/example/penelope/penelope/program/Move", "isClaim", "()Z"⟩ : MethodName) (head1 (Jvm.Cond.code (⟨"com/example/penelope/penelope/program/Move", "isClaim", "()Z"⟩ : MethodName) prog_94_method_6_code 1 (some .boolean) :: ws) ({ frames := 0, cells := 0, slots := 0, locals := 0 } : Room)) (fun a U => a = #[(.ref q6_0)] ∧ Z.Warmed39 U.vm ∧ U.heap = h0) (fun _ _ _ _ _ => True) (fun _ U o U' => ∃ v L, o = .returned v ∧ Q6 Z q6_0 w6_q6_0_pid h0 n0 v U'.heap L ∧ FrameEnd U o U' L ({ frames := 0, cells := 0, slots := 0, locals := 0 } : Room).cells ({ frames := 0, cells := 0, slots := 0, locals := 0 } : Room).slots) := by
  refine MetFree.of_bodySF (plainFor_of_name pn_2) hisR ?_
  intro p e s m args below meth c s₁ Bd hml0 hP hK
  obtain ⟨rfl, hZ, hh⟩ := hP
  have hx := Bd.exec
  have hby := Bd.bytes
  have hml : c.maxLocals = 1 := hml0
  have hown : s.vm.findClass "com/example/penelope/penelope/program/Move" = some m.cls := findClass_of_methodNamed Bd.named
  have hnm := (name_of_methodNamed Bd.named Bd.method).1
  have X0 : Stand p l e ({ frames := 0, cells := 0, slots := 0, locals := 0 } : Room) s m #[(.ref q6_0)] below meth c s₁ [] 0 0 := Stand.of_body Bd
  have e0 : s₁.heap = h0 := by rw [← hh, Bd.state]; rfl
  have N0 := Fr.nil n0
  obtain ⟨S0, hS0⟩ : ∃ z, z = s₁.setTop (entryFrame m #[(.ref q6_0)] 1) := ⟨_, rfl⟩
  have P0 : own_Go p e below S0 (s₁.setTop (mkF m 0 #[.val (.ref q6_0)] [])) := fun t k => by rw [hS0]; exact castTop (ef_6 m q6_0) k
  have P1 : own_Go p e below S0 (s₁.setTop (mkF m 1 #[.val (.ref q6_0)] [(.ref q6_0)])) := fun t k => P0 t (by
    show Steps p.tables e below (s₁.setTop (mkF m 0 #[.val (.ref q6_0)] [])) t
    refine XS.aloadN X0.here hx rfl (hb hby d6_0) rfl rfl ?_
    show Steps p.tables e below (s₁.setTop (mkF m 1 #[.val (.ref q6_0)] [(.ref q6_0)])) t
    exact k)
  obtain ⟨T2, X2, e2, st2⟩ := getF X0 hx hZ hown (host := "") (Or.inl (hw _ (List.mem_of_getElem? (i := 12) rfl))) Via.refl e0 F_q6_0_pid (g := (mkF m 1 #[.val (.ref q6_0)] [(.ref q6_0)])) rfl rfl (hb hby d6_1)
  have P2 : own_Go p e below S0 (T2.setTop (mkF m 4 #[.val (.ref q6_0)] [(.int w6_q6_0_pid)])) := fun t k => P1 t (st2 _ k)
  have P3 : own_Go p e below S0 (T2.setTop (mkF m 5 #[.val (.ref q6_0)] [(.int (-1 : Int32)), (.int w6_q6_0_pid)])) := fun t k => P2 t (by
    show Steps p.tables e below (T2.setTop (mkF m 4 #[.val (.ref q6_0)] [(.int w6_q6_0_pid)])) t
    refine XS.iconst X2.here hx rfl (hb hby d6_4) ?_
    show Steps p.tables e below (T2.setTop (mkF m 5 #[.val (.ref q6_0)] [(.int (-1 : Int32)), (.int w6_q6_0_pid)])) t
    exact k)
  by_cases c4 : w6_q6_0_pid = (-1 : Int32)
  · skip
    have P5 : own_Go p e below S0 (T2.setTop (mkF m 13 #[.val (.ref q6_0)] [(.int (1 : Int32))])) := fun t k => P3 t (by
      show Steps p.tables e below (T2.setTop (mkF m 5 #[.val (.ref q6_0)] [(.int (-1 : Int32)), (.int w6_q6_0_pid)])) t
      refine XS.icmpNo X2.here hx rfl (hb hby d6_5) rfl (teq c4).2 ?_
      refine XS.iconst X2.here hx rfl (hb hby d6_8) ?_
      refine XS.goto X2.here hx rfl (pc0 := 9) (pc' := 13) rfl (hb hby d6_9) (by decide) (by decide) ?_
      show Steps p.tables e below (T2.setTop (mkF m 13 #[.val (.ref q6_0)] [(.int (1 : Int32))])) t
      exact k)
    obtain ⟨fs, hr, hrun, hended, hW, hsame⟩ := X2.leave (v := some (.int (1 : Int32))) (fun h => by rw [Bd.returns] at h; cases h)
    refine ⟨_, _, own_from hS0 (P5 _ ?_), hrun, hended, _, _, rfl, ?_, ⟨_, rfl⟩, hW, hsame.mono (by decide) (by decide)⟩
    · show Steps p.tables e below (T2.setTop (mkF m 13 #[.val (.ref q6_0)] [(.int (1 : Int32))])) _
      exact retN X2 hx (t := .boolean) Bd.returns (by simp) (hb hby d6_13) hr
    · show Q6 Z q6_0 w6_q6_0_pid h0 n0 _ T2.heap _
      rw [e2]
      exact ⟨(congrArg (fun z => some (Value.int z)) (Eq.symm (if_pos c4))), N0, rfl⟩
  · skip
    have P6 : own_Go p e below S0 (T2.setTop (mkF m 13 #[.val (.ref q6_0)] [(.int (0 : Int32))])) := fun t k => P3 t (by
      show Steps p.tables e below (T2.setTop (mkF m 5 #[.val (.ref q6_0)] [(.int (-1 : Int32)), (.int w6_q6_0_pid)])) t
      refine XS.icmpYes X2.here hx rfl (pc0 := 5) (pc' := 12) rfl (hb hby d6_5) rfl (feq c4).2 (by decide) (by decide) ?_
      refine XS.iconst X2.here hx rfl (hb hby d6_12) ?_
      show Steps p.tables e below (T2.setTop (mkF m 13 #[.val (.ref q6_0)] [(.int (0 : Int32))])) t
      exact k)
    obtain ⟨fs, hr, hrun, hended, hW, hsame⟩ := X2.leave (v := some (.int (0 : Int32))) (fun h => by rw [Bd.returns] at h; cases h)
    refine ⟨_, _, own_from hS0 (P6 _ ?_), hrun, hended, _, _, rfl, ?_, ⟨_, rfl⟩, hW, hsame.mono (by decide) (by decide)⟩
    · show Steps p.tables e below (T2.setTop (mkF m 13 #[.val (.ref q6_0)] [(.int (0 : Int32))])) _
      exact retN X2 hx (t := .boolean) Bd.returns (by simp) (hb hby d6_13) hr
    · show Q6 Z q6_0 w6_q6_0_pid h0 n0 _ T2.heap _
      rw [e2]
      exact ⟨(congrArg (fun z => some (Value.int z)) (Eq.symm (if_neg c4))), N0, rfl⟩
theorem pd_1 : parseMethodDescriptor "(Lcom/example/penelope/penelope/program/ProcessType;ILcom/example/penelope/penelope/program/Transition;)V" = some ⟨[(.object "com/example/penelope/penelope/program/ProcessType"), .int, (.object "com/example/penelope/penelope/program/Transition")], none⟩ := by decide +kernel
theorem pd_2 : parseMethodDescriptor "(IILcom/example/penelope/penelope/program/ProcessType;ILcom/example/penelope/penelope/program/Transition;)V" = some ⟨[.int, .int, (.object "com/example/penelope/penelope/program/ProcessType"), .int, (.object "com/example/penelope/penelope/program/Transition")], none⟩ := by decide +kernel
theorem pd_3 : parseMethodDescriptor "(Lcom/example/penelope/penelope/program/Move;Lcom/example/penelope/penelope/program/Move;)V" = some ⟨[(.object "com/example/penelope/penelope/program/Move"), (.object "com/example/penelope/penelope/program/Move")], none⟩ := by decide +kernel
theorem pd_4 : parseMethodDescriptor "()Z" = some ⟨[], some .boolean⟩ := by decide +kernel
theorem pn_0 : plainName "com/example/penelope/penelope/program/MoveIsClaimPinLaw" = true := by first | (simp [plainName, overriddenIn]; done) | decide +kernel
theorem ef_0 (m : MethodId) (i0 : Int32) (i1 : Int32) (i2 : Int32) (i3 : Int32) (i4 : Int32) : entryFrame m #[(.int i0), (.int i1), (.int i2), (.int i3), (.int i4)] maxLocals = mkF m 0 #[.val (.int i0), .val (.int i1), .val (.int i2), .val (.int i3), .val (.int i4), .unset, .unset, .unset, .unset, .unset, .unset, .unset, .unset, .unset, .unset, .unset] [] := by first | (simp [entryFrame, mkF, argsToLocals, Value.category, maxLocals]; done) | rfl
def Q0 (Z : State) (i0 : Int32) (i1 : Int32) (i2 : Int32) (i3 : Int32) (i4 : Int32) (h0 : Heap) (n0 : Nat) (v : Option Value) (h : Heap) (L : List Loc) : Prop := v = some (.int 1) ∧ Fr n0 L
set_option maxRecDepth 65536 in
set_option maxHeartbeats 40000000 in
theorem rm0 (l : Launch) (Z : State) (a0 : Array Value) (hw : ∀ d ∈ tables_1, d.before a0 Z = true) (ws : List Jvm.Cond) (i0 : Int32) (i1 : Int32) (i2 : Int32) (i3 : Int32) (i4 : Int32) (h0 : Heap) (n0 : Nat) (Z0 : n0 ≤ h0.size) :
    MetFree l x (head1 (Jvm.Cond.code x code maxLocals ret :: ws) room_1) (fun a U => a = #[(.int i0), (.int i1), (.int i2), (.int i3), (.int i4)] ∧ Z.Warmed39 U.vm ∧ U.heap = h0) (fun _ _ _ _ _ => True) (fun _ U o U' => ∃ v L, o = .returned v ∧ Q0 Z i0 i1 i2 i3 i4 h0 n0 v U'.heap L ∧ FrameEnd U o U' L room_1.cells room_1.slots) := by
  refine MetFree.of_bodySF (plainFor_of_name pn_0) hisR ?_
  intro p e s m args below meth c s₁ Bd hml0 hP hK
  obtain ⟨rfl, hZ, hh⟩ := hP
  have hx := Bd.exec
  have hby := Bd.bytes
  have hml : c.maxLocals = 16 := hml0
  have hown : s.vm.findClass "com/example/penelope/penelope/program/MoveIsClaimPinLaw" = some m.cls := findClass_of_methodNamed Bd.named
  have hnm := (name_of_methodNamed Bd.named Bd.method).1
  have X0 : Stand p l e room_1 s m #[(.int i0), (.int i1), (.int i2), (.int i3), (.int i4)] below meth c s₁ [] 0 0 := Stand.of_body Bd
  have e0 : s₁.heap = h0 := by rw [← hh, Bd.state]; rfl
  have N0 := Fr.nil n0
  obtain ⟨S0, hS0⟩ : ∃ z, z = s₁.setTop (entryFrame m #[(.int i0), (.int i1), (.int i2), (.int i3), (.int i4)] maxLocals) := ⟨_, rfl⟩
  have P0 : own_Go p e below S0 (s₁.setTop (mkF m 0 #[.val (.int i0), .val (.int i1), .val (.int i2), .val (.int i3), .val (.int i4), .unset, .unset, .unset, .unset, .unset, .unset, .unset, .unset, .unset, .unset, .unset] [])) := fun t k => by rw [hS0]; exact castTop (ef_0 m i0 i1 i2 i3 i4) k
  have P1 : own_Go p e below S0 (s₁.setTop (mkF m 3 #[.val (.int i0), .val (.int i1), .val (.int i2), .val (.int i3), .val (.int i4), .unset, .unset, .unset, .unset, .unset, .unset, .unset, .unset, .unset, .unset, .unset] [(.int (i2 &&& (1 : Int32)))])) := fun t k => P0 t (by
    show Steps p.tables e below (s₁.setTop (mkF m 0 #[.val (.int i0), .val (.int i1), .val (.int i2), .val (.int i3), .val (.int i4), .unset, .unset, .unset, .unset, .unset, .unset, .unset, .unset, .unset, .unset, .unset] [])) t
    refine XS.iloadN X0.here hx rfl (hb hby at_0) rfl ?_
    refine XS.iconst X0.here hx rfl (hb hby at_1) ?_
    refine XS.iand X0.here hx rfl (hb hby at_2) rfl ?_
    show Steps p.tables e below (s₁.setTop (mkF m 3 #[.val (.int i0), .val (.int i1), .val (.int i2), .val (.int i3), .val (.int i4), .unset, .unset, .unset, .unset, .unset, .unset, .unset, .unset, .unset, .unset, .unset] [(.int (i2 &&& (1 : Int32)))])) t
    exact k)
  obtain ⟨v5_s0, hv5_s0, P5⟩ : ∃ (v5_s0 : Int32), (v5_s0 = (if (i2 &&& (1 : Int32)) = (0 : Int32) then i0 else (-1 : Int32))) ∧ (own_Go p e below S0 (s₁.setTop (mkF m 11 #[.val (.int i0), .val (.int i1), .val (.int i2), .val (.int i3), .val (.int i4), .unset, .unset, .unset, .unset, .unset, .unset, .unset, .unset, .unset, .unset, .unset] [(.int v5_s0)]))) := by
    by_cases c2 : (i2 &&& (1 : Int32)) = (0 : Int32)
    · skip
      have P3 : own_Go p e below S0 (s₁.setTop (mkF m 11 #[.val (.int i0), .val (.int i1), .val (.int i2), .val (.int i3), .val (.int i4), .unset, .unset, .unset, .unset, .unset, .unset, .unset, .unset, .unset, .unset, .unset] [(.int i0)])) := fun t k => P1 t (by
        show Steps p.tables e below (s₁.setTop (mkF m 3 #[.val (.int i0), .val (.int i1), .val (.int i2), .val (.int i3), .val (.int i4), .unset, .unset, .unset, .unset, .unset, .unset, .unset, .unset, .unset, .unset, .unset] [(.int (i2 &&& (1 : Int32)))])) t
        refine XS.ifYes X0.here hx rfl (pc0 := 3) (pc' := 10) rfl (hb hby at_3) rfl ((if0 _ _).trans (teq c2).1) (by decide) (by decide) ?_
        refine XS.iloadN X0.here hx rfl (hb hby at_10) rfl ?_
        show Steps p.tables e below (s₁.setTop (mkF m 11 #[.val (.int i0), .val (.int i1), .val (.int i2), .val (.int i3), .val (.int i4), .unset, .unset, .unset, .unset, .unset, .unset, .unset, .unset, .unset, .unset, .unset] [(.int i0)])) t
        exact k)
      exact ⟨i0, (Eq.symm (if_pos c2)), P3⟩
    · skip
      have P4 : own_Go p e below S0 (s₁.setTop (mkF m 11 #[.val (.int i0), .val (.int i1), .val (.int i2), .val (.int i3), .val (.int i4), .unset, .unset, .unset, .unset, .unset, .unset, .unset, .unset, .unset, .unset, .unset] [(.int (-1 : Int32))])) := fun t k => P1 t (by
        show Steps p.tables e below (s₁.setTop (mkF m 3 #[.val (.int i0), .val (.int i1), .val (.int i2), .val (.int i3), .val (.int i4), .unset, .unset, .unset, .unset, .unset, .unset, .unset, .unset, .unset, .unset, .unset] [(.int (i2 &&& (1 : Int32)))])) t
        refine XS.ifNo X0.here hx rfl (hb hby at_3) rfl ((if0 _ _).trans (feq c2).1) ?_
        refine XS.iconst X0.here hx rfl (hb hby at_6) ?_
        refine XS.goto X0.here hx rfl (pc0 := 7) (pc' := 11) rfl (hb hby at_7) (by decide) (by decide) ?_
        show Steps p.tables e below (s₁.setTop (mkF m 11 #[.val (.int i0), .val (.int i1), .val (.int i2), .val (.int i3), .val (.int i4), .unset, .unset, .unset, .unset, .unset, .unset, .unset, .unset, .unset, .unset, .unset] [(.int (-1 : Int32))])) t
        exact k)
      exact ⟨(-1 : Int32), (Eq.symm (if_neg c2)), P4⟩
  have P6 : own_Go p e below S0 (s₁.setTop (mkF m 19 #[.val (.int i0), .val (.int i1), .val (.int i2), .val (.int i3), .val (.int i4), .val (.int v5_s0), .val .null, .val .null, .unset, .unset, .unset, .unset, .unset, .unset, .unset, .unset] [])) := fun t k => P5 t (by
    show Steps p.tables e below (s₁.setTop (mkF m 11 #[.val (.int i0), .val (.int i1), .val (.int i2), .val (.int i3), .val (.int i4), .unset, .unset, .unset, .unset, .unset, .unset, .unset, .unset, .unset, .unset, .unset] [(.int v5_s0)])) t
    refine XS.istore X0.here hx rfl (hb hby at_11) rfl (l' := #[.val (.int i0), .val (.int i1), .val (.int i2), .val (.int i3), .val (.int i4), .val (.int v5_s0), .unset, .unset, .unset, .unset, .unset, .unset, .unset, .unset, .unset, .unset]) rfl ?_
    refine XS.aconstNull X0.here hx rfl (hb hby at_13) ?_
    refine XS.astore X0.here hx rfl (hb hby at_14) rfl rfl (l' := #[.val (.int i0), .val (.int i1), .val (.int i2), .val (.int i3), .val (.int i4), .val (.int v5_s0), .val .null, .unset, .unset, .unset, .unset, .unset, .unset, .unset, .unset, .unset]) rfl ?_
    refine XS.aconstNull X0.here hx rfl (hb hby at_16) ?_
    refine XS.astore X0.here hx rfl (hb hby at_17) rfl rfl (l' := #[.val (.int i0), .val (.int i1), .val (.int i2), .val (.int i3), .val (.int i4), .val (.int v5_s0), .val .null, .val .null, .unset, .unset, .unset, .unset, .unset, .unset, .unset, .unset]) rfl ?_
    show Steps p.tables e below (s₁.setTop (mkF m 19 #[.val (.int i0), .val (.int i1), .val (.int i2), .val (.int i3), .val (.int i4), .val (.int v5_s0), .val .null, .val .null, .unset, .unset, .unset, .unset, .unset, .unset, .unset, .unset] [])) t
    exact k)
  obtain ⟨T7, h7, X7, e7, E7, A7, D7, -, st7⟩ := newO X0 hx hZ hown (hw _ (List.mem_of_getElem? (i := 0) rfl)) (hw _ (List.mem_of_getElem? (i := 1) rfl)) (hw _ (List.mem_of_getElem? (i := 2) rfl)) e0 (g := (mkF m 19 #[.val (.int i0), .val (.int i1), .val (.int i2), .val (.int i3), .val (.int i4), .val (.int v5_s0), .val .null, .val .null, .unset, .unset, .unset, .unset, .unset, .unset, .unset, .unset] [])) rfl (hb hby at_19) (by decide) (by decide)
  obtain ⟨b7, g7⟩ : ∃ z, z = h0.size := ⟨_, rfl⟩
  rw [← g7] at A7 D7 st7
  have sz_b7 : h0.size ≤ b7 := Nat.le_of_eq g7.symm
  have g_b7 : n0 ≤ b7 := Nat.le_trans Z0 sz_b7
  have o_b7 : h0.size ≤ b7 := sz_b7
  have K7 : Keep h0 h7 [] := (Keep.refl h0 []).ext E7
  have F7_pid : Fld Z h7 b7 "com/example/penelope/penelope/program/Move" "pid" "I" (.int (0 : Int32)) := D7 (Or.inr (hw _ (List.mem_of_getElem? (i := 13) rfl))) (ty := .int) (by decide)
  have F7_process : Fld Z h7 b7 "com/example/penelope/penelope/program/Move" "process" "I" (.int (0 : Int32)) := D7 (Or.inr (hw _ (List.mem_of_getElem? (i := 15) rfl))) (ty := .int) (by decide)
  have F7_type : Fld Z h7 b7 "com/example/penelope/penelope/program/Move" "type" "Lcom/example/penelope/penelope/program/ProcessType;" .null := D7 (Or.inr (hw _ (List.mem_of_getElem? (i := 17) rfl))) (ty := (.object "com/example/penelope/penelope/program/ProcessType")) (by decide)
  have F7_choice : Fld Z h7 b7 "com/example/penelope/penelope/program/Move" "choice" "I" (.int (0 : Int32)) := D7 (Or.inr (hw _ (List.mem_of_getElem? (i := 19) rfl))) (ty := .int) (by decide)
  have F7_transition : Fld Z h7 b7 "com/example/penelope/penelope/program/Move" "transition" "Lcom/example/penelope/penelope/program/Transition;" .null := D7 (Or.inr (hw _ (List.mem_of_getElem? (i := 21) rfl))) (ty := (.object "com/example/penelope/penelope/program/Transition")) (by decide)
  have F7_receiver : Fld Z h7 b7 "com/example/penelope/penelope/program/Move" "receiver" "Lcom/example/penelope/penelope/program/Move;" .null := D7 (Or.inr (hw _ (List.mem_of_getElem? (i := 23) rfl))) (ty := (.object "com/example/penelope/penelope/program/Move")) (by decide)
  have P7 : own_Go p e below S0 (T7.setTop (mkF m 22 #[.val (.int i0), .val (.int i1), .val (.int i2), .val (.int i3), .val (.int i4), .val (.int v5_s0), .val .null, .val .null, .unset, .unset, .unset, .unset, .unset, .unset, .unset, .unset] [(.ref b7)])) := fun t k => P6 t (st7 _ k)
  have P8 : own_Go p e below S0 (T7.setTop (mkF m 29 #[.val (.int i0), .val (.int i1), .val (.int i2), .val (.int i3), .val (.int i4), .val (.int v5_s0), .val .null, .val .null, .unset, .unset, .unset, .unset, .unset, .unset, .unset, .unset] [.null, (.int i4), .null, (.ref b7), (.ref b7)])) := fun t k => P7 t (by
    show Steps p.tables e below (T7.setTop (mkF m 22 #[.val (.int i0), .val (.int i1), .val (.int i2), .val (.int i3), .val (.int i4), .val (.int v5_s0), .val .null, .val .null, .unset, .unset, .unset, .unset, .unset, .unset, .unset, .unset] [(.ref b7)])) t
    refine XS.dup X7.here hx rfl (hb hby at_22) rfl rfl ?_
    refine XS.aload X7.here hx rfl (hb hby at_23) rfl rfl ?_
    refine XS.iload X7.here hx rfl (hb hby at_25) rfl ?_
    refine XS.aload X7.here hx rfl (hb hby at_27) rfl rfl ?_
    show Steps p.tables e below (T7.setTop (mkF m 29 #[.val (.int i0), .val (.int i1), .val (.int i2), .val (.int i3), .val (.int i4), .val (.int v5_s0), .val .null, .val .null, .unset, .unset, .unset, .unset, .unset, .unset, .unset, .unset] [.null, (.int i4), .null, (.ref b7), (.ref b7)])) t
    exact k)
  obtain ⟨_, _, ⟨T9, L9, k9, n9⟩, -, X9, ⟨Lc9, hQ9, l9, y9, z9⟩, st9⟩ := X7.specialBack hx (y := (⟨"com/example/penelope/penelope/program/Move", "<init>", "(Lcom/example/penelope/penelope/program/ProcessType;ILcom/example/penelope/penelope/program/Transition;)V"⟩ : MethodName)) rfl hown (mvT hZ (hw _ (List.mem_of_getElem? (i := 3) rfl))) (mvT hZ (hw _ (List.mem_of_getElem? (i := 4) rfl))) (mvT hZ (hw _ (List.mem_of_getElem? (i := 5) rfl))) (by decide) (backOf (W := 1) (rm1 l Z a0 hw [] b7 i4 (.int (0 : Int32)) (.int (0 : Int32)) .null (.int (0 : Int32)) .null .null h7 n0 (Nat.le_trans Z0 K7.1) A7 F7_pid g_b7 F7_process F7_type F7_choice F7_transition F7_receiver) hZ (hw _ (List.mem_of_getElem? (i := 5) rfl)) (hw _ (List.mem_of_getElem? (i := 2) rfl)) (by decide) (by decide)) (g := (mkF m 29 #[.val (.int i0), .val (.int i1), .val (.int i2), .val (.int i3), .val (.int i4), .val (.int v5_s0), .val .null, .val .null, .unset, .unset, .unset, .unset, .unset, .unset, .unset, .unset] [.null, (.int i4), .null, (.ref b7), (.ref b7)])) rfl (by rw [hml]; rfl) (Steps.refl _) (a := b7) (argsL := [.null, (.int i4), .null]) (rest := [(.ref b7)]) (lenOf pd_1 rfl) rfl (by show 2 * 0 + _ ≤ _; exact Nat.le_of_eq rfl) (hb hby at_29) (fun _ _ => ⟨rfl, e7, (by decide : 1 + 0 ≤ _), (by decide : 6 + 0 ≤ _)⟩)
  dsimp only [Pt.U, Pt.locs, Pt.cells, Pt.slots] at X9 l9 y9 z9 st9 hQ9
  subst l9 y9 z9
  obtain ⟨rfl, N9q, Kc9, F9_0, F9_1, F9_2, F9_3, F9_4, F9_5⟩ := hQ9
  have N9 := Fr.app N0 N9q
  have K9 : Keep h0 T9.heap [] := Keep.trans K7 Kc9 (allS (Or.inr o_b7) all0)
  have P9 : own_Go p e below S0 (T9.setTop (mkF m 32 #[.val (.int i0), .val (.int i1), .val (.int i2), .val (.int i3), .val (.int i4), .val (.int v5_s0), .val .null, .val .null, .unset, .unset, .unset, .unset, .unset, .unset, .unset, .unset] [(.ref b7)])) := fun t k => P8 t (st9.trans k)
  have F10 : Exa Z T9.heap b7 "com/example/penelope/penelope/program/Move" := A7.keep Kc9
  have P11 : own_Go p e below S0 (T9.setTop (mkF m 34 #[.val (.int i0), .val (.int i1), .val (.int i2), .val (.int i3), .val (.int i4), .val (.int v5_s0), .val .null, .val .null, .val (.ref b7), .unset, .unset, .unset, .unset, .unset, .unset, .unset] [])) := fun t k => P9 t (by
    show Steps p.tables e below (T9.setTop (mkF m 32 #[.val (.int i0), .val (.int i1), .val (.int i2), .val (.int i3), .val (.int i4), .val (.int v5_s0), .val .null, .val .null, .unset, .unset, .unset, .unset, .unset, .unset, .unset, .unset] [(.ref b7)])) t
    refine XS.astore X9.here hx rfl (hb hby at_32) rfl rfl (l' := #[.val (.int i0), .val (.int i1), .val (.int i2), .val (.int i3), .val (.int i4), .val (.int v5_s0), .val .null, .val .null, .val (.ref b7), .unset, .unset, .unset, .unset, .unset, .unset, .unset]) rfl ?_
    show Steps p.tables e below (T9.setTop (mkF m 34 #[.val (.int i0), .val (.int i1), .val (.int i2), .val (.int i3), .val (.int i4), .val (.int v5_s0), .val .null, .val .null, .val (.ref b7), .unset, .unset, .unset, .unset, .unset, .unset, .unset] [])) t
    exact k)
  obtain ⟨T12, h12, X12, e12, E12, A12, D12, -, st12⟩ := newO X9 hx hZ hown (hw _ (List.mem_of_getElem? (i := 0) rfl)) (hw _ (List.mem_of_getElem? (i := 1) rfl)) (hw _ (List.mem_of_getElem? (i := 2) rfl)) rfl (g := (mkF m 34 #[.val (.int i0), .val (.int i1), .val (.int i2), .val (.int i3), .val (.int i4), .val (.int v5_s0), .val .null, .val .null, .val (.ref b7), .unset, .unset, .unset, .unset, .unset, .unset, .unset] [])) rfl (hb hby at_34) (by decide) (by decide)
  obtain ⟨b12, g12⟩ : ∃ z, z = T9.heap.size := ⟨_, rfl⟩
  rw [← g12] at A12 D12 st12
  have sz_b12 : T9.heap.size ≤ b12 := Nat.le_of_eq g12.symm
  have ne_b7_b12 : b7 ≠ b12 := Nat.ne_of_lt (Nat.lt_of_lt_of_le F10.lt sz_b12)
  have g_b12 : n0 ≤ b12 := Nat.le_trans (Nat.le_trans Z0 K9.1) sz_b12
  have o_b12 : h0.size ≤ b12 := Nat.le_trans K9.1 sz_b12
  have K12 : Keep h0 h12 [] := K9.ext E12
  have F12_pid : Fld Z h12 b12 "com/example/penelope/penelope/program/Move" "pid" "I" (.int (0 : Int32)) := D12 (Or.inr (hw _ (List.mem_of_getElem? (i := 13) rfl))) (ty := .int) (by decide)
  have F12_process : Fld Z h12 b12 "com/example/penelope/penelope/program/Move" "process" "I" (.int (0 : Int32)) := D12 (Or.inr (hw _ (List.mem_of_getElem? (i := 15) rfl))) (ty := .int) (by decide)
  have F12_type : Fld Z h12 b12 "com/example/penelope/penelope/program/Move" "type" "Lcom/example/penelope/penelope/program/ProcessType;" .null := D12 (Or.inr (hw _ (List.mem_of_getElem? (i := 17) rfl))) (ty := (.object "com/example/penelope/penelope/program/ProcessType")) (by decide)
  have F12_choice : Fld Z h12 b12 "com/example/penelope/penelope/program/Move" "choice" "I" (.int (0 : Int32)) := D12 (Or.inr (hw _ (List.mem_of_getElem? (i := 19) rfl))) (ty := .int) (by decide)
  have F12_transition : Fld Z h12 b12 "com/example/penelope/penelope/program/Move" "transition" "Lcom/example/penelope/penelope/program/Transition;" .null := D12 (Or.inr (hw _ (List.mem_of_getElem? (i := 21) rfl))) (ty := (.object "com/example/penelope/penelope/program/Transition")) (by decide)
  have F12_receiver : Fld Z h12 b12 "com/example/penelope/penelope/program/Move" "receiver" "Lcom/example/penelope/penelope/program/Move;" .null := D12 (Or.inr (hw _ (List.mem_of_getElem? (i := 23) rfl))) (ty := (.object "com/example/penelope/penelope/program/Move")) (by decide)
  have P12 : own_Go p e below S0 (T12.setTop (mkF m 37 #[.val (.int i0), .val (.int i1), .val (.int i2), .val (.int i3), .val (.int i4), .val (.int v5_s0), .val .null, .val .null, .val (.ref b7), .unset, .unset, .unset, .unset, .unset, .unset, .unset] [(.ref b12)])) := fun t k => P11 t (st12 _ k)
  have P13 : own_Go p e below S0 (T12.setTop (mkF m 47 #[.val (.int i0), .val (.int i1), .val (.int i2), .val (.int i3), .val (.int i4), .val (.int v5_s0), .val .null, .val .null, .val (.ref b7), .unset, .unset, .unset, .unset, .unset, .unset, .unset] [.null, (.int i4), .null, (.int i3), (.int v5_s0), (.ref b12), (.ref b12)])) := fun t k => P12 t (by
    show Steps p.tables e below (T12.setTop (mkF m 37 #[.val (.int i0), .val (.int i1), .val (.int i2), .val (.int i3), .val (.int i4), .val (.int v5_s0), .val .null, .val .null, .val (.ref b7), .unset, .unset, .unset, .unset, .unset, .unset, .unset] [(.ref b12)])) t
    refine XS.dup X12.here hx rfl (hb hby at_37) rfl rfl ?_
    refine XS.iload X12.here hx rfl (hb hby at_38) rfl ?_
    refine XS.iloadN X12.here hx rfl (hb hby at_40) rfl ?_
    refine XS.aload X12.here hx rfl (hb hby at_41) rfl rfl ?_
    refine XS.iload X12.here hx rfl (hb hby at_43) rfl ?_
    refine XS.aload X12.here hx rfl (hb hby at_45) rfl rfl ?_
    show Steps p.tables e below (T12.setTop (mkF m 47 #[.val (.int i0), .val (.int i1), .val (.int i2), .val (.int i3), .val (.int i4), .val (.int v5_s0), .val .null, .val .null, .val (.ref b7), .unset, .unset, .unset, .unset, .unset, .unset, .unset] [.null, (.int i4), .null, (.int i3), (.int v5_s0), (.ref b12), (.ref b12)])) t
    exact k)
  obtain ⟨_, _, ⟨T14, L14, k14, n14⟩, -, X14, ⟨Lc14, hQ14, l14, y14, z14⟩, st14⟩ := X12.specialBack hx (y := (⟨"com/example/penelope/penelope/program/Move", "<init>", "(IILcom/example/penelope/penelope/program/ProcessType;ILcom/example/penelope/penelope/program/Transition;)V"⟩ : MethodName)) rfl hown (mvT hZ (hw _ (List.mem_of_getElem? (i := 24) rfl))) (mvT hZ (hw _ (List.mem_of_getElem? (i := 25) rfl))) (mvT hZ (hw _ (List.mem_of_getElem? (i := 26) rfl))) (by decide) (backOf (W := 1) (rm4 l Z a0 hw [] b12 v5_s0 i3 i4 (.int (0 : Int32)) (.int (0 : Int32)) .null (.int (0 : Int32)) .null .null h12 n0 (Nat.le_trans Z0 K12.1) A12 F12_pid g_b12 F12_process F12_type F12_choice F12_transition F12_receiver) hZ (hw _ (List.mem_of_getElem? (i := 26) rfl)) (hw _ (List.mem_of_getElem? (i := 2) rfl)) (by decide) (by decide)) (g := (mkF m 47 #[.val (.int i0), .val (.int i1), .val (.int i2), .val (.int i3), .val (.int i4), .val (.int v5_s0), .val .null, .val .null, .val (.ref b7), .unset, .unset, .unset, .unset, .unset, .unset, .unset] [.null, (.int i4), .null, (.int i3), (.int v5_s0), (.ref b12), (.ref b12)])) rfl (by rw [hml]; rfl) (Steps.refl _) (a := b12) (argsL := [(.int v5_s0), (.int i3), .null, (.int i4), .null]) (rest := [(.ref b12)]) (lenOf pd_2 rfl) rfl (by show 2 * 0 + _ ≤ _; exact Nat.le_of_eq rfl) (hb hby at_47) (fun _ _ => ⟨rfl, e12, (by decide : 2 + 0 ≤ _), (by decide : 12 + 0 ≤ _)⟩)
  dsimp only [Pt.U, Pt.locs, Pt.cells, Pt.slots] at X14 l14 y14 z14 st14 hQ14
  subst l14 y14 z14
  obtain ⟨rfl, N14q, Kc14, F14_0, F14_1, F14_2, F14_3, F14_4, F14_5⟩ := hQ14
  have N14 := Fr.app N9 N14q
  have K14 : Keep h0 T14.heap [] := Keep.trans K12 Kc14 (allS (Or.inr o_b12) all0)
  have P14 : own_Go p e below S0 (T14.setTop (mkF m 50 #[.val (.int i0), .val (.int i1), .val (.int i2), .val (.int i3), .val (.int i4), .val (.int v5_s0), .val .null, .val .null, .val (.ref b7), .unset, .unset, .unset, .unset, .unset, .unset, .unset] [(.ref b12)])) := fun t k => P13 t (st14.trans k)
  have F15 : Exa Z h12 b7 "com/example/penelope/penelope/program/Move" := F10.ext E12
  have F16 : Exa Z T14.heap b7 "com/example/penelope/penelope/program/Move" := F15.keep Kc14
  have F17 : Exa Z T14.heap b12 "com/example/penelope/penelope/program/Move" := A12.keep Kc14
  have P18 : own_Go p e below S0 (T14.setTop (mkF m 52 #[.val (.int i0), .val (.int i1), .val (.int i2), .val (.int i3), .val (.int i4), .val (.int v5_s0), .val .null, .val .null, .val (.ref b7), .val (.ref b12), .unset, .unset, .unset, .unset, .unset, .unset] [])) := fun t k => P14 t (by
    show Steps p.tables e below (T14.setTop (mkF m 50 #[.val (.int i0), .val (.int i1), .val (.int i2), .val (.int i3), .val (.int i4), .val (.int v5_s0), .val .null, .val .null, .val (.ref b7), .unset, .unset, .unset, .unset, .unset, .unset, .unset] [(.ref b12)])) t
    refine XS.astore X14.here hx rfl (hb hby at_50) rfl rfl (l' := #[.val (.int i0), .val (.int i1), .val (.int i2), .val (.int i3), .val (.int i4), .val (.int v5_s0), .val .null, .val .null, .val (.ref b7), .val (.ref b12), .unset, .unset, .unset, .unset, .unset, .unset]) rfl ?_
    show Steps p.tables e below (T14.setTop (mkF m 52 #[.val (.int i0), .val (.int i1), .val (.int i2), .val (.int i3), .val (.int i4), .val (.int v5_s0), .val .null, .val .null, .val (.ref b7), .val (.ref b12), .unset, .unset, .unset, .unset, .unset, .unset] [])) t
    exact k)
  obtain ⟨T19, h19, X19, e19, E19, A19, D19, -, st19⟩ := newO X14 hx hZ hown (hw _ (List.mem_of_getElem? (i := 0) rfl)) (hw _ (List.mem_of_getElem? (i := 1) rfl)) (hw _ (List.mem_of_getElem? (i := 2) rfl)) rfl (g := (mkF m 52 #[.val (.int i0), .val (.int i1), .val (.int i2), .val (.int i3), .val (.int i4), .val (.int v5_s0), .val .null, .val .null, .val (.ref b7), .val (.ref b12), .unset, .unset, .unset, .unset, .unset, .unset] [])) rfl (hb hby at_52) (by decide) (by decide)
  obtain ⟨b19, g19⟩ : ∃ z, z = T14.heap.size := ⟨_, rfl⟩
  rw [← g19] at A19 D19 st19
  have sz_b19 : T14.heap.size ≤ b19 := Nat.le_of_eq g19.symm
  have ne_b7_b19 : b7 ≠ b19 := Nat.ne_of_lt (Nat.lt_of_lt_of_le F16.lt sz_b19)
  have ne_b12_b19 : b12 ≠ b19 := Nat.ne_of_lt (Nat.lt_of_lt_of_le F17.lt sz_b19)
  have g_b19 : n0 ≤ b19 := Nat.le_trans (Nat.le_trans Z0 K14.1) sz_b19
  have o_b19 : h0.size ≤ b19 := Nat.le_trans K14.1 sz_b19
  have K19 : Keep h0 h19 [] := K14.ext E19
  have F19_pid : Fld Z h19 b19 "com/example/penelope/penelope/program/Move" "pid" "I" (.int (0 : Int32)) := D19 (Or.inr (hw _ (List.mem_of_getElem? (i := 13) rfl))) (ty := .int) (by decide)
  have F19_process : Fld Z h19 b19 "com/example/penelope/penelope/program/Move" "process" "I" (.int (0 : Int32)) := D19 (Or.inr (hw _ (List.mem_of_getElem? (i := 15) rfl))) (ty := .int) (by decide)
  have F19_type : Fld Z h19 b19 "com/example/penelope/penelope/program/Move" "type" "Lcom/example/penelope/penelope/program/ProcessType;" .null := D19 (Or.inr (hw _ (List.mem_of_getElem? (i := 17) rfl))) (ty := (.object "com/example/penelope/penelope/program/ProcessType")) (by decide)
  have F19_choice : Fld Z h19 b19 "com/example/penelope/penelope/program/Move" "choice" "I" (.int (0 : Int32)) := D19 (Or.inr (hw _ (List.mem_of_getElem? (i := 19) rfl))) (ty := .int) (by decide)
  have F19_transition : Fld Z h19 b19 "com/example/penelope/penelope/program/Move" "transition" "Lcom/example/penelope/penelope/program/Transition;" .null := D19 (Or.inr (hw _ (List.mem_of_getElem? (i := 21) rfl))) (ty := (.object "com/example/penelope/penelope/program/Transition")) (by decide)
  have F19_receiver : Fld Z h19 b19 "com/example/penelope/penelope/program/Move" "receiver" "Lcom/example/penelope/penelope/program/Move;" .null := D19 (Or.inr (hw _ (List.mem_of_getElem? (i := 23) rfl))) (ty := (.object "com/example/penelope/penelope/program/Move")) (by decide)
  have P19 : own_Go p e below S0 (T19.setTop (mkF m 55 #[.val (.int i0), .val (.int i1), .val (.int i2), .val (.int i3), .val (.int i4), .val (.int v5_s0), .val .null, .val .null, .val (.ref b7), .val (.ref b12), .unset, .unset, .unset, .unset, .unset, .unset] [(.ref b19)])) := fun t k => P18 t (st19 _ k)
  have P20 : own_Go p e below S0 (T19.setTop (mkF m 64 #[.val (.int i0), .val (.int i1), .val (.int i2), .val (.int i3), .val (.int i4), .val (.int v5_s0), .val .null, .val .null, .val (.ref b7), .val (.ref b12), .unset, .unset, .unset, .unset, .unset, .unset] [.null, (.int i4), .null, (.int i3), (.int i1), (.ref b19), (.ref b19)])) := fun t k => P19 t (by
    show Steps p.tables e below (T19.setTop (mkF m 55 #[.val (.int i0), .val (.int i1), .val (.int i2), .val (.int i3), .val (.int i4), .val (.int v5_s0), .val .null, .val .null, .val (.ref b7), .val (.ref b12), .unset, .unset, .unset, .unset, .unset, .unset] [(.ref b19)])) t
    refine XS.dup X19.here hx rfl (hb hby at_55) rfl rfl ?_
    refine XS.iloadN X19.here hx rfl (hb hby at_56) rfl ?_
    refine XS.iloadN X19.here hx rfl (hb hby at_57) rfl ?_
    refine XS.aload X19.here hx rfl (hb hby at_58) rfl rfl ?_
    refine XS.iload X19.here hx rfl (hb hby at_60) rfl ?_
    refine XS.aload X19.here hx rfl (hb hby at_62) rfl rfl ?_
    show Steps p.tables e below (T19.setTop (mkF m 64 #[.val (.int i0), .val (.int i1), .val (.int i2), .val (.int i3), .val (.int i4), .val (.int v5_s0), .val .null, .val .null, .val (.ref b7), .val (.ref b12), .unset, .unset, .unset, .unset, .unset, .unset] [.null, (.int i4), .null, (.int i3), (.int i1), (.ref b19), (.ref b19)])) t
    exact k)
  obtain ⟨_, _, ⟨T21, L21, k21, n21⟩, -, X21, ⟨Lc21, hQ21, l21, y21, z21⟩, st21⟩ := X19.specialBack hx (y := (⟨"com/example/penelope/penelope/program/Move", "<init>", "(IILcom/example/penelope/penelope/program/ProcessType;ILcom/example/penelope/penelope/program/Transition;)V"⟩ : MethodName)) rfl hown (mvT hZ (hw _ (List.mem_of_getElem? (i := 24) rfl))) (mvT hZ (hw _ (List.mem_of_getElem? (i := 25) rfl))) (mvT hZ (hw _ (List.mem_of_getElem? (i := 26) rfl))) (by decide) (backOf (W := 1) (rm4 l Z a0 hw [] b19 i1 i3 i4 (.int (0 : Int32)) (.int (0 : Int32)) .null (.int (0 : Int32)) .null .null h19 n0 (Nat.le_trans Z0 K19.1) A19 F19_pid g_b19 F19_process F19_type F19_choice F19_transition F19_receiver) hZ (hw _ (List.mem_of_getElem? (i := 26) rfl)) (hw _ (List.mem_of_getElem? (i := 2) rfl)) (by decide) (by decide)) (g := (mkF m 64 #[.val (.int i0), .val (.int i1), .val (.int i2), .val (.int i3), .val (.int i4), .val (.int v5_s0), .val .null, .val .null, .val (.ref b7), .val (.ref b12), .unset, .unset, .unset, .unset, .unset, .unset] [.null, (.int i4), .null, (.int i3), (.int i1), (.ref b19), (.ref b19)])) rfl (by rw [hml]; rfl) (Steps.refl _) (a := b19) (argsL := [(.int i1), (.int i3), .null, (.int i4), .null]) (rest := [(.ref b19)]) (lenOf pd_2 rfl) rfl (by show 2 * 0 + _ ≤ _; exact Nat.le_of_eq rfl) (hb hby at_64) (fun _ _ => ⟨rfl, e19, (by decide : 3 + 0 ≤ _), (by decide : 18 + 0 ≤ _)⟩)
  dsimp only [Pt.U, Pt.locs, Pt.cells, Pt.slots] at X21 l21 y21 z21 st21 hQ21
  subst l21 y21 z21
  obtain ⟨rfl, N21q, Kc21, F21_0, F21_1, F21_2, F21_3, F21_4, F21_5⟩ := hQ21
  have N21 := Fr.app N14 N21q
  have K21 : Keep h0 T21.heap [] := Keep.trans K19 Kc21 (allS (Or.inr o_b19) all0)
  have P21 : own_Go p e below S0 (T21.setTop (mkF m 67 #[.val (.int i0), .val (.int i1), .val (.int i2), .val (.int i3), .val (.int i4), .val (.int v5_s0), .val .null, .val .null, .val (.ref b7), .val (.ref b12), .unset, .unset, .unset, .unset, .unset, .unset] [(.ref b19)])) := fun t k => P20 t (st21.trans k)
  have F22 : Exa Z h19 b7 "com/example/penelope/penelope/program/Move" := F16.ext E19
  have F23 : Exa Z T21.heap b7 "com/example/penelope/penelope/program/Move" := F22.keep Kc21
  have F24 : Exa Z h19 b12 "com/example/penelope/penelope/program/Move" := F17.ext E19
  have F25 : Exa Z T21.heap b12 "com/example/penelope/penelope/program/Move" := F24.keep Kc21
  have F26 : Exa Z T21.heap b19 "com/example/penelope/penelope/program/Move" := A19.keep Kc21
  have P27 : own_Go p e below S0 (T21.setTop (mkF m 69 #[.val (.int i0), .val (.int i1), .val (.int i2), .val (.int i3), .val (.int i4), .val (.int v5_s0), .val .null, .val .null, .val (.ref b7), .val (.ref b12), .val (.ref b19), .unset, .unset, .unset, .unset, .unset] [])) := fun t k => P21 t (by
    show Steps p.tables e below (T21.setTop (mkF m 67 #[.val (.int i0), .val (.int i1), .val (.int i2), .val (.int i3), .val (.int i4), .val (.int v5_s0), .val .null, .val .null, .val (.ref b7), .val (.ref b12), .unset, .unset, .unset, .unset, .unset, .unset] [(.ref b19)])) t
    refine XS.astore X21.here hx rfl (hb hby at_67) rfl rfl (l' := #[.val (.int i0), .val (.int i1), .val (.int i2), .val (.int i3), .val (.int i4), .val (.int v5_s0), .val .null, .val .null, .val (.ref b7), .val (.ref b12), .val (.ref b19), .unset, .unset, .unset, .unset, .unset]) rfl ?_
    show Steps p.tables e below (T21.setTop (mkF m 69 #[.val (.int i0), .val (.int i1), .val (.int i2), .val (.int i3), .val (.int i4), .val (.int v5_s0), .val .null, .val .null, .val (.ref b7), .val (.ref b12), .val (.ref b19), .unset, .unset, .unset, .unset, .unset] [])) t
    exact k)
  obtain ⟨T28, h28, X28, e28, E28, A28, D28, -, st28⟩ := newO X21 hx hZ hown (hw _ (List.mem_of_getElem? (i := 0) rfl)) (hw _ (List.mem_of_getElem? (i := 1) rfl)) (hw _ (List.mem_of_getElem? (i := 2) rfl)) rfl (g := (mkF m 69 #[.val (.int i0), .val (.int i1), .val (.int i2), .val (.int i3), .val (.int i4), .val (.int v5_s0), .val .null, .val .null, .val (.ref b7), .val (.ref b12), .val (.ref b19), .unset, .unset, .unset, .unset, .unset] [])) rfl (hb hby at_69) (by decide) (by decide)
  obtain ⟨b28, g28⟩ : ∃ z, z = T21.heap.size := ⟨_, rfl⟩
  rw [← g28] at A28 D28 st28
  have sz_b28 : T21.heap.size ≤ b28 := Nat.le_of_eq g28.symm
  have ne_b7_b28 : b7 ≠ b28 := Nat.ne_of_lt (Nat.lt_of_lt_of_le F23.lt sz_b28)
  have ne_b12_b28 : b12 ≠ b28 := Nat.ne_of_lt (Nat.lt_of_lt_of_le F25.lt sz_b28)
  have ne_b19_b28 : b19 ≠ b28 := Nat.ne_of_lt (Nat.lt_of_lt_of_le F26.lt sz_b28)
  have g_b28 : n0 ≤ b28 := Nat.le_trans (Nat.le_trans Z0 K21.1) sz_b28
  have o_b28 : h0.size ≤ b28 := Nat.le_trans K21.1 sz_b28
  have K28 : Keep h0 h28 [] := K21.ext E28
  have F28_pid : Fld Z h28 b28 "com/example/penelope/penelope/program/Move" "pid" "I" (.int (0 : Int32)) := D28 (Or.inr (hw _ (List.mem_of_getElem? (i := 13) rfl))) (ty := .int) (by decide)
  have F28_process : Fld Z h28 b28 "com/example/penelope/penelope/program/Move" "process" "I" (.int (0 : Int32)) := D28 (Or.inr (hw _ (List.mem_of_getElem? (i := 15) rfl))) (ty := .int) (by decide)
  have F28_type : Fld Z h28 b28 "com/example/penelope/penelope/program/Move" "type" "Lcom/example/penelope/penelope/program/ProcessType;" .null := D28 (Or.inr (hw _ (List.mem_of_getElem? (i := 17) rfl))) (ty := (.object "com/example/penelope/penelope/program/ProcessType")) (by decide)
  have F28_choice : Fld Z h28 b28 "com/example/penelope/penelope/program/Move" "choice" "I" (.int (0 : Int32)) := D28 (Or.inr (hw _ (List.mem_of_getElem? (i := 19) rfl))) (ty := .int) (by decide)
  have F28_transition : Fld Z h28 b28 "com/example/penelope/penelope/program/Move" "transition" "Lcom/example/penelope/penelope/program/Transition;" .null := D28 (Or.inr (hw _ (List.mem_of_getElem? (i := 21) rfl))) (ty := (.object "com/example/penelope/penelope/program/Transition")) (by decide)
  have F28_receiver : Fld Z h28 b28 "com/example/penelope/penelope/program/Move" "receiver" "Lcom/example/penelope/penelope/program/Move;" .null := D28 (Or.inr (hw _ (List.mem_of_getElem? (i := 23) rfl))) (ty := (.object "com/example/penelope/penelope/program/Move")) (by decide)
  have P28 : own_Go p e below S0 (T28.setTop (mkF m 72 #[.val (.int i0), .val (.int i1), .val (.int i2), .val (.int i3), .val (.int i4), .val (.int v5_s0), .val .null, .val .null, .val (.ref b7), .val (.ref b12), .val (.ref b19), .unset, .unset, .unset, .unset, .unset] [(.ref b28)])) := fun t k => P27 t (st28 _ k)
  have F29 : Fld Z h19 b12 "com/example/penelope/penelope/program/Move" "pid" "I" (.int v5_s0) := F14_0.ext E19
  have F30 : Fld Z T21.heap b12 "com/example/penelope/penelope/program/Move" "pid" "I" (.int v5_s0) := F29.keep Kc21 (ninS ne_b12_b19 nin0)
  have F31 : Fld Z h28 b12 "com/example/penelope/penelope/program/Move" "pid" "I" (.int v5_s0) := F30.ext E28
  have F32 : Fld Z h19 b12 "com/example/penelope/penelope/program/Move" "process" "I" (.int i3) := F14_1.ext E19
  have F33 : Fld Z T21.heap b12 "com/example/penelope/penelope/program/Move" "process" "I" (.int i3) := F32.keep Kc21 (ninS ne_b12_b19 nin0)
  have F34 : Fld Z h28 b12 "com/example/penelope/penelope/program/Move" "process" "I" (.int i3) := F33.ext E28
  have F35 : Fld Z h19 b12 "com/example/penelope/penelope/program/Move" "type" "Lcom/example/penelope/penelope/program/ProcessType;" .null := F14_2.ext E19
  have F36 : Fld Z T21.heap b12 "com/example/penelope/penelope/program/Move" "type" "Lcom/example/penelope/penelope/program/ProcessType;" .null := F35.keep Kc21 (ninS ne_b12_b19 nin0)
  have F37 : Fld Z h28 b12 "com/example/penelope/penelope/program/Move" "type" "Lcom/example/penelope/penelope/program/ProcessType;" .null := F36.ext E28
  have F38 : Fld Z h19 b12 "com/example/penelope/penelope/program/Move" "choice" "I" (.int i4) := F14_3.ext E19
  have F39 : Fld Z T21.heap b12 "com/example/penelope/penelope/program/Move" "choice" "I" (.int i4) := F38.keep Kc21 (ninS ne_b12_b19 nin0)
  have F40 : Fld Z h28 b12 "com/example/penelope/penelope/program/Move" "choice" "I" (.int i4) := F39.ext E28
  have F41 : Fld Z h19 b12 "com/example/penelope/penelope/program/Move" "transition" "Lcom/example/penelope/penelope/program/Transition;" .null := F14_4.ext E19
  have F42 : Fld Z T21.heap b12 "com/example/penelope/penelope/program/Move" "transition" "Lcom/example/penelope/penelope/program/Transition;" .null := F41.keep Kc21 (ninS ne_b12_b19 nin0)
  have F43 : Fld Z h28 b12 "com/example/penelope/penelope/program/Move" "transition" "Lcom/example/penelope/penelope/program/Transition;" .null := F42.ext E28
  have P44 : own_Go p e below S0 (T28.setTop (mkF m 77 #[.val (.int i0), .val (.int i1), .val (.int i2), .val (.int i3), .val (.int i4), .val (.int v5_s0), .val .null, .val .null, .val (.ref b7), .val (.ref b12), .val (.ref b19), .unset, .unset, .unset, .unset, .unset] [(.ref b19), (.ref b12), (.ref b28), (.ref b28)])) := fun t k => P28 t (by
    show Steps p.tables e below (T28.setTop (mkF m 72 #[.val (.int i0), .val (.int i1), .val (.int i2), .val (.int i3), .val (.int i4), .val (.int v5_s0), .val .null, .val .null, .val (.ref b7), .val (.ref b12), .val (.ref b19), .unset, .unset, .unset, .unset, .unset] [(.ref b28)])) t
    refine XS.dup X28.here hx rfl (hb hby at_72) rfl rfl ?_
    refine XS.aload X28.here hx rfl (hb hby at_73) rfl rfl ?_
    refine XS.aload X28.here hx rfl (hb hby at_75) rfl rfl ?_
    show Steps p.tables e below (T28.setTop (mkF m 77 #[.val (.int i0), .val (.int i1), .val (.int i2), .val (.int i3), .val (.int i4), .val (.int v5_s0), .val .null, .val .null, .val (.ref b7), .val (.ref b12), .val (.ref b19), .unset, .unset, .unset, .unset, .unset] [(.ref b19), (.ref b12), (.ref b28), (.ref b28)])) t
    exact k)
  obtain ⟨_, _, ⟨T45, L45, k45, n45⟩, -, X45, ⟨Lc45, hQ45, l45, y45, z45⟩, st45⟩ := X28.specialBack hx (y := (⟨"com/example/penelope/penelope/program/Move", "<init>", "(Lcom/example/penelope/penelope/program/Move;Lcom/example/penelope/penelope/program/Move;)V"⟩ : MethodName)) rfl hown (mvT hZ (hw _ (List.mem_of_getElem? (i := 27) rfl))) (mvT hZ (hw _ (List.mem_of_getElem? (i := 28) rfl))) (mvT hZ (hw _ (List.mem_of_getElem? (i := 29) rfl))) (by decide) (backOf (W := 1) (rm5 l Z a0 hw [] b28 b12 b19 v5_s0 i3 i4 (.int (0 : Int32)) (.int (0 : Int32)) .null (.int (0 : Int32)) .null .null h28 n0 (Nat.le_trans Z0 K28.1) F31 F34 F37 F40 F43 A28 F28_pid g_b28 F28_process F28_type F28_choice F28_transition F28_receiver) hZ (hw _ (List.mem_of_getElem? (i := 29) rfl)) (hw _ (List.mem_of_getElem? (i := 2) rfl)) (by decide) (by decide)) (g := (mkF m 77 #[.val (.int i0), .val (.int i1), .val (.int i2), .val (.int i3), .val (.int i4), .val (.int v5_s0), .val .null, .val .null, .val (.ref b7), .val (.ref b12), .val (.ref b19), .unset, .unset, .unset, .unset, .unset] [(.ref b19), (.ref b12), (.ref b28), (.ref b28)])) rfl (by rw [hml]; rfl) (Steps.refl _) (a := b28) (argsL := [(.ref b12), (.ref b19)]) (rest := [(.ref b28)]) (lenOf pd_3 rfl) rfl (by show 2 * 0 + _ ≤ _; exact Nat.le_of_eq rfl) (hb hby at_77) (fun _ _ => ⟨rfl, e28, (by decide : 4 + 0 ≤ _), (by decide : 24 + 0 ≤ _)⟩)
  dsimp only [Pt.U, Pt.locs, Pt.cells, Pt.slots] at X45 l45 y45 z45 st45 hQ45
  subst l45 y45 z45
  obtain ⟨rfl, N45q, Kc45, F45_0, F45_1, F45_2, F45_3, F45_4, F45_5⟩ := hQ45
  have N45 := Fr.app N21 N45q
  have K45 : Keep h0 T45.heap [] := Keep.trans K28 Kc45 (allS (Or.inr o_b28) all0)
  have P45 : own_Go p e below S0 (T45.setTop (mkF m 80 #[.val (.int i0), .val (.int i1), .val (.int i2), .val (.int i3), .val (.int i4), .val (.int v5_s0), .val .null, .val .null, .val (.ref b7), .val (.ref b12), .val (.ref b19), .unset, .unset, .unset, .unset, .unset] [(.ref b28)])) := fun t k => P44 t (st45.trans k)
  have F46 : Exa Z h28 b7 "com/example/penelope/penelope/program/Move" := F23.ext E28
  have F47 : Exa Z T45.heap b7 "com/example/penelope/penelope/program/Move" := F46.keep Kc45
  have F48 : Fld Z h12 b7 "com/example/penelope/penelope/program/Move" "pid" "I" (.int (-1 : Int32)) := F9_0.ext E12
  have F49 : Fld Z T14.heap b7 "com/example/penelope/penelope/program/Move" "pid" "I" (.int (-1 : Int32)) := F48.keep Kc14 (ninS ne_b7_b12 nin0)
  have F50 : Fld Z h19 b7 "com/example/penelope/penelope/program/Move" "pid" "I" (.int (-1 : Int32)) := F49.ext E19
  have F51 : Fld Z T21.heap b7 "com/example/penelope/penelope/program/Move" "pid" "I" (.int (-1 : Int32)) := F50.keep Kc21 (ninS ne_b7_b19 nin0)
  have F52 : Fld Z h28 b7 "com/example/penelope/penelope/program/Move" "pid" "I" (.int (-1 : Int32)) := F51.ext E28
  have F53 : Fld Z T45.heap b7 "com/example/penelope/penelope/program/Move" "pid" "I" (.int (-1 : Int32)) := F52.keep Kc45 (ninS ne_b7_b28 nin0)
  have P54 : own_Go p e below S0 (T45.setTop (mkF m 84 #[.val (.int i0), .val (.int i1), .val (.int i2), .val (.int i3), .val (.int i4), .val (.int v5_s0), .val .null, .val .null, .val (.ref b7), .val (.ref b12), .val (.ref b19), .val (.ref b28), .unset, .unset, .unset, .unset] [(.ref b7)])) := fun t k => P45 t (by
    show Steps p.tables e below (T45.setTop (mkF m 80 #[.val (.int i0), .val (.int i1), .val (.int i2), .val (.int i3), .val (.int i4), .val (.int v5_s0), .val .null, .val .null, .val (.ref b7), .val (.ref b12), .val (.ref b19), .unset, .unset, .unset, .unset, .unset] [(.ref b28)])) t
    refine XS.astore X45.here hx rfl (hb hby at_80) rfl rfl (l' := #[.val (.int i0), .val (.int i1), .val (.int i2), .val (.int i3), .val (.int i4), .val (.int v5_s0), .val .null, .val .null, .val (.ref b7), .val (.ref b12), .val (.ref b19), .val (.ref b28), .unset, .unset, .unset, .unset]) rfl ?_
    refine XS.aload X45.here hx rfl (hb hby at_82) rfl rfl ?_
    show Steps p.tables e below (T45.setTop (mkF m 84 #[.val (.int i0), .val (.int i1), .val (.int i2), .val (.int i3), .val (.int i4), .val (.int v5_s0), .val .null, .val .null, .val (.ref b7), .val (.ref b12), .val (.ref b19), .val (.ref b28), .unset, .unset, .unset, .unset] [(.ref b7)])) t
    exact k)
  obtain ⟨cq55, kq55, q55a, q55b, q55c⟩ := isOf hZ rfl F47
  obtain ⟨_, _, ⟨T55, L55, k55, n55⟩, -, X55, ⟨Lc55, hQ55, l55, y55, z55⟩, st55⟩ := X45.virtualBack hx (y := (⟨"com/example/penelope/penelope/program/Move", "isClaim", "()Z"⟩ : MethodName)) (z := (⟨"com/example/penelope/penelope/program/Move", "isClaim", "()Z"⟩ : MethodName)) hown (mvT hZ (hw _ (List.mem_of_getElem? (i := 30) rfl))) (mvT hZ (hw _ (List.mem_of_getElem? (i := 31) rfl))) (notFace_of_selects (args := #[]) (mvT hZ (hw _ (List.mem_of_getElem? (i := 33) rfl)))) (mvT hZ (hw _ (List.mem_of_getElem? (i := 33) rfl))) (mvT hZ (hw _ (List.mem_of_getElem? (i := 32) rfl))) (by decide) (backOf (W := 0) (rm6 l Z a0 hw [] b7 (-1 : Int32) T45.heap n0 (Nat.le_trans Z0 K45.1) F53) hZ (hw _ (List.mem_of_getElem? (i := 34) rfl)) (hw _ (List.mem_of_getElem? (i := 2) rfl)) (by decide) (by decide)) q55a q55c (g := (mkF m 84 #[.val (.int i0), .val (.int i1), .val (.int i2), .val (.int i3), .val (.int i4), .val (.int v5_s0), .val .null, .val .null, .val (.ref b7), .val (.ref b12), .val (.ref b19), .val (.ref b28), .unset, .unset, .unset, .unset] [(.ref b7)])) rfl (by rw [hml]; rfl) (Steps.refl _) (argsL := []) (rest := []) (lenOf pd_4 rfl) rfl (by show 2 * 0 + _ ≤ _; exact Nat.le_of_eq rfl) (hb hby at_84) (fun _ _ => ⟨rfl, rfl, (by decide : 4 + 0 ≤ _), (by decide : 24 + 0 ≤ _)⟩)
  dsimp only [Pt.U, Pt.locs, Pt.cells, Pt.slots] at X55 l55 y55 z55 st55 hQ55
  subst l55 y55 z55
  obtain ⟨rfl, N55q, e55⟩ := hQ55
  have N55 := Fr.app N45 N55q
  have P55 : own_Go p e below S0 (T55.setTop (mkF m 87 #[.val (.int i0), .val (.int i1), .val (.int i2), .val (.int i3), .val (.int i4), .val (.int v5_s0), .val .null, .val .null, .val (.ref b7), .val (.ref b12), .val (.ref b19), .val (.ref b28), .unset, .unset, .unset, .unset] [(.int (r6 (-1 : Int32)))])) := fun t k => P54 t (st55.trans k)
  have F56 : Exa Z h28 b12 "com/example/penelope/penelope/program/Move" := F25.ext E28
  have F57 : Exa Z T45.heap b12 "com/example/penelope/penelope/program/Move" := F56.keep Kc45
  have F58 : Fld Z T45.heap b12 "com/example/penelope/penelope/program/Move" "pid" "I" (.int v5_s0) := F31.keep Kc45 (ninS ne_b12_b28 nin0)
  have P59 : own_Go p e below S0 (T55.setTop (mkF m 91 #[.val (.int i0), .val (.int i1), .val (.int i2), .val (.int i3), .val (.int i4), .val (.int v5_s0), .val .null, .val .null, .val (.ref b7), .val (.ref b12), .val (.ref b19), .val (.ref b28), .val (.int (r6 (-1 : Int32))), .unset, .unset, .unset] [(.ref b12)])) := fun t k => P55 t (by
    show Steps p.tables e below (T55.setTop (mkF m 87 #[.val (.int i0), .val (.int i1), .val (.int i2), .val (.int i3), .val (.int i4), .val (.int v5_s0), .val .null, .val .null, .val (.ref b7), .val (.ref b12), .val (.ref b19), .val (.ref b28), .unset, .unset, .unset, .unset] [(.int (r6 (-1 : Int32)))])) t
    refine XS.istore X55.here hx rfl (hb hby at_87) rfl (l' := #[.val (.int i0), .val (.int i1), .val (.int i2), .val (.int i3), .val (.int i4), .val (.int v5_s0), .val .null, .val .null, .val (.ref b7), .val (.ref b12), .val (.ref b19), .val (.ref b28), .val (.int (r6 (-1 : Int32))), .unset, .unset, .unset]) rfl ?_
    refine XS.aload X55.here hx rfl (hb hby at_89) rfl rfl ?_
    show Steps p.tables e below (T55.setTop (mkF m 91 #[.val (.int i0), .val (.int i1), .val (.int i2), .val (.int i3), .val (.int i4), .val (.int v5_s0), .val .null, .val .null, .val (.ref b7), .val (.ref b12), .val (.ref b19), .val (.ref b28), .val (.int (r6 (-1 : Int32))), .unset, .unset, .unset] [(.ref b12)])) t
    exact k)
  obtain ⟨cq60, kq60, q60a, q60b, q60c⟩ := isOf hZ e55 F57
  obtain ⟨_, _, ⟨T60, L60, k60, n60⟩, -, X60, ⟨Lc60, hQ60, l60, y60, z60⟩, st60⟩ := X55.virtualBack hx (y := (⟨"com/example/penelope/penelope/program/Move", "isClaim", "()Z"⟩ : MethodName)) (z := (⟨"com/example/penelope/penelope/program/Move", "isClaim", "()Z"⟩ : MethodName)) hown (mvT hZ (hw _ (List.mem_of_getElem? (i := 30) rfl))) (mvT hZ (hw _ (List.mem_of_getElem? (i := 31) rfl))) (notFace_of_selects (args := #[]) (mvT hZ (hw _ (List.mem_of_getElem? (i := 33) rfl)))) (mvT hZ (hw _ (List.mem_of_getElem? (i := 33) rfl))) (mvT hZ (hw _ (List.mem_of_getElem? (i := 32) rfl))) (by decide) (backOf (W := 0) (rm6 l Z a0 hw [] b12 v5_s0 T45.heap n0 (Nat.le_trans Z0 K45.1) F58) hZ (hw _ (List.mem_of_getElem? (i := 34) rfl)) (hw _ (List.mem_of_getElem? (i := 2) rfl)) (by decide) (by decide)) q60a q60c (g := (mkF m 91 #[.val (.int i0), .val (.int i1), .val (.int i2), .val (.int i3), .val (.int i4), .val (.int v5_s0), .val .null, .val .null, .val (.ref b7), .val (.ref b12), .val (.ref b19), .val (.ref b28), .val (.int (r6 (-1 : Int32))), .unset, .unset, .unset] [(.ref b12)])) rfl (by rw [hml]; rfl) (Steps.refl _) (argsL := []) (rest := []) (lenOf pd_4 rfl) rfl (by show 2 * 0 + _ ≤ _; exact Nat.le_of_eq rfl) (hb hby at_91) (fun _ _ => ⟨rfl, e55, (by decide : 4 + 0 ≤ _), (by decide : 24 + 0 ≤ _)⟩)
  dsimp only [Pt.U, Pt.locs, Pt.cells, Pt.slots] at X60 l60 y60 z60 st60 hQ60
  subst l60 y60 z60
  obtain ⟨rfl, N60q, e60⟩ := hQ60
  have N60 := Fr.app N55 N60q
  have P60 : own_Go p e below S0 (T60.setTop (mkF m 94 #[.val (.int i0), .val (.int i1), .val (.int i2), .val (.int i3), .val (.int i4), .val (.int v5_s0), .val .null, .val .null, .val (.ref b7), .val (.ref b12), .val (.ref b19), .val (.ref b28), .val (.int (r6 (-1 : Int32))), .unset, .unset, .unset] [(.int (r6 v5_s0))])) := fun t k => P59 t (st60.trans k)
  have P61 : own_Go p e below S0 (T60.setTop (mkF m 97 #[.val (.int i0), .val (.int i1), .val (.int i2), .val (.int i3), .val (.int i4), .val (.int v5_s0), .val .null, .val .null, .val (.ref b7), .val (.ref b12), .val (.ref b19), .val (.ref b28), .val (.int (r6 (-1 : Int32))), .unset, .unset, .unset] [(.int (-1 : Int32)), (.int v5_s0), (.int (r6 v5_s0))])) := fun t k => P60 t (by
    show Steps p.tables e below (T60.setTop (mkF m 94 #[.val (.int i0), .val (.int i1), .val (.int i2), .val (.int i3), .val (.int i4), .val (.int v5_s0), .val .null, .val .null, .val (.ref b7), .val (.ref b12), .val (.ref b19), .val (.ref b28), .val (.int (r6 (-1 : Int32))), .unset, .unset, .unset] [(.int (r6 v5_s0))])) t
    refine XS.iload X60.here hx rfl (hb hby at_94) rfl ?_
    refine XS.iconst X60.here hx rfl (hb hby at_96) ?_
    show Steps p.tables e below (T60.setTop (mkF m 97 #[.val (.int i0), .val (.int i1), .val (.int i2), .val (.int i3), .val (.int i4), .val (.int v5_s0), .val .null, .val .null, .val (.ref b7), .val (.ref b12), .val (.ref b19), .val (.ref b28), .val (.int (r6 (-1 : Int32))), .unset, .unset, .unset] [(.int (-1 : Int32)), (.int v5_s0), (.int (r6 v5_s0))])) t
    exact k)
  obtain ⟨v65_s0, hv65_s0, P65⟩ : ∃ (v65_s0 : Int32), (v65_s0 = (if v5_s0 = (-1 : Int32) then (1 : Int32) else (0 : Int32))) ∧ (own_Go p e below S0 (T60.setTop (mkF m 105 #[.val (.int i0), .val (.int i1), .val (.int i2), .val (.int i3), .val (.int i4), .val (.int v5_s0), .val .null, .val .null, .val (.ref b7), .val (.ref b12), .val (.ref b19), .val (.ref b28), .val (.int (r6 (-1 : Int32))), .unset, .unset, .unset] [(.int v65_s0), (.int (r6 v5_s0))]))) := by
    by_cases c62 : v5_s0 = (-1 : Int32)
    · skip
      have P63 : own_Go p e below S0 (T60.setTop (mkF m 105 #[.val (.int i0), .val (.int i1), .val (.int i2), .val (.int i3), .val (.int i4), .val (.int v5_s0), .val .null, .val .null, .val (.ref b7), .val (.ref b12), .val (.ref b19), .val (.ref b28), .val (.int (r6 (-1 : Int32))), .unset, .unset, .unset] [(.int (1 : Int32)), (.int (r6 v5_s0))])) := fun t k => P61 t (by
        show Steps p.tables e below (T60.setTop (mkF m 97 #[.val (.int i0), .val (.int i1), .val (.int i2), .val (.int i3), .val (.int i4), .val (.int v5_s0), .val .null, .val .null, .val (.ref b7), .val (.ref b12), .val (.ref b19), .val (.ref b28), .val (.int (r6 (-1 : Int32))), .unset, .unset, .unset] [(.int (-1 : Int32)), (.int v5_s0), (.int (r6 v5_s0))])) t
        refine XS.icmpNo X60.here hx rfl (hb hby at_97) rfl (teq c62).2 ?_
        refine XS.iconst X60.here hx rfl (hb hby at_100) ?_
        refine XS.goto X60.here hx rfl (pc0 := 101) (pc' := 105) rfl (hb hby at_101) (by decide) (by decide) ?_
        show Steps p.tables e below (T60.setTop (mkF m 105 #[.val (.int i0), .val (.int i1), .val (.int i2), .val (.int i3), .val (.int i4), .val (.int v5_s0), .val .null, .val .null, .val (.ref b7), .val (.ref b12), .val (.ref b19), .val (.ref b28), .val (.int (r6 (-1 : Int32))), .unset, .unset, .unset] [(.int (1 : Int32)), (.int (r6 v5_s0))])) t
        exact k)
      exact ⟨(1 : Int32), (Eq.symm (if_pos c62)), P63⟩
    · skip
      have P64 : own_Go p e below S0 (T60.setTop (mkF m 105 #[.val (.int i0), .val (.int i1), .val (.int i2), .val (.int i3), .val (.int i4), .val (.int v5_s0), .val .null, .val .null, .val (.ref b7), .val (.ref b12), .val (.ref b19), .val (.ref b28), .val (.int (r6 (-1 : Int32))), .unset, .unset, .unset] [(.int (0 : Int32)), (.int (r6 v5_s0))])) := fun t k => P61 t (by
        show Steps p.tables e below (T60.setTop (mkF m 97 #[.val (.int i0), .val (.int i1), .val (.int i2), .val (.int i3), .val (.int i4), .val (.int v5_s0), .val .null, .val .null, .val (.ref b7), .val (.ref b12), .val (.ref b19), .val (.ref b28), .val (.int (r6 (-1 : Int32))), .unset, .unset, .unset] [(.int (-1 : Int32)), (.int v5_s0), (.int (r6 v5_s0))])) t
        refine XS.icmpYes X60.here hx rfl (pc0 := 97) (pc' := 104) rfl (hb hby at_97) rfl (feq c62).2 (by decide) (by decide) ?_
        refine XS.iconst X60.here hx rfl (hb hby at_104) ?_
        show Steps p.tables e below (T60.setTop (mkF m 105 #[.val (.int i0), .val (.int i1), .val (.int i2), .val (.int i3), .val (.int i4), .val (.int v5_s0), .val .null, .val .null, .val (.ref b7), .val (.ref b12), .val (.ref b19), .val (.ref b28), .val (.int (r6 (-1 : Int32))), .unset, .unset, .unset] [(.int (0 : Int32)), (.int (r6 v5_s0))])) t
        exact k)
      exact ⟨(0 : Int32), (Eq.symm (if_neg c62)), P64⟩
  have c66 : (r6 v5_s0) = v65_s0 := Eq.symm hv65_s0
  have F67 : Exa Z h28 b19 "com/example/penelope/penelope/program/Move" := F26.ext E28
  have F68 : Exa Z T45.heap b19 "com/example/penelope/penelope/program/Move" := F67.keep Kc45
  have F69 : Fld Z h28 b19 "com/example/penelope/penelope/program/Move" "pid" "I" (.int i1) := F21_0.ext E28
  have F70 : Fld Z T45.heap b19 "com/example/penelope/penelope/program/Move" "pid" "I" (.int i1) := F69.keep Kc45 (ninS ne_b19_b28 nin0)
  have P71 : own_Go p e below S0 (T60.setTop (mkF m 117 #[.val (.int i0), .val (.int i1), .val (.int i2), .val (.int i3), .val (.int i4), .val (.int v5_s0), .val .null, .val .null, .val (.ref b7), .val (.ref b12), .val (.ref b19), .val (.ref b28), .val (.int (r6 (-1 : Int32))), .val (.int (1 : Int32)), .unset, .unset] [(.ref b19)])) := fun t k => P65 t (by
    show Steps p.tables e below (T60.setTop (mkF m 105 #[.val (.int i0), .val (.int i1), .val (.int i2), .val (.int i3), .val (.int i4), .val (.int v5_s0), .val .null, .val .null, .val (.ref b7), .val (.ref b12), .val (.ref b19), .val (.ref b28), .val (.int (r6 (-1 : Int32))), .unset, .unset, .unset] [(.int v65_s0), (.int (r6 v5_s0))])) t
    refine XS.icmpNo X60.here hx rfl (hb hby at_105) rfl (teq c66).2 ?_
    refine XS.iconst X60.here hx rfl (hb hby at_108) ?_
    refine XS.goto X60.here hx rfl (pc0 := 109) (pc' := 113) rfl (hb hby at_109) (by decide) (by decide) ?_
    refine XS.istore X60.here hx rfl (hb hby at_113) rfl (l' := #[.val (.int i0), .val (.int i1), .val (.int i2), .val (.int i3), .val (.int i4), .val (.int v5_s0), .val .null, .val .null, .val (.ref b7), .val (.ref b12), .val (.ref b19), .val (.ref b28), .val (.int (r6 (-1 : Int32))), .val (.int (1 : Int32)), .unset, .unset]) rfl ?_
    refine XS.aload X60.here hx rfl (hb hby at_115) rfl rfl ?_
    show Steps p.tables e below (T60.setTop (mkF m 117 #[.val (.int i0), .val (.int i1), .val (.int i2), .val (.int i3), .val (.int i4), .val (.int v5_s0), .val .null, .val .null, .val (.ref b7), .val (.ref b12), .val (.ref b19), .val (.ref b28), .val (.int (r6 (-1 : Int32))), .val (.int (1 : Int32)), .unset, .unset] [(.ref b19)])) t
    exact k)
  obtain ⟨cq72, kq72, q72a, q72b, q72c⟩ := isOf hZ e60 F68
  obtain ⟨_, _, ⟨T72, L72, k72, n72⟩, -, X72, ⟨Lc72, hQ72, l72, y72, z72⟩, st72⟩ := X60.virtualBack hx (y := (⟨"com/example/penelope/penelope/program/Move", "isClaim", "()Z"⟩ : MethodName)) (z := (⟨"com/example/penelope/penelope/program/Move", "isClaim", "()Z"⟩ : MethodName)) hown (mvT hZ (hw _ (List.mem_of_getElem? (i := 30) rfl))) (mvT hZ (hw _ (List.mem_of_getElem? (i := 31) rfl))) (notFace_of_selects (args := #[]) (mvT hZ (hw _ (List.mem_of_getElem? (i := 33) rfl)))) (mvT hZ (hw _ (List.mem_of_getElem? (i := 33) rfl))) (mvT hZ (hw _ (List.mem_of_getElem? (i := 32) rfl))) (by decide) (backOf (W := 0) (rm6 l Z a0 hw [] b19 i1 T45.heap n0 (Nat.le_trans Z0 K45.1) F70) hZ (hw _ (List.mem_of_getElem? (i := 34) rfl)) (hw _ (List.mem_of_getElem? (i := 2) rfl)) (by decide) (by decide)) q72a q72c (g := (mkF m 117 #[.val (.int i0), .val (.int i1), .val (.int i2), .val (.int i3), .val (.int i4), .val (.int v5_s0), .val .null, .val .null, .val (.ref b7), .val (.ref b12), .val (.ref b19), .val (.ref b28), .val (.int (r6 (-1 : Int32))), .val (.int (1 : Int32)), .unset, .unset] [(.ref b19)])) rfl (by rw [hml]; rfl) (Steps.refl _) (argsL := []) (rest := []) (lenOf pd_4 rfl) rfl (by show 2 * 0 + _ ≤ _; exact Nat.le_of_eq rfl) (hb hby at_117) (fun _ _ => ⟨rfl, e60, (by decide : 4 + 0 ≤ _), (by decide : 24 + 0 ≤ _)⟩)
  dsimp only [Pt.U, Pt.locs, Pt.cells, Pt.slots] at X72 l72 y72 z72 st72 hQ72
  subst l72 y72 z72
  obtain ⟨rfl, N72q, e72⟩ := hQ72
  have N72 := Fr.app N60 N72q
  have P72 : own_Go p e below S0 (T72.setTop (mkF m 120 #[.val (.int i0), .val (.int i1), .val (.int i2), .val (.int i3), .val (.int i4), .val (.int v5_s0), .val .null, .val .null, .val (.ref b7), .val (.ref b12), .val (.ref b19), .val (.ref b28), .val (.int (r6 (-1 : Int32))), .val (.int (1 : Int32)), .unset, .unset] [(.int (r6 i1))])) := fun t k => P71 t (st72.trans k)
  have P73 : own_Go p e below S0 (T72.setTop (mkF m 122 #[.val (.int i0), .val (.int i1), .val (.int i2), .val (.int i3), .val (.int i4), .val (.int v5_s0), .val .null, .val .null, .val (.ref b7), .val (.ref b12), .val (.ref b19), .val (.ref b28), .val (.int (r6 (-1 : Int32))), .val (.int (1 : Int32)), .unset, .unset] [(.int (-1 : Int32)), (.int i1), (.int (r6 i1))])) := fun t k => P72 t (by
    show Steps p.tables e below (T72.setTop (mkF m 120 #[.val (.int i0), .val (.int i1), .val (.int i2), .val (.int i3), .val (.int i4), .val (.int v5_s0), .val .null, .val .null, .val (.ref b7), .val (.ref b12), .val (.ref b19), .val (.ref b28), .val (.int (r6 (-1 : Int32))), .val (.int (1 : Int32)), .unset, .unset] [(.int (r6 i1))])) t
    refine XS.iloadN X72.here hx rfl (hb hby at_120) rfl ?_
    refine XS.iconst X72.here hx rfl (hb hby at_121) ?_
    show Steps p.tables e below (T72.setTop (mkF m 122 #[.val (.int i0), .val (.int i1), .val (.int i2), .val (.int i3), .val (.int i4), .val (.int v5_s0), .val .null, .val .null, .val (.ref b7), .val (.ref b12), .val (.ref b19), .val (.ref b28), .val (.int (r6 (-1 : Int32))), .val (.int (1 : Int32)), .unset, .unset] [(.int (-1 : Int32)), (.int i1), (.int (r6 i1))])) t
    exact k)
  obtain ⟨v77_s0, hv77_s0, P77⟩ : ∃ (v77_s0 : Int32), (v77_s0 = (if i1 = (-1 : Int32) then (1 : Int32) else (0 : Int32))) ∧ (own_Go p e below S0 (T72.setTop (mkF m 130 #[.val (.int i0), .val (.int i1), .val (.int i2), .val (.int i3), .val (.int i4), .val (.int v5_s0), .val .null, .val .null, .val (.ref b7), .val (.ref b12), .val (.ref b19), .val (.ref b28), .val (.int (r6 (-1 : Int32))), .val (.int (1 : Int32)), .unset, .unset] [(.int v77_s0), (.int (r6 i1))]))) := by
    by_cases c74 : i1 = (-1 : Int32)
    · skip
      have P75 : own_Go p e below S0 (T72.setTop (mkF m 130 #[.val (.int i0), .val (.int i1), .val (.int i2), .val (.int i3), .val (.int i4), .val (.int v5_s0), .val .null, .val .null, .val (.ref b7), .val (.ref b12), .val (.ref b19), .val (.ref b28), .val (.int (r6 (-1 : Int32))), .val (.int (1 : Int32)), .unset, .unset] [(.int (1 : Int32)), (.int (r6 i1))])) := fun t k => P73 t (by
        show Steps p.tables e below (T72.setTop (mkF m 122 #[.val (.int i0), .val (.int i1), .val (.int i2), .val (.int i3), .val (.int i4), .val (.int v5_s0), .val .null, .val .null, .val (.ref b7), .val (.ref b12), .val (.ref b19), .val (.ref b28), .val (.int (r6 (-1 : Int32))), .val (.int (1 : Int32)), .unset, .unset] [(.int (-1 : Int32)), (.int i1), (.int (r6 i1))])) t
        refine XS.icmpNo X72.here hx rfl (hb hby at_122) rfl (teq c74).2 ?_
        refine XS.iconst X72.here hx rfl (hb hby at_125) ?_
        refine XS.goto X72.here hx rfl (pc0 := 126) (pc' := 130) rfl (hb hby at_126) (by decide) (by decide) ?_
        show Steps p.tables e below (T72.setTop (mkF m 130 #[.val (.int i0), .val (.int i1), .val (.int i2), .val (.int i3), .val (.int i4), .val (.int v5_s0), .val .null, .val .null, .val (.ref b7), .val (.ref b12), .val (.ref b19), .val (.ref b28), .val (.int (r6 (-1 : Int32))), .val (.int (1 : Int32)), .unset, .unset] [(.int (1 : Int32)), (.int (r6 i1))])) t
        exact k)
      exact ⟨(1 : Int32), (Eq.symm (if_pos c74)), P75⟩
    · skip
      have P76 : own_Go p e below S0 (T72.setTop (mkF m 130 #[.val (.int i0), .val (.int i1), .val (.int i2), .val (.int i3), .val (.int i4), .val (.int v5_s0), .val .null, .val .null, .val (.ref b7), .val (.ref b12), .val (.ref b19), .val (.ref b28), .val (.int (r6 (-1 : Int32))), .val (.int (1 : Int32)), .unset, .unset] [(.int (0 : Int32)), (.int (r6 i1))])) := fun t k => P73 t (by
        show Steps p.tables e below (T72.setTop (mkF m 122 #[.val (.int i0), .val (.int i1), .val (.int i2), .val (.int i3), .val (.int i4), .val (.int v5_s0), .val .null, .val .null, .val (.ref b7), .val (.ref b12), .val (.ref b19), .val (.ref b28), .val (.int (r6 (-1 : Int32))), .val (.int (1 : Int32)), .unset, .unset] [(.int (-1 : Int32)), (.int i1), (.int (r6 i1))])) t
        refine XS.icmpYes X72.here hx rfl (pc0 := 122) (pc' := 129) rfl (hb hby at_122) rfl (feq c74).2 (by decide) (by decide) ?_
        refine XS.iconst X72.here hx rfl (hb hby at_129) ?_
        show Steps p.tables e below (T72.setTop (mkF m 130 #[.val (.int i0), .val (.int i1), .val (.int i2), .val (.int i3), .val (.int i4), .val (.int v5_s0), .val .null, .val .null, .val (.ref b7), .val (.ref b12), .val (.ref b19), .val (.ref b28), .val (.int (r6 (-1 : Int32))), .val (.int (1 : Int32)), .unset, .unset] [(.int (0 : Int32)), (.int (r6 i1))])) t
        exact k)
      exact ⟨(0 : Int32), (Eq.symm (if_neg c74)), P76⟩
  have c78 : (r6 i1) = v77_s0 := Eq.symm hv77_s0
  have F79 : Exa Z T45.heap b28 "com/example/penelope/penelope/program/Move" := A28.keep Kc45
  have P80 : own_Go p e below S0 (T72.setTop (mkF m 142 #[.val (.int i0), .val (.int i1), .val (.int i2), .val (.int i3), .val (.int i4), .val (.int v5_s0), .val .null, .val .null, .val (.ref b7), .val (.ref b12), .val (.ref b19), .val (.ref b28), .val (.int (r6 (-1 : Int32))), .val (.int (1 : Int32)), .val (.int (1 : Int32)), .unset] [(.ref b28)])) := fun t k => P77 t (by
    show Steps p.tables e below (T72.setTop (mkF m 130 #[.val (.int i0), .val (.int i1), .val (.int i2), .val (.int i3), .val (.int i4), .val (.int v5_s0), .val .null, .val .null, .val (.ref b7), .val (.ref b12), .val (.ref b19), .val (.ref b28), .val (.int (r6 (-1 : Int32))), .val (.int (1 : Int32)), .unset, .unset] [(.int v77_s0), (.int (r6 i1))])) t
    refine XS.icmpNo X72.here hx rfl (hb hby at_130) rfl (teq c78).2 ?_
    refine XS.iconst X72.here hx rfl (hb hby at_133) ?_
    refine XS.goto X72.here hx rfl (pc0 := 134) (pc' := 138) rfl (hb hby at_134) (by decide) (by decide) ?_
    refine XS.istore X72.here hx rfl (hb hby at_138) rfl (l' := #[.val (.int i0), .val (.int i1), .val (.int i2), .val (.int i3), .val (.int i4), .val (.int v5_s0), .val .null, .val .null, .val (.ref b7), .val (.ref b12), .val (.ref b19), .val (.ref b28), .val (.int (r6 (-1 : Int32))), .val (.int (1 : Int32)), .val (.int (1 : Int32)), .unset]) rfl ?_
    refine XS.aload X72.here hx rfl (hb hby at_140) rfl rfl ?_
    show Steps p.tables e below (T72.setTop (mkF m 142 #[.val (.int i0), .val (.int i1), .val (.int i2), .val (.int i3), .val (.int i4), .val (.int v5_s0), .val .null, .val .null, .val (.ref b7), .val (.ref b12), .val (.ref b19), .val (.ref b28), .val (.int (r6 (-1 : Int32))), .val (.int (1 : Int32)), .val (.int (1 : Int32)), .unset] [(.ref b28)])) t
    exact k)
  obtain ⟨cq81, kq81, q81a, q81b, q81c⟩ := isOf hZ e72 F79
  obtain ⟨_, _, ⟨T81, L81, k81, n81⟩, -, X81, ⟨Lc81, hQ81, l81, y81, z81⟩, st81⟩ := X72.virtualBack hx (y := (⟨"com/example/penelope/penelope/program/Move", "isClaim", "()Z"⟩ : MethodName)) (z := (⟨"com/example/penelope/penelope/program/Move", "isClaim", "()Z"⟩ : MethodName)) hown (mvT hZ (hw _ (List.mem_of_getElem? (i := 30) rfl))) (mvT hZ (hw _ (List.mem_of_getElem? (i := 31) rfl))) (notFace_of_selects (args := #[]) (mvT hZ (hw _ (List.mem_of_getElem? (i := 33) rfl)))) (mvT hZ (hw _ (List.mem_of_getElem? (i := 33) rfl))) (mvT hZ (hw _ (List.mem_of_getElem? (i := 32) rfl))) (by decide) (backOf (W := 0) (rm6 l Z a0 hw [] b28 v5_s0 T45.heap n0 (Nat.le_trans Z0 K45.1) F45_0) hZ (hw _ (List.mem_of_getElem? (i := 34) rfl)) (hw _ (List.mem_of_getElem? (i := 2) rfl)) (by decide) (by decide)) q81a q81c (g := (mkF m 142 #[.val (.int i0), .val (.int i1), .val (.int i2), .val (.int i3), .val (.int i4), .val (.int v5_s0), .val .null, .val .null, .val (.ref b7), .val (.ref b12), .val (.ref b19), .val (.ref b28), .val (.int (r6 (-1 : Int32))), .val (.int (1 : Int32)), .val (.int (1 : Int32)), .unset] [(.ref b28)])) rfl (by rw [hml]; rfl) (Steps.refl _) (argsL := []) (rest := []) (lenOf pd_4 rfl) rfl (by show 2 * 0 + _ ≤ _; exact Nat.le_of_eq rfl) (hb hby at_142) (fun _ _ => ⟨rfl, e72, (by decide : 4 + 0 ≤ _), (by decide : 24 + 0 ≤ _)⟩)
  dsimp only [Pt.U, Pt.locs, Pt.cells, Pt.slots] at X81 l81 y81 z81 st81 hQ81
  subst l81 y81 z81
  obtain ⟨rfl, N81q, e81⟩ := hQ81
  have N81 := Fr.app N72 N81q
  have P81 : own_Go p e below S0 (T81.setTop (mkF m 145 #[.val (.int i0), .val (.int i1), .val (.int i2), .val (.int i3), .val (.int i4), .val (.int v5_s0), .val .null, .val .null, .val (.ref b7), .val (.ref b12), .val (.ref b19), .val (.ref b28), .val (.int (r6 (-1 : Int32))), .val (.int (1 : Int32)), .val (.int (1 : Int32)), .unset] [(.int (r6 v5_s0))])) := fun t k => P80 t (st81.trans k)
  have P82 : own_Go p e below S0 (T81.setTop (mkF m 148 #[.val (.int i0), .val (.int i1), .val (.int i2), .val (.int i3), .val (.int i4), .val (.int v5_s0), .val .null, .val .null, .val (.ref b7), .val (.ref b12), .val (.ref b19), .val (.ref b28), .val (.int (r6 (-1 : Int32))), .val (.int (1 : Int32)), .val (.int (1 : Int32)), .unset] [(.int (-1 : Int32)), (.int v5_s0), (.int (r6 v5_s0))])) := fun t k => P81 t (by
    show Steps p.tables e below (T81.setTop (mkF m 145 #[.val (.int i0), .val (.int i1), .val (.int i2), .val (.int i3), .val (.int i4), .val (.int v5_s0), .val .null, .val .null, .val (.ref b7), .val (.ref b12), .val (.ref b19), .val (.ref b28), .val (.int (r6 (-1 : Int32))), .val (.int (1 : Int32)), .val (.int (1 : Int32)), .unset] [(.int (r6 v5_s0))])) t
    refine XS.iload X81.here hx rfl (hb hby at_145) rfl ?_
    refine XS.iconst X81.here hx rfl (hb hby at_147) ?_
    show Steps p.tables e below (T81.setTop (mkF m 148 #[.val (.int i0), .val (.int i1), .val (.int i2), .val (.int i3), .val (.int i4), .val (.int v5_s0), .val .null, .val .null, .val (.ref b7), .val (.ref b12), .val (.ref b19), .val (.ref b28), .val (.int (r6 (-1 : Int32))), .val (.int (1 : Int32)), .val (.int (1 : Int32)), .unset] [(.int (-1 : Int32)), (.int v5_s0), (.int (r6 v5_s0))])) t
    exact k)
  obtain ⟨v86_s0, hv86_s0, P86⟩ : ∃ (v86_s0 : Int32), (v86_s0 = (if v5_s0 = (-1 : Int32) then (1 : Int32) else (0 : Int32))) ∧ (own_Go p e below S0 (T81.setTop (mkF m 156 #[.val (.int i0), .val (.int i1), .val (.int i2), .val (.int i3), .val (.int i4), .val (.int v5_s0), .val .null, .val .null, .val (.ref b7), .val (.ref b12), .val (.ref b19), .val (.ref b28), .val (.int (r6 (-1 : Int32))), .val (.int (1 : Int32)), .val (.int (1 : Int32)), .unset] [(.int v86_s0), (.int (r6 v5_s0))]))) := by
    by_cases c83 : v5_s0 = (-1 : Int32)
    · skip
      have P84 : own_Go p e below S0 (T81.setTop (mkF m 156 #[.val (.int i0), .val (.int i1), .val (.int i2), .val (.int i3), .val (.int i4), .val (.int v5_s0), .val .null, .val .null, .val (.ref b7), .val (.ref b12), .val (.ref b19), .val (.ref b28), .val (.int (r6 (-1 : Int32))), .val (.int (1 : Int32)), .val (.int (1 : Int32)), .unset] [(.int (1 : Int32)), (.int (r6 v5_s0))])) := fun t k => P82 t (by
        show Steps p.tables e below (T81.setTop (mkF m 148 #[.val (.int i0), .val (.int i1), .val (.int i2), .val (.int i3), .val (.int i4), .val (.int v5_s0), .val .null, .val .null, .val (.ref b7), .val (.ref b12), .val (.ref b19), .val (.ref b28), .val (.int (r6 (-1 : Int32))), .val (.int (1 : Int32)), .val (.int (1 : Int32)), .unset] [(.int (-1 : Int32)), (.int v5_s0), (.int (r6 v5_s0))])) t
        refine XS.icmpNo X81.here hx rfl (hb hby at_148) rfl (teq c83).2 ?_
        refine XS.iconst X81.here hx rfl (hb hby at_151) ?_
        refine XS.goto X81.here hx rfl (pc0 := 152) (pc' := 156) rfl (hb hby at_152) (by decide) (by decide) ?_
        show Steps p.tables e below (T81.setTop (mkF m 156 #[.val (.int i0), .val (.int i1), .val (.int i2), .val (.int i3), .val (.int i4), .val (.int v5_s0), .val .null, .val .null, .val (.ref b7), .val (.ref b12), .val (.ref b19), .val (.ref b28), .val (.int (r6 (-1 : Int32))), .val (.int (1 : Int32)), .val (.int (1 : Int32)), .unset] [(.int (1 : Int32)), (.int (r6 v5_s0))])) t
        exact k)
      exact ⟨(1 : Int32), (Eq.symm (if_pos c83)), P84⟩
    · skip
      have P85 : own_Go p e below S0 (T81.setTop (mkF m 156 #[.val (.int i0), .val (.int i1), .val (.int i2), .val (.int i3), .val (.int i4), .val (.int v5_s0), .val .null, .val .null, .val (.ref b7), .val (.ref b12), .val (.ref b19), .val (.ref b28), .val (.int (r6 (-1 : Int32))), .val (.int (1 : Int32)), .val (.int (1 : Int32)), .unset] [(.int (0 : Int32)), (.int (r6 v5_s0))])) := fun t k => P82 t (by
        show Steps p.tables e below (T81.setTop (mkF m 148 #[.val (.int i0), .val (.int i1), .val (.int i2), .val (.int i3), .val (.int i4), .val (.int v5_s0), .val .null, .val .null, .val (.ref b7), .val (.ref b12), .val (.ref b19), .val (.ref b28), .val (.int (r6 (-1 : Int32))), .val (.int (1 : Int32)), .val (.int (1 : Int32)), .unset] [(.int (-1 : Int32)), (.int v5_s0), (.int (r6 v5_s0))])) t
        refine XS.icmpYes X81.here hx rfl (pc0 := 148) (pc' := 155) rfl (hb hby at_148) rfl (feq c83).2 (by decide) (by decide) ?_
        refine XS.iconst X81.here hx rfl (hb hby at_155) ?_
        show Steps p.tables e below (T81.setTop (mkF m 156 #[.val (.int i0), .val (.int i1), .val (.int i2), .val (.int i3), .val (.int i4), .val (.int v5_s0), .val .null, .val .null, .val (.ref b7), .val (.ref b12), .val (.ref b19), .val (.ref b28), .val (.int (r6 (-1 : Int32))), .val (.int (1 : Int32)), .val (.int (1 : Int32)), .unset] [(.int (0 : Int32)), (.int (r6 v5_s0))])) t
        exact k)
      exact ⟨(0 : Int32), (Eq.symm (if_neg c83)), P85⟩
  have c87 : (r6 v5_s0) = v86_s0 := Eq.symm hv86_s0
  have c88 : ¬ ((r6 (-1 : Int32)) = (0 : Int32)) := by decide
  have P89 : own_Go p e below S0 (T81.setTop (mkF m 191 #[.val (.int i0), .val (.int i1), .val (.int i2), .val (.int i3), .val (.int i4), .val (.int v5_s0), .val .null, .val .null, .val (.ref b7), .val (.ref b12), .val (.ref b19), .val (.ref b28), .val (.int (r6 (-1 : Int32))), .val (.int (1 : Int32)), .val (.int (1 : Int32)), .val (.int (1 : Int32))] [(.int (1 : Int32))])) := fun t k => P86 t (by
    show Steps p.tables e below (T81.setTop (mkF m 156 #[.val (.int i0), .val (.int i1), .val (.int i2), .val (.int i3), .val (.int i4), .val (.int v5_s0), .val .null, .val .null, .val (.ref b7), .val (.ref b12), .val (.ref b19), .val (.ref b28), .val (.int (r6 (-1 : Int32))), .val (.int (1 : Int32)), .val (.int (1 : Int32)), .unset] [(.int v86_s0), (.int (r6 v5_s0))])) t
    refine XS.icmpNo X81.here hx rfl (hb hby at_156) rfl (teq c87).2 ?_
    refine XS.iconst X81.here hx rfl (hb hby at_159) ?_
    refine XS.goto X81.here hx rfl (pc0 := 160) (pc' := 164) rfl (hb hby at_160) (by decide) (by decide) ?_
    refine XS.istore X81.here hx rfl (hb hby at_164) rfl (l' := #[.val (.int i0), .val (.int i1), .val (.int i2), .val (.int i3), .val (.int i4), .val (.int v5_s0), .val .null, .val .null, .val (.ref b7), .val (.ref b12), .val (.ref b19), .val (.ref b28), .val (.int (r6 (-1 : Int32))), .val (.int (1 : Int32)), .val (.int (1 : Int32)), .val (.int (1 : Int32))]) rfl ?_
    refine XS.iload X81.here hx rfl (hb hby at_166) rfl ?_
    refine XS.ifNo X81.here hx rfl (hb hby at_168) rfl ((if0 _ _).trans (feq c88).1) ?_
    show Steps p.tables e below (T81.setTop (mkF m 171 #[.val (.int i0), .val (.int i1), .val (.int i2), .val (.int i3), .val (.int i4), .val (.int v5_s0), .val .null, .val .null, .val (.ref b7), .val (.ref b12), .val (.ref b19), .val (.ref b28), .val (.int (r6 (-1 : Int32))), .val (.int (1 : Int32)), .val (.int (1 : Int32)), .val (.int (1 : Int32))] [])) t
    refine XS.iload X81.here hx rfl (hb hby at_171) rfl ?_
    refine XS.ifNo X81.here hx rfl (hb hby at_173) rfl ((if0 _ _).trans (feq (by decide)).1) ?_
    refine XS.iload X81.here hx rfl (hb hby at_176) rfl ?_
    refine XS.ifNo X81.here hx rfl (hb hby at_178) rfl ((if0 _ _).trans (feq (by decide)).1) ?_
    refine XS.iload X81.here hx rfl (hb hby at_181) rfl ?_
    refine XS.ifNo X81.here hx rfl (hb hby at_183) rfl ((if0 _ _).trans (feq (by decide)).1) ?_
    show Steps p.tables e below (T81.setTop (mkF m 186 #[.val (.int i0), .val (.int i1), .val (.int i2), .val (.int i3), .val (.int i4), .val (.int v5_s0), .val .null, .val .null, .val (.ref b7), .val (.ref b12), .val (.ref b19), .val (.ref b28), .val (.int (r6 (-1 : Int32))), .val (.int (1 : Int32)), .val (.int (1 : Int32)), .val (.int (1 : Int32))] [])) t
    refine XS.iconst X81.here hx rfl (hb hby at_186) ?_
    refine XS.goto X81.here hx rfl (pc0 := 187) (pc' := 191) rfl (hb hby at_187) (by decide) (by decide) ?_
    show Steps p.tables e below (T81.setTop (mkF m 191 #[.val (.int i0), .val (.int i1), .val (.int i2), .val (.int i3), .val (.int i4), .val (.int v5_s0), .val .null, .val .null, .val (.ref b7), .val (.ref b12), .val (.ref b19), .val (.ref b28), .val (.int (r6 (-1 : Int32))), .val (.int (1 : Int32)), .val (.int (1 : Int32)), .val (.int (1 : Int32))] [(.int (1 : Int32))])) t
    exact k)
  have F90 : Fld Z h12 b7 "com/example/penelope/penelope/program/Move" "process" "I" (.int (-1 : Int32)) := F9_1.ext E12
  have F91 : Fld Z T14.heap b7 "com/example/penelope/penelope/program/Move" "process" "I" (.int (-1 : Int32)) := F90.keep Kc14 (ninS ne_b7_b12 nin0)
  have F92 : Fld Z h19 b7 "com/example/penelope/penelope/program/Move" "process" "I" (.int (-1 : Int32)) := F91.ext E19
  have F93 : Fld Z T21.heap b7 "com/example/penelope/penelope/program/Move" "process" "I" (.int (-1 : Int32)) := F92.keep Kc21 (ninS ne_b7_b19 nin0)
  have F94 : Fld Z h28 b7 "com/example/penelope/penelope/program/Move" "process" "I" (.int (-1 : Int32)) := F93.ext E28
  have F95 : Fld Z T45.heap b7 "com/example/penelope/penelope/program/Move" "process" "I" (.int (-1 : Int32)) := F94.keep Kc45 (ninS ne_b7_b28 nin0)
  have F96 : Fld Z h12 b7 "com/example/penelope/penelope/program/Move" "type" "Lcom/example/penelope/penelope/program/ProcessType;" .null := F9_2.ext E12
  have F97 : Fld Z T14.heap b7 "com/example/penelope/penelope/program/Move" "type" "Lcom/example/penelope/penelope/program/ProcessType;" .null := F96.keep Kc14 (ninS ne_b7_b12 nin0)
  have F98 : Fld Z h19 b7 "com/example/penelope/penelope/program/Move" "type" "Lcom/example/penelope/penelope/program/ProcessType;" .null := F97.ext E19
  have F99 : Fld Z T21.heap b7 "com/example/penelope/penelope/program/Move" "type" "Lcom/example/penelope/penelope/program/ProcessType;" .null := F98.keep Kc21 (ninS ne_b7_b19 nin0)
  have F100 : Fld Z h28 b7 "com/example/penelope/penelope/program/Move" "type" "Lcom/example/penelope/penelope/program/ProcessType;" .null := F99.ext E28
  have F101 : Fld Z T45.heap b7 "com/example/penelope/penelope/program/Move" "type" "Lcom/example/penelope/penelope/program/ProcessType;" .null := F100.keep Kc45 (ninS ne_b7_b28 nin0)
  have F102 : Fld Z h12 b7 "com/example/penelope/penelope/program/Move" "choice" "I" (.int i4) := F9_3.ext E12
  have F103 : Fld Z T14.heap b7 "com/example/penelope/penelope/program/Move" "choice" "I" (.int i4) := F102.keep Kc14 (ninS ne_b7_b12 nin0)
  have F104 : Fld Z h19 b7 "com/example/penelope/penelope/program/Move" "choice" "I" (.int i4) := F103.ext E19
  have F105 : Fld Z T21.heap b7 "com/example/penelope/penelope/program/Move" "choice" "I" (.int i4) := F104.keep Kc21 (ninS ne_b7_b19 nin0)
  have F106 : Fld Z h28 b7 "com/example/penelope/penelope/program/Move" "choice" "I" (.int i4) := F105.ext E28
  have F107 : Fld Z T45.heap b7 "com/example/penelope/penelope/program/Move" "choice" "I" (.int i4) := F106.keep Kc45 (ninS ne_b7_b28 nin0)
  have F108 : Fld Z h12 b7 "com/example/penelope/penelope/program/Move" "transition" "Lcom/example/penelope/penelope/program/Transition;" .null := F9_4.ext E12
  have F109 : Fld Z T14.heap b7 "com/example/penelope/penelope/program/Move" "transition" "Lcom/example/penelope/penelope/program/Transition;" .null := F108.keep Kc14 (ninS ne_b7_b12 nin0)
  have F110 : Fld Z h19 b7 "com/example/penelope/penelope/program/Move" "transition" "Lcom/example/penelope/penelope/program/Transition;" .null := F109.ext E19
  have F111 : Fld Z T21.heap b7 "com/example/penelope/penelope/program/Move" "transition" "Lcom/example/penelope/penelope/program/Transition;" .null := F110.keep Kc21 (ninS ne_b7_b19 nin0)
  have F112 : Fld Z h28 b7 "com/example/penelope/penelope/program/Move" "transition" "Lcom/example/penelope/penelope/program/Transition;" .null := F111.ext E28
  have F113 : Fld Z T45.heap b7 "com/example/penelope/penelope/program/Move" "transition" "Lcom/example/penelope/penelope/program/Transition;" .null := F112.keep Kc45 (ninS ne_b7_b28 nin0)
  have F114 : Fld Z h12 b7 "com/example/penelope/penelope/program/Move" "receiver" "Lcom/example/penelope/penelope/program/Move;" .null := F9_5.ext E12
  have F115 : Fld Z T14.heap b7 "com/example/penelope/penelope/program/Move" "receiver" "Lcom/example/penelope/penelope/program/Move;" .null := F114.keep Kc14 (ninS ne_b7_b12 nin0)
  have F116 : Fld Z h19 b7 "com/example/penelope/penelope/program/Move" "receiver" "Lcom/example/penelope/penelope/program/Move;" .null := F115.ext E19
  have F117 : Fld Z T21.heap b7 "com/example/penelope/penelope/program/Move" "receiver" "Lcom/example/penelope/penelope/program/Move;" .null := F116.keep Kc21 (ninS ne_b7_b19 nin0)
  have F118 : Fld Z h28 b7 "com/example/penelope/penelope/program/Move" "receiver" "Lcom/example/penelope/penelope/program/Move;" .null := F117.ext E28
  have F119 : Fld Z T45.heap b7 "com/example/penelope/penelope/program/Move" "receiver" "Lcom/example/penelope/penelope/program/Move;" .null := F118.keep Kc45 (ninS ne_b7_b28 nin0)
  have F120 : Fld Z T45.heap b12 "com/example/penelope/penelope/program/Move" "process" "I" (.int i3) := F34.keep Kc45 (ninS ne_b12_b28 nin0)
  have F121 : Fld Z T45.heap b12 "com/example/penelope/penelope/program/Move" "type" "Lcom/example/penelope/penelope/program/ProcessType;" .null := F37.keep Kc45 (ninS ne_b12_b28 nin0)
  have F122 : Fld Z T45.heap b12 "com/example/penelope/penelope/program/Move" "choice" "I" (.int i4) := F40.keep Kc45 (ninS ne_b12_b28 nin0)
  have F123 : Fld Z T45.heap b12 "com/example/penelope/penelope/program/Move" "transition" "Lcom/example/penelope/penelope/program/Transition;" .null := F43.keep Kc45 (ninS ne_b12_b28 nin0)
  have F124 : Fld Z h19 b12 "com/example/penelope/penelope/program/Move" "receiver" "Lcom/example/penelope/penelope/program/Move;" .null := F14_5.ext E19
  have F125 : Fld Z T21.heap b12 "com/example/penelope/penelope/program/Move" "receiver" "Lcom/example/penelope/penelope/program/Move;" .null := F124.keep Kc21 (ninS ne_b12_b19 nin0)
  have F126 : Fld Z h28 b12 "com/example/penelope/penelope/program/Move" "receiver" "Lcom/example/penelope/penelope/program/Move;" .null := F125.ext E28
  have F127 : Fld Z T45.heap b12 "com/example/penelope/penelope/program/Move" "receiver" "Lcom/example/penelope/penelope/program/Move;" .null := F126.keep Kc45 (ninS ne_b12_b28 nin0)
  have F128 : Fld Z h28 b19 "com/example/penelope/penelope/program/Move" "process" "I" (.int i3) := F21_1.ext E28
  have F129 : Fld Z T45.heap b19 "com/example/penelope/penelope/program/Move" "process" "I" (.int i3) := F128.keep Kc45 (ninS ne_b19_b28 nin0)
  have F130 : Fld Z h28 b19 "com/example/penelope/penelope/program/Move" "type" "Lcom/example/penelope/penelope/program/ProcessType;" .null := F21_2.ext E28
  have F131 : Fld Z T45.heap b19 "com/example/penelope/penelope/program/Move" "type" "Lcom/example/penelope/penelope/program/ProcessType;" .null := F130.keep Kc45 (ninS ne_b19_b28 nin0)
  have F132 : Fld Z h28 b19 "com/example/penelope/penelope/program/Move" "choice" "I" (.int i4) := F21_3.ext E28
  have F133 : Fld Z T45.heap b19 "com/example/penelope/penelope/program/Move" "choice" "I" (.int i4) := F132.keep Kc45 (ninS ne_b19_b28 nin0)
  have F134 : Fld Z h28 b19 "com/example/penelope/penelope/program/Move" "transition" "Lcom/example/penelope/penelope/program/Transition;" .null := F21_4.ext E28
  have F135 : Fld Z T45.heap b19 "com/example/penelope/penelope/program/Move" "transition" "Lcom/example/penelope/penelope/program/Transition;" .null := F134.keep Kc45 (ninS ne_b19_b28 nin0)
  have F136 : Fld Z h28 b19 "com/example/penelope/penelope/program/Move" "receiver" "Lcom/example/penelope/penelope/program/Move;" .null := F21_5.ext E28
  have F137 : Fld Z T45.heap b19 "com/example/penelope/penelope/program/Move" "receiver" "Lcom/example/penelope/penelope/program/Move;" .null := F136.keep Kc45 (ninS ne_b19_b28 nin0)
  obtain ⟨fs, hr, hrun, hended, hW, hsame⟩ := X81.leave (v := some (.int (1 : Int32))) (fun h => by rw [Bd.returns] at h; cases h)
  refine ⟨_, _, own_from hS0 (P89 _ ?_), hrun, hended, _, _, rfl, ?_, ⟨_, rfl⟩, hW, hsame.mono (by decide) (by decide)⟩
  · show Steps p.tables e below (T81.setTop (mkF m 191 #[.val (.int i0), .val (.int i1), .val (.int i2), .val (.int i3), .val (.int i4), .val (.int v5_s0), .val .null, .val .null, .val (.ref b7), .val (.ref b12), .val (.ref b19), .val (.ref b28), .val (.int (r6 (-1 : Int32))), .val (.int (1 : Int32)), .val (.int (1 : Int32)), .val (.int (1 : Int32))] [(.int (1 : Int32))])) _
    exact retN X81 hx (t := .boolean) Bd.returns (by simp) (hb hby at_191) hr
  · show Q0 Z i0 i1 i2 i3 i4 h0 n0 _ T81.heap _
    rw [e81]
    exact ⟨rfl, N81⟩
set_option maxRecDepth 65536 in
set_option maxHeartbeats 40000000 in
theorem comes_1 {Post : Tables → Env → Array Value → State → Outcome → State → Prop} (hpost : ∀ tb e args s v u, (limb_1_1.after args s (.returned v) u = true ∧ limb_1_2.after args s (.returned v) u = true ∧ True) → FrameEnd s (.returned v) u (Jvm.fieldLocs frame_1_writes args s ++ Jvm.arrayLocs frame_1_arrays args s ++ Jvm.staticLocs frame_1_statics s) 16 128 → Post tb e args s (.returned v) u) :
    ArmFor flags0 classFile x code maxLocals ret World_1 tables_1 room_1 Calls_1 rest_1 Pre_1 Post := by
  intro l hfl _ _ p e ha hc hk s m args below hf hA hF happ hP
  obtain ⟨hcalls, hrest, hpre⟩ := hP
  obtain ⟨-, -, -, hnamed, -, -, -, hat⟩ := (Spec.applies_iff hf).mp happ
  obtain ⟨hg, hn⟩ := and_e (Cond.before_iff.mp (show (Jvm.Cond.and given_1 narrow_1).before args s = true from hpre))
  obtain ⟨ga1, gb1⟩ := and_e hg
  obtain ⟨ga2, gb2⟩ := and_e gb1
  obtain ⟨ga3, gb3⟩ := and_e gb2
  obtain ⟨ga4, gb4⟩ := and_e gb3
  obtain ⟨ga5, gb5⟩ := and_e gb4
  obtain ⟨w0, w1, w2, w3, w4, rfl⟩ : ∃ w0 w1 w2 w3 w4 : Value, args = #[w0, w1, w2, w3, w4] := by
    have hs : args.size = 5 := by simpa [Cond.value, given_1] using ga1
    obtain ⟨L⟩ := args
    match L, hs with
    | [w0, w1, w2, w3, w4], _ => exact ⟨w0, w1, w2, w3, w4, rfl⟩
  have hw := fun d (hd : d ∈ tables_1) => atoms_spec (ws := Jvm.Cond.code x code maxLocals ret :: tables_1) hat d (List.mem_cons_of_mem _ hd)
  have hfit : Fit s := fun {y c} hc i hi => by
    obtain ⟨ha, rfl⟩ := Array.getElem?_eq_some_iff.mp hc
    have q := List.all_eq_true.mp ((Array.all_eq_true_iff_forall_mem.mp hF) _ (Array.getElem_mem ha)) i (List.mem_range.mpr hi)
    simpa [Array.getElem?_eq_getElem hi] using q
  obtain ⟨i0, ei0⟩ := is_v ga2
  obtain rfl : w0 = (.int i0) := Option.some.inj ei0
  obtain ⟨i1, ei1⟩ := is_v ga3
  obtain rfl : w1 = (.int i1) := Option.some.inj ei1
  obtain ⟨i2, ei2⟩ := is_v ga4
  obtain rfl : w2 = (.int i2) := Option.some.inj ei2
  obtain ⟨i3, ei3⟩ := is_v ga5
  obtain rfl : w3 = (.int i3) := Option.some.inj ei3
  obtain ⟨i4, ei4⟩ := is_v gb5
  obtain rfl : w4 = (.int i4) := Option.some.inj ei4
  obtain ⟨n, o, h1, h2, h3, _, L, rfl, ⟨rfl, N⟩, hq⟩ := rm0 l s _ hw tables_1 i0 i1 i2 i3 i4 s.heap s.heap.size (Nat.le_refl _) p e ha hc hk s m _ below hf ((Spec.applies_iff_loose hf).mp happ).1 ⟨rfl, State.Warmed39.refl s, rfl⟩ trivial
  refine ⟨n, _, h1, h2, h3, hpost _ _ _ _ _ _ ⟨Cond.after_iff.mpr rfl, Cond.after_iff.mpr (eq_i res_at (Term.int_eval (1)) rfl), trivial⟩ ⟨hq.1, hq.2.1, (hq.2.2.sift fun y hy => Or.inr (N y hy)).mono (by decide) (by decide)⟩⟩
theorem main_1_1 : Claimed_1_1 := comes_1 fun _ _ _ _ _ _ h hF => ⟨h.1, hF⟩
theorem main_1_2 : Claimed_1_2 := comes_1 fun _ _ _ _ _ _ h hF => ⟨h.2.1, hF⟩
end Jvm.Pilot.@@N@@
namespace Jvm.Pilot.@@N@@
open Jvm Jvm.ClassFile Sem Op Lib Jvm.Free Jvm.Stand Jvm.Pilot.@@N@@.Jvm.D
/-! MADE BY PROGRAM (witnessworld.py) out of the Statement's table words and the real class files: 9 classes; the members and pool entries that the words name. The judged class is class 1, her method 1. -/
namespace start1
open Jvm.ClassFile
def u (s : String) : CpInfo := .utf8 (stringToUtf16 s)
/-- a pool by its gaps: so many unusable entries, then the entry; so many at the end -/
def gap : Nat → List CpInfo → List CpInfo
  | 0, r => r
  | n + 1, r => .unusable :: gap n r
def poolList (es : List (Nat × CpInfo)) (last : Nat) : List CpInfo := es.foldr (fun e r => gap e.1 (e.2 :: r)) (gap last [])
def pool (es : List (Nat × CpInfo)) (last : Nat) : Array CpInfo := ⟨poolList es last⟩
def fileOf (pool : Array CpInfo) (this : Nat) (attrs : Array Attribute := #[]) (ms : Array MethodInfo := #[]) (fl : Nat := 33) (sup : Nat := 0) (ifs : Array Nat := #[]) (fds : Array FieldInfo := #[]) : ClassFile where
  minorVersion := 0
  majorVersion := 65
  constantPool := pool
  accessFlags := fl
  thisClass := this
  superClass := sup
  interfaces := ifs
  fields := fds
  methods := ms
  attributes := attrs
def plain (name : String) (sup : Option ClassId) : Class where
  name := name
  kind := .ordinary
  loader := none
  accessFlags := 33
  super := sup
  interfaces := #[]
  cf := none
  fields := #[]
  methods := #[]
  instanceTypes := #[]
  staticTypes := #[]
  resolved := #[]
  callSites := []
  init := .initialized
  statics := none
  mirror := none

def pool0 : Array CpInfo := pool [(5, u "<init>"), (0, u "()V"), (1, .class_ 10), (1, u "java/lang/Object")] 113

def k0c0 : Code := { maxStack := 0, maxLocals := 1, code := object_method_1_code, exceptionTable := #[], attributes := #[] }
def k0m0 : Method := { name := "<init>", desc := "()V", sig := { parameters := [], returnType := none }, accessFlags := 1, code := some k0c0 }
/-- java/lang/Object -/
def k0 : Class := { plain "java/lang/Object" none with
  accessFlags := 33
  interfaces := #[]
  cf := some (fileOf pool0 8 #[] #[{ accessFlags := 1, nameIndex := 5, descriptorIndex := 6, attributes := #[] }] 33 0 #[] #[])
  fields := #[]
  methods := #[k0m0]
  instanceTypes := #[]
  staticTypes := #[]
  resolved := Array.replicate 124 none
  statics := none }

def pool1 : Array CpInfo := pool [(2, .class_ 4), (1, u "java/lang/Object"), (0, u "<init>"), (0, u "()V"), (0, .class_ 8), (0, u "com/example/penelope/penelope/program/Move"), (0, .methodref 7 10), (0, .nameAndType 5 11), (0, u "(Lcom/example/penelope/penelope/program/ProcessType;ILcom/example/penelope/penelope/program/Transition;)V"), (0, .methodref 7 13), (0, .nameAndType 5 14), (0, u "(IILcom/example/penelope/penelope/program/ProcessType;ILcom/example/penelope/penelope/program/Transition;)V"), (0, .methodref 7 16), (0, .nameAndType 5 17), (0, u "(Lcom/example/penelope/penelope/program/Move;Lcom/example/penelope/penelope/program/Move;)V"), (0, .methodref 7 19), (0, .nameAndType 20 21), (0, u "isClaim"), (0, u "()Z"), (0, .class_ 23), (0, u "com/example/penelope/penelope/program/MoveIsClaimPinLaw"), (2, u "law"), (0, u "(IIIII)Z")] 7

def k1m0 : Method := { name := "<init>", desc := "()V", sig := { parameters := [], returnType := none }, accessFlags := 2, code := none }
def k1c1 : Code := { maxStack := 7, maxLocals := 16, code := code, exceptionTable := #[], attributes := #[] }
def k1m1 : Method := { name := "law", desc := "(IIIII)Z", sig := { parameters := [.int, .int, .int, .int, .int], returnType := some .boolean }, accessFlags := 9, code := some k1c1 }
/-- com/example/penelope/penelope/program/MoveIsClaimPinLaw -/
def k1 : Class := { plain "com/example/penelope/penelope/program/MoveIsClaimPinLaw" (some 0) with
  accessFlags := 49
  interfaces := #[]
  cf := some (fileOf pool1 22 #[] #[{ accessFlags := 2, nameIndex := 5, descriptorIndex := 6, attributes := #[] }, { accessFlags := 9, nameIndex := 26, descriptorIndex := 27, attributes := #[] }] 49 2 #[] #[])
  fields := #[]
  methods := #[k1m0, k1m1]
  instanceTypes := #[]
  staticTypes := #[]
  resolved := Array.replicate 35 none
  statics := none }

def pool2 : Array CpInfo := pool [(1, .methodref 2 3), (0, .class_ 4), (0, .nameAndType 5 6), (0, u "com/example/penelope/penelope/program/Move"), (0, u "<init>"), (0, u "(IILcom/example/penelope/penelope/program/ProcessType;ILcom/example/penelope/penelope/program/Transition;Lcom/example/penelope/penelope/program/Move;)V"), (0, .fieldref 2 8), (0, .nameAndType 9 10), (0, u "pid"), (0, u "I"), (0, .fieldref 2 12), (0, .nameAndType 13 10), (0, u "process"), (0, .fieldref 2 15), (0, .nameAndType 16 17), (0, u "type"), (0, u "Lcom/example/penelope/penelope/program/ProcessType;"), (0, .fieldref 2 19), (0, .nameAndType 20 10), (0, u "choice"), (0, .fieldref 2 22), (0, .nameAndType 23 24), (0, u "transition"), (0, u "Lcom/example/penelope/penelope/program/Transition;"), (0, .methodref 26 27), (0, .class_ 28), (0, .nameAndType 5 29), (0, u "java/lang/Object"), (0, u "()V"), (0, .fieldref 2 31), (0, .nameAndType 32 33), (0, u "receiver"), (0, u "Lcom/example/penelope/penelope/program/Move;"), (15, u "CLAIM_PID"), (2, u "(IILcom/example/penelope/penelope/program/ProcessType;ILcom/example/penelope/penelope/program/Transition;)V"), (2, u "(Lcom/example/penelope/penelope/program/ProcessType;ILcom/example/penelope/penelope/program/Transition;)V"), (0, u "(Lcom/example/penelope/penelope/program/Move;Lcom/example/penelope/penelope/program/Move;)V"), (0, u "isClaim"), (0, u "()Z")] 7

def k2c0 : Code := { maxStack := 7, maxLocals := 6, code := prog_94_method_1_code, exceptionTable := #[], attributes := #[] }
def k2m0 : Method := { name := "<init>", desc := "(IILcom/example/penelope/penelope/program/ProcessType;ILcom/example/penelope/penelope/program/Transition;)V", sig := { parameters := [.int, .int, (.object "com/example/penelope/penelope/program/ProcessType"), .int, (.object "com/example/penelope/penelope/program/Transition")], returnType := none }, accessFlags := 0, code := some k2c0 }
def k2c1 : Code := { maxStack := 7, maxLocals := 4, code := prog_94_method_2_code, exceptionTable := #[], attributes := #[] }
def k2m1 : Method := { name := "<init>", desc := "(Lcom/example/penelope/penelope/program/ProcessType;ILcom/example/penelope/penelope/program/Transition;)V", sig := { parameters := [(.object "com/example/penelope/penelope/program/ProcessType"), .int, (.object "com/example/penelope/penelope/program/Transition")], returnType := none }, accessFlags := 0, code := some k2c1 }
def k2c2 : Code := { maxStack := 7, maxLocals := 3, code := prog_94_method_3_code, exceptionTable := #[], attributes := #[] }
def k2m2 : Method := { name := "<init>", desc := "(Lcom/example/penelope/penelope/program/Move;Lcom/example/penelope/penelope/program/Move;)V", sig := { parameters := [(.object "com/example/penelope/penelope/program/Move"), (.object "com/example/penelope/penelope/program/Move")], returnType := none }, accessFlags := 0, code := some k2c2 }
def k2c3 : Code := { maxStack := 2, maxLocals := 7, code := prog_94_method_4_code, exceptionTable := #[], attributes := #[] }
def k2m3 : Method := { name := "<init>", desc := "(IILcom/example/penelope/penelope/program/ProcessType;ILcom/example/penelope/penelope/program/Transition;Lcom/example/penelope/penelope/program/Move;)V", sig := { parameters := [.int, .int, (.object "com/example/penelope/penelope/program/ProcessType"), .int, (.object "com/example/penelope/penelope/program/Transition"), (.object "com/example/penelope/penelope/program/Move")], returnType := none }, accessFlags := 2, code := some k2c3 }
def k2c4 : Code := { maxStack := 2, maxLocals := 1, code := prog_94_method_6_code, exceptionTable := #[], attributes := #[] }
def k2m4 : Method := { name := "isClaim", desc := "()Z", sig := { parameters := [], returnType := some .boolean }, accessFlags := 1, code := some k2c4 }
/-- com/example/penelope/penelope/program/Move -/
def k2 : Class := { plain "com/example/penelope/penelope/program/Move" (some 0) with
  accessFlags := 49
  interfaces := #[]
  cf := some (fileOf pool2 2 #[] #[{ accessFlags := 0, nameIndex := 5, descriptorIndex := 52, attributes := #[] }, { accessFlags := 0, nameIndex := 5, descriptorIndex := 55, attributes := #[] }, { accessFlags := 0, nameIndex := 5, descriptorIndex := 56, attributes := #[] }, { accessFlags := 2, nameIndex := 5, descriptorIndex := 6, attributes := #[] }, { accessFlags := 1, nameIndex := 57, descriptorIndex := 58, attributes := #[] }] 49 26 #[] #[{ accessFlags := 25, nameIndex := 49, descriptorIndex := 10, attributes := #[] }, { accessFlags := 18, nameIndex := 9, descriptorIndex := 10, attributes := #[] }, { accessFlags := 18, nameIndex := 13, descriptorIndex := 10, attributes := #[] }, { accessFlags := 18, nameIndex := 16, descriptorIndex := 17, attributes := #[] }, { accessFlags := 18, nameIndex := 20, descriptorIndex := 10, attributes := #[] }, { accessFlags := 18, nameIndex := 23, descriptorIndex := 24, attributes := #[] }, { accessFlags := 18, nameIndex := 32, descriptorIndex := 33, attributes := #[] }])
  fields := #[{ name := "CLAIM_PID", type := .int, accessFlags := 25, slot := 0, constantValue := 0 }, { name := "pid", type := .int, accessFlags := 18, slot := 0, constantValue := 0 }, { name := "process", type := .int, accessFlags := 18, slot := 1, constantValue := 0 }, { name := "type", type := (.object "com/example/penelope/penelope/program/ProcessType"), accessFlags := 18, slot := 2, constantValue := 0 }, { name := "choice", type := .int, accessFlags := 18, slot := 3, constantValue := 0 }, { name := "transition", type := (.object "com/example/penelope/penelope/program/Transition"), accessFlags := 18, slot := 4, constantValue := 0 }, { name := "receiver", type := (.object "com/example/penelope/penelope/program/Move"), accessFlags := 18, slot := 5, constantValue := 0 }]
  methods := #[k2m0, k2m1, k2m2, k2m3, k2m4]
  instanceTypes := #[.int, .int, (.object "com/example/penelope/penelope/program/ProcessType"), .int, (.object "com/example/penelope/penelope/program/Transition"), (.object "com/example/penelope/penelope/program/Move")]
  staticTypes := #[.int]
  resolved := Array.replicate 66 none
  statics := none }

def pool3 : Array CpInfo := pool [(1, u "java/lang/Cloneable"), (0, .class_ 1), (0, u "java/lang/Object"), (0, .class_ 3)] 3

/-- java/lang/Cloneable -/
def k3 : Class := { plain "java/lang/Cloneable" (some 0) with
  accessFlags := 1537
  interfaces := #[]
  cf := some (fileOf pool3 2 #[] #[] 1537 4 #[] #[])
  fields := #[]
  methods := #[]
  instanceTypes := #[]
  staticTypes := #[]
  resolved := Array.replicate 8 none
  statics := none }

def pool4 : Array CpInfo := pool [(1, u "java/io/Serializable"), (0, .class_ 1), (0, u "java/lang/Object"), (0, .class_ 3)] 3

/-- java/io/Serializable -/
def k4 : Class := { plain "java/io/Serializable" (some 0) with
  accessFlags := 1537
  interfaces := #[]
  cf := some (fileOf pool4 2 #[] #[] 1537 4 #[] #[])
  fields := #[]
  methods := #[]
  instanceTypes := #[]
  staticTypes := #[]
  resolved := Array.replicate 8 none
  statics := none }

/-- the primitive byte -/
def k5 : Class := { plain "byte" none with kind := .primitive 'B', accessFlags := 0x411 }
/-- [B -/
def k6 : Class := { plain "[B" (some 0) with kind := .array 5 .byte, interfaces := #[3, 4], accessFlags := 1041 }

/-- the primitive int -/
def k7 : Class := { plain "int" none with kind := .primitive 'I', accessFlags := 0x411 }
/-- [I -/
def k8 : Class := { plain "[I" (some 0) with kind := .array 7 .int, interfaces := #[3, 4], accessFlags := 1041 }

def heap : Heap := #[]
def classes : Array Class := #[k0, k1, k2, k3, k4, k5, k6, k7, k8]
def interned : List (Array UInt16 × Addr) := []
def slotsUsed : Nat := 0
def theMethod : MethodId := ⟨1, 1⟩
def args0 : Array Value := #[.int 5, .int 3, .int 1, .int 2, .int 4]
def aboutOver (below : List Frame) : State where
  vm := { classes := classes, interned := interned.toArray }
  heap := heap
  slotsUsed := slotsUsed
  threads := #[{ frames := .invoking theMethod args0 :: below }]
def below0 : List Frame := [.native { method := ⟨0, 0⟩, args := #[] }]
def about1 : State := aboutOver below0
def p0 : Program := .bare "" "" ""
def e0 : Env := launch0.env 0 0 0
theorem w_frames : about1.frames = Frame.invoking theMethod args0 :: below0 := rfl
set_option maxRecDepth 65536 in
theorem w_args : argsFit about1.vm theMethod args0 = true := by decide +kernel
set_option maxRecDepth 65536 in
theorem w_heap : heapFits about1 = true := by decide +kernel
set_option maxRecDepth 65536 in
theorem w_runnable : about1.curStatus? = some .runnable := by decide +kernel
set_option maxRecDepth 65536 in
theorem w_alone : about1.alone = true := by decide +kernel
set_option maxRecDepth 65536 in
theorem w_named : about1.methodNamed? x = some theMethod := by decide +kernel
set_option maxRecDepth 65536 in
theorem w_hears : about1.hears theMethod below0 = true := by decide +kernel
set_option maxRecDepth 65536 in
theorem w_ripe : about1.ripe theMethod args0 below0 = true := by decide +kernel
theorem w_running : about1.status = .running := rfl
set_option maxRecDepth 65536 in
theorem w_room : about1.hasRoom e0.platform room_1 = true :=
  launch0.hasRoom_least _ room_1 (by decide +kernel) (by decide +kernel) (by decide +kernel) (by decide +kernel) (by decide +kernel) (by decide +kernel)
theorem allAtoms_all (ts : List Jvm.Cond) (a : Array Jvm.Value) (st : Jvm.State) : (allAtoms ts).before a st = ts.all (fun c => c.before a st) := by
  induction ts with
  | nil => rfl
  | cons c t ih =>
    show (Jvm.Cond.and c (allAtoms t)).before a st = _
    rw [Jvm.Cond.before_and, ih, List.all_cons]
def words1 : List Jvm.Cond := Jvm.Cond.code x code maxLocals ret :: tables_1
/-- a 'code' word, met by the world's own term for the bytes: nothing is compared byte by byte -/
theorem code_word {y : MethodName} {bytes : ByteArray} {mx : Nat} {rt : Option FieldType} {a : Array Value} {s : State} {m : MethodId} {meth : Method} {c : Code} (h1 : s.methodNamed? y = some m) (h2 : s.vm.method? m = some meth) (h3 : meth.code = some c) (h4 : c.code = bytes)
    (h5 : (c.maxLocals == mx && c.exceptionTable.isEmpty && decide (c.maxStack ≤ mostOperands) && decide (meth.sig.returnType = rt) && !meth.locks && decide (parseMethodDescriptor y.desc = some meth.sig)) = true) : (Jvm.Cond.code y bytes mx rt).before a s = true := by
  simp only [Bool.and_eq_true, beq_iff_eq, Bool.not_eq_true', decide_eq_true_eq] at h5
  obtain ⟨⟨⟨⟨⟨g1, g2⟩, g3⟩, g4⟩, g5⟩, g6⟩ := h5
  simp [Cond.before, Cond.holds, Cond.value, h1, h2, h3, h4, g1, g2, g3, g4, g5, g6]
def isCode : Jvm.Cond → Bool
  | .code _ _ _ _ => true
  | _ => false
theorem all_split {L : List Jvm.Cond} {P : Jvm.Cond → Bool} (h1 : L.all (fun c => isCode c || P c) = true) (h2 : ∀ c ∈ L.filter isCode, P c = true) : L.all P = true := by
  refine List.all_eq_true.mpr fun c hc => ?_
  have h := List.all_eq_true.mp h1 c hc
  rcases Bool.eq_false_or_eq_true (isCode c) with hi | hi
  · exact h2 c (List.mem_filter.mpr ⟨hc, hi⟩)
  · simpa [hi] using h
set_option maxRecDepth 65536 in
theorem w_c0 : (Jvm.Cond.code x code maxLocals ret).before args0 about1 = true := code_word (m := ⟨1, 1⟩) (meth := k1m1) (c := k1c1) (by decide +kernel) rfl rfl rfl (by decide +kernel)
set_option maxRecDepth 65536 in
theorem w_c1 : (Jvm.Cond.code ({ cls := "com/example/penelope/penelope/program/Move", name := "<init>", desc := "(Lcom/example/penelope/penelope/program/ProcessType;ILcom/example/penelope/penelope/program/Transition;)V" } : Jvm.MethodName) prog_94_method_2_code (4 : Nat) (Option.none : Option Jvm.ClassFile.FieldType)).before args0 about1 = true := code_word (m := ⟨2, 1⟩) (meth := k2m1) (c := k2c1) (by decide +kernel) rfl rfl rfl (by decide +kernel)
set_option maxRecDepth 65536 in
theorem w_c2 : (Jvm.Cond.code ({ cls := "com/example/penelope/penelope/program/Move", name := "<init>", desc := "(IILcom/example/penelope/penelope/program/ProcessType;ILcom/example/penelope/penelope/program/Transition;Lcom/example/penelope/penelope/program/Move;)V" } : Jvm.MethodName) prog_94_method_4_code (7 : Nat) (Option.none : Option Jvm.ClassFile.FieldType)).before args0 about1 = true := code_word (m := ⟨2, 3⟩) (meth := k2m3) (c := k2c3) (by decide +kernel) rfl rfl rfl (by decide +kernel)
set_option maxRecDepth 65536 in
theorem w_c3 : (Jvm.Cond.code ({ cls := "java/lang/Object", name := "<init>", desc := "()V" } : Jvm.MethodName) object_method_1_code (1 : Nat) (Option.none : Option Jvm.ClassFile.FieldType)).before args0 about1 = true := code_word (m := ⟨0, 0⟩) (meth := k0m0) (c := k0c0) (by decide +kernel) rfl rfl rfl (by decide +kernel)
set_option maxRecDepth 65536 in
theorem w_c4 : (Jvm.Cond.code ({ cls := "com/example/penelope/penelope/program/Move", name := "<init>", desc := "(IILcom/example/penelope/penelope/program/ProcessType;ILcom/example/penelope/penelope/program/Transition;)V" } : Jvm.MethodName) prog_94_method_1_code (6 : Nat) (Option.none : Option Jvm.ClassFile.FieldType)).before args0 about1 = true := code_word (m := ⟨2, 0⟩) (meth := k2m0) (c := k2c0) (by decide +kernel) rfl rfl rfl (by decide +kernel)
set_option maxRecDepth 65536 in
theorem w_c5 : (Jvm.Cond.code ({ cls := "com/example/penelope/penelope/program/Move", name := "<init>", desc := "(Lcom/example/penelope/penelope/program/Move;Lcom/example/penelope/penelope/program/Move;)V" } : Jvm.MethodName) prog_94_method_3_code (3 : Nat) (Option.none : Option Jvm.ClassFile.FieldType)).before args0 about1 = true := code_word (m := ⟨2, 2⟩) (meth := k2m2) (c := k2c2) (by decide +kernel) rfl rfl rfl (by decide +kernel)
set_option maxRecDepth 65536 in
theorem w_c6 : (Jvm.Cond.code ({ cls := "com/example/penelope/penelope/program/Move", name := "isClaim", desc := "()Z" } : Jvm.MethodName) prog_94_method_6_code (1 : Nat) (Option.some Jvm.ClassFile.FieldType.boolean)).before args0 about1 = true := code_word (m := ⟨2, 4⟩) (meth := k2m4) (c := k2c4) (by decide +kernel) rfl rfl rfl (by decide +kernel)
def codes1 : List Jvm.Cond := [Jvm.Cond.code x code maxLocals ret, Jvm.Cond.code ({ cls := "com/example/penelope/penelope/program/Move", name := "<init>", desc := "(Lcom/example/penelope/penelope/program/ProcessType;ILcom/example/penelope/penelope/program/Transition;)V" } : Jvm.MethodName) prog_94_method_2_code (4 : Nat) (Option.none : Option Jvm.ClassFile.FieldType), Jvm.Cond.code ({ cls := "com/example/penelope/penelope/program/Move", name := "<init>", desc := "(IILcom/example/penelope/penelope/program/ProcessType;ILcom/example/penelope/penelope/program/Transition;Lcom/example/penelope/penelope/program/Move;)V" } : Jvm.MethodName) prog_94_method_4_code (7 : Nat) (Option.none : Option Jvm.ClassFile.FieldType), Jvm.Cond.code ({ cls := "java/lang/Object", name := "<init>", desc := "()V" } : Jvm.MethodName) object_method_1_code (1 : Nat) (Option.none : Option Jvm.ClassFile.FieldType), Jvm.Cond.code ({ cls := "com/example/penelope/penelope/program/Move", name := "<init>", desc := "(IILcom/example/penelope/penelope/program/ProcessType;ILcom/example/penelope/penelope/program/Transition;)V" } : Jvm.MethodName) prog_94_method_1_code (6 : Nat) (Option.none : Option Jvm.ClassFile.FieldType), Jvm.Cond.code ({ cls := "com/example/penelope/penelope/program/Move", name := "<init>", desc := "(Lcom/example/penelope/penelope/program/Move;Lcom/example/penelope/penelope/program/Move;)V" } : Jvm.MethodName) prog_94_method_3_code (3 : Nat) (Option.none : Option Jvm.ClassFile.FieldType), Jvm.Cond.code ({ cls := "com/example/penelope/penelope/program/Move", name := "isClaim", desc := "()Z" } : Jvm.MethodName) prog_94_method_6_code (1 : Nat) (Option.some Jvm.ClassFile.FieldType.boolean)]
set_option maxRecDepth 65536 in
theorem codes_eq : words1.filter isCode = codes1 := rfl
theorem w_codes : ∀ c ∈ words1.filter isCode, c.before args0 about1 = true := by
  rw [codes_eq]
  intro c hc
  simp only [codes1, List.mem_cons, List.not_mem_nil, or_false] at hc
  rcases hc with rfl | rfl | rfl | rfl | rfl | rfl | rfl
  · exact w_c0
  · exact w_c1
  · exact w_c2
  · exact w_c3
  · exact w_c4
  · exact w_c5
  · exact w_c6
set_option maxRecDepth 65536 in
theorem w_t1 : (words1.take 24).all (fun c => isCode c || c.before args0 about1) = true := by decide +kernel
set_option maxRecDepth 65536 in
theorem w_t2 : (words1.drop 24).all (fun c => isCode c || c.before args0 about1) = true := by decide +kernel
theorem w_tables : (allAtoms (Jvm.Cond.code x code maxLocals ret :: tables_1)).before args0 about1 = true := by
  rw [allAtoms_all]
  show words1.all (fun c => c.before args0 about1) = true
  refine all_split ?_ w_codes
  rw [← List.take_append_drop 24 words1, List.all_append, w_t1, w_t2]
  rfl
set_option maxRecDepth 65536 in
theorem w_case : (Jvm.Cond.and given_1 narrow_1).before args0 about1 = true := by decide +kernel
theorem w_applies : (headSpec (Jvm.Cond.code x code maxLocals ret :: tables_1) room_1).applies x e0.platform about1 = true :=
  (Spec.applies_iff w_frames).mpr ⟨w_running, w_runnable, w_alone, w_named, w_hears, w_ripe, w_room, w_tables⟩
theorem atStart : AtStart classFile x code maxLocals ret World_1 tables_1 room_1 Calls_1 rest_1 Pre_1 launch0 p0 e0 about1 theMethod args0 below0 :=
  ⟨lists_1, trivial, launch0.admits_env _ _ _, launch0.least_env, fairChoices_fair.cas, fairChoices_fair.clock, w_frames, w_args, w_heap, w_applies, trivial, trivial, w_case⟩
end start1
theorem witness_1 : WitnessClaimed_1 := ⟨start1.p0, start1.e0, start1.about1, start1.theMethod, start1.args0, start1.below0, start1.atStart⟩
end Jvm.Pilot.@@N@@
