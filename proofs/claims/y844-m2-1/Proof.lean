import JvmDerived
import JvmDerived.Pilot.@@N@@Statement
import JvmDerived.Pilot.@@N@@Code
set_option linter.unusedVariables false
set_option linter.unusedSimpArgs false
namespace Jvm.RoadKit
open Sem ClassFile Op Lib Jvm.Stand Jvm.Free Jvm.LawKit
section New
variable {p : Program} {l : Launch} {e : Env} {R : Room} {s : State} {m : MethodId} {args : Array Value} {below : List Frame} {meth : Method} {c : Code} {T : State} {locs : List Loc} {cells slots : Nat}
theorem retI (X : Stand p l e R s m args below meth c T locs cells slots) (hx : p.tables.exec = Jvm.exec) {pc : Nat} {Ls : Array Slot} {z : Int32} {rest : List Value} (hret : meth.sig.returnType = some .int) (hd : decode c.code pc = .ok (.ireturn, 1)) {fs : List Frame}
    (hl : ∀ (f : JFrame) (acts : List Action), f.method = m → f.locked = none → f.entered = [] → (doReturn e (T.setTop f) acts (some (.int z))).1 = T.setFrames fs) : Steps p.tables e below (T.setTop (mkF m pc Ls (.int z :: rest))) (T.setFrames fs) := by
  have hm' : T.vm.method? m = some meth := X.method'
  have hn : narrow .int (.int z) = .int z := rfl
  show Steps p.tables e below (T.setTop { method := m, pc := pc, locals := Ls, stack := _ :: rest, locked := none }) _
  jvm_step X.here [X.here.top, hx, hd, hm', hret, hn]
  first | (intro acts; rw [hl _ acts rfl rfl rfl]) | rw [hl _ _ rfl rfl rfl]
  exact Steps.refl _
end New
end Jvm.RoadKit
namespace Jvm.Pilot.@@N@@
open Jvm Jvm.ClassFile Sem Op Lib Jvm.Free Jvm.Stand Jvm.LawKit Jvm.RoadKit Bundle Jvm.Pilot.@@N@@.Jvm.D
abbrev own_Go (p : Program) (e : Env) (below : List Frame) (A B : State) : Prop := ∀ t, Steps p.tables e below B t → Steps p.tables e below A t
theorem own_from {p : Program} {e : Env} {below : List Frame} {A B t : State} (h : A = B) (k : Steps p.tables e below A t) : Steps p.tables e below B t := h ▸ k
theorem own_ite1 {P : Prop} [Decidable P] (h : P) : ¬ ((if P then (1 : Int32) else (0 : Int32)) = (0 : Int32)) := by rw [if_pos h]; decide
theorem own_ite0 {P : Prop} [Decidable P] (h : ¬ P) : (if P then (1 : Int32) else (0 : Int32)) = (0 : Int32) := if_neg h
def own_Pl (h : Heap) (a : Addr) : Prop := ∃ c : Cell, h[a]? = some c ∧ c.vm.isStatics = false
theorem own_plE {Z : State} {h : Heap} {a : Addr} {C : String} (F : Exa Z h a C) : own_Pl h a := by obtain ⟨cell, k, h1, _, _, h4, _⟩ := F; exact ⟨cell, h1, h4⟩
theorem own_plF {Z : State} {h : Heap} {a : Addr} {C n d : String} {v : Value} (F : Fld Z h a C n d v) : own_Pl h a := by obtain ⟨cell, cf, k, i, f, h1, _, _, _, h5, _⟩ := F; exact ⟨cell, h1, h5⟩
theorem own_plA {Z : State} {h : Heap} {a : Addr} {k : ClassId} {ty : FieldType} {n : Int32} {vs : List Value} {d : Value} (F : Arv Z h a k ty n vs d) : own_Pl h a := by obtain ⟨c, A, _⟩ := F; exact ⟨c, A.1, A.plain⟩
theorem own_staK {Z : State} {h h' : Heap} {C n d : String} {v : Value} {ws : List Addr} (F : Sta Z h C n d v) (K : Keep h h' ws) (q : ∀ x ∈ ws, own_Pl h x) : Sta Z h' C n d v := by
  obtain ⟨cf, i, k, f, st, cell, h1, h2, h3, h4, h5, h6, h7⟩ := F
  refine ⟨cf, i, k, f, st, cell, h1, h2, h3, h4, K.2.1 st cell h5 fun z => ?_, h6, h7⟩
  obtain ⟨c, q1, q2⟩ := q st z
  cases h5.symm.trans q1
  rw [h6] at q2; cases q2
theorem own_insK {Z : State} {h h' : Heap} {a : Addr} {C : String} {bo : Bool} {ws : List Addr} (F : Ins Z h a C bo) (K : Keep h h' ws) : Ins Z h' a C bo := by
  obtain ⟨cell, cT, h1, h2, h3⟩ := F
  obtain ⟨c', q1, q2, q3, q4⟩ := K.2.2 a cell h1
  exact ⟨c', cT, q1, h2, by rw [q2, q3]; exact h3⟩
theorem own_atI {c : Cell} {vs : List Value} {d : Value} {ty : FieldType} {j : Int32} (H : Has c vs d) (G : ∀ i, i < c.slots.size → fits ty (vs.getD i d) = true) (q : ¬ (j < 0 ∨ c.slots.size ≤ j.toNatClampNeg)) (ht : ty = .int ∨ ty = .boolean ∨ ty = .byte ∨ ty = .char ∨ ty = .short) : ∃ z, c.slots[j.toNatClampNeg]? = some (.int z) := by
  have hlt := Nat.lt_of_not_le fun y => q (Or.inr y)
  obtain ⟨z, hz⟩ := fit_I (G _ hlt) ht
  exact ⟨z, by rw [H _ hlt, hz]⟩
theorem own_cat {v : Value} (h : v.isRef = true) : v.category = 1 := by cases v <;> simp [Value.isRef, Value.category] at h ⊢
theorem own_and3 (x : Int32) : (x &&& (3 : Int32)) = (0 : Int32) ∨ (x &&& (3 : Int32)) = (1 : Int32) ∨ (x &&& (3 : Int32)) = (2 : Int32) ∨ (x &&& (3 : Int32)) = (3 : Int32) := by
  have h := c_mask x 3 2 (by decide) (by decide)
  have e0 : (0 : Int32).toInt = 0 := by decide
  have e1 : (1 : Int32).toInt = 1 := by decide
  have e2 : (2 : Int32).toInt = 2 := by decide
  have e3 : (3 : Int32).toInt = 3 := by decide
  simp only [← Int32.toInt_inj, e0, e1, e2, e3]
  omega
theorem own_arr0 {s : State} (hf : Fit s) {args : Array Value} {t : Term} {x : Addr} {ty : FieldType} {d : Value} (ev : t.eval args s none [] s = some (.ref x)) (ha : (Cond.arrayOf t ty).value args s none s [] = some true) (hl : (Cond.eq (.length t) (.int (0 : Int32))).value args s none s [] = some true) : ∃ k, Arv s s.heap x k ty (0 : Int32) [] d := by
  obtain ⟨c, A⟩ := Arr.start ev ha
  have hlen := Cond.eq_int (Cond.before_iff.mpr hl) rfl
  obtain ⟨sd, SA, hev, harrAt, hlt⟩ := Term.length_spec hlen
  cases ev.symm.trans hev
  have h31 := SBG.length_lt hev harrAt hlen
  have hA := A.fin (Vm.Alike.refl _)
  cases hA.symm.trans harrAt
  have e : (Term.length t).eval args s none [] s = some (.int c.slots.size.toInt32) := len_f ev hA h31
  have e2 : c.slots.size.toInt32 = (0 : Int32) := by simpa using Option.some.inj (e.symm.trans hlen)
  exact ⟨c.cls, Arv.start hf A h31 e2 (by decide) (by decide) trivial⟩
theorem pn_2 : plainName "com/example/penelope/penelope/program/Move" = true := by first | (simp [plainName, overriddenIn]; done) | decide +kernel
theorem d2_0 : decode prog_95_method_4_code 0 = .ok (.aload_n 0, 1) := by decide +kernel
theorem d2_1 : decode prog_95_method_4_code 1 = .ok (.invokespecial 25, 3) := by decide +kernel
theorem d2_4 : decode prog_95_method_4_code 4 = .ok (.aload_n 0, 1) := by decide +kernel
theorem d2_5 : decode prog_95_method_4_code 5 = .ok (.iload_n 1, 1) := by decide +kernel
theorem d2_6 : decode prog_95_method_4_code 6 = .ok (.putfield 7, 3) := by decide +kernel
theorem d2_9 : decode prog_95_method_4_code 9 = .ok (.aload_n 0, 1) := by decide +kernel
theorem d2_10 : decode prog_95_method_4_code 10 = .ok (.iload_n 2, 1) := by decide +kernel
theorem d2_11 : decode prog_95_method_4_code 11 = .ok (.putfield 11, 3) := by decide +kernel
theorem d2_14 : decode prog_95_method_4_code 14 = .ok (.aload_n 0, 1) := by decide +kernel
theorem d2_15 : decode prog_95_method_4_code 15 = .ok (.aload_n 3, 1) := by decide +kernel
theorem d2_16 : decode prog_95_method_4_code 16 = .ok (.putfield 14, 3) := by decide +kernel
theorem d2_19 : decode prog_95_method_4_code 19 = .ok (.aload_n 0, 1) := by decide +kernel
theorem d2_20 : decode prog_95_method_4_code 20 = .ok (.iload 4, 2) := by decide +kernel
theorem d2_22 : decode prog_95_method_4_code 22 = .ok (.putfield 18, 3) := by decide +kernel
theorem d2_25 : decode prog_95_method_4_code 25 = .ok (.aload_n 0, 1) := by decide +kernel
theorem d2_26 : decode prog_95_method_4_code 26 = .ok (.aload 5, 2) := by decide +kernel
theorem d2_28 : decode prog_95_method_4_code 28 = .ok (.putfield 21, 3) := by decide +kernel
theorem d2_31 : decode prog_95_method_4_code 31 = .ok (.aload_n 0, 1) := by decide +kernel
theorem d2_32 : decode prog_95_method_4_code 32 = .ok (.aload 6, 2) := by decide +kernel
theorem d2_34 : decode prog_95_method_4_code 34 = .ok (.putfield 30, 3) := by decide +kernel
theorem d2_37 : decode prog_95_method_4_code 37 = .ok (.return_, 1) := by decide +kernel
theorem ef_2 (m : MethodId) (q2_0 : Addr) (q2_1 : Int32) (q2_2 : Int32) (q2_4 : Int32) : entryFrame m #[(.ref q2_0), (.int q2_1), (.int q2_2), .null, (.int q2_4), .null, .null] 7 = mkF m 0 #[.val (.ref q2_0), .val (.int q2_1), .val (.int q2_2), .val .null, .val (.int q2_4), .val .null, .val .null] [] := by first | (simp [entryFrame, mkF, argsToLocals, Value.category]; done) | rfl
def Q2 (Z : State) (q2_0 : Addr) (q2_1 : Int32) (q2_2 : Int32) (q2_4 : Int32) (u2_q2_0_pid : Value) (u2_q2_0_process : Value) (u2_q2_0_type : Value) (u2_q2_0_choice : Value) (u2_q2_0_transition : Value) (u2_q2_0_receiver : Value) (h0 : Heap) (n0 : Nat) (v : Option Value) (h : Heap) (L : List Loc) : Prop := v = none ∧ Fr n0 L ∧ Keep h0 h [q2_0] ∧ Fld Z h q2_0 "com/example/penelope/penelope/program/Move" "pid" "I" (.int q2_1) ∧ Fld Z h q2_0 "com/example/penelope/penelope/program/Move" "process" "I" (.int q2_2) ∧ Fld Z h q2_0 "com/example/penelope/penelope/program/Move" "type" "Lcom/example/penelope/penelope/program/ProcessType;" .null ∧ Fld Z h q2_0 "com/example/penelope/penelope/program/Move" "choice" "I" (.int q2_4) ∧ Fld Z h q2_0 "com/example/penelope/penelope/program/Move" "transition" "Lcom/example/penelope/penelope/program/Transition;" .null ∧ Fld Z h q2_0 "com/example/penelope/penelope/program/Move" "receiver" "Lcom/example/penelope/penelope/program/Move;" .null
set_option maxRecDepth 65536 in
set_option maxHeartbeats 40000000 in
theorem rm2 (l : Launch) (Z : State) (a0 : Array Value) (hw : ∀ d ∈ tables_1, d.before a0 Z = true) (ws : List Jvm.Cond) (q2_0 : Addr) (q2_1 : Int32) (q2_2 : Int32) (q2_4 : Int32) (u2_q2_0_pid : Value) (u2_q2_0_process : Value) (u2_q2_0_type : Value) (u2_q2_0_choice : Value) (u2_q2_0_transition : Value) (u2_q2_0_receiver : Value) (h0 : Heap) (n0 : Nat) (Z0 : n0 ≤ h0.size) (E_q2_0 : Exa Z h0 q2_0 "com/example/penelope/penelope/program/Move") (F_q2_0_pid : Fld Z h0 q2_0 "com/example/penelope/penelope/program/Move" "pid" "I" u2_q2_0_pid) (g_q2_0 : n0 ≤ q2_0) (F_q2_0_process : Fld Z h0 q2_0 "com/example/penelope/penelope/program/Move" "process" "I" u2_q2_0_process) (F_q2_0_type : Fld Z h0 q2_0 "com/example/penelope/penelope/program/Move" "type" "Lcom/example/penelope/penelope/program/ProcessType;" u2_q2_0_type) (F_q2_0_choice : Fld Z h0 q2_0 "com/example/penelope/penelope/program/Move" "choice" "I" u2_q2_0_choice) (F_q2_0_transition : Fld Z h0 q2_0 "com/example/penelope/penelope/program/Move" "transition" "Lcom/example/penelope/penelope/program/Transition;" u2_q2_0_transition) (F_q2_0_receiver : Fld Z h0 q2_0 "com/example/penelope/penelope/program/Move" "receiver" "Lcom/example/penelope/penelope/program/Move;" u2_q2_0_receiver) :
    MetFree l (⟨"com/example/penelope/penelope/program/Move", "<init>", "(IILcom/example/penelope/penelope/program/ProcessType;ILcom/example/penelope/penelope/program/Transition;Lcom/example/penelope/penelope/program/Move;)V"⟩ : MethodName) (head1 (Jvm.Cond.code (⟨"com/example/penelope/penelope/program/Move", "<init>", "(IILcom/example/penelope/penelope/program/ProcessType;ILcom/example/penelope/penelope/program/Transition;Lcom/example/penelope/penelope/program/Move;)V"⟩ : MethodName) prog_95_method_4_code 7 none :: ws) ({ frames := 1, cells := 0, slots := 0, locals := 12 } : Room)) (fun a U => a = #[(.ref q2_0), (.int q2_1), (.int q2_2), .null, (.int q2_4), .null, .null] ∧ Z.Warmed39 U.vm ∧ U.heap = h0) (fun _ _ _ _ _ => True) (fun _ U o U' => ∃ v L, o = .returned v ∧ Q2 Z q2_0 q2_1 q2_2 q2_4 u2_q2_0_pid u2_q2_0_process u2_q2_0_type u2_q2_0_choice u2_q2_0_transition u2_q2_0_receiver h0 n0 v U'.heap L ∧ FrameEnd U o U' L ({ frames := 1, cells := 0, slots := 0, locals := 12 } : Room).cells ({ frames := 1, cells := 0, slots := 0, locals := 12 } : Room).slots) := by
  refine MetFree.of_bodySF (plainFor_of_name pn_2) hisR ?_
  intro p e s m args below meth c s₁ Bd hml0 hP hK
  obtain ⟨rfl, hZ, hh⟩ := hP
  have hx := Bd.exec
  have hby := Bd.bytes
  have hml : c.maxLocals = 7 := hml0
  have hown : s.vm.findClass "com/example/penelope/penelope/program/Move" = some m.cls := findClass_of_methodNamed Bd.named
  have hnm := (name_of_methodNamed Bd.named Bd.method).1
  have X0 : Stand p l e ({ frames := 1, cells := 0, slots := 0, locals := 12 } : Room) s m #[(.ref q2_0), (.int q2_1), (.int q2_2), .null, (.int q2_4), .null, .null] below meth c s₁ [] 0 0 := Stand.of_body Bd
  have e0 : s₁.heap = h0 := by rw [← hh, Bd.state]; rfl
  have N0 := Fr.nil n0
  obtain ⟨S0, hS0⟩ : ∃ z, z = s₁.setTop (entryFrame m #[(.ref q2_0), (.int q2_1), (.int q2_2), .null, (.int q2_4), .null, .null] 7) := ⟨_, rfl⟩
  have P0 : own_Go p e below S0 (s₁.setTop (mkF m 0 #[.val (.ref q2_0), .val (.int q2_1), .val (.int q2_2), .val .null, .val (.int q2_4), .val .null, .val .null] [])) := fun t k => by rw [hS0]; exact castTop (ef_2 m q2_0 q2_1 q2_2 q2_4) k
  have P1 : own_Go p e below S0 (s₁.setTop (mkF m 1 #[.val (.ref q2_0), .val (.int q2_1), .val (.int q2_2), .val .null, .val (.int q2_4), .val .null, .val .null] [(.ref q2_0)])) := fun t k => P0 t (by
    show Steps p.tables e below (s₁.setTop (mkF m 0 #[.val (.ref q2_0), .val (.int q2_1), .val (.int q2_2), .val .null, .val (.int q2_4), .val .null, .val .null] [])) t
    refine XS.aloadN X0.here hx rfl (hb hby d2_0) rfl rfl ?_
    show Steps p.tables e below (s₁.setTop (mkF m 1 #[.val (.ref q2_0), .val (.int q2_1), .val (.int q2_2), .val .null, .val (.int q2_4), .val .null, .val .null] [(.ref q2_0)])) t
    exact k)
  obtain ⟨T2, X2, e2, st2⟩ := initO X0 hx hZ hown (hw _ (List.mem_of_getElem? (i := 9) rfl)) (hw _ (List.mem_of_getElem? (i := 10) rfl)) (hw _ (List.mem_of_getElem? (i := 11) rfl)) e0 (g := (mkF m 1 #[.val (.ref q2_0), .val (.int q2_1), .val (.int q2_2), .val .null, .val (.int q2_4), .val .null, .val .null] [(.ref q2_0)])) rfl (by rw [hml]; rfl) rfl (hb hby d2_1) (by decide) (W := 0) (by show 2 * 0 + _ ≤ _; exact Nat.le_of_eq rfl) (by decide)
  have P2 : own_Go p e below S0 (T2.setTop (mkF m 4 #[.val (.ref q2_0), .val (.int q2_1), .val (.int q2_2), .val .null, .val (.int q2_4), .val .null, .val .null] [])) := fun t k => P1 t (st2 _ k)
  have P3 : own_Go p e below S0 (T2.setTop (mkF m 6 #[.val (.ref q2_0), .val (.int q2_1), .val (.int q2_2), .val .null, .val (.int q2_4), .val .null, .val .null] [(.int q2_1), (.ref q2_0)])) := fun t k => P2 t (by
    show Steps p.tables e below (T2.setTop (mkF m 4 #[.val (.ref q2_0), .val (.int q2_1), .val (.int q2_2), .val .null, .val (.int q2_4), .val .null, .val .null] [])) t
    refine XS.aloadN X2.here hx rfl (hb hby d2_4) rfl rfl ?_
    refine XS.iloadN X2.here hx rfl (hb hby d2_5) rfl ?_
    show Steps p.tables e below (T2.setTop (mkF m 6 #[.val (.ref q2_0), .val (.int q2_1), .val (.int q2_2), .val .null, .val (.int q2_4), .val .null, .val .null] [(.int q2_1), (.ref q2_0)])) t
    exact k)
  obtain ⟨T4, h4, X4, e4, W4, st4⟩ := putF X2 hx hZ hown (host := "") (Or.inl (hw _ (List.mem_of_getElem? (i := 12) rfl))) Via.refl e2 F_q2_0_pid E_q2_0 (Or.inr ⟨(hw _ (List.mem_of_getElem? (i := 13) rfl)), rfl, hnm⟩) (hw _ (List.mem_of_getElem? (i := 1) rfl)) (ty := .int) (by decide) rfl rfl (g := (mkF m 6 #[.val (.ref q2_0), .val (.int q2_1), .val (.int q2_2), .val .null, .val (.int q2_4), .val .null, .val .null] [(.int q2_1), (.ref q2_0)])) rfl rfl (hb hby d2_6)
  have K4 : Keep h0 h4 [q2_0] := (Keep.refl h0 [q2_0]).wr W4 (Or.inl (by simp))
  have N4 := Fr.snoc X4 N0 g_q2_0
  have F4w : Fld Z h4 q2_0 "com/example/penelope/penelope/program/Move" "pid" "I" (.int q2_1) := F_q2_0_pid.same W4
  have P4 : own_Go p e below S0 (T4.setTop (mkF m 9 #[.val (.ref q2_0), .val (.int q2_1), .val (.int q2_2), .val .null, .val (.int q2_4), .val .null, .val .null] [])) := fun t k => P3 t (st4 _ k)
  have F5 : Exa Z h4 q2_0 "com/example/penelope/penelope/program/Move" := E_q2_0.wr W4
  have F6 : Fld Z h4 q2_0 "com/example/penelope/penelope/program/Move" "process" "I" u2_q2_0_process := F_q2_0_process.other W4 (Or.inr (slot_ne (Or.inr (hw _ (List.mem_of_getElem? (i := 15) rfl))) (Or.inr (hw _ (List.mem_of_getElem? (i := 13) rfl))) (by decide) (t := .int) (t' := .int) (by decide) (by decide)))
  have P7 : own_Go p e below S0 (T4.setTop (mkF m 11 #[.val (.ref q2_0), .val (.int q2_1), .val (.int q2_2), .val .null, .val (.int q2_4), .val .null, .val .null] [(.int q2_2), (.ref q2_0)])) := fun t k => P4 t (by
    show Steps p.tables e below (T4.setTop (mkF m 9 #[.val (.ref q2_0), .val (.int q2_1), .val (.int q2_2), .val .null, .val (.int q2_4), .val .null, .val .null] [])) t
    refine XS.aloadN X4.here hx rfl (hb hby d2_9) rfl rfl ?_
    refine XS.iloadN X4.here hx rfl (hb hby d2_10) rfl ?_
    show Steps p.tables e below (T4.setTop (mkF m 11 #[.val (.ref q2_0), .val (.int q2_1), .val (.int q2_2), .val .null, .val (.int q2_4), .val .null, .val .null] [(.int q2_2), (.ref q2_0)])) t
    exact k)
  obtain ⟨T8, h8, X8, e8, W8, st8⟩ := putF X4 hx hZ hown (host := "") (Or.inl (hw _ (List.mem_of_getElem? (i := 14) rfl))) Via.refl e4 F6 F5 (Or.inr ⟨(hw _ (List.mem_of_getElem? (i := 15) rfl)), rfl, hnm⟩) (hw _ (List.mem_of_getElem? (i := 1) rfl)) (ty := .int) (by decide) rfl rfl (g := (mkF m 11 #[.val (.ref q2_0), .val (.int q2_1), .val (.int q2_2), .val .null, .val (.int q2_4), .val .null, .val .null] [(.int q2_2), (.ref q2_0)])) rfl rfl (hb hby d2_11)
  have K8 : Keep h0 h8 [q2_0] := K4.wr W8 (Or.inl (by simp))
  have N8 := Fr.snoc X8 N4 g_q2_0
  have F8w : Fld Z h8 q2_0 "com/example/penelope/penelope/program/Move" "process" "I" (.int q2_2) := F6.same W8
  have P8 : own_Go p e below S0 (T8.setTop (mkF m 14 #[.val (.ref q2_0), .val (.int q2_1), .val (.int q2_2), .val .null, .val (.int q2_4), .val .null, .val .null] [])) := fun t k => P7 t (st8 _ k)
  have F9 : Exa Z h8 q2_0 "com/example/penelope/penelope/program/Move" := F5.wr W8
  have F10 : Fld Z h4 q2_0 "com/example/penelope/penelope/program/Move" "type" "Lcom/example/penelope/penelope/program/ProcessType;" u2_q2_0_type := F_q2_0_type.other W4 (Or.inr (slot_ne (Or.inr (hw _ (List.mem_of_getElem? (i := 17) rfl))) (Or.inr (hw _ (List.mem_of_getElem? (i := 13) rfl))) (by decide) (t := (.object "com/example/penelope/penelope/program/ProcessType")) (t' := .int) (by decide) (by decide)))
  have F11 : Fld Z h8 q2_0 "com/example/penelope/penelope/program/Move" "type" "Lcom/example/penelope/penelope/program/ProcessType;" u2_q2_0_type := F10.other W8 (Or.inr (slot_ne (Or.inr (hw _ (List.mem_of_getElem? (i := 17) rfl))) (Or.inr (hw _ (List.mem_of_getElem? (i := 15) rfl))) (by decide) (t := (.object "com/example/penelope/penelope/program/ProcessType")) (t' := .int) (by decide) (by decide)))
  have P12 : own_Go p e below S0 (T8.setTop (mkF m 16 #[.val (.ref q2_0), .val (.int q2_1), .val (.int q2_2), .val .null, .val (.int q2_4), .val .null, .val .null] [.null, (.ref q2_0)])) := fun t k => P8 t (by
    show Steps p.tables e below (T8.setTop (mkF m 14 #[.val (.ref q2_0), .val (.int q2_1), .val (.int q2_2), .val .null, .val (.int q2_4), .val .null, .val .null] [])) t
    refine XS.aloadN X8.here hx rfl (hb hby d2_14) rfl rfl ?_
    refine XS.aloadN X8.here hx rfl (hb hby d2_15) rfl rfl ?_
    show Steps p.tables e below (T8.setTop (mkF m 16 #[.val (.ref q2_0), .val (.int q2_1), .val (.int q2_2), .val .null, .val (.int q2_4), .val .null, .val .null] [.null, (.ref q2_0)])) t
    exact k)
  obtain ⟨T13, h13, X13, e13, W13, st13⟩ := putF X8 hx hZ hown (host := "") (Or.inl (hw _ (List.mem_of_getElem? (i := 16) rfl))) Via.refl e8 F11 F9 (Or.inr ⟨(hw _ (List.mem_of_getElem? (i := 17) rfl)), rfl, hnm⟩) (hw _ (List.mem_of_getElem? (i := 1) rfl)) (ty := (.object "com/example/penelope/penelope/program/ProcessType")) (by decide) rfl rfl (g := (mkF m 16 #[.val (.ref q2_0), .val (.int q2_1), .val (.int q2_2), .val .null, .val (.int q2_4), .val .null, .val .null] [.null, (.ref q2_0)])) rfl rfl (hb hby d2_16)
  have K13 : Keep h0 h13 [q2_0] := K8.wr W13 (Or.inl (by simp))
  have N13 := Fr.snoc X13 N8 g_q2_0
  have F13w : Fld Z h13 q2_0 "com/example/penelope/penelope/program/Move" "type" "Lcom/example/penelope/penelope/program/ProcessType;" .null := F11.same W13
  have P13 : own_Go p e below S0 (T13.setTop (mkF m 19 #[.val (.ref q2_0), .val (.int q2_1), .val (.int q2_2), .val .null, .val (.int q2_4), .val .null, .val .null] [])) := fun t k => P12 t (st13 _ k)
  have F14 : Exa Z h13 q2_0 "com/example/penelope/penelope/program/Move" := F9.wr W13
  have F15 : Fld Z h4 q2_0 "com/example/penelope/penelope/program/Move" "choice" "I" u2_q2_0_choice := F_q2_0_choice.other W4 (Or.inr (slot_ne (Or.inr (hw _ (List.mem_of_getElem? (i := 19) rfl))) (Or.inr (hw _ (List.mem_of_getElem? (i := 13) rfl))) (by decide) (t := .int) (t' := .int) (by decide) (by decide)))
  have F16 : Fld Z h8 q2_0 "com/example/penelope/penelope/program/Move" "choice" "I" u2_q2_0_choice := F15.other W8 (Or.inr (slot_ne (Or.inr (hw _ (List.mem_of_getElem? (i := 19) rfl))) (Or.inr (hw _ (List.mem_of_getElem? (i := 15) rfl))) (by decide) (t := .int) (t' := .int) (by decide) (by decide)))
  have F17 : Fld Z h13 q2_0 "com/example/penelope/penelope/program/Move" "choice" "I" u2_q2_0_choice := F16.other W13 (Or.inr (slot_ne (Or.inr (hw _ (List.mem_of_getElem? (i := 19) rfl))) (Or.inr (hw _ (List.mem_of_getElem? (i := 17) rfl))) (by decide) (t := .int) (t' := (.object "com/example/penelope/penelope/program/ProcessType")) (by decide) (by decide)))
  have P18 : own_Go p e below S0 (T13.setTop (mkF m 22 #[.val (.ref q2_0), .val (.int q2_1), .val (.int q2_2), .val .null, .val (.int q2_4), .val .null, .val .null] [(.int q2_4), (.ref q2_0)])) := fun t k => P13 t (by
    show Steps p.tables e below (T13.setTop (mkF m 19 #[.val (.ref q2_0), .val (.int q2_1), .val (.int q2_2), .val .null, .val (.int q2_4), .val .null, .val .null] [])) t
    refine XS.aloadN X13.here hx rfl (hb hby d2_19) rfl rfl ?_
    refine XS.iload X13.here hx rfl (hb hby d2_20) rfl ?_
    show Steps p.tables e below (T13.setTop (mkF m 22 #[.val (.ref q2_0), .val (.int q2_1), .val (.int q2_2), .val .null, .val (.int q2_4), .val .null, .val .null] [(.int q2_4), (.ref q2_0)])) t
    exact k)
  obtain ⟨T19, h19, X19, e19, W19, st19⟩ := putF X13 hx hZ hown (host := "") (Or.inl (hw _ (List.mem_of_getElem? (i := 18) rfl))) Via.refl e13 F17 F14 (Or.inr ⟨(hw _ (List.mem_of_getElem? (i := 19) rfl)), rfl, hnm⟩) (hw _ (List.mem_of_getElem? (i := 1) rfl)) (ty := .int) (by decide) rfl rfl (g := (mkF m 22 #[.val (.ref q2_0), .val (.int q2_1), .val (.int q2_2), .val .null, .val (.int q2_4), .val .null, .val .null] [(.int q2_4), (.ref q2_0)])) rfl rfl (hb hby d2_22)
  have K19 : Keep h0 h19 [q2_0] := K13.wr W19 (Or.inl (by simp))
  have N19 := Fr.snoc X19 N13 g_q2_0
  have F19w : Fld Z h19 q2_0 "com/example/penelope/penelope/program/Move" "choice" "I" (.int q2_4) := F17.same W19
  have P19 : own_Go p e below S0 (T19.setTop (mkF m 25 #[.val (.ref q2_0), .val (.int q2_1), .val (.int q2_2), .val .null, .val (.int q2_4), .val .null, .val .null] [])) := fun t k => P18 t (st19 _ k)
  have F20 : Exa Z h19 q2_0 "com/example/penelope/penelope/program/Move" := F14.wr W19
  have F21 : Fld Z h4 q2_0 "com/example/penelope/penelope/program/Move" "transition" "Lcom/example/penelope/penelope/program/Transition;" u2_q2_0_transition := F_q2_0_transition.other W4 (Or.inr (slot_ne (Or.inr (hw _ (List.mem_of_getElem? (i := 21) rfl))) (Or.inr (hw _ (List.mem_of_getElem? (i := 13) rfl))) (by decide) (t := (.object "com/example/penelope/penelope/program/Transition")) (t' := .int) (by decide) (by decide)))
  have F22 : Fld Z h8 q2_0 "com/example/penelope/penelope/program/Move" "transition" "Lcom/example/penelope/penelope/program/Transition;" u2_q2_0_transition := F21.other W8 (Or.inr (slot_ne (Or.inr (hw _ (List.mem_of_getElem? (i := 21) rfl))) (Or.inr (hw _ (List.mem_of_getElem? (i := 15) rfl))) (by decide) (t := (.object "com/example/penelope/penelope/program/Transition")) (t' := .int) (by decide) (by decide)))
  have F23 : Fld Z h13 q2_0 "com/example/penelope/penelope/program/Move" "transition" "Lcom/example/penelope/penelope/program/Transition;" u2_q2_0_transition := F22.other W13 (Or.inr (slot_ne (Or.inr (hw _ (List.mem_of_getElem? (i := 21) rfl))) (Or.inr (hw _ (List.mem_of_getElem? (i := 17) rfl))) (by decide) (t := (.object "com/example/penelope/penelope/program/Transition")) (t' := (.object "com/example/penelope/penelope/program/ProcessType")) (by decide) (by decide)))
  have F24 : Fld Z h19 q2_0 "com/example/penelope/penelope/program/Move" "transition" "Lcom/example/penelope/penelope/program/Transition;" u2_q2_0_transition := F23.other W19 (Or.inr (slot_ne (Or.inr (hw _ (List.mem_of_getElem? (i := 21) rfl))) (Or.inr (hw _ (List.mem_of_getElem? (i := 19) rfl))) (by decide) (t := (.object "com/example/penelope/penelope/program/Transition")) (t' := .int) (by decide) (by decide)))
  have P25 : own_Go p e below S0 (T19.setTop (mkF m 28 #[.val (.ref q2_0), .val (.int q2_1), .val (.int q2_2), .val .null, .val (.int q2_4), .val .null, .val .null] [.null, (.ref q2_0)])) := fun t k => P19 t (by
    show Steps p.tables e below (T19.setTop (mkF m 25 #[.val (.ref q2_0), .val (.int q2_1), .val (.int q2_2), .val .null, .val (.int q2_4), .val .null, .val .null] [])) t
    refine XS.aloadN X19.here hx rfl (hb hby d2_25) rfl rfl ?_
    refine XS.aload X19.here hx rfl (hb hby d2_26) rfl rfl ?_
    show Steps p.tables e below (T19.setTop (mkF m 28 #[.val (.ref q2_0), .val (.int q2_1), .val (.int q2_2), .val .null, .val (.int q2_4), .val .null, .val .null] [.null, (.ref q2_0)])) t
    exact k)
  obtain ⟨T26, h26, X26, e26, W26, st26⟩ := putF X19 hx hZ hown (host := "") (Or.inl (hw _ (List.mem_of_getElem? (i := 20) rfl))) Via.refl e19 F24 F20 (Or.inr ⟨(hw _ (List.mem_of_getElem? (i := 21) rfl)), rfl, hnm⟩) (hw _ (List.mem_of_getElem? (i := 1) rfl)) (ty := (.object "com/example/penelope/penelope/program/Transition")) (by decide) rfl rfl (g := (mkF m 28 #[.val (.ref q2_0), .val (.int q2_1), .val (.int q2_2), .val .null, .val (.int q2_4), .val .null, .val .null] [.null, (.ref q2_0)])) rfl rfl (hb hby d2_28)
  have K26 : Keep h0 h26 [q2_0] := K19.wr W26 (Or.inl (by simp))
  have N26 := Fr.snoc X26 N19 g_q2_0
  have F26w : Fld Z h26 q2_0 "com/example/penelope/penelope/program/Move" "transition" "Lcom/example/penelope/penelope/program/Transition;" .null := F24.same W26
  have P26 : own_Go p e below S0 (T26.setTop (mkF m 31 #[.val (.ref q2_0), .val (.int q2_1), .val (.int q2_2), .val .null, .val (.int q2_4), .val .null, .val .null] [])) := fun t k => P25 t (st26 _ k)
  have F27 : Exa Z h26 q2_0 "com/example/penelope/penelope/program/Move" := F20.wr W26
  have F28 : Fld Z h4 q2_0 "com/example/penelope/penelope/program/Move" "receiver" "Lcom/example/penelope/penelope/program/Move;" u2_q2_0_receiver := F_q2_0_receiver.other W4 (Or.inr (slot_ne (Or.inr (hw _ (List.mem_of_getElem? (i := 23) rfl))) (Or.inr (hw _ (List.mem_of_getElem? (i := 13) rfl))) (by decide) (t := (.object "com/example/penelope/penelope/program/Move")) (t' := .int) (by decide) (by decide)))
  have F29 : Fld Z h8 q2_0 "com/example/penelope/penelope/program/Move" "receiver" "Lcom/example/penelope/penelope/program/Move;" u2_q2_0_receiver := F28.other W8 (Or.inr (slot_ne (Or.inr (hw _ (List.mem_of_getElem? (i := 23) rfl))) (Or.inr (hw _ (List.mem_of_getElem? (i := 15) rfl))) (by decide) (t := (.object "com/example/penelope/penelope/program/Move")) (t' := .int) (by decide) (by decide)))
  have F30 : Fld Z h13 q2_0 "com/example/penelope/penelope/program/Move" "receiver" "Lcom/example/penelope/penelope/program/Move;" u2_q2_0_receiver := F29.other W13 (Or.inr (slot_ne (Or.inr (hw _ (List.mem_of_getElem? (i := 23) rfl))) (Or.inr (hw _ (List.mem_of_getElem? (i := 17) rfl))) (by decide) (t := (.object "com/example/penelope/penelope/program/Move")) (t' := (.object "com/example/penelope/penelope/program/ProcessType")) (by decide) (by decide)))
  have F31 : Fld Z h19 q2_0 "com/example/penelope/penelope/program/Move" "receiver" "Lcom/example/penelope/penelope/program/Move;" u2_q2_0_receiver := F30.other W19 (Or.inr (slot_ne (Or.inr (hw _ (List.mem_of_getElem? (i := 23) rfl))) (Or.inr (hw _ (List.mem_of_getElem? (i := 19) rfl))) (by decide) (t := (.object "com/example/penelope/penelope/program/Move")) (t' := .int) (by decide) (by decide)))
  have F32 : Fld Z h26 q2_0 "com/example/penelope/penelope/program/Move" "receiver" "Lcom/example/penelope/penelope/program/Move;" u2_q2_0_receiver := F31.other W26 (Or.inr (slot_ne (Or.inr (hw _ (List.mem_of_getElem? (i := 23) rfl))) (Or.inr (hw _ (List.mem_of_getElem? (i := 21) rfl))) (by decide) (t := (.object "com/example/penelope/penelope/program/Move")) (t' := (.object "com/example/penelope/penelope/program/Transition")) (by decide) (by decide)))
  have P33 : own_Go p e below S0 (T26.setTop (mkF m 34 #[.val (.ref q2_0), .val (.int q2_1), .val (.int q2_2), .val .null, .val (.int q2_4), .val .null, .val .null] [.null, (.ref q2_0)])) := fun t k => P26 t (by
    show Steps p.tables e below (T26.setTop (mkF m 31 #[.val (.ref q2_0), .val (.int q2_1), .val (.int q2_2), .val .null, .val (.int q2_4), .val .null, .val .null] [])) t
    refine XS.aloadN X26.here hx rfl (hb hby d2_31) rfl rfl ?_
    refine XS.aload X26.here hx rfl (hb hby d2_32) rfl rfl ?_
    show Steps p.tables e below (T26.setTop (mkF m 34 #[.val (.ref q2_0), .val (.int q2_1), .val (.int q2_2), .val .null, .val (.int q2_4), .val .null, .val .null] [.null, (.ref q2_0)])) t
    exact k)
  obtain ⟨T34, h34, X34, e34, W34, st34⟩ := putF X26 hx hZ hown (host := "") (Or.inl (hw _ (List.mem_of_getElem? (i := 22) rfl))) Via.refl e26 F32 F27 (Or.inr ⟨(hw _ (List.mem_of_getElem? (i := 23) rfl)), rfl, hnm⟩) (hw _ (List.mem_of_getElem? (i := 1) rfl)) (ty := (.object "com/example/penelope/penelope/program/Move")) (by decide) rfl rfl (g := (mkF m 34 #[.val (.ref q2_0), .val (.int q2_1), .val (.int q2_2), .val .null, .val (.int q2_4), .val .null, .val .null] [.null, (.ref q2_0)])) rfl rfl (hb hby d2_34)
  have K34 : Keep h0 h34 [q2_0] := K26.wr W34 (Or.inl (by simp))
  have N34 := Fr.snoc X34 N26 g_q2_0
  have F34w : Fld Z h34 q2_0 "com/example/penelope/penelope/program/Move" "receiver" "Lcom/example/penelope/penelope/program/Move;" .null := F32.same W34
  have P34 : own_Go p e below S0 (T34.setTop (mkF m 37 #[.val (.ref q2_0), .val (.int q2_1), .val (.int q2_2), .val .null, .val (.int q2_4), .val .null, .val .null] [])) := fun t k => P33 t (st34 _ k)
  have F35 : Fld Z h8 q2_0 "com/example/penelope/penelope/program/Move" "pid" "I" (.int q2_1) := F4w.other W8 (Or.inr (slot_ne (Or.inr (hw _ (List.mem_of_getElem? (i := 13) rfl))) (Or.inr (hw _ (List.mem_of_getElem? (i := 15) rfl))) (by decide) (t := .int) (t' := .int) (by decide) (by decide)))
  have F36 : Fld Z h13 q2_0 "com/example/penelope/penelope/program/Move" "pid" "I" (.int q2_1) := F35.other W13 (Or.inr (slot_ne (Or.inr (hw _ (List.mem_of_getElem? (i := 13) rfl))) (Or.inr (hw _ (List.mem_of_getElem? (i := 17) rfl))) (by decide) (t := .int) (t' := (.object "com/example/penelope/penelope/program/ProcessType")) (by decide) (by decide)))
  have F37 : Fld Z h19 q2_0 "com/example/penelope/penelope/program/Move" "pid" "I" (.int q2_1) := F36.other W19 (Or.inr (slot_ne (Or.inr (hw _ (List.mem_of_getElem? (i := 13) rfl))) (Or.inr (hw _ (List.mem_of_getElem? (i := 19) rfl))) (by decide) (t := .int) (t' := .int) (by decide) (by decide)))
  have F38 : Fld Z h26 q2_0 "com/example/penelope/penelope/program/Move" "pid" "I" (.int q2_1) := F37.other W26 (Or.inr (slot_ne (Or.inr (hw _ (List.mem_of_getElem? (i := 13) rfl))) (Or.inr (hw _ (List.mem_of_getElem? (i := 21) rfl))) (by decide) (t := .int) (t' := (.object "com/example/penelope/penelope/program/Transition")) (by decide) (by decide)))
  have F39 : Fld Z h34 q2_0 "com/example/penelope/penelope/program/Move" "pid" "I" (.int q2_1) := F38.other W34 (Or.inr (slot_ne (Or.inr (hw _ (List.mem_of_getElem? (i := 13) rfl))) (Or.inr (hw _ (List.mem_of_getElem? (i := 23) rfl))) (by decide) (t := .int) (t' := (.object "com/example/penelope/penelope/program/Move")) (by decide) (by decide)))
  have F40 : Fld Z h13 q2_0 "com/example/penelope/penelope/program/Move" "process" "I" (.int q2_2) := F8w.other W13 (Or.inr (slot_ne (Or.inr (hw _ (List.mem_of_getElem? (i := 15) rfl))) (Or.inr (hw _ (List.mem_of_getElem? (i := 17) rfl))) (by decide) (t := .int) (t' := (.object "com/example/penelope/penelope/program/ProcessType")) (by decide) (by decide)))
  have F41 : Fld Z h19 q2_0 "com/example/penelope/penelope/program/Move" "process" "I" (.int q2_2) := F40.other W19 (Or.inr (slot_ne (Or.inr (hw _ (List.mem_of_getElem? (i := 15) rfl))) (Or.inr (hw _ (List.mem_of_getElem? (i := 19) rfl))) (by decide) (t := .int) (t' := .int) (by decide) (by decide)))
  have F42 : Fld Z h26 q2_0 "com/example/penelope/penelope/program/Move" "process" "I" (.int q2_2) := F41.other W26 (Or.inr (slot_ne (Or.inr (hw _ (List.mem_of_getElem? (i := 15) rfl))) (Or.inr (hw _ (List.mem_of_getElem? (i := 21) rfl))) (by decide) (t := .int) (t' := (.object "com/example/penelope/penelope/program/Transition")) (by decide) (by decide)))
  have F43 : Fld Z h34 q2_0 "com/example/penelope/penelope/program/Move" "process" "I" (.int q2_2) := F42.other W34 (Or.inr (slot_ne (Or.inr (hw _ (List.mem_of_getElem? (i := 15) rfl))) (Or.inr (hw _ (List.mem_of_getElem? (i := 23) rfl))) (by decide) (t := .int) (t' := (.object "com/example/penelope/penelope/program/Move")) (by decide) (by decide)))
  have F44 : Fld Z h19 q2_0 "com/example/penelope/penelope/program/Move" "type" "Lcom/example/penelope/penelope/program/ProcessType;" .null := F13w.other W19 (Or.inr (slot_ne (Or.inr (hw _ (List.mem_of_getElem? (i := 17) rfl))) (Or.inr (hw _ (List.mem_of_getElem? (i := 19) rfl))) (by decide) (t := (.object "com/example/penelope/penelope/program/ProcessType")) (t' := .int) (by decide) (by decide)))
  have F45 : Fld Z h26 q2_0 "com/example/penelope/penelope/program/Move" "type" "Lcom/example/penelope/penelope/program/ProcessType;" .null := F44.other W26 (Or.inr (slot_ne (Or.inr (hw _ (List.mem_of_getElem? (i := 17) rfl))) (Or.inr (hw _ (List.mem_of_getElem? (i := 21) rfl))) (by decide) (t := (.object "com/example/penelope/penelope/program/ProcessType")) (t' := (.object "com/example/penelope/penelope/program/Transition")) (by decide) (by decide)))
  have F46 : Fld Z h34 q2_0 "com/example/penelope/penelope/program/Move" "type" "Lcom/example/penelope/penelope/program/ProcessType;" .null := F45.other W34 (Or.inr (slot_ne (Or.inr (hw _ (List.mem_of_getElem? (i := 17) rfl))) (Or.inr (hw _ (List.mem_of_getElem? (i := 23) rfl))) (by decide) (t := (.object "com/example/penelope/penelope/program/ProcessType")) (t' := (.object "com/example/penelope/penelope/program/Move")) (by decide) (by decide)))
  have F47 : Fld Z h26 q2_0 "com/example/penelope/penelope/program/Move" "choice" "I" (.int q2_4) := F19w.other W26 (Or.inr (slot_ne (Or.inr (hw _ (List.mem_of_getElem? (i := 19) rfl))) (Or.inr (hw _ (List.mem_of_getElem? (i := 21) rfl))) (by decide) (t := .int) (t' := (.object "com/example/penelope/penelope/program/Transition")) (by decide) (by decide)))
  have F48 : Fld Z h34 q2_0 "com/example/penelope/penelope/program/Move" "choice" "I" (.int q2_4) := F47.other W34 (Or.inr (slot_ne (Or.inr (hw _ (List.mem_of_getElem? (i := 19) rfl))) (Or.inr (hw _ (List.mem_of_getElem? (i := 23) rfl))) (by decide) (t := .int) (t' := (.object "com/example/penelope/penelope/program/Move")) (by decide) (by decide)))
  have F49 : Fld Z h34 q2_0 "com/example/penelope/penelope/program/Move" "transition" "Lcom/example/penelope/penelope/program/Transition;" .null := F26w.other W34 (Or.inr (slot_ne (Or.inr (hw _ (List.mem_of_getElem? (i := 21) rfl))) (Or.inr (hw _ (List.mem_of_getElem? (i := 23) rfl))) (by decide) (t := (.object "com/example/penelope/penelope/program/Transition")) (t' := (.object "com/example/penelope/penelope/program/Move")) (by decide) (by decide)))
  obtain ⟨fs, hr, hrun, hended, hW, hsame⟩ := X34.leave (v := none) (fun _ => rfl)
  refine ⟨_, _, own_from hS0 (P34 _ ?_), hrun, hended, _, _, rfl, ?_, ⟨_, rfl⟩, hW, hsame.mono (by decide) (by decide)⟩
  · show Steps p.tables e below (T34.setTop (mkF m 37 #[.val (.ref q2_0), .val (.int q2_1), .val (.int q2_2), .val .null, .val (.int q2_4), .val .null, .val .null] [])) _
    exact X34.returnOut hx Bd.returns (hb hby d2_37) hr
  · show Q2 Z q2_0 q2_1 q2_2 q2_4 u2_q2_0_pid u2_q2_0_process u2_q2_0_type u2_q2_0_choice u2_q2_0_transition u2_q2_0_receiver h0 n0 _ T34.heap _
    rw [e34]
    exact ⟨rfl, N34, K34, F39, F43, F46, F48, F49, F34w⟩
theorem pd_0 : parseMethodDescriptor "(IILcom/example/penelope/penelope/program/ProcessType;ILcom/example/penelope/penelope/program/Transition;Lcom/example/penelope/penelope/program/Move;)V" = some ⟨[.int, .int, (.object "com/example/penelope/penelope/program/ProcessType"), .int, (.object "com/example/penelope/penelope/program/Transition"), (.object "com/example/penelope/penelope/program/Move")], none⟩ := by decide +kernel
theorem d1_0 : decode prog_95_method_1_code 0 = .ok (.aload_n 0, 1) := by decide +kernel
theorem d1_1 : decode prog_95_method_1_code 1 = .ok (.iload_n 1, 1) := by decide +kernel
theorem d1_2 : decode prog_95_method_1_code 2 = .ok (.iload_n 2, 1) := by decide +kernel
theorem d1_3 : decode prog_95_method_1_code 3 = .ok (.aload_n 3, 1) := by decide +kernel
theorem d1_4 : decode prog_95_method_1_code 4 = .ok (.iload 4, 2) := by decide +kernel
theorem d1_6 : decode prog_95_method_1_code 6 = .ok (.aload 5, 2) := by decide +kernel
theorem d1_8 : decode prog_95_method_1_code 8 = .ok (.aconst_null, 1) := by decide +kernel
theorem d1_9 : decode prog_95_method_1_code 9 = .ok (.invokespecial 1, 3) := by decide +kernel
theorem d1_12 : decode prog_95_method_1_code 12 = .ok (.return_, 1) := by decide +kernel
theorem ef_1 (m : MethodId) (q1_0 : Addr) (q1_1 : Int32) (q1_2 : Int32) (q1_4 : Int32) : entryFrame m #[(.ref q1_0), (.int q1_1), (.int q1_2), .null, (.int q1_4), .null] 6 = mkF m 0 #[.val (.ref q1_0), .val (.int q1_1), .val (.int q1_2), .val .null, .val (.int q1_4), .val .null] [] := by first | (simp [entryFrame, mkF, argsToLocals, Value.category]; done) | rfl
def Q1 (Z : State) (q1_0 : Addr) (q1_1 : Int32) (q1_2 : Int32) (q1_4 : Int32) (u1_q1_0_pid : Value) (u1_q1_0_process : Value) (u1_q1_0_type : Value) (u1_q1_0_choice : Value) (u1_q1_0_transition : Value) (u1_q1_0_receiver : Value) (h0 : Heap) (n0 : Nat) (v : Option Value) (h : Heap) (L : List Loc) : Prop := v = none ∧ Fr n0 L ∧ Keep h0 h [q1_0] ∧ Fld Z h q1_0 "com/example/penelope/penelope/program/Move" "pid" "I" (.int q1_1) ∧ Fld Z h q1_0 "com/example/penelope/penelope/program/Move" "process" "I" (.int q1_2) ∧ Fld Z h q1_0 "com/example/penelope/penelope/program/Move" "type" "Lcom/example/penelope/penelope/program/ProcessType;" .null ∧ Fld Z h q1_0 "com/example/penelope/penelope/program/Move" "choice" "I" (.int q1_4) ∧ Fld Z h q1_0 "com/example/penelope/penelope/program/Move" "transition" "Lcom/example/penelope/penelope/program/Transition;" .null ∧ Fld Z h q1_0 "com/example/penelope/penelope/program/Move" "receiver" "Lcom/example/penelope/penelope/program/Move;" .null
set_option maxRecDepth 65536 in
set_option maxHeartbeats 40000000 in
theorem rm1 (l : Launch) (Z : State) (a0 : Array Value) (hw : ∀ d ∈ tables_1, d.before a0 Z = true) (ws : List Jvm.Cond) (q1_0 : Addr) (q1_1 : Int32) (q1_2 : Int32) (q1_4 : Int32) (u1_q1_0_pid : Value) (u1_q1_0_process : Value) (u1_q1_0_type : Value) (u1_q1_0_choice : Value) (u1_q1_0_transition : Value) (u1_q1_0_receiver : Value) (h0 : Heap) (n0 : Nat) (Z0 : n0 ≤ h0.size) (E_q1_0 : Exa Z h0 q1_0 "com/example/penelope/penelope/program/Move") (F_q1_0_pid : Fld Z h0 q1_0 "com/example/penelope/penelope/program/Move" "pid" "I" u1_q1_0_pid) (g_q1_0 : n0 ≤ q1_0) (F_q1_0_process : Fld Z h0 q1_0 "com/example/penelope/penelope/program/Move" "process" "I" u1_q1_0_process) (F_q1_0_type : Fld Z h0 q1_0 "com/example/penelope/penelope/program/Move" "type" "Lcom/example/penelope/penelope/program/ProcessType;" u1_q1_0_type) (F_q1_0_choice : Fld Z h0 q1_0 "com/example/penelope/penelope/program/Move" "choice" "I" u1_q1_0_choice) (F_q1_0_transition : Fld Z h0 q1_0 "com/example/penelope/penelope/program/Move" "transition" "Lcom/example/penelope/penelope/program/Transition;" u1_q1_0_transition) (F_q1_0_receiver : Fld Z h0 q1_0 "com/example/penelope/penelope/program/Move" "receiver" "Lcom/example/penelope/penelope/program/Move;" u1_q1_0_receiver) :
    MetFree l (⟨"com/example/penelope/penelope/program/Move", "<init>", "(IILcom/example/penelope/penelope/program/ProcessType;ILcom/example/penelope/penelope/program/Transition;)V"⟩ : MethodName) (head1 (Jvm.Cond.code (⟨"com/example/penelope/penelope/program/Move", "<init>", "(IILcom/example/penelope/penelope/program/ProcessType;ILcom/example/penelope/penelope/program/Transition;)V"⟩ : MethodName) prog_95_method_1_code 6 none :: ws) ({ frames := 2, cells := 0, slots := 0, locals := 30 } : Room)) (fun a U => a = #[(.ref q1_0), (.int q1_1), (.int q1_2), .null, (.int q1_4), .null] ∧ Z.Warmed39 U.vm ∧ U.heap = h0) (fun _ _ _ _ _ => True) (fun _ U o U' => ∃ v L, o = .returned v ∧ Q1 Z q1_0 q1_1 q1_2 q1_4 u1_q1_0_pid u1_q1_0_process u1_q1_0_type u1_q1_0_choice u1_q1_0_transition u1_q1_0_receiver h0 n0 v U'.heap L ∧ FrameEnd U o U' L ({ frames := 2, cells := 0, slots := 0, locals := 30 } : Room).cells ({ frames := 2, cells := 0, slots := 0, locals := 30 } : Room).slots) := by
  refine MetFree.of_bodySF (plainFor_of_name pn_2) hisR ?_
  intro p e s m args below meth c s₁ Bd hml0 hP hK
  obtain ⟨rfl, hZ, hh⟩ := hP
  have hx := Bd.exec
  have hby := Bd.bytes
  have hml : c.maxLocals = 6 := hml0
  have hown : s.vm.findClass "com/example/penelope/penelope/program/Move" = some m.cls := findClass_of_methodNamed Bd.named
  have hnm := (name_of_methodNamed Bd.named Bd.method).1
  have X0 : Stand p l e ({ frames := 2, cells := 0, slots := 0, locals := 30 } : Room) s m #[(.ref q1_0), (.int q1_1), (.int q1_2), .null, (.int q1_4), .null] below meth c s₁ [] 0 0 := Stand.of_body Bd
  have e0 : s₁.heap = h0 := by rw [← hh, Bd.state]; rfl
  have N0 := Fr.nil n0
  obtain ⟨S0, hS0⟩ : ∃ z, z = s₁.setTop (entryFrame m #[(.ref q1_0), (.int q1_1), (.int q1_2), .null, (.int q1_4), .null] 6) := ⟨_, rfl⟩
  have P0 : own_Go p e below S0 (s₁.setTop (mkF m 0 #[.val (.ref q1_0), .val (.int q1_1), .val (.int q1_2), .val .null, .val (.int q1_4), .val .null] [])) := fun t k => by rw [hS0]; exact castTop (ef_1 m q1_0 q1_1 q1_2 q1_4) k
  have P1 : own_Go p e below S0 (s₁.setTop (mkF m 9 #[.val (.ref q1_0), .val (.int q1_1), .val (.int q1_2), .val .null, .val (.int q1_4), .val .null] [.null, .null, (.int q1_4), .null, (.int q1_2), (.int q1_1), (.ref q1_0)])) := fun t k => P0 t (by
    show Steps p.tables e below (s₁.setTop (mkF m 0 #[.val (.ref q1_0), .val (.int q1_1), .val (.int q1_2), .val .null, .val (.int q1_4), .val .null] [])) t
    refine XS.aloadN X0.here hx rfl (hb hby d1_0) rfl rfl ?_
    refine XS.iloadN X0.here hx rfl (hb hby d1_1) rfl ?_
    refine XS.iloadN X0.here hx rfl (hb hby d1_2) rfl ?_
    refine XS.aloadN X0.here hx rfl (hb hby d1_3) rfl rfl ?_
    refine XS.iload X0.here hx rfl (hb hby d1_4) rfl ?_
    refine XS.aload X0.here hx rfl (hb hby d1_6) rfl rfl ?_
    show Steps p.tables e below (s₁.setTop (mkF m 8 #[.val (.ref q1_0), .val (.int q1_1), .val (.int q1_2), .val .null, .val (.int q1_4), .val .null] [.null, (.int q1_4), .null, (.int q1_2), (.int q1_1), (.ref q1_0)])) t
    refine XS.aconstNull X0.here hx rfl (hb hby d1_8) ?_
    show Steps p.tables e below (s₁.setTop (mkF m 9 #[.val (.ref q1_0), .val (.int q1_1), .val (.int q1_2), .val .null, .val (.int q1_4), .val .null] [.null, .null, (.int q1_4), .null, (.int q1_2), (.int q1_1), (.ref q1_0)])) t
    exact k)
  obtain ⟨_, _, ⟨T2, L2, k2, n2⟩, -, X2, ⟨Lc2, hQ2, l2, y2, z2⟩, st2⟩ := X0.specialBack hx (y := (⟨"com/example/penelope/penelope/program/Move", "<init>", "(IILcom/example/penelope/penelope/program/ProcessType;ILcom/example/penelope/penelope/program/Transition;Lcom/example/penelope/penelope/program/Move;)V"⟩ : MethodName)) rfl hown (mvT hZ (hw _ (List.mem_of_getElem? (i := 6) rfl))) (mvT hZ (hw _ (List.mem_of_getElem? (i := 7) rfl))) (mvT hZ (hw _ (List.mem_of_getElem? (i := 8) rfl))) (by decide) (backOf (W := 0) (rm2 l Z a0 hw [] q1_0 q1_1 q1_2 q1_4 u1_q1_0_pid u1_q1_0_process u1_q1_0_type u1_q1_0_choice u1_q1_0_transition u1_q1_0_receiver h0 n0 Z0 E_q1_0 F_q1_0_pid g_q1_0 F_q1_0_process F_q1_0_type F_q1_0_choice F_q1_0_transition F_q1_0_receiver) hZ (hw _ (List.mem_of_getElem? (i := 8) rfl)) (hw _ (List.mem_of_getElem? (i := 2) rfl)) (by decide) (by decide)) (g := (mkF m 9 #[.val (.ref q1_0), .val (.int q1_1), .val (.int q1_2), .val .null, .val (.int q1_4), .val .null] [.null, .null, (.int q1_4), .null, (.int q1_2), (.int q1_1), (.ref q1_0)])) rfl (by rw [hml]; rfl) (Steps.refl _) (a := q1_0) (argsL := [(.int q1_1), (.int q1_2), .null, (.int q1_4), .null, .null]) (rest := []) (lenOf pd_0 rfl) rfl (by show 2 * 0 + _ ≤ _; exact Nat.le_of_eq rfl) (hb hby d1_9) (fun _ _ => ⟨rfl, e0, (by decide : 0 + 0 ≤ _), (by decide : 0 + 0 ≤ _)⟩)
  dsimp only [Pt.U, Pt.locs, Pt.cells, Pt.slots] at X2 l2 y2 z2 st2 hQ2
  subst l2 y2 z2
  obtain ⟨rfl, N2q, Kc2, F2_0, F2_1, F2_2, F2_3, F2_4, F2_5⟩ := hQ2
  have N2 := Fr.app N0 N2q
  have K2 : Keep h0 T2.heap [q1_0] := Keep.trans (Keep.refl h0 [q1_0]) Kc2 (allS (Or.inl (by simp)) all0)
  have P2 : own_Go p e below S0 (T2.setTop (mkF m 12 #[.val (.ref q1_0), .val (.int q1_1), .val (.int q1_2), .val .null, .val (.int q1_4), .val .null] [])) := fun t k => P1 t (st2.trans k)
  obtain ⟨fs, hr, hrun, hended, hW, hsame⟩ := X2.leave (v := none) (fun _ => rfl)
  refine ⟨_, _, own_from hS0 (P2 _ ?_), hrun, hended, _, _, rfl, ?_, ⟨_, rfl⟩, hW, hsame.mono (by decide) (by decide)⟩
  · show Steps p.tables e below (T2.setTop (mkF m 12 #[.val (.ref q1_0), .val (.int q1_1), .val (.int q1_2), .val .null, .val (.int q1_4), .val .null] [])) _
    exact X2.returnOut hx Bd.returns (hb hby d1_12) hr
  · show Q1 Z q1_0 q1_1 q1_2 q1_4 u1_q1_0_pid u1_q1_0_process u1_q1_0_type u1_q1_0_choice u1_q1_0_transition u1_q1_0_receiver h0 n0 _ T2.heap _
    exact ⟨rfl, N2, K2, F2_0, F2_1, F2_2, F2_3, F2_4, F2_5⟩
theorem d4_0 : decode prog_95_method_2_code 0 = .ok (.aload_n 0, 1) := by decide +kernel
theorem d4_1 : decode prog_95_method_2_code 1 = .ok (.iconst (-1), 1) := by decide +kernel
theorem d4_2 : decode prog_95_method_2_code 2 = .ok (.iconst (-1), 1) := by decide +kernel
theorem d4_3 : decode prog_95_method_2_code 3 = .ok (.aload_n 1, 1) := by decide +kernel
theorem d4_4 : decode prog_95_method_2_code 4 = .ok (.iload_n 2, 1) := by decide +kernel
theorem d4_5 : decode prog_95_method_2_code 5 = .ok (.aload_n 3, 1) := by decide +kernel
theorem d4_6 : decode prog_95_method_2_code 6 = .ok (.aconst_null, 1) := by decide +kernel
theorem d4_7 : decode prog_95_method_2_code 7 = .ok (.invokespecial 1, 3) := by decide +kernel
theorem d4_10 : decode prog_95_method_2_code 10 = .ok (.return_, 1) := by decide +kernel
theorem ef_4 (m : MethodId) (q4_0 : Addr) (q4_2 : Int32) : entryFrame m #[(.ref q4_0), .null, (.int q4_2), .null] 4 = mkF m 0 #[.val (.ref q4_0), .val .null, .val (.int q4_2), .val .null] [] := by first | (simp [entryFrame, mkF, argsToLocals, Value.category]; done) | rfl
def Q4 (Z : State) (q4_0 : Addr) (q4_2 : Int32) (u4_q4_0_pid : Value) (u4_q4_0_process : Value) (u4_q4_0_type : Value) (u4_q4_0_choice : Value) (u4_q4_0_transition : Value) (u4_q4_0_receiver : Value) (h0 : Heap) (n0 : Nat) (v : Option Value) (h : Heap) (L : List Loc) : Prop := v = none ∧ Fr n0 L ∧ Keep h0 h [q4_0] ∧ Fld Z h q4_0 "com/example/penelope/penelope/program/Move" "pid" "I" (.int (-1 : Int32)) ∧ Fld Z h q4_0 "com/example/penelope/penelope/program/Move" "process" "I" (.int (-1 : Int32)) ∧ Fld Z h q4_0 "com/example/penelope/penelope/program/Move" "type" "Lcom/example/penelope/penelope/program/ProcessType;" .null ∧ Fld Z h q4_0 "com/example/penelope/penelope/program/Move" "choice" "I" (.int q4_2) ∧ Fld Z h q4_0 "com/example/penelope/penelope/program/Move" "transition" "Lcom/example/penelope/penelope/program/Transition;" .null ∧ Fld Z h q4_0 "com/example/penelope/penelope/program/Move" "receiver" "Lcom/example/penelope/penelope/program/Move;" .null
set_option maxRecDepth 65536 in
set_option maxHeartbeats 40000000 in
theorem rm4 (l : Launch) (Z : State) (a0 : Array Value) (hw : ∀ d ∈ tables_1, d.before a0 Z = true) (ws : List Jvm.Cond) (q4_0 : Addr) (q4_2 : Int32) (u4_q4_0_pid : Value) (u4_q4_0_process : Value) (u4_q4_0_type : Value) (u4_q4_0_choice : Value) (u4_q4_0_transition : Value) (u4_q4_0_receiver : Value) (h0 : Heap) (n0 : Nat) (Z0 : n0 ≤ h0.size) (E_q4_0 : Exa Z h0 q4_0 "com/example/penelope/penelope/program/Move") (F_q4_0_pid : Fld Z h0 q4_0 "com/example/penelope/penelope/program/Move" "pid" "I" u4_q4_0_pid) (g_q4_0 : n0 ≤ q4_0) (F_q4_0_process : Fld Z h0 q4_0 "com/example/penelope/penelope/program/Move" "process" "I" u4_q4_0_process) (F_q4_0_type : Fld Z h0 q4_0 "com/example/penelope/penelope/program/Move" "type" "Lcom/example/penelope/penelope/program/ProcessType;" u4_q4_0_type) (F_q4_0_choice : Fld Z h0 q4_0 "com/example/penelope/penelope/program/Move" "choice" "I" u4_q4_0_choice) (F_q4_0_transition : Fld Z h0 q4_0 "com/example/penelope/penelope/program/Move" "transition" "Lcom/example/penelope/penelope/program/Transition;" u4_q4_0_transition) (F_q4_0_receiver : Fld Z h0 q4_0 "com/example/penelope/penelope/program/Move" "receiver" "Lcom/example/penelope/penelope/program/Move;" u4_q4_0_receiver) :
    MetFree l (⟨"com/example/penelope/penelope/program/Move", "<init>", "(Lcom/example/penelope/penelope/program/ProcessType;ILcom/example/penelope/penelope/program/Transition;)V"⟩ : MethodName) (head1 (Jvm.Cond.code (⟨"com/example/penelope/penelope/program/Move", "<init>", "(Lcom/example/penelope/penelope/program/ProcessType;ILcom/example/penelope/penelope/program/Transition;)V"⟩ : MethodName) prog_95_method_2_code 4 none :: ws) ({ frames := 2, cells := 0, slots := 0, locals := 30 } : Room)) (fun a U => a = #[(.ref q4_0), .null, (.int q4_2), .null] ∧ Z.Warmed39 U.vm ∧ U.heap = h0) (fun _ _ _ _ _ => True) (fun _ U o U' => ∃ v L, o = .returned v ∧ Q4 Z q4_0 q4_2 u4_q4_0_pid u4_q4_0_process u4_q4_0_type u4_q4_0_choice u4_q4_0_transition u4_q4_0_receiver h0 n0 v U'.heap L ∧ FrameEnd U o U' L ({ frames := 2, cells := 0, slots := 0, locals := 30 } : Room).cells ({ frames := 2, cells := 0, slots := 0, locals := 30 } : Room).slots) := by
  refine MetFree.of_bodySF (plainFor_of_name pn_2) hisR ?_
  intro p e s m args below meth c s₁ Bd hml0 hP hK
  obtain ⟨rfl, hZ, hh⟩ := hP
  have hx := Bd.exec
  have hby := Bd.bytes
  have hml : c.maxLocals = 4 := hml0
  have hown : s.vm.findClass "com/example/penelope/penelope/program/Move" = some m.cls := findClass_of_methodNamed Bd.named
  have hnm := (name_of_methodNamed Bd.named Bd.method).1
  have X0 : Stand p l e ({ frames := 2, cells := 0, slots := 0, locals := 30 } : Room) s m #[(.ref q4_0), .null, (.int q4_2), .null] below meth c s₁ [] 0 0 := Stand.of_body Bd
  have e0 : s₁.heap = h0 := by rw [← hh, Bd.state]; rfl
  have N0 := Fr.nil n0
  obtain ⟨S0, hS0⟩ : ∃ z, z = s₁.setTop (entryFrame m #[(.ref q4_0), .null, (.int q4_2), .null] 4) := ⟨_, rfl⟩
  have P0 : own_Go p e below S0 (s₁.setTop (mkF m 0 #[.val (.ref q4_0), .val .null, .val (.int q4_2), .val .null] [])) := fun t k => by rw [hS0]; exact castTop (ef_4 m q4_0 q4_2) k
  have P1 : own_Go p e below S0 (s₁.setTop (mkF m 7 #[.val (.ref q4_0), .val .null, .val (.int q4_2), .val .null] [.null, .null, (.int q4_2), .null, (.int (-1 : Int32)), (.int (-1 : Int32)), (.ref q4_0)])) := fun t k => P0 t (by
    show Steps p.tables e below (s₁.setTop (mkF m 0 #[.val (.ref q4_0), .val .null, .val (.int q4_2), .val .null] [])) t
    refine XS.aloadN X0.here hx rfl (hb hby d4_0) rfl rfl ?_
    refine XS.iconst X0.here hx rfl (hb hby d4_1) ?_
    refine XS.iconst X0.here hx rfl (hb hby d4_2) ?_
    refine XS.aloadN X0.here hx rfl (hb hby d4_3) rfl rfl ?_
    refine XS.iloadN X0.here hx rfl (hb hby d4_4) rfl ?_
    refine XS.aloadN X0.here hx rfl (hb hby d4_5) rfl rfl ?_
    show Steps p.tables e below (s₁.setTop (mkF m 6 #[.val (.ref q4_0), .val .null, .val (.int q4_2), .val .null] [.null, (.int q4_2), .null, (.int (-1 : Int32)), (.int (-1 : Int32)), (.ref q4_0)])) t
    refine XS.aconstNull X0.here hx rfl (hb hby d4_6) ?_
    show Steps p.tables e below (s₁.setTop (mkF m 7 #[.val (.ref q4_0), .val .null, .val (.int q4_2), .val .null] [.null, .null, (.int q4_2), .null, (.int (-1 : Int32)), (.int (-1 : Int32)), (.ref q4_0)])) t
    exact k)
  obtain ⟨_, _, ⟨T2, L2, k2, n2⟩, -, X2, ⟨Lc2, hQ2, l2, y2, z2⟩, st2⟩ := X0.specialBack hx (y := (⟨"com/example/penelope/penelope/program/Move", "<init>", "(IILcom/example/penelope/penelope/program/ProcessType;ILcom/example/penelope/penelope/program/Transition;Lcom/example/penelope/penelope/program/Move;)V"⟩ : MethodName)) rfl hown (mvT hZ (hw _ (List.mem_of_getElem? (i := 6) rfl))) (mvT hZ (hw _ (List.mem_of_getElem? (i := 7) rfl))) (mvT hZ (hw _ (List.mem_of_getElem? (i := 8) rfl))) (by decide) (backOf (W := 0) (rm2 l Z a0 hw [] q4_0 (-1 : Int32) (-1 : Int32) q4_2 u4_q4_0_pid u4_q4_0_process u4_q4_0_type u4_q4_0_choice u4_q4_0_transition u4_q4_0_receiver h0 n0 Z0 E_q4_0 F_q4_0_pid g_q4_0 F_q4_0_process F_q4_0_type F_q4_0_choice F_q4_0_transition F_q4_0_receiver) hZ (hw _ (List.mem_of_getElem? (i := 8) rfl)) (hw _ (List.mem_of_getElem? (i := 2) rfl)) (by decide) (by decide)) (g := (mkF m 7 #[.val (.ref q4_0), .val .null, .val (.int q4_2), .val .null] [.null, .null, (.int q4_2), .null, (.int (-1 : Int32)), (.int (-1 : Int32)), (.ref q4_0)])) rfl (by rw [hml]; rfl) (Steps.refl _) (a := q4_0) (argsL := [(.int (-1 : Int32)), (.int (-1 : Int32)), .null, (.int q4_2), .null, .null]) (rest := []) (lenOf pd_0 rfl) rfl (by show 2 * 0 + _ ≤ _; exact Nat.le_of_eq rfl) (hb hby d4_7) (fun _ _ => ⟨rfl, e0, (by decide : 0 + 0 ≤ _), (by decide : 0 + 0 ≤ _)⟩)
  dsimp only [Pt.U, Pt.locs, Pt.cells, Pt.slots] at X2 l2 y2 z2 st2 hQ2
  subst l2 y2 z2
  obtain ⟨rfl, N2q, Kc2, F2_0, F2_1, F2_2, F2_3, F2_4, F2_5⟩ := hQ2
  have N2 := Fr.app N0 N2q
  have K2 : Keep h0 T2.heap [q4_0] := Keep.trans (Keep.refl h0 [q4_0]) Kc2 (allS (Or.inl (by simp)) all0)
  have P2 : own_Go p e below S0 (T2.setTop (mkF m 10 #[.val (.ref q4_0), .val .null, .val (.int q4_2), .val .null] [])) := fun t k => P1 t (st2.trans k)
  obtain ⟨fs, hr, hrun, hended, hW, hsame⟩ := X2.leave (v := none) (fun _ => rfl)
  refine ⟨_, _, own_from hS0 (P2 _ ?_), hrun, hended, _, _, rfl, ?_, ⟨_, rfl⟩, hW, hsame.mono (by decide) (by decide)⟩
  · show Steps p.tables e below (T2.setTop (mkF m 10 #[.val (.ref q4_0), .val .null, .val (.int q4_2), .val .null] [])) _
    exact X2.returnOut hx Bd.returns (hb hby d4_10) hr
  · show Q4 Z q4_0 q4_2 u4_q4_0_pid u4_q4_0_process u4_q4_0_type u4_q4_0_choice u4_q4_0_transition u4_q4_0_receiver h0 n0 _ T2.heap _
    exact ⟨rfl, N2, K2, F2_0, F2_1, F2_2, F2_3, F2_4, F2_5⟩
theorem pn_7 : plainName "java/util/AbstractCollection" = true := by first | (simp [plainName, overriddenIn]; done) | decide +kernel
theorem d7_0 : decode jdk_22_method_1_code 0 = .ok (.aload_n 0, 1) := by decide +kernel
theorem d7_1 : decode jdk_22_method_1_code 1 = .ok (.invokespecial 1, 3) := by decide +kernel
theorem d7_4 : decode jdk_22_method_1_code 4 = .ok (.return_, 1) := by decide +kernel
theorem ef_7 (m : MethodId) (q7_0 : Addr) : entryFrame m #[(.ref q7_0)] 1 = mkF m 0 #[.val (.ref q7_0)] [] := by first | (simp [entryFrame, mkF, argsToLocals, Value.category]; done) | rfl
def Q7 (Z : State) (q7_0 : Addr) (h0 : Heap) (n0 : Nat) (v : Option Value) (h : Heap) (L : List Loc) : Prop := v = none ∧ Fr n0 L ∧ h = h0
set_option maxRecDepth 65536 in
set_option maxHeartbeats 40000000 in
theorem rm7 (l : Launch) (Z : State) (a0 : Array Value) (hw : ∀ d ∈ tables_1, d.before a0 Z = true) (ws : List Jvm.Cond) (q7_0 : Addr) (h0 : Heap) (n0 : Nat) (Z0 : n0 ≤ h0.size) :
    MetFree l (⟨"java/util/AbstractCollection", "<init>", "()V"⟩ : MethodName) (head1 (Jvm.Cond.code (⟨"java/util/AbstractCollection", "<init>", "()V"⟩ : MethodName) jdk_22_method_1_code 1 none :: ws) ({ frames := 1, cells := 0, slots := 0, locals := 12 } : Room)) (fun a U => a = #[(.ref q7_0)] ∧ Z.Warmed39 U.vm ∧ U.heap = h0) (fun _ _ _ _ _ => True) (fun _ U o U' => ∃ v L, o = .returned v ∧ Q7 Z q7_0 h0 n0 v U'.heap L ∧ FrameEnd U o U' L ({ frames := 1, cells := 0, slots := 0, locals := 12 } : Room).cells ({ frames := 1, cells := 0, slots := 0, locals := 12 } : Room).slots) := by
  refine MetFree.of_bodySF (plainFor_of_name pn_7) hisR ?_
  intro p e s m args below meth c s₁ Bd hml0 hP hK
  obtain ⟨rfl, hZ, hh⟩ := hP
  have hx := Bd.exec
  have hby := Bd.bytes
  have hml : c.maxLocals = 1 := hml0
  have hown : s.vm.findClass "java/util/AbstractCollection" = some m.cls := findClass_of_methodNamed Bd.named
  have hnm := (name_of_methodNamed Bd.named Bd.method).1
  have X0 : Stand p l e ({ frames := 1, cells := 0, slots := 0, locals := 12 } : Room) s m #[(.ref q7_0)] below meth c s₁ [] 0 0 := Stand.of_body Bd
  have e0 : s₁.heap = h0 := by rw [← hh, Bd.state]; rfl
  have N0 := Fr.nil n0
  obtain ⟨S0, hS0⟩ : ∃ z, z = s₁.setTop (entryFrame m #[(.ref q7_0)] 1) := ⟨_, rfl⟩
  have P0 : own_Go p e below S0 (s₁.setTop (mkF m 0 #[.val (.ref q7_0)] [])) := fun t k => by rw [hS0]; exact castTop (ef_7 m q7_0) k
  have P1 : own_Go p e below S0 (s₁.setTop (mkF m 1 #[.val (.ref q7_0)] [(.ref q7_0)])) := fun t k => P0 t (by
    show Steps p.tables e below (s₁.setTop (mkF m 0 #[.val (.ref q7_0)] [])) t
    refine XS.aloadN X0.here hx rfl (hb hby d7_0) rfl rfl ?_
    show Steps p.tables e below (s₁.setTop (mkF m 1 #[.val (.ref q7_0)] [(.ref q7_0)])) t
    exact k)
  obtain ⟨T2, X2, e2, st2⟩ := initO X0 hx hZ hown (hw _ (List.mem_of_getElem? (i := 45) rfl)) (hw _ (List.mem_of_getElem? (i := 10) rfl)) (hw _ (List.mem_of_getElem? (i := 11) rfl)) e0 (g := (mkF m 1 #[.val (.ref q7_0)] [(.ref q7_0)])) rfl (by rw [hml]; rfl) rfl (hb hby d7_1) (by decide) (W := 0) (by show 2 * 0 + _ ≤ _; exact Nat.le_of_eq rfl) (by decide)
  have P2 : own_Go p e below S0 (T2.setTop (mkF m 4 #[.val (.ref q7_0)] [])) := fun t k => P1 t (st2 _ k)
  obtain ⟨fs, hr, hrun, hended, hW, hsame⟩ := X2.leave (v := none) (fun _ => rfl)
  refine ⟨_, _, own_from hS0 (P2 _ ?_), hrun, hended, _, _, rfl, ?_, ⟨_, rfl⟩, hW, hsame.mono (by decide) (by decide)⟩
  · show Steps p.tables e below (T2.setTop (mkF m 4 #[.val (.ref q7_0)] [])) _
    exact X2.returnOut hx Bd.returns (hb hby d7_4) hr
  · show Q7 Z q7_0 h0 n0 _ T2.heap _
    rw [e2]
    exact ⟨rfl, N0, rfl⟩
theorem pd_1 : parseMethodDescriptor "()V" = some ⟨[], none⟩ := by decide +kernel
theorem pn_6 : plainName "java/util/AbstractList" = true := by first | (simp [plainName, overriddenIn]; done) | decide +kernel
theorem d6_0 : decode jdk_39_method_1_code 0 = .ok (.aload_n 0, 1) := by decide +kernel
theorem d6_1 : decode jdk_39_method_1_code 1 = .ok (.invokespecial 1, 3) := by decide +kernel
theorem d6_4 : decode jdk_39_method_1_code 4 = .ok (.aload_n 0, 1) := by decide +kernel
theorem d6_5 : decode jdk_39_method_1_code 5 = .ok (.iconst 0, 1) := by decide +kernel
theorem d6_6 : decode jdk_39_method_1_code 6 = .ok (.putfield 7, 3) := by decide +kernel
theorem d6_9 : decode jdk_39_method_1_code 9 = .ok (.return_, 1) := by decide +kernel
theorem ef_6 (m : MethodId) (q6_0 : Addr) : entryFrame m #[(.ref q6_0)] 1 = mkF m 0 #[.val (.ref q6_0)] [] := by first | (simp [entryFrame, mkF, argsToLocals, Value.category]; done) | rfl
def Q6 (Z : State) (q6_0 : Addr) (w6_q6_0_size : Int32) (u6_q6_0_modCount : Value) (h0 : Heap) (n0 : Nat) (v : Option Value) (h : Heap) (L : List Loc) : Prop := v = none ∧ Fr n0 L ∧ Keep h0 h [q6_0] ∧ Fld Z h q6_0 "java/util/ArrayList" "elementData" "[Ljava/lang/Object;" .null ∧ Fld Z h q6_0 "java/util/ArrayList" "size" "I" (.int w6_q6_0_size) ∧ Fld Z h q6_0 "java/util/AbstractList" "modCount" "I" (.int (0 : Int32))
set_option maxRecDepth 65536 in
set_option maxHeartbeats 40000000 in
theorem rm6 (l : Launch) (Z : State) (a0 : Array Value) (hw : ∀ d ∈ tables_1, d.before a0 Z = true) (ws : List Jvm.Cond) (q6_0 : Addr) (w6_q6_0_size : Int32) (u6_q6_0_modCount : Value) (h0 : Heap) (n0 : Nat) (Z0 : n0 ≤ h0.size) (F_q6_0_elementData : Fld Z h0 q6_0 "java/util/ArrayList" "elementData" "[Ljava/lang/Object;" .null) (F_q6_0_size : Fld Z h0 q6_0 "java/util/ArrayList" "size" "I" (.int w6_q6_0_size)) (E_q6_0 : Exa Z h0 q6_0 "java/util/ArrayList") (F_q6_0_modCount : Fld Z h0 q6_0 "java/util/AbstractList" "modCount" "I" u6_q6_0_modCount) (g_q6_0 : n0 ≤ q6_0) :
    MetFree l (⟨"java/util/AbstractList", "<init>", "()V"⟩ : MethodName) (head1 (Jvm.Cond.code (⟨"java/util/AbstractList", "<init>", "()V"⟩ : MethodName) jdk_39_method_1_code 1 none :: ws) ({ frames := 2, cells := 0, slots := 0, locals := 24 } : Room)) (fun a U => a = #[(.ref q6_0)] ∧ Z.Warmed39 U.vm ∧ U.heap = h0) (fun _ _ _ _ _ => True) (fun _ U o U' => ∃ v L, o = .returned v ∧ Q6 Z q6_0 w6_q6_0_size u6_q6_0_modCount h0 n0 v U'.heap L ∧ FrameEnd U o U' L ({ frames := 2, cells := 0, slots := 0, locals := 24 } : Room).cells ({ frames := 2, cells := 0, slots := 0, locals := 24 } : Room).slots) := by
  refine MetFree.of_bodySF (plainFor_of_name pn_6) hisR ?_
  intro p e s m args below meth c s₁ Bd hml0 hP hK
  obtain ⟨rfl, hZ, hh⟩ := hP
  have hx := Bd.exec
  have hby := Bd.bytes
  have hml : c.maxLocals = 1 := hml0
  have hown : s.vm.findClass "java/util/AbstractList" = some m.cls := findClass_of_methodNamed Bd.named
  have hnm := (name_of_methodNamed Bd.named Bd.method).1
  have X0 : Stand p l e ({ frames := 2, cells := 0, slots := 0, locals := 24 } : Room) s m #[(.ref q6_0)] below meth c s₁ [] 0 0 := Stand.of_body Bd
  have e0 : s₁.heap = h0 := by rw [← hh, Bd.state]; rfl
  have N0 := Fr.nil n0
  obtain ⟨S0, hS0⟩ : ∃ z, z = s₁.setTop (entryFrame m #[(.ref q6_0)] 1) := ⟨_, rfl⟩
  have P0 : own_Go p e below S0 (s₁.setTop (mkF m 0 #[.val (.ref q6_0)] [])) := fun t k => by rw [hS0]; exact castTop (ef_6 m q6_0) k
  have P1 : own_Go p e below S0 (s₁.setTop (mkF m 1 #[.val (.ref q6_0)] [(.ref q6_0)])) := fun t k => P0 t (by
    show Steps p.tables e below (s₁.setTop (mkF m 0 #[.val (.ref q6_0)] [])) t
    refine XS.aloadN X0.here hx rfl (hb hby d6_0) rfl rfl ?_
    show Steps p.tables e below (s₁.setTop (mkF m 1 #[.val (.ref q6_0)] [(.ref q6_0)])) t
    exact k)
  obtain ⟨_, _, ⟨T2, L2, k2, n2⟩, -, X2, ⟨Lc2, hQ2, l2, y2, z2⟩, st2⟩ := X0.specialBack hx (y := (⟨"java/util/AbstractCollection", "<init>", "()V"⟩ : MethodName)) rfl hown (mvT hZ (hw _ (List.mem_of_getElem? (i := 39) rfl))) (mvT hZ (hw _ (List.mem_of_getElem? (i := 40) rfl))) (mvT hZ (hw _ (List.mem_of_getElem? (i := 44) rfl))) (by decide) (backOf (W := 0) (rm7 l Z a0 hw [] q6_0 h0 n0 Z0) hZ (hw _ (List.mem_of_getElem? (i := 44) rfl)) (hw _ (List.mem_of_getElem? (i := 43) rfl)) (by decide) (by decide)) (g := (mkF m 1 #[.val (.ref q6_0)] [(.ref q6_0)])) rfl (by rw [hml]; rfl) (Steps.refl _) (a := q6_0) (argsL := []) (rest := []) (lenOf pd_1 rfl) rfl (by show 2 * 0 + _ ≤ _; exact Nat.le_of_eq rfl) (hb hby d6_1) (fun _ _ => ⟨rfl, e0, (by decide : 0 + 0 ≤ _), (by decide : 0 + 0 ≤ _)⟩)
  dsimp only [Pt.U, Pt.locs, Pt.cells, Pt.slots] at X2 l2 y2 z2 st2 hQ2
  subst l2 y2 z2
  obtain ⟨rfl, N2q, e2⟩ := hQ2
  have N2 := Fr.app N0 N2q
  have P2 : own_Go p e below S0 (T2.setTop (mkF m 4 #[.val (.ref q6_0)] [])) := fun t k => P1 t (st2.trans k)
  have P3 : own_Go p e below S0 (T2.setTop (mkF m 6 #[.val (.ref q6_0)] [(.int (0 : Int32)), (.ref q6_0)])) := fun t k => P2 t (by
    show Steps p.tables e below (T2.setTop (mkF m 4 #[.val (.ref q6_0)] [])) t
    refine XS.aloadN X2.here hx rfl (hb hby d6_4) rfl rfl ?_
    refine XS.iconst X2.here hx rfl (hb hby d6_5) ?_
    show Steps p.tables e below (T2.setTop (mkF m 6 #[.val (.ref q6_0)] [(.int (0 : Int32)), (.ref q6_0)])) t
    exact k)
  obtain ⟨T4, h4, X4, e4, W4, st4⟩ := putF X2 hx hZ hown (host := "") (Or.inl (hw _ (List.mem_of_getElem? (i := 46) rfl))) Via.refl e2 F_q6_0_modCount E_q6_0 (Or.inl (hw _ (List.mem_of_getElem? (i := 47) rfl))) (hw _ (List.mem_of_getElem? (i := 28) rfl)) (ty := .int) (by decide) rfl rfl (g := (mkF m 6 #[.val (.ref q6_0)] [(.int (0 : Int32)), (.ref q6_0)])) rfl rfl (hb hby d6_6)
  have K4 : Keep h0 h4 [q6_0] := (Keep.refl h0 [q6_0]).wr W4 (Or.inl (by simp))
  have N4 := Fr.snoc X4 N2 g_q6_0
  have F4w : Fld Z h4 q6_0 "java/util/AbstractList" "modCount" "I" (.int (0 : Int32)) := F_q6_0_modCount.same W4
  have P4 : own_Go p e below S0 (T4.setTop (mkF m 9 #[.val (.ref q6_0)] [])) := fun t k => P3 t (st4 _ k)
  have F5 : Fld Z h4 q6_0 "java/util/ArrayList" "elementData" "[Ljava/lang/Object;" .null := F_q6_0_elementData.other W4 (Or.inr (slot_ne (Or.inl (hw _ (List.mem_of_getElem? (i := 50) rfl))) (Or.inl (hw _ (List.mem_of_getElem? (i := 47) rfl))) (by decide) (t := (.array (.object "java/lang/Object"))) (t' := .int) (by decide) (by decide)))
  have F6 : Fld Z h4 q6_0 "java/util/ArrayList" "size" "I" (.int w6_q6_0_size) := F_q6_0_size.other W4 (Or.inr (slot_ne (Or.inl (hw _ (List.mem_of_getElem? (i := 59) rfl))) (Or.inl (hw _ (List.mem_of_getElem? (i := 47) rfl))) (by decide) (t := .int) (t' := .int) (by decide) (by decide)))
  obtain ⟨fs, hr, hrun, hended, hW, hsame⟩ := X4.leave (v := none) (fun _ => rfl)
  refine ⟨_, _, own_from hS0 (P4 _ ?_), hrun, hended, _, _, rfl, ?_, ⟨_, rfl⟩, hW, hsame.mono (by decide) (by decide)⟩
  · show Steps p.tables e below (T4.setTop (mkF m 9 #[.val (.ref q6_0)] [])) _
    exact X4.returnOut hx Bd.returns (hb hby d6_9) hr
  · show Q6 Z q6_0 w6_q6_0_size u6_q6_0_modCount h0 n0 _ T4.heap _
    rw [e4]
    exact ⟨rfl, N4, K4, F5, F6, F4w⟩
theorem pn_5 : plainName "java/util/ArrayList" = true := by first | (simp [plainName, overriddenIn]; done) | decide +kernel
theorem d5_0 : decode jdk_38_method_2_code 0 = .ok (.aload_n 0, 1) := by decide +kernel
theorem d5_1 : decode jdk_38_method_2_code 1 = .ok (.invokespecial 1, 3) := by decide +kernel
theorem d5_4 : decode jdk_38_method_2_code 4 = .ok (.aload_n 0, 1) := by decide +kernel
theorem d5_5 : decode jdk_38_method_2_code 5 = .ok (.getstatic 39, 3) := by decide +kernel
theorem d5_8 : decode jdk_38_method_2_code 8 = .ok (.putfield 9, 3) := by decide +kernel
theorem d5_11 : decode jdk_38_method_2_code 11 = .ok (.return_, 1) := by decide +kernel
theorem ef_5 (m : MethodId) (q5_0 : Addr) : entryFrame m #[(.ref q5_0)] 1 = mkF m 0 #[.val (.ref q5_0)] [] := by first | (simp [entryFrame, mkF, argsToLocals, Value.category]; done) | rfl
def Q5 (Z : State) (q5_0 : Addr) (w5_q5_0_size : Int32) (u5_q5_0_modCount : Value) (z5_DEFAULTCAPACITY_EMPTY_ELEMENTDATA : Addr) (h0 : Heap) (n0 : Nat) (v : Option Value) (h : Heap) (L : List Loc) : Prop := v = none ∧ Fr n0 L ∧ Keep h0 h [q5_0] ∧ Fld Z h q5_0 "java/util/ArrayList" "elementData" "[Ljava/lang/Object;" (.ref z5_DEFAULTCAPACITY_EMPTY_ELEMENTDATA) ∧ Fld Z h q5_0 "java/util/ArrayList" "size" "I" (.int w5_q5_0_size) ∧ Fld Z h q5_0 "java/util/AbstractList" "modCount" "I" (.int (0 : Int32))
set_option maxRecDepth 65536 in
set_option maxHeartbeats 40000000 in
theorem rm5 (l : Launch) (Z : State) (a0 : Array Value) (hw : ∀ d ∈ tables_1, d.before a0 Z = true) (ws : List Jvm.Cond) (q5_0 : Addr) (w5_q5_0_size : Int32) (u5_q5_0_modCount : Value) (z5_DEFAULTCAPACITY_EMPTY_ELEMENTDATA : Addr) (h0 : Heap) (n0 : Nat) (Z0 : n0 ≤ h0.size) (F_q5_0_size : Fld Z h0 q5_0 "java/util/ArrayList" "size" "I" (.int w5_q5_0_size)) (F_q5_0_elementData : Fld Z h0 q5_0 "java/util/ArrayList" "elementData" "[Ljava/lang/Object;" .null) (E_q5_0 : Exa Z h0 q5_0 "java/util/ArrayList") (F_q5_0_modCount : Fld Z h0 q5_0 "java/util/AbstractList" "modCount" "I" u5_q5_0_modCount) (g_q5_0 : n0 ≤ q5_0) (S_DEFAULTCAPACITY_EMPTY_ELEMENTDATA : Sta Z h0 "java/util/ArrayList" "DEFAULTCAPACITY_EMPTY_ELEMENTDATA" "[Ljava/lang/Object;" (.ref z5_DEFAULTCAPACITY_EMPTY_ELEMENTDATA)) :
    MetFree l (⟨"java/util/ArrayList", "<init>", "()V"⟩ : MethodName) (head1 (Jvm.Cond.code (⟨"java/util/ArrayList", "<init>", "()V"⟩ : MethodName) jdk_38_method_2_code 1 none :: ws) ({ frames := 3, cells := 0, slots := 0, locals := 36 } : Room)) (fun a U => a = #[(.ref q5_0)] ∧ Z.Warmed39 U.vm ∧ U.heap = h0) (fun _ _ _ _ _ => True) (fun _ U o U' => ∃ v L, o = .returned v ∧ Q5 Z q5_0 w5_q5_0_size u5_q5_0_modCount z5_DEFAULTCAPACITY_EMPTY_ELEMENTDATA h0 n0 v U'.heap L ∧ FrameEnd U o U' L ({ frames := 3, cells := 0, slots := 0, locals := 36 } : Room).cells ({ frames := 3, cells := 0, slots := 0, locals := 36 } : Room).slots) := by
  refine MetFree.of_bodySF (plainFor_of_name pn_5) hisR ?_
  intro p e s m args below meth c s₁ Bd hml0 hP hK
  obtain ⟨rfl, hZ, hh⟩ := hP
  have hx := Bd.exec
  have hby := Bd.bytes
  have hml : c.maxLocals = 1 := hml0
  have hown : s.vm.findClass "java/util/ArrayList" = some m.cls := findClass_of_methodNamed Bd.named
  have hnm := (name_of_methodNamed Bd.named Bd.method).1
  have X0 : Stand p l e ({ frames := 3, cells := 0, slots := 0, locals := 36 } : Room) s m #[(.ref q5_0)] below meth c s₁ [] 0 0 := Stand.of_body Bd
  have e0 : s₁.heap = h0 := by rw [← hh, Bd.state]; rfl
  have N0 := Fr.nil n0
  obtain ⟨S0, hS0⟩ : ∃ z, z = s₁.setTop (entryFrame m #[(.ref q5_0)] 1) := ⟨_, rfl⟩
  have P0 : own_Go p e below S0 (s₁.setTop (mkF m 0 #[.val (.ref q5_0)] [])) := fun t k => by rw [hS0]; exact castTop (ef_5 m q5_0) k
  have P1 : own_Go p e below S0 (s₁.setTop (mkF m 1 #[.val (.ref q5_0)] [(.ref q5_0)])) := fun t k => P0 t (by
    show Steps p.tables e below (s₁.setTop (mkF m 0 #[.val (.ref q5_0)] [])) t
    refine XS.aloadN X0.here hx rfl (hb hby d5_0) rfl rfl ?_
    show Steps p.tables e below (s₁.setTop (mkF m 1 #[.val (.ref q5_0)] [(.ref q5_0)])) t
    exact k)
  obtain ⟨_, _, ⟨T2, L2, k2, n2⟩, -, X2, ⟨Lc2, hQ2, l2, y2, z2⟩, st2⟩ := X0.specialBack hx (y := (⟨"java/util/AbstractList", "<init>", "()V"⟩ : MethodName)) rfl hown (mvT hZ (hw _ (List.mem_of_getElem? (i := 33) rfl))) (mvT hZ (hw _ (List.mem_of_getElem? (i := 34) rfl))) (mvT hZ (hw _ (List.mem_of_getElem? (i := 38) rfl))) (by decide) (backOf (W := 0) (rm6 l Z a0 hw [] q5_0 w5_q5_0_size u5_q5_0_modCount h0 n0 Z0 F_q5_0_elementData F_q5_0_size E_q5_0 F_q5_0_modCount g_q5_0) hZ (hw _ (List.mem_of_getElem? (i := 38) rfl)) (hw _ (List.mem_of_getElem? (i := 37) rfl)) (by decide) (by decide)) (g := (mkF m 1 #[.val (.ref q5_0)] [(.ref q5_0)])) rfl (by rw [hml]; rfl) (Steps.refl _) (a := q5_0) (argsL := []) (rest := []) (lenOf pd_1 rfl) rfl (by show 2 * 0 + _ ≤ _; exact Nat.le_of_eq rfl) (hb hby d5_1) (fun _ _ => ⟨rfl, e0, (by decide : 0 + 0 ≤ _), (by decide : 0 + 0 ≤ _)⟩)
  dsimp only [Pt.U, Pt.locs, Pt.cells, Pt.slots] at X2 l2 y2 z2 st2 hQ2
  subst l2 y2 z2
  obtain ⟨rfl, N2q, Kc2, F2_0, F2_1, F2_2⟩ := hQ2
  have N2 := Fr.app N0 N2q
  have K2 : Keep h0 T2.heap [q5_0] := Keep.trans (Keep.refl h0 [q5_0]) Kc2 (allS (Or.inl (by simp)) all0)
  have P2 : own_Go p e below S0 (T2.setTop (mkF m 4 #[.val (.ref q5_0)] [])) := fun t k => P1 t (st2.trans k)
  have F3 : Sta Z T2.heap "java/util/ArrayList" "DEFAULTCAPACITY_EMPTY_ELEMENTDATA" "[Ljava/lang/Object;" (.ref z5_DEFAULTCAPACITY_EMPTY_ELEMENTDATA) := own_staK S_DEFAULTCAPACITY_EMPTY_ELEMENTDATA Kc2 (allS (own_plE E_q5_0) all0)
  have P4 : own_Go p e below S0 (T2.setTop (mkF m 5 #[.val (.ref q5_0)] [(.ref q5_0)])) := fun t k => P2 t (by
    show Steps p.tables e below (T2.setTop (mkF m 4 #[.val (.ref q5_0)] [])) t
    refine XS.aloadN X2.here hx rfl (hb hby d5_4) rfl rfl ?_
    show Steps p.tables e below (T2.setTop (mkF m 5 #[.val (.ref q5_0)] [(.ref q5_0)])) t
    exact k)
  obtain ⟨T5, X5, e5, st5⟩ := getS2 X2 hx hZ hown (host := "") (Or.inl (hw _ (List.mem_of_getElem? (i := 48) rfl))) Via.refl rfl F3 (g := (mkF m 5 #[.val (.ref q5_0)] [(.ref q5_0)])) rfl (hb hby d5_5)
  have P5 : own_Go p e below S0 (T5.setTop (mkF m 8 #[.val (.ref q5_0)] [(.ref z5_DEFAULTCAPACITY_EMPTY_ELEMENTDATA), (.ref q5_0)])) := fun t k => P4 t (st5 _ k)
  have F6 : Exa Z T2.heap q5_0 "java/util/ArrayList" := E_q5_0.keep Kc2
  obtain ⟨T7, h7, X7, e7, W7, st7⟩ := putF X5 hx hZ hown (host := "") (Or.inl (hw _ (List.mem_of_getElem? (i := 49) rfl))) Via.refl e5 F2_0 F6 (Or.inl (hw _ (List.mem_of_getElem? (i := 50) rfl))) (hw _ (List.mem_of_getElem? (i := 28) rfl)) (ty := (.array (.object "java/lang/Object"))) (by decide) rfl rfl (g := (mkF m 8 #[.val (.ref q5_0)] [(.ref z5_DEFAULTCAPACITY_EMPTY_ELEMENTDATA), (.ref q5_0)])) rfl rfl (hb hby d5_8)
  have K7 : Keep h0 h7 [q5_0] := K2.wr W7 (Or.inl (by simp))
  have N7 := Fr.snoc X7 N2 g_q5_0
  have F7w : Fld Z h7 q5_0 "java/util/ArrayList" "elementData" "[Ljava/lang/Object;" (.ref z5_DEFAULTCAPACITY_EMPTY_ELEMENTDATA) := F2_0.same W7
  have P7 : own_Go p e below S0 (T7.setTop (mkF m 11 #[.val (.ref q5_0)] [])) := fun t k => P5 t (st7 _ k)
  have F8 : Fld Z h7 q5_0 "java/util/ArrayList" "size" "I" (.int w5_q5_0_size) := F2_1.other W7 (Or.inr (slot_ne (Or.inl (hw _ (List.mem_of_getElem? (i := 59) rfl))) (Or.inl (hw _ (List.mem_of_getElem? (i := 50) rfl))) (by decide) (t := .int) (t' := (.array (.object "java/lang/Object"))) (by decide) (by decide)))
  have F9 : Fld Z h7 q5_0 "java/util/AbstractList" "modCount" "I" (.int (0 : Int32)) := F2_2.other W7 (Or.inr (slot_ne (Or.inl (hw _ (List.mem_of_getElem? (i := 47) rfl))) (Or.inl (hw _ (List.mem_of_getElem? (i := 50) rfl))) (by decide) (t := .int) (t' := (.array (.object "java/lang/Object"))) (by decide) (by decide)))
  obtain ⟨fs, hr, hrun, hended, hW, hsame⟩ := X7.leave (v := none) (fun _ => rfl)
  refine ⟨_, _, own_from hS0 (P7 _ ?_), hrun, hended, _, _, rfl, ?_, ⟨_, rfl⟩, hW, hsame.mono (by decide) (by decide)⟩
  · show Steps p.tables e below (T7.setTop (mkF m 11 #[.val (.ref q5_0)] [])) _
    exact X7.returnOut hx Bd.returns (hb hby d5_11) hr
  · show Q5 Z q5_0 w5_q5_0_size u5_q5_0_modCount z5_DEFAULTCAPACITY_EMPTY_ELEMENTDATA h0 n0 _ T7.heap _
    rw [e7]
    exact ⟨rfl, N7, K7, F7w, F8, F9⟩
theorem d12_0 : decode jdk_29_method_65_code 0 = .ok (.iload_n 0, 1) := by decide +kernel
theorem d12_1 : decode jdk_29_method_65_code 1 = .ok (.iload_n 1, 1) := by decide +kernel
theorem d12_2 : decode jdk_29_method_65_code 2 = .ok (.if_icmp .lt 7, 3) := by decide +kernel
theorem d12_5 : decode jdk_29_method_65_code 5 = .ok (.iload_n 0, 1) := by decide +kernel
theorem d12_6 : decode jdk_29_method_65_code 6 = .ok (.goto 4, 3) := by decide +kernel
theorem d12_10 : decode jdk_29_method_65_code 10 = .ok (.ireturn, 1) := by decide +kernel
theorem ef_12 (m : MethodId)  : entryFrame m #[(.int (10 : Int32)), (.int (1 : Int32))] 2 = mkF m 0 #[.val (.int (10 : Int32)), .val (.int (1 : Int32))] [] := by first | (simp [entryFrame, mkF, argsToLocals, Value.category]; done) | rfl
def Q12 (Z : State)  (h0 : Heap) (n0 : Nat) (v : Option Value) (h : Heap) (L : List Loc) : Prop := v = some (.int (10 : Int32)) ∧ Fr n0 L ∧ h = h0
set_option maxRecDepth 65536 in
set_option maxHeartbeats 40000000 in
theorem rm12 (l : Launch) (Z : State) (a0 : Array Value) (hw : ∀ d ∈ tables_1, d.before a0 Z = true) (ws : List Jvm.Cond)  (h0 : Heap) (n0 : Nat) (Z0 : n0 ≤ h0.size) :
    MetFree l (⟨"java/lang/Math", "max", "(II)I"⟩ : MethodName) (head1 (Jvm.Cond.code (⟨"java/lang/Math", "max", "(II)I"⟩ : MethodName) jdk_29_method_65_code 2 (some .int) :: ws) ({ frames := 0, cells := 0, slots := 0, locals := 0 } : Room)) (fun a U => a = #[(.int (10 : Int32)), (.int (1 : Int32))] ∧ Z.Warmed39 U.vm ∧ U.heap = h0) (fun _ _ _ _ _ => True) (fun _ U o U' => ∃ v L, o = .returned v ∧ Q12 Z  h0 n0 v U'.heap L ∧ FrameEnd U o U' L ({ frames := 0, cells := 0, slots := 0, locals := 0 } : Room).cells ({ frames := 0, cells := 0, slots := 0, locals := 0 } : Room).slots) := by
  refine MetFree.of_bodySF (Jvm.Free.JP.mathPlain rfl (by decide +kernel)) hisR ?_
  intro p e s m args below meth c s₁ Bd hml0 hP hK
  obtain ⟨rfl, hZ, hh⟩ := hP
  have hx := Bd.exec
  have hby := Bd.bytes
  have hml : c.maxLocals = 2 := hml0
  have hown : s.vm.findClass "java/lang/Math" = some m.cls := findClass_of_methodNamed Bd.named
  have hnm := (name_of_methodNamed Bd.named Bd.method).1
  have X0 : Stand p l e ({ frames := 0, cells := 0, slots := 0, locals := 0 } : Room) s m #[(.int (10 : Int32)), (.int (1 : Int32))] below meth c s₁ [] 0 0 := Stand.of_body Bd
  have e0 : s₁.heap = h0 := by rw [← hh, Bd.state]; rfl
  have N0 := Fr.nil n0
  obtain ⟨S0, hS0⟩ : ∃ z, z = s₁.setTop (entryFrame m #[(.int (10 : Int32)), (.int (1 : Int32))] 2) := ⟨_, rfl⟩
  have P0 : own_Go p e below S0 (s₁.setTop (mkF m 0 #[.val (.int (10 : Int32)), .val (.int (1 : Int32))] [])) := fun t k => by rw [hS0]; exact castTop (ef_12 m ) k
  have P1 : own_Go p e below S0 (s₁.setTop (mkF m 10 #[.val (.int (10 : Int32)), .val (.int (1 : Int32))] [(.int (10 : Int32))])) := fun t k => P0 t (by
    show Steps p.tables e below (s₁.setTop (mkF m 0 #[.val (.int (10 : Int32)), .val (.int (1 : Int32))] [])) t
    refine XS.iloadN X0.here hx rfl (hb hby d12_0) rfl ?_
    refine XS.iloadN X0.here hx rfl (hb hby d12_1) rfl ?_
    refine XS.icmpNo X0.here hx rfl (hb hby d12_2) rfl (flt (by decide)).1 ?_
    refine XS.iloadN X0.here hx rfl (hb hby d12_5) rfl ?_
    refine XS.goto X0.here hx rfl (pc0 := 6) (pc' := 10) rfl (hb hby d12_6) (by decide) (by decide) ?_
    show Steps p.tables e below (s₁.setTop (mkF m 10 #[.val (.int (10 : Int32)), .val (.int (1 : Int32))] [(.int (10 : Int32))])) t
    exact k)
  obtain ⟨fs, hr, hrun, hended, hW, hsame⟩ := X0.leave (v := some (.int (10 : Int32))) (fun h => by rw [Bd.returns] at h; cases h)
  refine ⟨_, _, own_from hS0 (P1 _ ?_), hrun, hended, _, _, rfl, ?_, ⟨_, rfl⟩, hW, hsame.mono (by decide) (by decide)⟩
  · show Steps p.tables e below (s₁.setTop (mkF m 10 #[.val (.int (10 : Int32)), .val (.int (1 : Int32))] [(.int (10 : Int32))])) _
    exact retI X0 hx Bd.returns (hb hby d12_10) hr
  · show Q12 Z  h0 n0 _ s₁.heap _
    rw [e0]
    exact ⟨rfl, N0, rfl⟩
theorem pd_2 : parseMethodDescriptor "(II)I" = some ⟨[.int, .int], some .int⟩ := by decide +kernel
theorem d11_0 : decode jdk_38_method_6_code 0 = .ok (.aload_n 0, 1) := by decide +kernel
theorem d11_1 : decode jdk_38_method_6_code 1 = .ok (.getfield 9, 3) := by decide +kernel
theorem d11_4 : decode jdk_38_method_6_code 4 = .ok (.arraylength, 1) := by decide +kernel
theorem d11_5 : decode jdk_38_method_6_code 5 = .ok (.istore_n 2, 1) := by decide +kernel
theorem d11_6 : decode jdk_38_method_6_code 6 = .ok (.iload_n 2, 1) := by decide +kernel
theorem d11_7 : decode jdk_38_method_6_code 7 = .ok (.ifCond .gt 13, 3) := by decide +kernel
theorem d11_10 : decode jdk_38_method_6_code 10 = .ok (.aload_n 0, 1) := by decide +kernel
theorem d11_11 : decode jdk_38_method_6_code 11 = .ok (.getfield 9, 3) := by decide +kernel
theorem d11_14 : decode jdk_38_method_6_code 14 = .ok (.getstatic 39, 3) := by decide +kernel
theorem d11_17 : decode jdk_38_method_6_code 17 = .ok (.if_acmp .eq 28, 3) := by decide +kernel
theorem d11_45 : decode jdk_38_method_6_code 45 = .ok (.aload_n 0, 1) := by decide +kernel
theorem d11_46 : decode jdk_38_method_6_code 46 = .ok (.bipush 10, 2) := by decide +kernel
theorem d11_48 : decode jdk_38_method_6_code 48 = .ok (.iload_n 1, 1) := by decide +kernel
theorem d11_49 : decode jdk_38_method_6_code 49 = .ok (.invokestatic 79, 3) := by decide +kernel
theorem d11_52 : decode jdk_38_method_6_code 52 = .ok (.anewarray 7, 3) := by decide +kernel
theorem d11_55 : decode jdk_38_method_6_code 55 = .ok (.dup_x1, 1) := by decide +kernel
theorem d11_56 : decode jdk_38_method_6_code 56 = .ok (.putfield 9, 3) := by decide +kernel
theorem d11_59 : decode jdk_38_method_6_code 59 = .ok (.areturn, 1) := by decide +kernel
theorem ef_11 (m : MethodId) (q11_0 : Addr) : entryFrame m #[(.ref q11_0), (.int (1 : Int32))] 4 = mkF m 0 #[.val (.ref q11_0), .val (.int (1 : Int32)), .unset, .unset] [] := by first | (simp [entryFrame, mkF, argsToLocals, Value.category]; done) | rfl
def Q11 (Z : State) (q11_0 : Addr) (z11_DEFAULTCAPACITY_EMPTY_ELEMENTDATA : Addr) (qk : ClassId) (w11_q11_0_modCount : Int32) (h0 : Heap) (n0 : Nat) (v : Option Value) (h : Heap) (L : List Loc) : Prop := ∃ (b9 : Addr) (k9 : ClassId), v = some (.ref b9) ∧ Fr n0 L ∧ Keep h0 h [q11_0] ∧ h0.size ≤ b9 ∧ Fld Z h q11_0 "java/util/ArrayList" "elementData" "[Ljava/lang/Object;" (.ref b9) ∧ Fld Z h q11_0 "java/util/ArrayList" "size" "I" (.int (0 : Int32)) ∧ Fld Z h q11_0 "java/util/AbstractList" "modCount" "I" (.int w11_q11_0_modCount) ∧ Arv Z h b9 k9 (.object "java/lang/Object") (10 : Int32) [.null, .null, .null, .null, .null, .null, .null, .null, .null, .null] .null ∧ Ovr Z k9 "java/lang/Object"
set_option maxRecDepth 65536 in
set_option maxHeartbeats 40000000 in
theorem rm11 (l : Launch) (Z : State) (a0 : Array Value) (hw : ∀ d ∈ tables_1, d.before a0 Z = true) (ws : List Jvm.Cond) (q11_0 : Addr) (z11_DEFAULTCAPACITY_EMPTY_ELEMENTDATA : Addr) (qk : ClassId) (w11_q11_0_modCount : Int32) (h0 : Heap) (n0 : Nat) (Z0 : n0 ≤ h0.size) (F_q11_0_elementData : Fld Z h0 q11_0 "java/util/ArrayList" "elementData" "[Ljava/lang/Object;" (.ref z11_DEFAULTCAPACITY_EMPTY_ELEMENTDATA)) (F_q11_0_size : Fld Z h0 q11_0 "java/util/ArrayList" "size" "I" (.int (0 : Int32))) (S_DEFAULTCAPACITY_EMPTY_ELEMENTDATA : Sta Z h0 "java/util/ArrayList" "DEFAULTCAPACITY_EMPTY_ELEMENTDATA" "[Ljava/lang/Object;" (.ref z11_DEFAULTCAPACITY_EMPTY_ELEMENTDATA)) (A_z11_DEFAULTCAPACITY_EMPTY_ELEMENTDATA : Arv Z h0 z11_DEFAULTCAPACITY_EMPTY_ELEMENTDATA qk (.object "java/lang/Object") (0 : Int32) [] .null) (F_q11_0_modCount : Fld Z h0 q11_0 "java/util/AbstractList" "modCount" "I" (.int w11_q11_0_modCount)) (E_q11_0 : Exa Z h0 q11_0 "java/util/ArrayList") (g_q11_0 : n0 ≤ q11_0) :
    MetFree l (⟨"java/util/ArrayList", "grow", "(I)[Ljava/lang/Object;"⟩ : MethodName) (head1 (Jvm.Cond.code (⟨"java/util/ArrayList", "grow", "(I)[Ljava/lang/Object;"⟩ : MethodName) jdk_38_method_6_code 4 (some (.array (.object "java/lang/Object"))) :: ws) ({ frames := 1, cells := 1, slots := 10, locals := 14 } : Room)) (fun a U => a = #[(.ref q11_0), (.int (1 : Int32))] ∧ Z.Warmed39 U.vm ∧ U.heap = h0) (fun _ _ _ _ _ => True) (fun _ U o U' => ∃ v L, o = .returned v ∧ Q11 Z q11_0 z11_DEFAULTCAPACITY_EMPTY_ELEMENTDATA qk w11_q11_0_modCount h0 n0 v U'.heap L ∧ FrameEnd U o U' L ({ frames := 1, cells := 1, slots := 10, locals := 14 } : Room).cells ({ frames := 1, cells := 1, slots := 10, locals := 14 } : Room).slots) := by
  refine MetFree.of_bodySF (plainFor_of_name pn_5) hisR ?_
  intro p e s m args below meth c s₁ Bd hml0 hP hK
  obtain ⟨rfl, hZ, hh⟩ := hP
  have hx := Bd.exec
  have hby := Bd.bytes
  have hml : c.maxLocals = 4 := hml0
  have hown : s.vm.findClass "java/util/ArrayList" = some m.cls := findClass_of_methodNamed Bd.named
  have hnm := (name_of_methodNamed Bd.named Bd.method).1
  have X0 : Stand p l e ({ frames := 1, cells := 1, slots := 10, locals := 14 } : Room) s m #[(.ref q11_0), (.int (1 : Int32))] below meth c s₁ [] 0 0 := Stand.of_body Bd
  have e0 : s₁.heap = h0 := by rw [← hh, Bd.state]; rfl
  have N0 := Fr.nil n0
  obtain ⟨S0, hS0⟩ : ∃ z, z = s₁.setTop (entryFrame m #[(.ref q11_0), (.int (1 : Int32))] 4) := ⟨_, rfl⟩
  have P0 : own_Go p e below S0 (s₁.setTop (mkF m 0 #[.val (.ref q11_0), .val (.int (1 : Int32)), .unset, .unset] [])) := fun t k => by rw [hS0]; exact castTop (ef_11 m q11_0) k
  have P1 : own_Go p e below S0 (s₁.setTop (mkF m 1 #[.val (.ref q11_0), .val (.int (1 : Int32)), .unset, .unset] [(.ref q11_0)])) := fun t k => P0 t (by
    show Steps p.tables e below (s₁.setTop (mkF m 0 #[.val (.ref q11_0), .val (.int (1 : Int32)), .unset, .unset] [])) t
    refine XS.aloadN X0.here hx rfl (hb hby d11_0) rfl rfl ?_
    show Steps p.tables e below (s₁.setTop (mkF m 1 #[.val (.ref q11_0), .val (.int (1 : Int32)), .unset, .unset] [(.ref q11_0)])) t
    exact k)
  obtain ⟨T2, X2, e2, st2⟩ := getF X0 hx hZ hown (host := "") (Or.inl (hw _ (List.mem_of_getElem? (i := 49) rfl))) Via.refl e0 F_q11_0_elementData (g := (mkF m 1 #[.val (.ref q11_0), .val (.int (1 : Int32)), .unset, .unset] [(.ref q11_0)])) rfl rfl (hb hby d11_1)
  have P2 : own_Go p e below S0 (T2.setTop (mkF m 4 #[.val (.ref q11_0), .val (.int (1 : Int32)), .unset, .unset] [(.ref z11_DEFAULTCAPACITY_EMPTY_ELEMENTDATA)])) := fun t k => P1 t (st2 _ k)
  obtain ⟨cl3, Ar3, q3, Sz3, Nn3, Hh3, Gg3⟩ := id A_z11_DEFAULTCAPACITY_EMPTY_ELEMENTDATA
  have P4 : own_Go p e below S0 (T2.setTop (mkF m 11 #[.val (.ref q11_0), .val (.int (1 : Int32)), .val (.int (0 : Int32)), .unset] [(.ref q11_0)])) := fun t k => P2 t (by
    show Steps p.tables e below (T2.setTop (mkF m 4 #[.val (.ref q11_0), .val (.int (1 : Int32)), .unset, .unset] [(.ref z11_DEFAULTCAPACITY_EMPTY_ELEMENTDATA)])) t
    refine X2.arraylength hx (by rw [e2]; exact Ar3.1) (State.isArrayOf_alike hZ.alike Ar3.2.1) (g := (mkF m 4 #[.val (.ref q11_0), .val (.int (1 : Int32)), .unset, .unset] [(.ref z11_DEFAULTCAPACITY_EMPTY_ELEMENTDATA)])) rfl rfl (hb hby d11_4) _ ?_
    rw [len_of Sz3 Nn3]
    refine XS.istoreN X2.here hx rfl (hb hby d11_5) rfl (l' := #[.val (.ref q11_0), .val (.int (1 : Int32)), .val (.int (0 : Int32)), .unset]) rfl ?_
    refine XS.iloadN X2.here hx rfl (hb hby d11_6) rfl ?_
    refine XS.ifNo X2.here hx rfl (hb hby d11_7) rfl ((if0 _ _).trans (flt (by decide)).2.2.1) ?_
    refine XS.aloadN X2.here hx rfl (hb hby d11_10) rfl rfl ?_
    show Steps p.tables e below (T2.setTop (mkF m 11 #[.val (.ref q11_0), .val (.int (1 : Int32)), .val (.int (0 : Int32)), .unset] [(.ref q11_0)])) t
    exact k)
  obtain ⟨T5, X5, e5, st5⟩ := getF X2 hx hZ hown (host := "") (Or.inl (hw _ (List.mem_of_getElem? (i := 49) rfl))) Via.refl e2 F_q11_0_elementData (g := (mkF m 11 #[.val (.ref q11_0), .val (.int (1 : Int32)), .val (.int (0 : Int32)), .unset] [(.ref q11_0)])) rfl rfl (hb hby d11_11)
  have P5 : own_Go p e below S0 (T5.setTop (mkF m 14 #[.val (.ref q11_0), .val (.int (1 : Int32)), .val (.int (0 : Int32)), .unset] [(.ref z11_DEFAULTCAPACITY_EMPTY_ELEMENTDATA)])) := fun t k => P4 t (st5 _ k)
  obtain ⟨T6, X6, e6, st6⟩ := getS2 X5 hx hZ hown (host := "") (Or.inl (hw _ (List.mem_of_getElem? (i := 48) rfl))) Via.refl e5 S_DEFAULTCAPACITY_EMPTY_ELEMENTDATA (g := (mkF m 14 #[.val (.ref q11_0), .val (.int (1 : Int32)), .val (.int (0 : Int32)), .unset] [(.ref z11_DEFAULTCAPACITY_EMPTY_ELEMENTDATA)])) rfl (hb hby d11_14)
  have P6 : own_Go p e below S0 (T6.setTop (mkF m 17 #[.val (.ref q11_0), .val (.int (1 : Int32)), .val (.int (0 : Int32)), .unset] [(.ref z11_DEFAULTCAPACITY_EMPTY_ELEMENTDATA), (.ref z11_DEFAULTCAPACITY_EMPTY_ELEMENTDATA)])) := fun t k => P5 t (st6 _ k)
  have P7 : own_Go p e below S0 (T6.setTop (mkF m 49 #[.val (.ref q11_0), .val (.int (1 : Int32)), .val (.int (0 : Int32)), .unset] [(.int (1 : Int32)), (.int (10 : Int32)), (.ref q11_0)])) := fun t k => P6 t (by
    show Steps p.tables e below (T6.setTop (mkF m 17 #[.val (.ref q11_0), .val (.int (1 : Int32)), .val (.int (0 : Int32)), .unset] [(.ref z11_DEFAULTCAPACITY_EMPTY_ELEMENTDATA), (.ref z11_DEFAULTCAPACITY_EMPTY_ELEMENTDATA)])) t
    refine Jvm.RoadKit.acmp (g := (mkF m 17 #[.val (.ref q11_0), .val (.int (1 : Int32)), .val (.int (0 : Int32)), .unset] [(.ref z11_DEFAULTCAPACITY_EMPTY_ELEMENTDATA), (.ref z11_DEFAULTCAPACITY_EMPTY_ELEMENTDATA)])) X6 hx rfl rfl rfl (pc0 := 17) (pc' := 45) (same := true) rfl (hb hby d11_17) rfl (decide_eq_true rfl) (by decide) (by decide) ?_
    refine XS.aloadN X6.here hx rfl (hb hby d11_45) rfl rfl ?_
    refine XS.bipush X6.here hx rfl (hb hby d11_46) ?_
    refine XS.iloadN X6.here hx rfl (hb hby d11_48) rfl ?_
    show Steps p.tables e below (T6.setTop (mkF m 49 #[.val (.ref q11_0), .val (.int (1 : Int32)), .val (.int (0 : Int32)), .unset] [(.int (1 : Int32)), (.int (10 : Int32)), (.ref q11_0)])) t
    exact k)
  obtain ⟨_, _, ⟨T8, L8, k8, n8⟩, -, X8, ⟨Lc8, hQ8, l8, y8, z8⟩, st8⟩ := Jvm.LawKit.callS X6 hx (y := (⟨"java/lang/Math", "max", "(II)I"⟩ : MethodName)) hown (mvT hZ (hw _ (List.mem_of_getElem? (i := 75) rfl))) (mvT hZ (hw _ (List.mem_of_getElem? (i := 76) rfl))) (mvT hZ (hw _ (List.mem_of_getElem? (i := 77) rfl))) (mvT hZ (hw _ (List.mem_of_getElem? (i := 78) rfl))) (by decide) (backOf (W := 1) (rm12 l Z a0 hw []  h0 n0 Z0) hZ (hw _ (List.mem_of_getElem? (i := 78) rfl)) (hw _ (List.mem_of_getElem? (i := 77) rfl)) (by decide) (by decide)) (g := (mkF m 49 #[.val (.ref q11_0), .val (.int (1 : Int32)), .val (.int (0 : Int32)), .unset] [(.int (1 : Int32)), (.int (10 : Int32)), (.ref q11_0)])) rfl (by rw [hml]; rfl) (argsL := [(.int (10 : Int32)), (.int (1 : Int32))]) (rest := [(.ref q11_0)]) (lenOf pd_2 rfl) rfl (by show 2 * 0 + _ ≤ _; exact Nat.le_of_eq rfl) (hb hby d11_49) (fun _ _ => ⟨rfl, e6, (by decide : 0 + 0 ≤ _), (by decide : 0 + 0 ≤ _)⟩)
  dsimp only [Pt.U, Pt.locs, Pt.cells, Pt.slots] at X8 l8 y8 z8 st8 hQ8
  subst l8 y8 z8
  obtain ⟨rfl, N8q, e8⟩ := hQ8
  have N8 := Fr.app N0 N8q
  have P8 : own_Go p e below S0 (T8.setTop (mkF m 52 #[.val (.ref q11_0), .val (.int (1 : Int32)), .val (.int (0 : Int32)), .unset] [(.int (10 : Int32)), (.ref q11_0)])) := fun t k => P7 t (st8 _ k)
  obtain ⟨T9, h9, k9, X9, e9, E9, A9, O9, st9⟩ := newR X8 hx hZ hown (hw _ (List.mem_of_getElem? (i := 79) rfl)) (hw _ (List.mem_of_getElem? (i := 80) rfl)) e8 (g := (mkF m 52 #[.val (.ref q11_0), .val (.int (1 : Int32)), .val (.int (0 : Int32)), .unset] [(.int (10 : Int32)), (.ref q11_0)])) rfl (hb hby d11_52) rfl (by decide) (cap := 10) (by decide) (by decide) (by decide) (by decide)
  obtain ⟨b9, g9⟩ : ∃ z, z = h0.size := ⟨_, rfl⟩
  rw [← g9] at A9 st9
  have sz_b9 : h0.size ≤ b9 := Nat.le_of_eq g9.symm
  have ne_q11_0_b9 : q11_0 ≠ b9 := Nat.ne_of_lt (Nat.lt_of_lt_of_le F_q11_0_elementData.lt sz_b9)
  have ne_z11_DEFAULTCAPACITY_EMPTY_ELEMENTDATA_b9 : z11_DEFAULTCAPACITY_EMPTY_ELEMENTDATA ≠ b9 := Nat.ne_of_lt (Nat.lt_of_lt_of_le A_z11_DEFAULTCAPACITY_EMPTY_ELEMENTDATA.lt sz_b9)
  have g_b9 : n0 ≤ b9 := Nat.le_trans Z0 sz_b9
  have o_b9 : h0.size ≤ b9 := sz_b9
  have K9 : Keep h0 h9 [q11_0] := (Keep.refl h0 [q11_0]).ext E9
  have V9 : Arv Z h9 b9 k9 (.object "java/lang/Object") (10 : Int32) [.null, .null, .null, .null, .null, .null, .null, .null, .null, .null] .null := (Arv.new A9 (by decide)).pad (pad_rep [] .null 10)
  have P9 : own_Go p e below S0 (T9.setTop (mkF m 55 #[.val (.ref q11_0), .val (.int (1 : Int32)), .val (.int (0 : Int32)), .unset] [(.ref b9), (.ref q11_0)])) := fun t k => P8 t (st9 _ k)
  have F10 : Exa Z h9 q11_0 "java/util/ArrayList" := E_q11_0.ext E9
  have F11 : Fld Z h9 q11_0 "java/util/ArrayList" "elementData" "[Ljava/lang/Object;" (.ref z11_DEFAULTCAPACITY_EMPTY_ELEMENTDATA) := F_q11_0_elementData.ext E9
  have P12 : own_Go p e below S0 (T9.setTop (mkF m 56 #[.val (.ref q11_0), .val (.int (1 : Int32)), .val (.int (0 : Int32)), .unset] [(.ref b9), (.ref q11_0), (.ref b9)])) := fun t k => P9 t (by
    show Steps p.tables e below (T9.setTop (mkF m 55 #[.val (.ref q11_0), .val (.int (1 : Int32)), .val (.int (0 : Int32)), .unset] [(.ref b9), (.ref q11_0)])) t
    refine XS.dupX1 X9.here hx rfl (hb hby d11_55) rfl rfl rfl ?_
    show Steps p.tables e below (T9.setTop (mkF m 56 #[.val (.ref q11_0), .val (.int (1 : Int32)), .val (.int (0 : Int32)), .unset] [(.ref b9), (.ref q11_0), (.ref b9)])) t
    exact k)
  obtain ⟨T13, h13, X13, e13, W13, st13⟩ := putF X9 hx hZ hown (host := "") (Or.inl (hw _ (List.mem_of_getElem? (i := 49) rfl))) Via.refl e9 F11 F10 (Or.inl (hw _ (List.mem_of_getElem? (i := 50) rfl))) (hw _ (List.mem_of_getElem? (i := 28) rfl)) (ty := (.array (.object "java/lang/Object"))) (by decide) rfl rfl (g := (mkF m 56 #[.val (.ref q11_0), .val (.int (1 : Int32)), .val (.int (0 : Int32)), .unset] [(.ref b9), (.ref q11_0), (.ref b9)])) rfl rfl (hb hby d11_56)
  have K13 : Keep h0 h13 [q11_0] := K9.wr W13 (Or.inl (by simp))
  have N13 := Fr.snoc X13 N8 g_q11_0
  have F13w : Fld Z h13 q11_0 "java/util/ArrayList" "elementData" "[Ljava/lang/Object;" (.ref b9) := F11.same W13
  have P13 : own_Go p e below S0 (T13.setTop (mkF m 59 #[.val (.ref q11_0), .val (.int (1 : Int32)), .val (.int (0 : Int32)), .unset] [(.ref b9)])) := fun t k => P12 t (st13 _ k)
  have F14 : Fld Z h9 q11_0 "java/util/ArrayList" "size" "I" (.int (0 : Int32)) := F_q11_0_size.ext E9
  have F15 : Fld Z h13 q11_0 "java/util/ArrayList" "size" "I" (.int (0 : Int32)) := F14.other W13 (Or.inr (slot_ne (Or.inl (hw _ (List.mem_of_getElem? (i := 59) rfl))) (Or.inl (hw _ (List.mem_of_getElem? (i := 50) rfl))) (by decide) (t := .int) (t' := (.array (.object "java/lang/Object"))) (by decide) (by decide)))
  have F16 : Fld Z h9 q11_0 "java/util/AbstractList" "modCount" "I" (.int w11_q11_0_modCount) := F_q11_0_modCount.ext E9
  have F17 : Fld Z h13 q11_0 "java/util/AbstractList" "modCount" "I" (.int w11_q11_0_modCount) := F16.other W13 (Or.inr (slot_ne (Or.inl (hw _ (List.mem_of_getElem? (i := 47) rfl))) (Or.inl (hw _ (List.mem_of_getElem? (i := 50) rfl))) (by decide) (t := .int) (t' := (.array (.object "java/lang/Object"))) (by decide) (by decide)))
  have F18 : Arv Z h13 b9 k9 (.object "java/lang/Object") (10 : Int32) [.null, .null, .null, .null, .null, .null, .null, .null, .null, .null] .null := V9.other W13 (Ne.symm ne_q11_0_b9)
  obtain ⟨fs, hr, hrun, hended, hW, hsame⟩ := X13.leave (v := some (.ref b9)) (fun h => by rw [Bd.returns] at h; cases h)
  refine ⟨_, _, own_from hS0 (P13 _ ?_), hrun, hended, _, _, rfl, ?_, ⟨_, rfl⟩, hW, hsame.mono (by decide) (by decide)⟩
  · show Steps p.tables e below (T13.setTop (mkF m 59 #[.val (.ref q11_0), .val (.int (1 : Int32)), .val (.int (0 : Int32)), .unset] [(.ref b9)])) _
    jvm_step X13.here [X13.here.top, hx, (hb hby d11_59), X13.method', Bd.returns, Value.isRef, FieldType.isReference]
    first | (intro acts; rw [hr _ acts rfl rfl rfl]) | rw [hr _ _ rfl rfl rfl]
    exact Steps.refl _
  · show Q11 Z q11_0 z11_DEFAULTCAPACITY_EMPTY_ELEMENTDATA qk w11_q11_0_modCount h0 n0 _ T13.heap _
    rw [e13]
    exact ⟨b9, k9, rfl, N13, K13, o_b9, F13w, F15, F17, F18, O9⟩
theorem pd_3 : parseMethodDescriptor "(I)[Ljava/lang/Object;" = some ⟨[.int], some (.array (.object "java/lang/Object"))⟩ := by decide +kernel
theorem d10_0 : decode jdk_38_method_7_code 0 = .ok (.aload_n 0, 1) := by decide +kernel
theorem d10_1 : decode jdk_38_method_7_code 1 = .ok (.aload_n 0, 1) := by decide +kernel
theorem d10_2 : decode jdk_38_method_7_code 2 = .ok (.getfield 48, 3) := by decide +kernel
theorem d10_5 : decode jdk_38_method_7_code 5 = .ok (.iconst 1, 1) := by decide +kernel
theorem d10_6 : decode jdk_38_method_7_code 6 = .ok (.iadd, 1) := by decide +kernel
theorem d10_7 : decode jdk_38_method_7_code 7 = .ok (.invokevirtual 69, 3) := by decide +kernel
theorem d10_10 : decode jdk_38_method_7_code 10 = .ok (.areturn, 1) := by decide +kernel
theorem ef_10 (m : MethodId) (q10_0 : Addr) : entryFrame m #[(.ref q10_0)] 1 = mkF m 0 #[.val (.ref q10_0)] [] := by first | (simp [entryFrame, mkF, argsToLocals, Value.category]; done) | rfl
def Q10 (Z : State) (q10_0 : Addr) (z10_DEFAULTCAPACITY_EMPTY_ELEMENTDATA : Addr) (qk : ClassId) (w10_q10_0_modCount : Int32) (h0 : Heap) (n0 : Nat) (v : Option Value) (h : Heap) (L : List Loc) : Prop := ∃ (b9_4 : Addr) (k9_4 : ClassId), v = some (.ref b9_4) ∧ Fr n0 L ∧ Keep h0 h [q10_0] ∧ h0.size ≤ b9_4 ∧ Fld Z h q10_0 "java/util/ArrayList" "elementData" "[Ljava/lang/Object;" (.ref b9_4) ∧ Fld Z h q10_0 "java/util/ArrayList" "size" "I" (.int (0 : Int32)) ∧ Fld Z h q10_0 "java/util/AbstractList" "modCount" "I" (.int w10_q10_0_modCount) ∧ Arv Z h b9_4 k9_4 (.object "java/lang/Object") (10 : Int32) [.null, .null, .null, .null, .null, .null, .null, .null, .null, .null] .null ∧ Ovr Z k9_4 "java/lang/Object"
set_option maxRecDepth 65536 in
set_option maxHeartbeats 40000000 in
theorem rm10 (l : Launch) (Z : State) (a0 : Array Value) (hw : ∀ d ∈ tables_1, d.before a0 Z = true) (ws : List Jvm.Cond) (q10_0 : Addr) (z10_DEFAULTCAPACITY_EMPTY_ELEMENTDATA : Addr) (qk : ClassId) (w10_q10_0_modCount : Int32) (h0 : Heap) (n0 : Nat) (Z0 : n0 ≤ h0.size) (F_q10_0_elementData : Fld Z h0 q10_0 "java/util/ArrayList" "elementData" "[Ljava/lang/Object;" (.ref z10_DEFAULTCAPACITY_EMPTY_ELEMENTDATA)) (F_q10_0_size : Fld Z h0 q10_0 "java/util/ArrayList" "size" "I" (.int (0 : Int32))) (S_DEFAULTCAPACITY_EMPTY_ELEMENTDATA : Sta Z h0 "java/util/ArrayList" "DEFAULTCAPACITY_EMPTY_ELEMENTDATA" "[Ljava/lang/Object;" (.ref z10_DEFAULTCAPACITY_EMPTY_ELEMENTDATA)) (A_z10_DEFAULTCAPACITY_EMPTY_ELEMENTDATA : Arv Z h0 z10_DEFAULTCAPACITY_EMPTY_ELEMENTDATA qk (.object "java/lang/Object") (0 : Int32) [] .null) (F_q10_0_modCount : Fld Z h0 q10_0 "java/util/AbstractList" "modCount" "I" (.int w10_q10_0_modCount)) (E_q10_0 : Exa Z h0 q10_0 "java/util/ArrayList") (g_q10_0 : n0 ≤ q10_0) :
    MetFree l (⟨"java/util/ArrayList", "grow", "()[Ljava/lang/Object;"⟩ : MethodName) (head1 (Jvm.Cond.code (⟨"java/util/ArrayList", "grow", "()[Ljava/lang/Object;"⟩ : MethodName) jdk_38_method_7_code 1 (some (.array (.object "java/lang/Object"))) :: ws) ({ frames := 2, cells := 1, slots := 10, locals := 29 } : Room)) (fun a U => a = #[(.ref q10_0)] ∧ Z.Warmed39 U.vm ∧ U.heap = h0) (fun _ _ _ _ _ => True) (fun _ U o U' => ∃ v L, o = .returned v ∧ Q10 Z q10_0 z10_DEFAULTCAPACITY_EMPTY_ELEMENTDATA qk w10_q10_0_modCount h0 n0 v U'.heap L ∧ FrameEnd U o U' L ({ frames := 2, cells := 1, slots := 10, locals := 29 } : Room).cells ({ frames := 2, cells := 1, slots := 10, locals := 29 } : Room).slots) := by
  refine MetFree.of_bodySF (plainFor_of_name pn_5) hisR ?_
  intro p e s m args below meth c s₁ Bd hml0 hP hK
  obtain ⟨rfl, hZ, hh⟩ := hP
  have hx := Bd.exec
  have hby := Bd.bytes
  have hml : c.maxLocals = 1 := hml0
  have hown : s.vm.findClass "java/util/ArrayList" = some m.cls := findClass_of_methodNamed Bd.named
  have hnm := (name_of_methodNamed Bd.named Bd.method).1
  have X0 : Stand p l e ({ frames := 2, cells := 1, slots := 10, locals := 29 } : Room) s m #[(.ref q10_0)] below meth c s₁ [] 0 0 := Stand.of_body Bd
  have e0 : s₁.heap = h0 := by rw [← hh, Bd.state]; rfl
  have N0 := Fr.nil n0
  obtain ⟨S0, hS0⟩ : ∃ z, z = s₁.setTop (entryFrame m #[(.ref q10_0)] 1) := ⟨_, rfl⟩
  have P0 : own_Go p e below S0 (s₁.setTop (mkF m 0 #[.val (.ref q10_0)] [])) := fun t k => by rw [hS0]; exact castTop (ef_10 m q10_0) k
  have P1 : own_Go p e below S0 (s₁.setTop (mkF m 2 #[.val (.ref q10_0)] [(.ref q10_0), (.ref q10_0)])) := fun t k => P0 t (by
    show Steps p.tables e below (s₁.setTop (mkF m 0 #[.val (.ref q10_0)] [])) t
    refine XS.aloadN X0.here hx rfl (hb hby d10_0) rfl rfl ?_
    refine XS.aloadN X0.here hx rfl (hb hby d10_1) rfl rfl ?_
    show Steps p.tables e below (s₁.setTop (mkF m 2 #[.val (.ref q10_0)] [(.ref q10_0), (.ref q10_0)])) t
    exact k)
  obtain ⟨T2, X2, e2, st2⟩ := getF X0 hx hZ hown (host := "") (Or.inl (hw _ (List.mem_of_getElem? (i := 58) rfl))) Via.refl e0 F_q10_0_size (g := (mkF m 2 #[.val (.ref q10_0)] [(.ref q10_0), (.ref q10_0)])) rfl rfl (hb hby d10_2)
  have P2 : own_Go p e below S0 (T2.setTop (mkF m 5 #[.val (.ref q10_0)] [(.int (0 : Int32)), (.ref q10_0)])) := fun t k => P1 t (st2 _ k)
  have P3 : own_Go p e below S0 (T2.setTop (mkF m 7 #[.val (.ref q10_0)] [(.int (1 : Int32)), (.ref q10_0)])) := fun t k => P2 t (by
    show Steps p.tables e below (T2.setTop (mkF m 5 #[.val (.ref q10_0)] [(.int (0 : Int32)), (.ref q10_0)])) t
    refine XS.iconst X2.here hx rfl (hb hby d10_5) ?_
    refine XS.iadd X2.here hx rfl (hb hby d10_6) rfl ?_
    show Steps p.tables e below (T2.setTop (mkF m 7 #[.val (.ref q10_0)] [(.int (1 : Int32)), (.ref q10_0)])) t
    exact k)
  obtain ⟨cq4, q4, q4'⟩ := E_q10_0.cell
  obtain ⟨_, _, ⟨T4, L4, k4, n4⟩, -, X4, ⟨Lc4, hQ4, l4, y4, z4⟩, st4⟩ := X2.privateBack hx (y := (⟨"java/util/ArrayList", "grow", "(I)[Ljava/lang/Object;"⟩ : MethodName)) hown (mvT hZ (hw _ (List.mem_of_getElem? (i := 70) rfl))) (mvT hZ (hw _ (List.mem_of_getElem? (i := 71) rfl))) (mvT hZ (hw _ (List.mem_of_getElem? (i := 73) rfl))) (Cond.privateMethod_at (mvP hZ (hw _ (List.mem_of_getElem? (i := 72) rfl)) (args := #[]))) (mvT hZ (hw _ (List.mem_of_getElem? (i := 74) rfl))) (by decide) (backOf (W := 0) (rm11 l Z a0 hw [] q10_0 z10_DEFAULTCAPACITY_EMPTY_ELEMENTDATA qk w10_q10_0_modCount h0 n0 Z0 F_q10_0_elementData F_q10_0_size S_DEFAULTCAPACITY_EMPTY_ELEMENTDATA A_z10_DEFAULTCAPACITY_EMPTY_ELEMENTDATA F_q10_0_modCount E_q10_0 g_q10_0) hZ (hw _ (List.mem_of_getElem? (i := 74) rfl)) (hw _ (List.mem_of_getElem? (i := 29) rfl)) (by decide) (by decide)) (g := (mkF m 7 #[.val (.ref q10_0)] [(.int (1 : Int32)), (.ref q10_0)])) rfl (by rw [hml]; rfl) (Steps.refl _) (a := q10_0) (by rw [e2]; exact q4) q4' (argsL := [(.int (1 : Int32))]) (rest := []) (lenOf pd_3 rfl) rfl (by show 2 * 0 + _ ≤ _; exact Nat.le_of_eq rfl) (hb hby d10_7) (fun _ _ => ⟨rfl, e2, (by decide : 0 + 1 ≤ _), (by decide : 0 + 10 ≤ _)⟩)
  dsimp only [Pt.U, Pt.locs, Pt.cells, Pt.slots] at X4 l4 y4 z4 st4 hQ4
  subst l4 y4 z4
  obtain ⟨b9_4, k9_4, rfl, N4q, Kc4, sz_b9_4, F4_0, F4_1, F4_2, F4_3, F4_4⟩ := hQ4
  have N4 := Fr.app N0 N4q
  have ne_q10_0_b9_4 : q10_0 ≠ b9_4 := Nat.ne_of_lt (Nat.lt_of_lt_of_le F_q10_0_elementData.lt sz_b9_4)
  have ne_z10_DEFAULTCAPACITY_EMPTY_ELEMENTDATA_b9_4 : z10_DEFAULTCAPACITY_EMPTY_ELEMENTDATA ≠ b9_4 := Nat.ne_of_lt (Nat.lt_of_lt_of_le A_z10_DEFAULTCAPACITY_EMPTY_ELEMENTDATA.lt sz_b9_4)
  have g_b9_4 : n0 ≤ b9_4 := Nat.le_trans Z0 sz_b9_4
  have o_b9_4 : h0.size ≤ b9_4 := sz_b9_4
  have K4 : Keep h0 T4.heap [q10_0] := Keep.trans (Keep.refl h0 [q10_0]) Kc4 (allS (Or.inl (by simp)) all0)
  have P4 : own_Go p e below S0 (T4.setTop (mkF m 10 #[.val (.ref q10_0)] [(.ref b9_4)])) := fun t k => P3 t (st4.trans k)
  obtain ⟨fs, hr, hrun, hended, hW, hsame⟩ := X4.leave (v := some (.ref b9_4)) (fun h => by rw [Bd.returns] at h; cases h)
  refine ⟨_, _, own_from hS0 (P4 _ ?_), hrun, hended, _, _, rfl, ?_, ⟨_, rfl⟩, hW, hsame.mono (by decide) (by decide)⟩
  · show Steps p.tables e below (T4.setTop (mkF m 10 #[.val (.ref q10_0)] [(.ref b9_4)])) _
    jvm_step X4.here [X4.here.top, hx, (hb hby d10_10), X4.method', Bd.returns, Value.isRef, FieldType.isReference]
    first | (intro acts; rw [hr _ acts rfl rfl rfl]) | rw [hr _ _ rfl rfl rfl]
    exact Steps.refl _
  · show Q10 Z q10_0 z10_DEFAULTCAPACITY_EMPTY_ELEMENTDATA qk w10_q10_0_modCount h0 n0 _ T4.heap _
    exact ⟨b9_4, k9_4, rfl, N4, K4, o_b9_4, F4_0, F4_1, F4_2, F4_3, F4_4⟩
theorem pd_4 : parseMethodDescriptor "()[Ljava/lang/Object;" = some ⟨[], some (.array (.object "java/lang/Object"))⟩ := by decide +kernel
theorem d9_0 : decode jdk_38_method_24_code 0 = .ok (.iload_n 3, 1) := by decide +kernel
theorem d9_1 : decode jdk_38_method_24_code 1 = .ok (.aload_n 2, 1) := by decide +kernel
theorem d9_2 : decode jdk_38_method_24_code 2 = .ok (.arraylength, 1) := by decide +kernel
theorem d9_3 : decode jdk_38_method_24_code 3 = .ok (.if_icmp .ne 8, 3) := by decide +kernel
theorem d9_6 : decode jdk_38_method_24_code 6 = .ok (.aload_n 0, 1) := by decide +kernel
theorem d9_7 : decode jdk_38_method_24_code 7 = .ok (.invokevirtual 129, 3) := by decide +kernel
theorem d9_10 : decode jdk_38_method_24_code 10 = .ok (.astore_n 2, 1) := by decide +kernel
theorem d9_11 : decode jdk_38_method_24_code 11 = .ok (.aload_n 2, 1) := by decide +kernel
theorem d9_12 : decode jdk_38_method_24_code 12 = .ok (.iload_n 3, 1) := by decide +kernel
theorem d9_13 : decode jdk_38_method_24_code 13 = .ok (.aload_n 1, 1) := by decide +kernel
theorem d9_14 : decode jdk_38_method_24_code 14 = .ok (.aastore, 1) := by decide +kernel
theorem d9_15 : decode jdk_38_method_24_code 15 = .ok (.aload_n 0, 1) := by decide +kernel
theorem d9_16 : decode jdk_38_method_24_code 16 = .ok (.iload_n 3, 1) := by decide +kernel
theorem d9_17 : decode jdk_38_method_24_code 17 = .ok (.iconst 1, 1) := by decide +kernel
theorem d9_18 : decode jdk_38_method_24_code 18 = .ok (.iadd, 1) := by decide +kernel
theorem d9_19 : decode jdk_38_method_24_code 19 = .ok (.putfield 48, 3) := by decide +kernel
theorem d9_22 : decode jdk_38_method_24_code 22 = .ok (.return_, 1) := by decide +kernel
theorem ef_9e (m : MethodId) (q9e_0 : Addr) (q9e_1 : Addr) (z9e_DEFAULTCAPACITY_EMPTY_ELEMENTDATA : Addr) : entryFrame m #[(.ref q9e_0), (.ref q9e_1), (.ref z9e_DEFAULTCAPACITY_EMPTY_ELEMENTDATA), (.int (0 : Int32))] 4 = mkF m 0 #[.val (.ref q9e_0), .val (.ref q9e_1), .val (.ref z9e_DEFAULTCAPACITY_EMPTY_ELEMENTDATA), .val (.int (0 : Int32))] [] := by first | (simp [entryFrame, mkF, argsToLocals, Value.category]; done) | rfl
def Q9e (Z : State) (q9e_0 : Addr) (q9e_1 : Addr) (z9e_DEFAULTCAPACITY_EMPTY_ELEMENTDATA : Addr) (qk : ClassId) (w9e_q9e_0_modCount : Int32) (h0 : Heap) (n0 : Nat) (v : Option Value) (h : Heap) (L : List Loc) : Prop := ∃ (b9_4_3 : Addr) (k9_4_3 : ClassId), v = none ∧ Fr n0 L ∧ Keep h0 h [q9e_0] ∧ h0.size ≤ b9_4_3 ∧ Fld Z h q9e_0 "java/util/ArrayList" "elementData" "[Ljava/lang/Object;" (.ref b9_4_3) ∧ Fld Z h q9e_0 "java/util/ArrayList" "size" "I" (.int (1 : Int32)) ∧ Fld Z h q9e_0 "java/util/AbstractList" "modCount" "I" (.int w9e_q9e_0_modCount) ∧ Arv Z h b9_4_3 k9_4_3 (.object "java/lang/Object") (10 : Int32) [(.ref q9e_1), .null, .null, .null, .null, .null, .null, .null, .null, .null] .null ∧ Ovr Z k9_4_3 "java/lang/Object"
set_option maxRecDepth 65536 in
set_option maxHeartbeats 40000000 in
theorem rm9e (l : Launch) (Z : State) (a0 : Array Value) (hw : ∀ d ∈ tables_1, d.before a0 Z = true) (ws : List Jvm.Cond) (q9e_0 : Addr) (q9e_1 : Addr) (z9e_DEFAULTCAPACITY_EMPTY_ELEMENTDATA : Addr) (qk : ClassId) (w9e_q9e_0_modCount : Int32) (h0 : Heap) (n0 : Nat) (Z0 : n0 ≤ h0.size) (F_q9e_0_elementData : Fld Z h0 q9e_0 "java/util/ArrayList" "elementData" "[Ljava/lang/Object;" (.ref z9e_DEFAULTCAPACITY_EMPTY_ELEMENTDATA)) (F_q9e_0_size : Fld Z h0 q9e_0 "java/util/ArrayList" "size" "I" (.int (0 : Int32))) (S_DEFAULTCAPACITY_EMPTY_ELEMENTDATA : Sta Z h0 "java/util/ArrayList" "DEFAULTCAPACITY_EMPTY_ELEMENTDATA" "[Ljava/lang/Object;" (.ref z9e_DEFAULTCAPACITY_EMPTY_ELEMENTDATA)) (A_z9e_DEFAULTCAPACITY_EMPTY_ELEMENTDATA : Arv Z h0 z9e_DEFAULTCAPACITY_EMPTY_ELEMENTDATA qk (.object "java/lang/Object") (0 : Int32) [] .null) (E_q9e_1 : Exa Z h0 q9e_1 "com/example/penelope/penelope/program/Move") (F_q9e_0_modCount : Fld Z h0 q9e_0 "java/util/AbstractList" "modCount" "I" (.int w9e_q9e_0_modCount)) (E_q9e_0 : Exa Z h0 q9e_0 "java/util/ArrayList") (g_q9e_0 : n0 ≤ q9e_0) :
    MetFree l (⟨"java/util/ArrayList", "add", "(Ljava/lang/Object;[Ljava/lang/Object;I)V"⟩ : MethodName) (head1 (Jvm.Cond.code (⟨"java/util/ArrayList", "add", "(Ljava/lang/Object;[Ljava/lang/Object;I)V"⟩ : MethodName) jdk_38_method_24_code 4 none :: ws) ({ frames := 3, cells := 1, slots := 10, locals := 41 } : Room)) (fun a U => a = #[(.ref q9e_0), (.ref q9e_1), (.ref z9e_DEFAULTCAPACITY_EMPTY_ELEMENTDATA), (.int (0 : Int32))] ∧ Z.Warmed39 U.vm ∧ U.heap = h0) (fun _ _ _ _ _ => True) (fun _ U o U' => ∃ v L, o = .returned v ∧ Q9e Z q9e_0 q9e_1 z9e_DEFAULTCAPACITY_EMPTY_ELEMENTDATA qk w9e_q9e_0_modCount h0 n0 v U'.heap L ∧ FrameEnd U o U' L ({ frames := 3, cells := 1, slots := 10, locals := 41 } : Room).cells ({ frames := 3, cells := 1, slots := 10, locals := 41 } : Room).slots) := by
  refine MetFree.of_bodySF (plainFor_of_name pn_5) hisR ?_
  intro p e s m args below meth c s₁ Bd hml0 hP hK
  obtain ⟨rfl, hZ, hh⟩ := hP
  have hx := Bd.exec
  have hby := Bd.bytes
  have hml : c.maxLocals = 4 := hml0
  have hown : s.vm.findClass "java/util/ArrayList" = some m.cls := findClass_of_methodNamed Bd.named
  have hnm := (name_of_methodNamed Bd.named Bd.method).1
  have X0 : Stand p l e ({ frames := 3, cells := 1, slots := 10, locals := 41 } : Room) s m #[(.ref q9e_0), (.ref q9e_1), (.ref z9e_DEFAULTCAPACITY_EMPTY_ELEMENTDATA), (.int (0 : Int32))] below meth c s₁ [] 0 0 := Stand.of_body Bd
  have e0 : s₁.heap = h0 := by rw [← hh, Bd.state]; rfl
  have N0 := Fr.nil n0
  obtain ⟨S0, hS0⟩ : ∃ z, z = s₁.setTop (entryFrame m #[(.ref q9e_0), (.ref q9e_1), (.ref z9e_DEFAULTCAPACITY_EMPTY_ELEMENTDATA), (.int (0 : Int32))] 4) := ⟨_, rfl⟩
  have P0 : own_Go p e below S0 (s₁.setTop (mkF m 0 #[.val (.ref q9e_0), .val (.ref q9e_1), .val (.ref z9e_DEFAULTCAPACITY_EMPTY_ELEMENTDATA), .val (.int (0 : Int32))] [])) := fun t k => by rw [hS0]; exact castTop (ef_9e m q9e_0 q9e_1 z9e_DEFAULTCAPACITY_EMPTY_ELEMENTDATA) k
  obtain ⟨cl1, Ar1, q1, Sz1, Nn1, Hh1, Gg1⟩ := id A_z9e_DEFAULTCAPACITY_EMPTY_ELEMENTDATA
  have P2 : own_Go p e below S0 (s₁.setTop (mkF m 7 #[.val (.ref q9e_0), .val (.ref q9e_1), .val (.ref z9e_DEFAULTCAPACITY_EMPTY_ELEMENTDATA), .val (.int (0 : Int32))] [(.ref q9e_0)])) := fun t k => P0 t (by
    show Steps p.tables e below (s₁.setTop (mkF m 0 #[.val (.ref q9e_0), .val (.ref q9e_1), .val (.ref z9e_DEFAULTCAPACITY_EMPTY_ELEMENTDATA), .val (.int (0 : Int32))] [])) t
    refine XS.iloadN X0.here hx rfl (hb hby d9_0) rfl ?_
    refine XS.aloadN X0.here hx rfl (hb hby d9_1) rfl rfl ?_
    show Steps p.tables e below (s₁.setTop (mkF m 2 #[.val (.ref q9e_0), .val (.ref q9e_1), .val (.ref z9e_DEFAULTCAPACITY_EMPTY_ELEMENTDATA), .val (.int (0 : Int32))] [(.ref z9e_DEFAULTCAPACITY_EMPTY_ELEMENTDATA), (.int (0 : Int32))])) t
    refine X0.arraylength hx (by rw [e0]; exact Ar1.1) (State.isArrayOf_alike hZ.alike Ar1.2.1) (g := (mkF m 2 #[.val (.ref q9e_0), .val (.ref q9e_1), .val (.ref z9e_DEFAULTCAPACITY_EMPTY_ELEMENTDATA), .val (.int (0 : Int32))] [(.ref z9e_DEFAULTCAPACITY_EMPTY_ELEMENTDATA), (.int (0 : Int32))])) rfl rfl (hb hby d9_2) _ ?_
    rw [len_of Sz1 Nn1]
    refine XS.icmpNo X0.here hx rfl (hb hby d9_3) rfl (teq (by decide)).2 ?_
    refine XS.aloadN X0.here hx rfl (hb hby d9_6) rfl rfl ?_
    show Steps p.tables e below (s₁.setTop (mkF m 7 #[.val (.ref q9e_0), .val (.ref q9e_1), .val (.ref z9e_DEFAULTCAPACITY_EMPTY_ELEMENTDATA), .val (.int (0 : Int32))] [(.ref q9e_0)])) t
    exact k)
  obtain ⟨cq3, q3, q3'⟩ := E_q9e_0.cell
  obtain ⟨_, _, ⟨T3, L3, k3, n3⟩, -, X3, ⟨Lc3, hQ3, l3, y3, z3⟩, st3⟩ := X0.privateBack hx (y := (⟨"java/util/ArrayList", "grow", "()[Ljava/lang/Object;"⟩ : MethodName)) hown (mvT hZ (hw _ (List.mem_of_getElem? (i := 65) rfl))) (mvT hZ (hw _ (List.mem_of_getElem? (i := 66) rfl))) (mvT hZ (hw _ (List.mem_of_getElem? (i := 68) rfl))) (Cond.privateMethod_at (mvP hZ (hw _ (List.mem_of_getElem? (i := 67) rfl)) (args := #[]))) (mvT hZ (hw _ (List.mem_of_getElem? (i := 69) rfl))) (by decide) (backOf (W := 0) (rm10 l Z a0 hw [] q9e_0 z9e_DEFAULTCAPACITY_EMPTY_ELEMENTDATA qk w9e_q9e_0_modCount h0 n0 Z0 F_q9e_0_elementData F_q9e_0_size S_DEFAULTCAPACITY_EMPTY_ELEMENTDATA A_z9e_DEFAULTCAPACITY_EMPTY_ELEMENTDATA F_q9e_0_modCount E_q9e_0 g_q9e_0) hZ (hw _ (List.mem_of_getElem? (i := 69) rfl)) (hw _ (List.mem_of_getElem? (i := 29) rfl)) (by decide) (by decide)) (g := (mkF m 7 #[.val (.ref q9e_0), .val (.ref q9e_1), .val (.ref z9e_DEFAULTCAPACITY_EMPTY_ELEMENTDATA), .val (.int (0 : Int32))] [(.ref q9e_0)])) rfl (by rw [hml]; rfl) (Steps.refl _) (a := q9e_0) (by rw [e0]; exact q3) q3' (argsL := []) (rest := []) (lenOf pd_4 rfl) rfl (by show 2 * 0 + _ ≤ _; exact Nat.le_of_eq rfl) (hb hby d9_7) (fun _ _ => ⟨rfl, e0, (by decide : 0 + 1 ≤ _), (by decide : 0 + 10 ≤ _)⟩)
  dsimp only [Pt.U, Pt.locs, Pt.cells, Pt.slots] at X3 l3 y3 z3 st3 hQ3
  subst l3 y3 z3
  obtain ⟨b9_4_3, k9_4_3, rfl, N3q, Kc3, sz_b9_4_3, F3_0, F3_1, F3_2, F3_3, F3_4⟩ := hQ3
  have N3 := Fr.app N0 N3q
  have ne_q9e_0_b9_4_3 : q9e_0 ≠ b9_4_3 := Nat.ne_of_lt (Nat.lt_of_lt_of_le F_q9e_0_elementData.lt sz_b9_4_3)
  have ne_q9e_1_b9_4_3 : q9e_1 ≠ b9_4_3 := Nat.ne_of_lt (Nat.lt_of_lt_of_le E_q9e_1.lt sz_b9_4_3)
  have ne_z9e_DEFAULTCAPACITY_EMPTY_ELEMENTDATA_b9_4_3 : z9e_DEFAULTCAPACITY_EMPTY_ELEMENTDATA ≠ b9_4_3 := Nat.ne_of_lt (Nat.lt_of_lt_of_le A_z9e_DEFAULTCAPACITY_EMPTY_ELEMENTDATA.lt sz_b9_4_3)
  have g_b9_4_3 : n0 ≤ b9_4_3 := Nat.le_trans Z0 sz_b9_4_3
  have o_b9_4_3 : h0.size ≤ b9_4_3 := sz_b9_4_3
  have K3 : Keep h0 T3.heap [q9e_0] := Keep.trans (Keep.refl h0 [q9e_0]) Kc3 (allS (Or.inl (by simp)) all0)
  have P3 : own_Go p e below S0 (T3.setTop (mkF m 10 #[.val (.ref q9e_0), .val (.ref q9e_1), .val (.ref z9e_DEFAULTCAPACITY_EMPTY_ELEMENTDATA), .val (.int (0 : Int32))] [(.ref b9_4_3)])) := fun t k => P2 t (st3.trans k)
  have F5 : Exa Z T3.heap q9e_1 "com/example/penelope/penelope/program/Move" := E_q9e_1.keep Kc3
  have P6 : own_Go p e below S0 (T3.setTop (mkF m 14 #[.val (.ref q9e_0), .val (.ref q9e_1), .val (.ref b9_4_3), .val (.int (0 : Int32))] [(.ref q9e_1), (.int (0 : Int32)), (.ref b9_4_3)])) := fun t k => P3 t (by
    show Steps p.tables e below (T3.setTop (mkF m 10 #[.val (.ref q9e_0), .val (.ref q9e_1), .val (.ref z9e_DEFAULTCAPACITY_EMPTY_ELEMENTDATA), .val (.int (0 : Int32))] [(.ref b9_4_3)])) t
    refine XS.astoreN X3.here hx rfl (hb hby d9_10) rfl rfl (l' := #[.val (.ref q9e_0), .val (.ref q9e_1), .val (.ref b9_4_3), .val (.int (0 : Int32))]) rfl ?_
    refine XS.aloadN X3.here hx rfl (hb hby d9_11) rfl rfl ?_
    refine XS.iloadN X3.here hx rfl (hb hby d9_12) rfl ?_
    refine XS.aloadN X3.here hx rfl (hb hby d9_13) rfl rfl ?_
    show Steps p.tables e below (T3.setTop (mkF m 14 #[.val (.ref q9e_0), .val (.ref q9e_1), .val (.ref b9_4_3), .val (.int (0 : Int32))] [(.ref q9e_1), (.int (0 : Int32)), (.ref b9_4_3)])) t
    exact k)
  obtain ⟨cl4, Ar4, q4, Sz4, Nn4, Hh4, Gg4⟩ := id F3_3
  have hin4 : ¬ ((0 : Int32) < 0 ∨ cl4.slots.size ≤ ((0 : Int32)).toNatClampNeg) := inb_of Sz4 ⟨by decide, by decide⟩
  obtain ⟨T7, h7, X7, e7, W7, st7⟩ := stR X3 hx hZ rfl Ar4 (j := (0 : Int32)) hin4 rfl (Sto.ofV Ar4 q4 F3_4 (Ins.of_exa F5 (hw _ (List.mem_of_getElem? (i := 81) rfl)))) (g := (mkF m 14 #[.val (.ref q9e_0), .val (.ref q9e_1), .val (.ref b9_4_3), .val (.int (0 : Int32))] [(.ref q9e_1), (.int (0 : Int32)), (.ref b9_4_3)])) rfl rfl (hb hby d9_14)
  have K7 : Keep h0 h7 [q9e_0] := K3.wr W7 (Or.inr o_b9_4_3)
  have N7 := Fr.snoc X7 N3 g_b9_4_3
  have V7 : Arv Z h7 b9_4_3 k9_4_3 (.object "java/lang/Object") (10 : Int32) [(.ref q9e_1), .null, .null, .null, .null, .null, .null, .null, .null, .null] .null := Arv.set Ar4 q4 Sz4 Nn4 Hh4 Gg4 rfl W7 0 rfl (Nat.le_of_ble_eq_true rfl)
  have P7 : own_Go p e below S0 (T7.setTop (mkF m 15 #[.val (.ref q9e_0), .val (.ref q9e_1), .val (.ref b9_4_3), .val (.int (0 : Int32))] [])) := fun t k => P6 t (st7 _ k)
  have F8 : Exa Z T3.heap q9e_0 "java/util/ArrayList" := E_q9e_0.keep Kc3
  have F9 : Exa Z h7 q9e_0 "java/util/ArrayList" := F8.wr W7
  have F10 : Fld Z h7 q9e_0 "java/util/ArrayList" "size" "I" (.int (0 : Int32)) := F3_1.other W7 (Or.inl ne_q9e_0_b9_4_3)
  have P11 : own_Go p e below S0 (T7.setTop (mkF m 19 #[.val (.ref q9e_0), .val (.ref q9e_1), .val (.ref b9_4_3), .val (.int (0 : Int32))] [(.int (1 : Int32)), (.ref q9e_0)])) := fun t k => P7 t (by
    show Steps p.tables e below (T7.setTop (mkF m 15 #[.val (.ref q9e_0), .val (.ref q9e_1), .val (.ref b9_4_3), .val (.int (0 : Int32))] [])) t
    refine XS.aloadN X7.here hx rfl (hb hby d9_15) rfl rfl ?_
    refine XS.iloadN X7.here hx rfl (hb hby d9_16) rfl ?_
    refine XS.iconst X7.here hx rfl (hb hby d9_17) ?_
    refine XS.iadd X7.here hx rfl (hb hby d9_18) rfl ?_
    show Steps p.tables e below (T7.setTop (mkF m 19 #[.val (.ref q9e_0), .val (.ref q9e_1), .val (.ref b9_4_3), .val (.int (0 : Int32))] [(.int (1 : Int32)), (.ref q9e_0)])) t
    exact k)
  obtain ⟨T12, h12, X12, e12, W12, st12⟩ := putF X7 hx hZ hown (host := "") (Or.inl (hw _ (List.mem_of_getElem? (i := 58) rfl))) Via.refl e7 F10 F9 (Or.inl (hw _ (List.mem_of_getElem? (i := 59) rfl))) (hw _ (List.mem_of_getElem? (i := 28) rfl)) (ty := .int) (by decide) rfl rfl (g := (mkF m 19 #[.val (.ref q9e_0), .val (.ref q9e_1), .val (.ref b9_4_3), .val (.int (0 : Int32))] [(.int (1 : Int32)), (.ref q9e_0)])) rfl rfl (hb hby d9_19)
  have K12 : Keep h0 h12 [q9e_0] := K7.wr W12 (Or.inl (by simp))
  have N12 := Fr.snoc X12 N7 g_q9e_0
  have F12w : Fld Z h12 q9e_0 "java/util/ArrayList" "size" "I" (.int (1 : Int32)) := F10.same W12
  have P12 : own_Go p e below S0 (T12.setTop (mkF m 22 #[.val (.ref q9e_0), .val (.ref q9e_1), .val (.ref b9_4_3), .val (.int (0 : Int32))] [])) := fun t k => P11 t (st12 _ k)
  have F13 : Fld Z h7 q9e_0 "java/util/AbstractList" "modCount" "I" (.int w9e_q9e_0_modCount) := F3_2.other W7 (Or.inl ne_q9e_0_b9_4_3)
  have F14 : Fld Z h12 q9e_0 "java/util/AbstractList" "modCount" "I" (.int w9e_q9e_0_modCount) := F13.other W12 (Or.inr (slot_ne (Or.inl (hw _ (List.mem_of_getElem? (i := 47) rfl))) (Or.inl (hw _ (List.mem_of_getElem? (i := 59) rfl))) (by decide) (t := .int) (t' := .int) (by decide) (by decide)))
  have F15 : Fld Z h7 q9e_0 "java/util/ArrayList" "elementData" "[Ljava/lang/Object;" (.ref b9_4_3) := F3_0.other W7 (Or.inl ne_q9e_0_b9_4_3)
  have F16 : Fld Z h12 q9e_0 "java/util/ArrayList" "elementData" "[Ljava/lang/Object;" (.ref b9_4_3) := F15.other W12 (Or.inr (slot_ne (Or.inl (hw _ (List.mem_of_getElem? (i := 50) rfl))) (Or.inl (hw _ (List.mem_of_getElem? (i := 59) rfl))) (by decide) (t := (.array (.object "java/lang/Object"))) (t' := .int) (by decide) (by decide)))
  have F17 : Arv Z h12 b9_4_3 k9_4_3 (.object "java/lang/Object") (10 : Int32) [(.ref q9e_1), .null, .null, .null, .null, .null, .null, .null, .null, .null] .null := V7.other W12 (Ne.symm ne_q9e_0_b9_4_3)
  obtain ⟨fs, hr, hrun, hended, hW, hsame⟩ := X12.leave (v := none) (fun _ => rfl)
  refine ⟨_, _, own_from hS0 (P12 _ ?_), hrun, hended, _, _, rfl, ?_, ⟨_, rfl⟩, hW, hsame.mono (by decide) (by decide)⟩
  · show Steps p.tables e below (T12.setTop (mkF m 22 #[.val (.ref q9e_0), .val (.ref q9e_1), .val (.ref b9_4_3), .val (.int (0 : Int32))] [])) _
    exact X12.returnOut hx Bd.returns (hb hby d9_22) hr
  · show Q9e Z q9e_0 q9e_1 z9e_DEFAULTCAPACITY_EMPTY_ELEMENTDATA qk w9e_q9e_0_modCount h0 n0 _ T12.heap _
    rw [e12]
    exact ⟨b9_4_3, k9_4_3, rfl, N12, K12, o_b9_4_3, F16, F12w, F14, F17, F3_4⟩
theorem pd_5 : parseMethodDescriptor "(Ljava/lang/Object;[Ljava/lang/Object;I)V" = some ⟨[(.object "java/lang/Object"), (.array (.object "java/lang/Object")), .int], none⟩ := by decide +kernel
theorem d8_0 : decode jdk_38_method_25_code 0 = .ok (.aload_n 0, 1) := by decide +kernel
theorem d8_1 : decode jdk_38_method_25_code 1 = .ok (.dup, 1) := by decide +kernel
theorem d8_2 : decode jdk_38_method_25_code 2 = .ok (.getfield 63, 3) := by decide +kernel
theorem d8_5 : decode jdk_38_method_25_code 5 = .ok (.iconst 1, 1) := by decide +kernel
theorem d8_6 : decode jdk_38_method_25_code 6 = .ok (.iadd, 1) := by decide +kernel
theorem d8_7 : decode jdk_38_method_25_code 7 = .ok (.putfield 63, 3) := by decide +kernel
theorem d8_10 : decode jdk_38_method_25_code 10 = .ok (.aload_n 0, 1) := by decide +kernel
theorem d8_11 : decode jdk_38_method_25_code 11 = .ok (.aload_n 1, 1) := by decide +kernel
theorem d8_12 : decode jdk_38_method_25_code 12 = .ok (.aload_n 0, 1) := by decide +kernel
theorem d8_13 : decode jdk_38_method_25_code 13 = .ok (.getfield 9, 3) := by decide +kernel
theorem d8_16 : decode jdk_38_method_25_code 16 = .ok (.aload_n 0, 1) := by decide +kernel
theorem d8_17 : decode jdk_38_method_25_code 17 = .ok (.getfield 48, 3) := by decide +kernel
theorem d8_20 : decode jdk_38_method_25_code 20 = .ok (.invokevirtual 131, 3) := by decide +kernel
theorem d8_23 : decode jdk_38_method_25_code 23 = .ok (.iconst 1, 1) := by decide +kernel
theorem d8_24 : decode jdk_38_method_25_code 24 = .ok (.ireturn, 1) := by decide +kernel
theorem ef_8e (m : MethodId) (q8e_0 : Addr) (q8e_1 : Addr) : entryFrame m #[(.ref q8e_0), (.ref q8e_1)] 2 = mkF m 0 #[.val (.ref q8e_0), .val (.ref q8e_1)] [] := by first | (simp [entryFrame, mkF, argsToLocals, Value.category]; done) | rfl
def Q8e (Z : State) (q8e_0 : Addr) (q8e_1 : Addr) (z8e_DEFAULTCAPACITY_EMPTY_ELEMENTDATA : Addr) (qk : ClassId) (w8e_q8e_0_modCount : Int32) (h0 : Heap) (n0 : Nat) (v : Option Value) (h : Heap) (L : List Loc) : Prop := ∃ (b9_4_3_15 : Addr) (k9_4_3_15 : ClassId), v = some (.int (1 : Int32)) ∧ Fr n0 L ∧ Keep h0 h [q8e_0] ∧ h0.size ≤ b9_4_3_15 ∧ Fld Z h q8e_0 "java/util/ArrayList" "elementData" "[Ljava/lang/Object;" (.ref b9_4_3_15) ∧ Fld Z h q8e_0 "java/util/ArrayList" "size" "I" (.int (1 : Int32)) ∧ Fld Z h q8e_0 "java/util/AbstractList" "modCount" "I" (.int (w8e_q8e_0_modCount + (1 : Int32))) ∧ Arv Z h b9_4_3_15 k9_4_3_15 (.object "java/lang/Object") (10 : Int32) [(.ref q8e_1), .null, .null, .null, .null, .null, .null, .null, .null, .null] .null ∧ Ovr Z k9_4_3_15 "java/lang/Object"
set_option maxRecDepth 65536 in
set_option maxHeartbeats 40000000 in
theorem rm8e (l : Launch) (Z : State) (a0 : Array Value) (hw : ∀ d ∈ tables_1, d.before a0 Z = true) (ws : List Jvm.Cond) (q8e_0 : Addr) (q8e_1 : Addr) (z8e_DEFAULTCAPACITY_EMPTY_ELEMENTDATA : Addr) (qk : ClassId) (w8e_q8e_0_modCount : Int32) (h0 : Heap) (n0 : Nat) (Z0 : n0 ≤ h0.size) (F_q8e_0_elementData : Fld Z h0 q8e_0 "java/util/ArrayList" "elementData" "[Ljava/lang/Object;" (.ref z8e_DEFAULTCAPACITY_EMPTY_ELEMENTDATA)) (F_q8e_0_size : Fld Z h0 q8e_0 "java/util/ArrayList" "size" "I" (.int (0 : Int32))) (S_DEFAULTCAPACITY_EMPTY_ELEMENTDATA : Sta Z h0 "java/util/ArrayList" "DEFAULTCAPACITY_EMPTY_ELEMENTDATA" "[Ljava/lang/Object;" (.ref z8e_DEFAULTCAPACITY_EMPTY_ELEMENTDATA)) (A_z8e_DEFAULTCAPACITY_EMPTY_ELEMENTDATA : Arv Z h0 z8e_DEFAULTCAPACITY_EMPTY_ELEMENTDATA qk (.object "java/lang/Object") (0 : Int32) [] .null) (E_q8e_1 : Exa Z h0 q8e_1 "com/example/penelope/penelope/program/Move") (F_q8e_0_modCount : Fld Z h0 q8e_0 "java/util/AbstractList" "modCount" "I" (.int w8e_q8e_0_modCount)) (E_q8e_0 : Exa Z h0 q8e_0 "java/util/ArrayList") (g_q8e_0 : n0 ≤ q8e_0) (hne_z8e_DEFAULTCAPACITY_EMPTY_ELEMENTDATA_q8e_0 : z8e_DEFAULTCAPACITY_EMPTY_ELEMENTDATA ≠ q8e_0) :
    MetFree l (⟨"java/util/ArrayList", "add", "(Ljava/lang/Object;)Z"⟩ : MethodName) (head1 (Jvm.Cond.code (⟨"java/util/ArrayList", "add", "(Ljava/lang/Object;)Z"⟩ : MethodName) jdk_38_method_25_code 2 (some .boolean) :: ws) ({ frames := 4, cells := 1, slots := 10, locals := 56 } : Room)) (fun a U => a = #[(.ref q8e_0), (.ref q8e_1)] ∧ Z.Warmed39 U.vm ∧ U.heap = h0) (fun _ _ _ _ _ => True) (fun _ U o U' => ∃ v L, o = .returned v ∧ Q8e Z q8e_0 q8e_1 z8e_DEFAULTCAPACITY_EMPTY_ELEMENTDATA qk w8e_q8e_0_modCount h0 n0 v U'.heap L ∧ FrameEnd U o U' L ({ frames := 4, cells := 1, slots := 10, locals := 56 } : Room).cells ({ frames := 4, cells := 1, slots := 10, locals := 56 } : Room).slots) := by
  refine MetFree.of_bodySF (plainFor_of_name pn_5) hisR ?_
  intro p e s m args below meth c s₁ Bd hml0 hP hK
  obtain ⟨rfl, hZ, hh⟩ := hP
  have hx := Bd.exec
  have hby := Bd.bytes
  have hml : c.maxLocals = 2 := hml0
  have hown : s.vm.findClass "java/util/ArrayList" = some m.cls := findClass_of_methodNamed Bd.named
  have hnm := (name_of_methodNamed Bd.named Bd.method).1
  have X0 : Stand p l e ({ frames := 4, cells := 1, slots := 10, locals := 56 } : Room) s m #[(.ref q8e_0), (.ref q8e_1)] below meth c s₁ [] 0 0 := Stand.of_body Bd
  have e0 : s₁.heap = h0 := by rw [← hh, Bd.state]; rfl
  have N0 := Fr.nil n0
  obtain ⟨S0, hS0⟩ : ∃ z, z = s₁.setTop (entryFrame m #[(.ref q8e_0), (.ref q8e_1)] 2) := ⟨_, rfl⟩
  have P0 : own_Go p e below S0 (s₁.setTop (mkF m 0 #[.val (.ref q8e_0), .val (.ref q8e_1)] [])) := fun t k => by rw [hS0]; exact castTop (ef_8e m q8e_0 q8e_1) k
  have P1 : own_Go p e below S0 (s₁.setTop (mkF m 2 #[.val (.ref q8e_0), .val (.ref q8e_1)] [(.ref q8e_0), (.ref q8e_0)])) := fun t k => P0 t (by
    show Steps p.tables e below (s₁.setTop (mkF m 0 #[.val (.ref q8e_0), .val (.ref q8e_1)] [])) t
    refine XS.aloadN X0.here hx rfl (hb hby d8_0) rfl rfl ?_
    refine XS.dup X0.here hx rfl (hb hby d8_1) rfl rfl ?_
    show Steps p.tables e below (s₁.setTop (mkF m 2 #[.val (.ref q8e_0), .val (.ref q8e_1)] [(.ref q8e_0), (.ref q8e_0)])) t
    exact k)
  obtain ⟨T2, X2, e2, st2⟩ := getF X0 hx hZ hown (host := "") (Or.inl (hw _ (List.mem_of_getElem? (i := 56) rfl))) (Via.of (hw _ (List.mem_of_getElem? (i := 57) rfl))) e0 F_q8e_0_modCount (g := (mkF m 2 #[.val (.ref q8e_0), .val (.ref q8e_1)] [(.ref q8e_0), (.ref q8e_0)])) rfl rfl (hb hby d8_2)
  have P2 : own_Go p e below S0 (T2.setTop (mkF m 5 #[.val (.ref q8e_0), .val (.ref q8e_1)] [(.int w8e_q8e_0_modCount), (.ref q8e_0)])) := fun t k => P1 t (st2 _ k)
  have P3 : own_Go p e below S0 (T2.setTop (mkF m 7 #[.val (.ref q8e_0), .val (.ref q8e_1)] [(.int (w8e_q8e_0_modCount + (1 : Int32))), (.ref q8e_0)])) := fun t k => P2 t (by
    show Steps p.tables e below (T2.setTop (mkF m 5 #[.val (.ref q8e_0), .val (.ref q8e_1)] [(.int w8e_q8e_0_modCount), (.ref q8e_0)])) t
    refine XS.iconst X2.here hx rfl (hb hby d8_5) ?_
    refine XS.iadd X2.here hx rfl (hb hby d8_6) rfl ?_
    show Steps p.tables e below (T2.setTop (mkF m 7 #[.val (.ref q8e_0), .val (.ref q8e_1)] [(.int (w8e_q8e_0_modCount + (1 : Int32))), (.ref q8e_0)])) t
    exact k)
  obtain ⟨T4, h4, X4, e4, W4, st4⟩ := putF X2 hx hZ hown (host := "") (Or.inl (hw _ (List.mem_of_getElem? (i := 56) rfl))) (Via.of (hw _ (List.mem_of_getElem? (i := 57) rfl))) e2 F_q8e_0_modCount E_q8e_0 (Or.inl (hw _ (List.mem_of_getElem? (i := 47) rfl))) (hw _ (List.mem_of_getElem? (i := 28) rfl)) (ty := .int) (by decide) rfl rfl (g := (mkF m 7 #[.val (.ref q8e_0), .val (.ref q8e_1)] [(.int (w8e_q8e_0_modCount + (1 : Int32))), (.ref q8e_0)])) rfl rfl (hb hby d8_7)
  have K4 : Keep h0 h4 [q8e_0] := (Keep.refl h0 [q8e_0]).wr W4 (Or.inl (by simp))
  have N4 := Fr.snoc X4 N0 g_q8e_0
  have F4w : Fld Z h4 q8e_0 "java/util/AbstractList" "modCount" "I" (.int (w8e_q8e_0_modCount + (1 : Int32))) := F_q8e_0_modCount.same W4
  have P4 : own_Go p e below S0 (T4.setTop (mkF m 10 #[.val (.ref q8e_0), .val (.ref q8e_1)] [])) := fun t k => P3 t (st4 _ k)
  have F5 : Fld Z h4 q8e_0 "java/util/ArrayList" "elementData" "[Ljava/lang/Object;" (.ref z8e_DEFAULTCAPACITY_EMPTY_ELEMENTDATA) := F_q8e_0_elementData.other W4 (Or.inr (slot_ne (Or.inl (hw _ (List.mem_of_getElem? (i := 50) rfl))) (Or.inl (hw _ (List.mem_of_getElem? (i := 47) rfl))) (by decide) (t := (.array (.object "java/lang/Object"))) (t' := .int) (by decide) (by decide)))
  have P6 : own_Go p e below S0 (T4.setTop (mkF m 13 #[.val (.ref q8e_0), .val (.ref q8e_1)] [(.ref q8e_0), (.ref q8e_1), (.ref q8e_0)])) := fun t k => P4 t (by
    show Steps p.tables e below (T4.setTop (mkF m 10 #[.val (.ref q8e_0), .val (.ref q8e_1)] [])) t
    refine XS.aloadN X4.here hx rfl (hb hby d8_10) rfl rfl ?_
    refine XS.aloadN X4.here hx rfl (hb hby d8_11) rfl rfl ?_
    refine XS.aloadN X4.here hx rfl (hb hby d8_12) rfl rfl ?_
    show Steps p.tables e below (T4.setTop (mkF m 13 #[.val (.ref q8e_0), .val (.ref q8e_1)] [(.ref q8e_0), (.ref q8e_1), (.ref q8e_0)])) t
    exact k)
  obtain ⟨T7, X7, e7, st7⟩ := getF X4 hx hZ hown (host := "") (Or.inl (hw _ (List.mem_of_getElem? (i := 49) rfl))) Via.refl e4 F5 (g := (mkF m 13 #[.val (.ref q8e_0), .val (.ref q8e_1)] [(.ref q8e_0), (.ref q8e_1), (.ref q8e_0)])) rfl rfl (hb hby d8_13)
  have P7 : own_Go p e below S0 (T7.setTop (mkF m 16 #[.val (.ref q8e_0), .val (.ref q8e_1)] [(.ref z8e_DEFAULTCAPACITY_EMPTY_ELEMENTDATA), (.ref q8e_1), (.ref q8e_0)])) := fun t k => P6 t (st7 _ k)
  have F8 : Fld Z h4 q8e_0 "java/util/ArrayList" "size" "I" (.int (0 : Int32)) := F_q8e_0_size.other W4 (Or.inr (slot_ne (Or.inl (hw _ (List.mem_of_getElem? (i := 59) rfl))) (Or.inl (hw _ (List.mem_of_getElem? (i := 47) rfl))) (by decide) (t := .int) (t' := .int) (by decide) (by decide)))
  have P9 : own_Go p e below S0 (T7.setTop (mkF m 17 #[.val (.ref q8e_0), .val (.ref q8e_1)] [(.ref q8e_0), (.ref z8e_DEFAULTCAPACITY_EMPTY_ELEMENTDATA), (.ref q8e_1), (.ref q8e_0)])) := fun t k => P7 t (by
    show Steps p.tables e below (T7.setTop (mkF m 16 #[.val (.ref q8e_0), .val (.ref q8e_1)] [(.ref z8e_DEFAULTCAPACITY_EMPTY_ELEMENTDATA), (.ref q8e_1), (.ref q8e_0)])) t
    refine XS.aloadN X7.here hx rfl (hb hby d8_16) rfl rfl ?_
    show Steps p.tables e below (T7.setTop (mkF m 17 #[.val (.ref q8e_0), .val (.ref q8e_1)] [(.ref q8e_0), (.ref z8e_DEFAULTCAPACITY_EMPTY_ELEMENTDATA), (.ref q8e_1), (.ref q8e_0)])) t
    exact k)
  obtain ⟨T10, X10, e10, st10⟩ := getF X7 hx hZ hown (host := "") (Or.inl (hw _ (List.mem_of_getElem? (i := 58) rfl))) Via.refl e7 F8 (g := (mkF m 17 #[.val (.ref q8e_0), .val (.ref q8e_1)] [(.ref q8e_0), (.ref z8e_DEFAULTCAPACITY_EMPTY_ELEMENTDATA), (.ref q8e_1), (.ref q8e_0)])) rfl rfl (hb hby d8_17)
  have P10 : own_Go p e below S0 (T10.setTop (mkF m 20 #[.val (.ref q8e_0), .val (.ref q8e_1)] [(.int (0 : Int32)), (.ref z8e_DEFAULTCAPACITY_EMPTY_ELEMENTDATA), (.ref q8e_1), (.ref q8e_0)])) := fun t k => P9 t (st10 _ k)
  have F11 : Sta Z h4 "java/util/ArrayList" "DEFAULTCAPACITY_EMPTY_ELEMENTDATA" "[Ljava/lang/Object;" (.ref z8e_DEFAULTCAPACITY_EMPTY_ELEMENTDATA) := S_DEFAULTCAPACITY_EMPTY_ELEMENTDATA.wr W4
  have F12 : Arv Z h4 z8e_DEFAULTCAPACITY_EMPTY_ELEMENTDATA qk (.object "java/lang/Object") (0 : Int32) [] .null := A_z8e_DEFAULTCAPACITY_EMPTY_ELEMENTDATA.other W4 hne_z8e_DEFAULTCAPACITY_EMPTY_ELEMENTDATA_q8e_0
  have F13 : Exa Z h4 q8e_1 "com/example/penelope/penelope/program/Move" := E_q8e_1.wr W4
  have F14 : Exa Z h4 q8e_0 "java/util/ArrayList" := E_q8e_0.wr W4
  obtain ⟨cq15, q15, q15'⟩ := F14.cell
  obtain ⟨_, _, ⟨T15, L15, k15, n15⟩, -, X15, ⟨Lc15, hQ15, l15, y15, z15⟩, st15⟩ := X10.privateBack hx (y := (⟨"java/util/ArrayList", "add", "(Ljava/lang/Object;[Ljava/lang/Object;I)V"⟩ : MethodName)) hown (mvT hZ (hw _ (List.mem_of_getElem? (i := 60) rfl))) (mvT hZ (hw _ (List.mem_of_getElem? (i := 61) rfl))) (mvT hZ (hw _ (List.mem_of_getElem? (i := 63) rfl))) (Cond.privateMethod_at (mvP hZ (hw _ (List.mem_of_getElem? (i := 62) rfl)) (args := #[]))) (mvT hZ (hw _ (List.mem_of_getElem? (i := 64) rfl))) (by decide) (backOf (W := 0) (rm9e l Z a0 hw [] q8e_0 q8e_1 z8e_DEFAULTCAPACITY_EMPTY_ELEMENTDATA qk (w8e_q8e_0_modCount + (1 : Int32)) h4 n0 (Nat.le_trans Z0 K4.1) F5 F8 F11 F12 F13 F4w F14 g_q8e_0) hZ (hw _ (List.mem_of_getElem? (i := 64) rfl)) (hw _ (List.mem_of_getElem? (i := 29) rfl)) (by decide) (by decide)) (g := (mkF m 20 #[.val (.ref q8e_0), .val (.ref q8e_1)] [(.int (0 : Int32)), (.ref z8e_DEFAULTCAPACITY_EMPTY_ELEMENTDATA), (.ref q8e_1), (.ref q8e_0)])) rfl (by rw [hml]; rfl) (Steps.refl _) (a := q8e_0) (by rw [e10]; exact q15) q15' (argsL := [(.ref q8e_1), (.ref z8e_DEFAULTCAPACITY_EMPTY_ELEMENTDATA), (.int (0 : Int32))]) (rest := []) (lenOf pd_5 rfl) rfl (by show 2 * 0 + _ ≤ _; exact Nat.le_of_eq rfl) (hb hby d8_20) (fun _ _ => ⟨rfl, e10, (by decide : 0 + 1 ≤ _), (by decide : 0 + 10 ≤ _)⟩)
  dsimp only [Pt.U, Pt.locs, Pt.cells, Pt.slots] at X15 l15 y15 z15 st15 hQ15
  subst l15 y15 z15
  obtain ⟨b9_4_3_15, k9_4_3_15, rfl, N15q, Kc15, sz_b9_4_3_15, F15_0, F15_1, F15_2, F15_3, F15_4⟩ := hQ15
  have N15 := Fr.app N4 N15q
  have ne_q8e_0_b9_4_3_15 : q8e_0 ≠ b9_4_3_15 := Nat.ne_of_lt (Nat.lt_of_lt_of_le F5.lt sz_b9_4_3_15)
  have ne_q8e_1_b9_4_3_15 : q8e_1 ≠ b9_4_3_15 := Nat.ne_of_lt (Nat.lt_of_lt_of_le F13.lt sz_b9_4_3_15)
  have ne_z8e_DEFAULTCAPACITY_EMPTY_ELEMENTDATA_b9_4_3_15 : z8e_DEFAULTCAPACITY_EMPTY_ELEMENTDATA ≠ b9_4_3_15 := Nat.ne_of_lt (Nat.lt_of_lt_of_le F12.lt sz_b9_4_3_15)
  have g_b9_4_3_15 : n0 ≤ b9_4_3_15 := Nat.le_trans (Nat.le_trans Z0 K4.1) sz_b9_4_3_15
  have o_b9_4_3_15 : h0.size ≤ b9_4_3_15 := Nat.le_trans K4.1 sz_b9_4_3_15
  have K15 : Keep h0 T15.heap [q8e_0] := Keep.trans K4 Kc15 (allS (Or.inl (by simp)) all0)
  have P15 : own_Go p e below S0 (T15.setTop (mkF m 23 #[.val (.ref q8e_0), .val (.ref q8e_1)] [])) := fun t k => P10 t (st15.trans k)
  have P16 : own_Go p e below S0 (T15.setTop (mkF m 24 #[.val (.ref q8e_0), .val (.ref q8e_1)] [(.int (1 : Int32))])) := fun t k => P15 t (by
    show Steps p.tables e below (T15.setTop (mkF m 23 #[.val (.ref q8e_0), .val (.ref q8e_1)] [])) t
    refine XS.iconst X15.here hx rfl (hb hby d8_23) ?_
    show Steps p.tables e below (T15.setTop (mkF m 24 #[.val (.ref q8e_0), .val (.ref q8e_1)] [(.int (1 : Int32))])) t
    exact k)
  obtain ⟨fs, hr, hrun, hended, hW, hsame⟩ := X15.leave (v := some (.int (1 : Int32))) (fun h => by rw [Bd.returns] at h; cases h)
  refine ⟨_, _, own_from hS0 (P16 _ ?_), hrun, hended, _, _, rfl, ?_, ⟨_, rfl⟩, hW, hsame.mono (by decide) (by decide)⟩
  · show Steps p.tables e below (T15.setTop (mkF m 24 #[.val (.ref q8e_0), .val (.ref q8e_1)] [(.int (1 : Int32))])) _
    exact retN X15 hx (t := .boolean) Bd.returns (by simp) (hb hby d8_24) hr
  · show Q8e Z q8e_0 q8e_1 z8e_DEFAULTCAPACITY_EMPTY_ELEMENTDATA qk w8e_q8e_0_modCount h0 n0 _ T15.heap _
    exact ⟨b9_4_3_15, k9_4_3_15, rfl, N15, K15, o_b9_4_3_15, F15_0, F15_1, F15_2, F15_3, F15_4⟩
theorem ef_9n1 (m : MethodId) (q9n1_0 : Addr) (q9n1_1 : Addr) (qa : Addr) : entryFrame m #[(.ref q9n1_0), (.ref q9n1_1), (.ref qa), (.int (1 : Int32))] 4 = mkF m 0 #[.val (.ref q9n1_0), .val (.ref q9n1_1), .val (.ref qa), .val (.int (1 : Int32))] [] := by first | (simp [entryFrame, mkF, argsToLocals, Value.category]; done) | rfl
def Q9n1 (Z : State) (q9n1_0 : Addr) (q9n1_1 : Addr) (qa : Addr) (qk : ClassId) (x0 : Addr) (w9n1_q9n1_0_modCount : Int32) (w9n1_q9n1_0_elementData : Addr) (h0 : Heap) (n0 : Nat) (v : Option Value) (h : Heap) (L : List Loc) : Prop := v = none ∧ Fr n0 L ∧ Keep h0 h [qa, q9n1_0] ∧ Fld Z h q9n1_0 "java/util/ArrayList" "size" "I" (.int (2 : Int32)) ∧ Arv Z h qa qk (.object "java/lang/Object") (10 : Int32) [(.ref x0), (.ref q9n1_1), .null, .null, .null, .null, .null, .null, .null, .null] .null ∧ Fld Z h q9n1_0 "java/util/AbstractList" "modCount" "I" (.int w9n1_q9n1_0_modCount) ∧ Fld Z h q9n1_0 "java/util/ArrayList" "elementData" "[Ljava/lang/Object;" (.ref w9n1_q9n1_0_elementData)
set_option maxRecDepth 65536 in
set_option maxHeartbeats 40000000 in
theorem rm9n1 (l : Launch) (Z : State) (a0 : Array Value) (hw : ∀ d ∈ tables_1, d.before a0 Z = true) (ws : List Jvm.Cond) (q9n1_0 : Addr) (q9n1_1 : Addr) (qa : Addr) (qk : ClassId) (x0 : Addr) (w9n1_q9n1_0_modCount : Int32) (w9n1_q9n1_0_elementData : Addr) (h0 : Heap) (n0 : Nat) (Z0 : n0 ≤ h0.size) (F_q9n1_0_size : Fld Z h0 q9n1_0 "java/util/ArrayList" "size" "I" (.int (1 : Int32))) (A_qa : Arv Z h0 qa qk (.object "java/lang/Object") (10 : Int32) [(.ref x0), .null, .null, .null, .null, .null, .null, .null, .null, .null] .null) (O_qa : Ovr Z qk "java/lang/Object") (E_q9n1_1 : Exa Z h0 q9n1_1 "com/example/penelope/penelope/program/Move") (F_q9n1_0_modCount : Fld Z h0 q9n1_0 "java/util/AbstractList" "modCount" "I" (.int w9n1_q9n1_0_modCount)) (F_q9n1_0_elementData : Fld Z h0 q9n1_0 "java/util/ArrayList" "elementData" "[Ljava/lang/Object;" (.ref w9n1_q9n1_0_elementData)) (g_qa : n0 ≤ qa) (E_q9n1_0 : Exa Z h0 q9n1_0 "java/util/ArrayList") (hne_q9n1_0_qa : q9n1_0 ≠ qa) (g_q9n1_0 : n0 ≤ q9n1_0) :
    MetFree l (⟨"java/util/ArrayList", "add", "(Ljava/lang/Object;[Ljava/lang/Object;I)V"⟩ : MethodName) (head1 (Jvm.Cond.code (⟨"java/util/ArrayList", "add", "(Ljava/lang/Object;[Ljava/lang/Object;I)V"⟩ : MethodName) jdk_38_method_24_code 4 none :: ws) ({ frames := 0, cells := 0, slots := 0, locals := 0 } : Room)) (fun a U => a = #[(.ref q9n1_0), (.ref q9n1_1), (.ref qa), (.int (1 : Int32))] ∧ Z.Warmed39 U.vm ∧ U.heap = h0) (fun _ _ _ _ _ => True) (fun _ U o U' => ∃ v L, o = .returned v ∧ Q9n1 Z q9n1_0 q9n1_1 qa qk x0 w9n1_q9n1_0_modCount w9n1_q9n1_0_elementData h0 n0 v U'.heap L ∧ FrameEnd U o U' L ({ frames := 0, cells := 0, slots := 0, locals := 0 } : Room).cells ({ frames := 0, cells := 0, slots := 0, locals := 0 } : Room).slots) := by
  refine MetFree.of_bodySF (plainFor_of_name pn_5) hisR ?_
  intro p e s m args below meth c s₁ Bd hml0 hP hK
  obtain ⟨rfl, hZ, hh⟩ := hP
  have hx := Bd.exec
  have hby := Bd.bytes
  have hml : c.maxLocals = 4 := hml0
  have hown : s.vm.findClass "java/util/ArrayList" = some m.cls := findClass_of_methodNamed Bd.named
  have hnm := (name_of_methodNamed Bd.named Bd.method).1
  have X0 : Stand p l e ({ frames := 0, cells := 0, slots := 0, locals := 0 } : Room) s m #[(.ref q9n1_0), (.ref q9n1_1), (.ref qa), (.int (1 : Int32))] below meth c s₁ [] 0 0 := Stand.of_body Bd
  have e0 : s₁.heap = h0 := by rw [← hh, Bd.state]; rfl
  have N0 := Fr.nil n0
  obtain ⟨S0, hS0⟩ : ∃ z, z = s₁.setTop (entryFrame m #[(.ref q9n1_0), (.ref q9n1_1), (.ref qa), (.int (1 : Int32))] 4) := ⟨_, rfl⟩
  have P0 : own_Go p e below S0 (s₁.setTop (mkF m 0 #[.val (.ref q9n1_0), .val (.ref q9n1_1), .val (.ref qa), .val (.int (1 : Int32))] [])) := fun t k => by rw [hS0]; exact castTop (ef_9n1 m q9n1_0 q9n1_1 qa) k
  obtain ⟨cl1, Ar1, q1, Sz1, Nn1, Hh1, Gg1⟩ := id A_qa
  have P3 : own_Go p e below S0 (s₁.setTop (mkF m 14 #[.val (.ref q9n1_0), .val (.ref q9n1_1), .val (.ref qa), .val (.int (1 : Int32))] [(.ref q9n1_1), (.int (1 : Int32)), (.ref qa)])) := fun t k => P0 t (by
    show Steps p.tables e below (s₁.setTop (mkF m 0 #[.val (.ref q9n1_0), .val (.ref q9n1_1), .val (.ref qa), .val (.int (1 : Int32))] [])) t
    refine XS.iloadN X0.here hx rfl (hb hby d9_0) rfl ?_
    refine XS.aloadN X0.here hx rfl (hb hby d9_1) rfl rfl ?_
    show Steps p.tables e below (s₁.setTop (mkF m 2 #[.val (.ref q9n1_0), .val (.ref q9n1_1), .val (.ref qa), .val (.int (1 : Int32))] [(.ref qa), (.int (1 : Int32))])) t
    refine X0.arraylength hx (by rw [e0]; exact Ar1.1) (State.isArrayOf_alike hZ.alike Ar1.2.1) (g := (mkF m 2 #[.val (.ref q9n1_0), .val (.ref q9n1_1), .val (.ref qa), .val (.int (1 : Int32))] [(.ref qa), (.int (1 : Int32))])) rfl rfl (hb hby d9_2) _ ?_
    rw [len_of Sz1 Nn1]
    refine XS.icmpYes X0.here hx rfl (pc0 := 3) (pc' := 11) rfl (hb hby d9_3) rfl (feq (by decide)).2 (by decide) (by decide) ?_
    refine XS.aloadN X0.here hx rfl (hb hby d9_11) rfl rfl ?_
    refine XS.iloadN X0.here hx rfl (hb hby d9_12) rfl ?_
    show Steps p.tables e below (s₁.setTop (mkF m 13 #[.val (.ref q9n1_0), .val (.ref q9n1_1), .val (.ref qa), .val (.int (1 : Int32))] [(.int (1 : Int32)), (.ref qa)])) t
    refine XS.aloadN X0.here hx rfl (hb hby d9_13) rfl rfl ?_
    show Steps p.tables e below (s₁.setTop (mkF m 14 #[.val (.ref q9n1_0), .val (.ref q9n1_1), .val (.ref qa), .val (.int (1 : Int32))] [(.ref q9n1_1), (.int (1 : Int32)), (.ref qa)])) t
    exact k)
  obtain ⟨cl2, Ar2, q2, Sz2, Nn2, Hh2, Gg2⟩ := id A_qa
  have hin2 : ¬ ((1 : Int32) < 0 ∨ cl2.slots.size ≤ ((1 : Int32)).toNatClampNeg) := inb_of Sz2 ⟨by decide, by decide⟩
  obtain ⟨T4, h4, X4, e4, W4, st4⟩ := stR X0 hx hZ e0 Ar2 (j := (1 : Int32)) hin2 rfl (Sto.ofV Ar2 q2 O_qa (Ins.of_exa E_q9n1_1 (hw _ (List.mem_of_getElem? (i := 81) rfl)))) (g := (mkF m 14 #[.val (.ref q9n1_0), .val (.ref q9n1_1), .val (.ref qa), .val (.int (1 : Int32))] [(.ref q9n1_1), (.int (1 : Int32)), (.ref qa)])) rfl rfl (hb hby d9_14)
  have K4 : Keep h0 h4 [qa, q9n1_0] := (Keep.refl h0 [qa, q9n1_0]).wr W4 (Or.inl (by simp))
  have N4 := Fr.snoc X4 N0 g_qa
  have V4 : Arv Z h4 qa qk (.object "java/lang/Object") (10 : Int32) [(.ref x0), (.ref q9n1_1), .null, .null, .null, .null, .null, .null, .null, .null] .null := Arv.set Ar2 q2 Sz2 Nn2 Hh2 Gg2 rfl W4 1 rfl (Nat.le_of_ble_eq_true rfl)
  have P4 : own_Go p e below S0 (T4.setTop (mkF m 15 #[.val (.ref q9n1_0), .val (.ref q9n1_1), .val (.ref qa), .val (.int (1 : Int32))] [])) := fun t k => P3 t (st4 _ k)
  have F5 : Exa Z h4 q9n1_0 "java/util/ArrayList" := E_q9n1_0.wr W4
  have F6 : Fld Z h4 q9n1_0 "java/util/ArrayList" "size" "I" (.int (1 : Int32)) := F_q9n1_0_size.other W4 (Or.inl hne_q9n1_0_qa)
  have P7 : own_Go p e below S0 (T4.setTop (mkF m 19 #[.val (.ref q9n1_0), .val (.ref q9n1_1), .val (.ref qa), .val (.int (1 : Int32))] [(.int (2 : Int32)), (.ref q9n1_0)])) := fun t k => P4 t (by
    show Steps p.tables e below (T4.setTop (mkF m 15 #[.val (.ref q9n1_0), .val (.ref q9n1_1), .val (.ref qa), .val (.int (1 : Int32))] [])) t
    refine XS.aloadN X4.here hx rfl (hb hby d9_15) rfl rfl ?_
    refine XS.iloadN X4.here hx rfl (hb hby d9_16) rfl ?_
    refine XS.iconst X4.here hx rfl (hb hby d9_17) ?_
    refine XS.iadd X4.here hx rfl (hb hby d9_18) rfl ?_
    show Steps p.tables e below (T4.setTop (mkF m 19 #[.val (.ref q9n1_0), .val (.ref q9n1_1), .val (.ref qa), .val (.int (1 : Int32))] [(.int (2 : Int32)), (.ref q9n1_0)])) t
    exact k)
  obtain ⟨T8, h8, X8, e8, W8, st8⟩ := putF X4 hx hZ hown (host := "") (Or.inl (hw _ (List.mem_of_getElem? (i := 58) rfl))) Via.refl e4 F6 F5 (Or.inl (hw _ (List.mem_of_getElem? (i := 59) rfl))) (hw _ (List.mem_of_getElem? (i := 28) rfl)) (ty := .int) (by decide) rfl rfl (g := (mkF m 19 #[.val (.ref q9n1_0), .val (.ref q9n1_1), .val (.ref qa), .val (.int (1 : Int32))] [(.int (2 : Int32)), (.ref q9n1_0)])) rfl rfl (hb hby d9_19)
  have K8 : Keep h0 h8 [qa, q9n1_0] := K4.wr W8 (Or.inl (by simp))
  have N8 := Fr.snoc X8 N4 g_q9n1_0
  have F8w : Fld Z h8 q9n1_0 "java/util/ArrayList" "size" "I" (.int (2 : Int32)) := F6.same W8
  have P8 : own_Go p e below S0 (T8.setTop (mkF m 22 #[.val (.ref q9n1_0), .val (.ref q9n1_1), .val (.ref qa), .val (.int (1 : Int32))] [])) := fun t k => P7 t (st8 _ k)
  have F9 : Fld Z h4 q9n1_0 "java/util/AbstractList" "modCount" "I" (.int w9n1_q9n1_0_modCount) := F_q9n1_0_modCount.other W4 (Or.inl hne_q9n1_0_qa)
  have F10 : Fld Z h8 q9n1_0 "java/util/AbstractList" "modCount" "I" (.int w9n1_q9n1_0_modCount) := F9.other W8 (Or.inr (slot_ne (Or.inl (hw _ (List.mem_of_getElem? (i := 47) rfl))) (Or.inl (hw _ (List.mem_of_getElem? (i := 59) rfl))) (by decide) (t := .int) (t' := .int) (by decide) (by decide)))
  have F11 : Fld Z h4 q9n1_0 "java/util/ArrayList" "elementData" "[Ljava/lang/Object;" (.ref w9n1_q9n1_0_elementData) := F_q9n1_0_elementData.other W4 (Or.inl hne_q9n1_0_qa)
  have F12 : Fld Z h8 q9n1_0 "java/util/ArrayList" "elementData" "[Ljava/lang/Object;" (.ref w9n1_q9n1_0_elementData) := F11.other W8 (Or.inr (slot_ne (Or.inl (hw _ (List.mem_of_getElem? (i := 50) rfl))) (Or.inl (hw _ (List.mem_of_getElem? (i := 59) rfl))) (by decide) (t := (.array (.object "java/lang/Object"))) (t' := .int) (by decide) (by decide)))
  have F13 : Arv Z h8 qa qk (.object "java/lang/Object") (10 : Int32) [(.ref x0), (.ref q9n1_1), .null, .null, .null, .null, .null, .null, .null, .null] .null := V4.other W8 (Ne.symm hne_q9n1_0_qa)
  obtain ⟨fs, hr, hrun, hended, hW, hsame⟩ := X8.leave (v := none) (fun _ => rfl)
  refine ⟨_, _, own_from hS0 (P8 _ ?_), hrun, hended, _, _, rfl, ?_, ⟨_, rfl⟩, hW, hsame.mono (by decide) (by decide)⟩
  · show Steps p.tables e below (T8.setTop (mkF m 22 #[.val (.ref q9n1_0), .val (.ref q9n1_1), .val (.ref qa), .val (.int (1 : Int32))] [])) _
    exact X8.returnOut hx Bd.returns (hb hby d9_22) hr
  · show Q9n1 Z q9n1_0 q9n1_1 qa qk x0 w9n1_q9n1_0_modCount w9n1_q9n1_0_elementData h0 n0 _ T8.heap _
    rw [e8]
    exact ⟨rfl, N8, K8, F8w, F13, F10, F12⟩
theorem ef_8n1 (m : MethodId) (q8n1_0 : Addr) (q8n1_1 : Addr) : entryFrame m #[(.ref q8n1_0), (.ref q8n1_1)] 2 = mkF m 0 #[.val (.ref q8n1_0), .val (.ref q8n1_1)] [] := by first | (simp [entryFrame, mkF, argsToLocals, Value.category]; done) | rfl
def Q8n1 (Z : State) (q8n1_0 : Addr) (q8n1_1 : Addr) (qa : Addr) (qk : ClassId) (x0 : Addr) (w8n1_q8n1_0_modCount : Int32) (h0 : Heap) (n0 : Nat) (v : Option Value) (h : Heap) (L : List Loc) : Prop := v = some (.int (1 : Int32)) ∧ Fr n0 L ∧ Keep h0 h [q8n1_0, qa] ∧ Fld Z h q8n1_0 "java/util/ArrayList" "size" "I" (.int (2 : Int32)) ∧ Arv Z h qa qk (.object "java/lang/Object") (10 : Int32) [(.ref x0), (.ref q8n1_1), .null, .null, .null, .null, .null, .null, .null, .null] .null ∧ Fld Z h q8n1_0 "java/util/AbstractList" "modCount" "I" (.int (w8n1_q8n1_0_modCount + (1 : Int32))) ∧ Fld Z h q8n1_0 "java/util/ArrayList" "elementData" "[Ljava/lang/Object;" (.ref qa)
set_option maxRecDepth 65536 in
set_option maxHeartbeats 40000000 in
theorem rm8n1 (l : Launch) (Z : State) (a0 : Array Value) (hw : ∀ d ∈ tables_1, d.before a0 Z = true) (ws : List Jvm.Cond) (q8n1_0 : Addr) (q8n1_1 : Addr) (qa : Addr) (qk : ClassId) (x0 : Addr) (w8n1_q8n1_0_modCount : Int32) (h0 : Heap) (n0 : Nat) (Z0 : n0 ≤ h0.size) (F_q8n1_0_elementData : Fld Z h0 q8n1_0 "java/util/ArrayList" "elementData" "[Ljava/lang/Object;" (.ref qa)) (F_q8n1_0_size : Fld Z h0 q8n1_0 "java/util/ArrayList" "size" "I" (.int (1 : Int32))) (A_qa : Arv Z h0 qa qk (.object "java/lang/Object") (10 : Int32) [(.ref x0), .null, .null, .null, .null, .null, .null, .null, .null, .null] .null) (O_qa : Ovr Z qk "java/lang/Object") (E_q8n1_1 : Exa Z h0 q8n1_1 "com/example/penelope/penelope/program/Move") (F_q8n1_0_modCount : Fld Z h0 q8n1_0 "java/util/AbstractList" "modCount" "I" (.int w8n1_q8n1_0_modCount)) (E_q8n1_0 : Exa Z h0 q8n1_0 "java/util/ArrayList") (g_q8n1_0 : n0 ≤ q8n1_0) (hne_qa_q8n1_0 : qa ≠ q8n1_0) (g_qa : n0 ≤ qa) :
    MetFree l (⟨"java/util/ArrayList", "add", "(Ljava/lang/Object;)Z"⟩ : MethodName) (head1 (Jvm.Cond.code (⟨"java/util/ArrayList", "add", "(Ljava/lang/Object;)Z"⟩ : MethodName) jdk_38_method_25_code 2 (some .boolean) :: ws) ({ frames := 1, cells := 0, slots := 0, locals := 15 } : Room)) (fun a U => a = #[(.ref q8n1_0), (.ref q8n1_1)] ∧ Z.Warmed39 U.vm ∧ U.heap = h0) (fun _ _ _ _ _ => True) (fun _ U o U' => ∃ v L, o = .returned v ∧ Q8n1 Z q8n1_0 q8n1_1 qa qk x0 w8n1_q8n1_0_modCount h0 n0 v U'.heap L ∧ FrameEnd U o U' L ({ frames := 1, cells := 0, slots := 0, locals := 15 } : Room).cells ({ frames := 1, cells := 0, slots := 0, locals := 15 } : Room).slots) := by
  refine MetFree.of_bodySF (plainFor_of_name pn_5) hisR ?_
  intro p e s m args below meth c s₁ Bd hml0 hP hK
  obtain ⟨rfl, hZ, hh⟩ := hP
  have hx := Bd.exec
  have hby := Bd.bytes
  have hml : c.maxLocals = 2 := hml0
  have hown : s.vm.findClass "java/util/ArrayList" = some m.cls := findClass_of_methodNamed Bd.named
  have hnm := (name_of_methodNamed Bd.named Bd.method).1
  have X0 : Stand p l e ({ frames := 1, cells := 0, slots := 0, locals := 15 } : Room) s m #[(.ref q8n1_0), (.ref q8n1_1)] below meth c s₁ [] 0 0 := Stand.of_body Bd
  have e0 : s₁.heap = h0 := by rw [← hh, Bd.state]; rfl
  have N0 := Fr.nil n0
  obtain ⟨S0, hS0⟩ : ∃ z, z = s₁.setTop (entryFrame m #[(.ref q8n1_0), (.ref q8n1_1)] 2) := ⟨_, rfl⟩
  have P0 : own_Go p e below S0 (s₁.setTop (mkF m 0 #[.val (.ref q8n1_0), .val (.ref q8n1_1)] [])) := fun t k => by rw [hS0]; exact castTop (ef_8n1 m q8n1_0 q8n1_1) k
  have P1 : own_Go p e below S0 (s₁.setTop (mkF m 2 #[.val (.ref q8n1_0), .val (.ref q8n1_1)] [(.ref q8n1_0), (.ref q8n1_0)])) := fun t k => P0 t (by
    show Steps p.tables e below (s₁.setTop (mkF m 0 #[.val (.ref q8n1_0), .val (.ref q8n1_1)] [])) t
    refine XS.aloadN X0.here hx rfl (hb hby d8_0) rfl rfl ?_
    refine XS.dup X0.here hx rfl (hb hby d8_1) rfl rfl ?_
    show Steps p.tables e below (s₁.setTop (mkF m 2 #[.val (.ref q8n1_0), .val (.ref q8n1_1)] [(.ref q8n1_0), (.ref q8n1_0)])) t
    exact k)
  obtain ⟨T2, X2, e2, st2⟩ := getF X0 hx hZ hown (host := "") (Or.inl (hw _ (List.mem_of_getElem? (i := 56) rfl))) (Via.of (hw _ (List.mem_of_getElem? (i := 57) rfl))) e0 F_q8n1_0_modCount (g := (mkF m 2 #[.val (.ref q8n1_0), .val (.ref q8n1_1)] [(.ref q8n1_0), (.ref q8n1_0)])) rfl rfl (hb hby d8_2)
  have P2 : own_Go p e below S0 (T2.setTop (mkF m 5 #[.val (.ref q8n1_0), .val (.ref q8n1_1)] [(.int w8n1_q8n1_0_modCount), (.ref q8n1_0)])) := fun t k => P1 t (st2 _ k)
  have P3 : own_Go p e below S0 (T2.setTop (mkF m 7 #[.val (.ref q8n1_0), .val (.ref q8n1_1)] [(.int (w8n1_q8n1_0_modCount + (1 : Int32))), (.ref q8n1_0)])) := fun t k => P2 t (by
    show Steps p.tables e below (T2.setTop (mkF m 5 #[.val (.ref q8n1_0), .val (.ref q8n1_1)] [(.int w8n1_q8n1_0_modCount), (.ref q8n1_0)])) t
    refine XS.iconst X2.here hx rfl (hb hby d8_5) ?_
    refine XS.iadd X2.here hx rfl (hb hby d8_6) rfl ?_
    show Steps p.tables e below (T2.setTop (mkF m 7 #[.val (.ref q8n1_0), .val (.ref q8n1_1)] [(.int (w8n1_q8n1_0_modCount + (1 : Int32))), (.ref q8n1_0)])) t
    exact k)
  obtain ⟨T4, h4, X4, e4, W4, st4⟩ := putF X2 hx hZ hown (host := "") (Or.inl (hw _ (List.mem_of_getElem? (i := 56) rfl))) (Via.of (hw _ (List.mem_of_getElem? (i := 57) rfl))) e2 F_q8n1_0_modCount E_q8n1_0 (Or.inl (hw _ (List.mem_of_getElem? (i := 47) rfl))) (hw _ (List.mem_of_getElem? (i := 28) rfl)) (ty := .int) (by decide) rfl rfl (g := (mkF m 7 #[.val (.ref q8n1_0), .val (.ref q8n1_1)] [(.int (w8n1_q8n1_0_modCount + (1 : Int32))), (.ref q8n1_0)])) rfl rfl (hb hby d8_7)
  have K4 : Keep h0 h4 [q8n1_0, qa] := (Keep.refl h0 [q8n1_0, qa]).wr W4 (Or.inl (by simp))
  have N4 := Fr.snoc X4 N0 g_q8n1_0
  have F4w : Fld Z h4 q8n1_0 "java/util/AbstractList" "modCount" "I" (.int (w8n1_q8n1_0_modCount + (1 : Int32))) := F_q8n1_0_modCount.same W4
  have P4 : own_Go p e below S0 (T4.setTop (mkF m 10 #[.val (.ref q8n1_0), .val (.ref q8n1_1)] [])) := fun t k => P3 t (st4 _ k)
  have F5 : Fld Z h4 q8n1_0 "java/util/ArrayList" "elementData" "[Ljava/lang/Object;" (.ref qa) := F_q8n1_0_elementData.other W4 (Or.inr (slot_ne (Or.inl (hw _ (List.mem_of_getElem? (i := 50) rfl))) (Or.inl (hw _ (List.mem_of_getElem? (i := 47) rfl))) (by decide) (t := (.array (.object "java/lang/Object"))) (t' := .int) (by decide) (by decide)))
  have P6 : own_Go p e below S0 (T4.setTop (mkF m 13 #[.val (.ref q8n1_0), .val (.ref q8n1_1)] [(.ref q8n1_0), (.ref q8n1_1), (.ref q8n1_0)])) := fun t k => P4 t (by
    show Steps p.tables e below (T4.setTop (mkF m 10 #[.val (.ref q8n1_0), .val (.ref q8n1_1)] [])) t
    refine XS.aloadN X4.here hx rfl (hb hby d8_10) rfl rfl ?_
    refine XS.aloadN X4.here hx rfl (hb hby d8_11) rfl rfl ?_
    refine XS.aloadN X4.here hx rfl (hb hby d8_12) rfl rfl ?_
    show Steps p.tables e below (T4.setTop (mkF m 13 #[.val (.ref q8n1_0), .val (.ref q8n1_1)] [(.ref q8n1_0), (.ref q8n1_1), (.ref q8n1_0)])) t
    exact k)
  obtain ⟨T7, X7, e7, st7⟩ := getF X4 hx hZ hown (host := "") (Or.inl (hw _ (List.mem_of_getElem? (i := 49) rfl))) Via.refl e4 F5 (g := (mkF m 13 #[.val (.ref q8n1_0), .val (.ref q8n1_1)] [(.ref q8n1_0), (.ref q8n1_1), (.ref q8n1_0)])) rfl rfl (hb hby d8_13)
  have P7 : own_Go p e below S0 (T7.setTop (mkF m 16 #[.val (.ref q8n1_0), .val (.ref q8n1_1)] [(.ref qa), (.ref q8n1_1), (.ref q8n1_0)])) := fun t k => P6 t (st7 _ k)
  have F8 : Fld Z h4 q8n1_0 "java/util/ArrayList" "size" "I" (.int (1 : Int32)) := F_q8n1_0_size.other W4 (Or.inr (slot_ne (Or.inl (hw _ (List.mem_of_getElem? (i := 59) rfl))) (Or.inl (hw _ (List.mem_of_getElem? (i := 47) rfl))) (by decide) (t := .int) (t' := .int) (by decide) (by decide)))
  have P9 : own_Go p e below S0 (T7.setTop (mkF m 17 #[.val (.ref q8n1_0), .val (.ref q8n1_1)] [(.ref q8n1_0), (.ref qa), (.ref q8n1_1), (.ref q8n1_0)])) := fun t k => P7 t (by
    show Steps p.tables e below (T7.setTop (mkF m 16 #[.val (.ref q8n1_0), .val (.ref q8n1_1)] [(.ref qa), (.ref q8n1_1), (.ref q8n1_0)])) t
    refine XS.aloadN X7.here hx rfl (hb hby d8_16) rfl rfl ?_
    show Steps p.tables e below (T7.setTop (mkF m 17 #[.val (.ref q8n1_0), .val (.ref q8n1_1)] [(.ref q8n1_0), (.ref qa), (.ref q8n1_1), (.ref q8n1_0)])) t
    exact k)
  obtain ⟨T10, X10, e10, st10⟩ := getF X7 hx hZ hown (host := "") (Or.inl (hw _ (List.mem_of_getElem? (i := 58) rfl))) Via.refl e7 F8 (g := (mkF m 17 #[.val (.ref q8n1_0), .val (.ref q8n1_1)] [(.ref q8n1_0), (.ref qa), (.ref q8n1_1), (.ref q8n1_0)])) rfl rfl (hb hby d8_17)
  have P10 : own_Go p e below S0 (T10.setTop (mkF m 20 #[.val (.ref q8n1_0), .val (.ref q8n1_1)] [(.int (1 : Int32)), (.ref qa), (.ref q8n1_1), (.ref q8n1_0)])) := fun t k => P9 t (st10 _ k)
  have F11 : Arv Z h4 qa qk (.object "java/lang/Object") (10 : Int32) [(.ref x0), .null, .null, .null, .null, .null, .null, .null, .null, .null] .null := A_qa.other W4 hne_qa_q8n1_0
  have F12 : Exa Z h4 q8n1_1 "com/example/penelope/penelope/program/Move" := E_q8n1_1.wr W4
  have F13 : Exa Z h4 q8n1_0 "java/util/ArrayList" := E_q8n1_0.wr W4
  obtain ⟨cq14, q14, q14'⟩ := F13.cell
  obtain ⟨_, _, ⟨T14, L14, k14, n14⟩, -, X14, ⟨Lc14, hQ14, l14, y14, z14⟩, st14⟩ := X10.privateBack hx (y := (⟨"java/util/ArrayList", "add", "(Ljava/lang/Object;[Ljava/lang/Object;I)V"⟩ : MethodName)) hown (mvT hZ (hw _ (List.mem_of_getElem? (i := 60) rfl))) (mvT hZ (hw _ (List.mem_of_getElem? (i := 61) rfl))) (mvT hZ (hw _ (List.mem_of_getElem? (i := 63) rfl))) (Cond.privateMethod_at (mvP hZ (hw _ (List.mem_of_getElem? (i := 62) rfl)) (args := #[]))) (mvT hZ (hw _ (List.mem_of_getElem? (i := 64) rfl))) (by decide) (backOf (W := 0) (rm9n1 l Z a0 hw [] q8n1_0 q8n1_1 qa qk x0 (w8n1_q8n1_0_modCount + (1 : Int32)) qa h4 n0 (Nat.le_trans Z0 K4.1) F8 F11 O_qa F12 F4w F5 g_qa F13 (Ne.symm hne_qa_q8n1_0) g_q8n1_0) hZ (hw _ (List.mem_of_getElem? (i := 64) rfl)) (hw _ (List.mem_of_getElem? (i := 29) rfl)) (by decide) (by decide)) (g := (mkF m 20 #[.val (.ref q8n1_0), .val (.ref q8n1_1)] [(.int (1 : Int32)), (.ref qa), (.ref q8n1_1), (.ref q8n1_0)])) rfl (by rw [hml]; rfl) (Steps.refl _) (a := q8n1_0) (by rw [e10]; exact q14) q14' (argsL := [(.ref q8n1_1), (.ref qa), (.int (1 : Int32))]) (rest := []) (lenOf pd_5 rfl) rfl (by show 2 * 0 + _ ≤ _; exact Nat.le_of_eq rfl) (hb hby d8_20) (fun _ _ => ⟨rfl, e10, (by decide : 0 + 0 ≤ _), (by decide : 0 + 0 ≤ _)⟩)
  dsimp only [Pt.U, Pt.locs, Pt.cells, Pt.slots] at X14 l14 y14 z14 st14 hQ14
  subst l14 y14 z14
  obtain ⟨rfl, N14q, Kc14, F14_0, F14_1, F14_2, F14_3⟩ := hQ14
  have N14 := Fr.app N4 N14q
  have K14 : Keep h0 T14.heap [q8n1_0, qa] := Keep.trans K4 Kc14 (allS (Or.inl (by simp)) (allS (Or.inl (by simp)) all0))
  have P14 : own_Go p e below S0 (T14.setTop (mkF m 23 #[.val (.ref q8n1_0), .val (.ref q8n1_1)] [])) := fun t k => P10 t (st14.trans k)
  have P15 : own_Go p e below S0 (T14.setTop (mkF m 24 #[.val (.ref q8n1_0), .val (.ref q8n1_1)] [(.int (1 : Int32))])) := fun t k => P14 t (by
    show Steps p.tables e below (T14.setTop (mkF m 23 #[.val (.ref q8n1_0), .val (.ref q8n1_1)] [])) t
    refine XS.iconst X14.here hx rfl (hb hby d8_23) ?_
    show Steps p.tables e below (T14.setTop (mkF m 24 #[.val (.ref q8n1_0), .val (.ref q8n1_1)] [(.int (1 : Int32))])) t
    exact k)
  obtain ⟨fs, hr, hrun, hended, hW, hsame⟩ := X14.leave (v := some (.int (1 : Int32))) (fun h => by rw [Bd.returns] at h; cases h)
  refine ⟨_, _, own_from hS0 (P15 _ ?_), hrun, hended, _, _, rfl, ?_, ⟨_, rfl⟩, hW, hsame.mono (by decide) (by decide)⟩
  · show Steps p.tables e below (T14.setTop (mkF m 24 #[.val (.ref q8n1_0), .val (.ref q8n1_1)] [(.int (1 : Int32))])) _
    exact retN X14 hx (t := .boolean) Bd.returns (by simp) (hb hby d8_24) hr
  · show Q8n1 Z q8n1_0 q8n1_1 qa qk x0 w8n1_q8n1_0_modCount h0 n0 _ T14.heap _
    exact ⟨rfl, N14, K14, F14_0, F14_1, F14_2, F14_3⟩
theorem ef_9n2 (m : MethodId) (q9n2_0 : Addr) (q9n2_1 : Addr) (qa : Addr) : entryFrame m #[(.ref q9n2_0), (.ref q9n2_1), (.ref qa), (.int (2 : Int32))] 4 = mkF m 0 #[.val (.ref q9n2_0), .val (.ref q9n2_1), .val (.ref qa), .val (.int (2 : Int32))] [] := by first | (simp [entryFrame, mkF, argsToLocals, Value.category]; done) | rfl
def Q9n2 (Z : State) (q9n2_0 : Addr) (q9n2_1 : Addr) (qa : Addr) (qk : ClassId) (x0 : Addr) (x1 : Addr) (w9n2_q9n2_0_modCount : Int32) (w9n2_q9n2_0_elementData : Addr) (h0 : Heap) (n0 : Nat) (v : Option Value) (h : Heap) (L : List Loc) : Prop := v = none ∧ Fr n0 L ∧ Keep h0 h [qa, q9n2_0] ∧ Fld Z h q9n2_0 "java/util/ArrayList" "size" "I" (.int (3 : Int32)) ∧ Arv Z h qa qk (.object "java/lang/Object") (10 : Int32) [(.ref x0), (.ref x1), (.ref q9n2_1), .null, .null, .null, .null, .null, .null, .null] .null ∧ Fld Z h q9n2_0 "java/util/AbstractList" "modCount" "I" (.int w9n2_q9n2_0_modCount) ∧ Fld Z h q9n2_0 "java/util/ArrayList" "elementData" "[Ljava/lang/Object;" (.ref w9n2_q9n2_0_elementData)
set_option maxRecDepth 65536 in
set_option maxHeartbeats 40000000 in
theorem rm9n2 (l : Launch) (Z : State) (a0 : Array Value) (hw : ∀ d ∈ tables_1, d.before a0 Z = true) (ws : List Jvm.Cond) (q9n2_0 : Addr) (q9n2_1 : Addr) (qa : Addr) (qk : ClassId) (x0 : Addr) (x1 : Addr) (w9n2_q9n2_0_modCount : Int32) (w9n2_q9n2_0_elementData : Addr) (h0 : Heap) (n0 : Nat) (Z0 : n0 ≤ h0.size) (F_q9n2_0_size : Fld Z h0 q9n2_0 "java/util/ArrayList" "size" "I" (.int (2 : Int32))) (A_qa : Arv Z h0 qa qk (.object "java/lang/Object") (10 : Int32) [(.ref x0), (.ref x1), .null, .null, .null, .null, .null, .null, .null, .null] .null) (O_qa : Ovr Z qk "java/lang/Object") (E_q9n2_1 : Exa Z h0 q9n2_1 "com/example/penelope/penelope/program/Move") (F_q9n2_0_modCount : Fld Z h0 q9n2_0 "java/util/AbstractList" "modCount" "I" (.int w9n2_q9n2_0_modCount)) (F_q9n2_0_elementData : Fld Z h0 q9n2_0 "java/util/ArrayList" "elementData" "[Ljava/lang/Object;" (.ref w9n2_q9n2_0_elementData)) (g_qa : n0 ≤ qa) (E_q9n2_0 : Exa Z h0 q9n2_0 "java/util/ArrayList") (hne_q9n2_0_qa : q9n2_0 ≠ qa) (g_q9n2_0 : n0 ≤ q9n2_0) :
    MetFree l (⟨"java/util/ArrayList", "add", "(Ljava/lang/Object;[Ljava/lang/Object;I)V"⟩ : MethodName) (head1 (Jvm.Cond.code (⟨"java/util/ArrayList", "add", "(Ljava/lang/Object;[Ljava/lang/Object;I)V"⟩ : MethodName) jdk_38_method_24_code 4 none :: ws) ({ frames := 0, cells := 0, slots := 0, locals := 0 } : Room)) (fun a U => a = #[(.ref q9n2_0), (.ref q9n2_1), (.ref qa), (.int (2 : Int32))] ∧ Z.Warmed39 U.vm ∧ U.heap = h0) (fun _ _ _ _ _ => True) (fun _ U o U' => ∃ v L, o = .returned v ∧ Q9n2 Z q9n2_0 q9n2_1 qa qk x0 x1 w9n2_q9n2_0_modCount w9n2_q9n2_0_elementData h0 n0 v U'.heap L ∧ FrameEnd U o U' L ({ frames := 0, cells := 0, slots := 0, locals := 0 } : Room).cells ({ frames := 0, cells := 0, slots := 0, locals := 0 } : Room).slots) := by
  refine MetFree.of_bodySF (plainFor_of_name pn_5) hisR ?_
  intro p e s m args below meth c s₁ Bd hml0 hP hK
  obtain ⟨rfl, hZ, hh⟩ := hP
  have hx := Bd.exec
  have hby := Bd.bytes
  have hml : c.maxLocals = 4 := hml0
  have hown : s.vm.findClass "java/util/ArrayList" = some m.cls := findClass_of_methodNamed Bd.named
  have hnm := (name_of_methodNamed Bd.named Bd.method).1
  have X0 : Stand p l e ({ frames := 0, cells := 0, slots := 0, locals := 0 } : Room) s m #[(.ref q9n2_0), (.ref q9n2_1), (.ref qa), (.int (2 : Int32))] below meth c s₁ [] 0 0 := Stand.of_body Bd
  have e0 : s₁.heap = h0 := by rw [← hh, Bd.state]; rfl
  have N0 := Fr.nil n0
  obtain ⟨S0, hS0⟩ : ∃ z, z = s₁.setTop (entryFrame m #[(.ref q9n2_0), (.ref q9n2_1), (.ref qa), (.int (2 : Int32))] 4) := ⟨_, rfl⟩
  have P0 : own_Go p e below S0 (s₁.setTop (mkF m 0 #[.val (.ref q9n2_0), .val (.ref q9n2_1), .val (.ref qa), .val (.int (2 : Int32))] [])) := fun t k => by rw [hS0]; exact castTop (ef_9n2 m q9n2_0 q9n2_1 qa) k
  obtain ⟨cl1, Ar1, q1, Sz1, Nn1, Hh1, Gg1⟩ := id A_qa
  have P3 : own_Go p e below S0 (s₁.setTop (mkF m 14 #[.val (.ref q9n2_0), .val (.ref q9n2_1), .val (.ref qa), .val (.int (2 : Int32))] [(.ref q9n2_1), (.int (2 : Int32)), (.ref qa)])) := fun t k => P0 t (by
    show Steps p.tables e below (s₁.setTop (mkF m 0 #[.val (.ref q9n2_0), .val (.ref q9n2_1), .val (.ref qa), .val (.int (2 : Int32))] [])) t
    refine XS.iloadN X0.here hx rfl (hb hby d9_0) rfl ?_
    refine XS.aloadN X0.here hx rfl (hb hby d9_1) rfl rfl ?_
    show Steps p.tables e below (s₁.setTop (mkF m 2 #[.val (.ref q9n2_0), .val (.ref q9n2_1), .val (.ref qa), .val (.int (2 : Int32))] [(.ref qa), (.int (2 : Int32))])) t
    refine X0.arraylength hx (by rw [e0]; exact Ar1.1) (State.isArrayOf_alike hZ.alike Ar1.2.1) (g := (mkF m 2 #[.val (.ref q9n2_0), .val (.ref q9n2_1), .val (.ref qa), .val (.int (2 : Int32))] [(.ref qa), (.int (2 : Int32))])) rfl rfl (hb hby d9_2) _ ?_
    rw [len_of Sz1 Nn1]
    refine XS.icmpYes X0.here hx rfl (pc0 := 3) (pc' := 11) rfl (hb hby d9_3) rfl (feq (by decide)).2 (by decide) (by decide) ?_
    refine XS.aloadN X0.here hx rfl (hb hby d9_11) rfl rfl ?_
    refine XS.iloadN X0.here hx rfl (hb hby d9_12) rfl ?_
    show Steps p.tables e below (s₁.setTop (mkF m 13 #[.val (.ref q9n2_0), .val (.ref q9n2_1), .val (.ref qa), .val (.int (2 : Int32))] [(.int (2 : Int32)), (.ref qa)])) t
    refine XS.aloadN X0.here hx rfl (hb hby d9_13) rfl rfl ?_
    show Steps p.tables e below (s₁.setTop (mkF m 14 #[.val (.ref q9n2_0), .val (.ref q9n2_1), .val (.ref qa), .val (.int (2 : Int32))] [(.ref q9n2_1), (.int (2 : Int32)), (.ref qa)])) t
    exact k)
  obtain ⟨cl2, Ar2, q2, Sz2, Nn2, Hh2, Gg2⟩ := id A_qa
  have hin2 : ¬ ((2 : Int32) < 0 ∨ cl2.slots.size ≤ ((2 : Int32)).toNatClampNeg) := inb_of Sz2 ⟨by decide, by decide⟩
  obtain ⟨T4, h4, X4, e4, W4, st4⟩ := stR X0 hx hZ e0 Ar2 (j := (2 : Int32)) hin2 rfl (Sto.ofV Ar2 q2 O_qa (Ins.of_exa E_q9n2_1 (hw _ (List.mem_of_getElem? (i := 81) rfl)))) (g := (mkF m 14 #[.val (.ref q9n2_0), .val (.ref q9n2_1), .val (.ref qa), .val (.int (2 : Int32))] [(.ref q9n2_1), (.int (2 : Int32)), (.ref qa)])) rfl rfl (hb hby d9_14)
  have K4 : Keep h0 h4 [qa, q9n2_0] := (Keep.refl h0 [qa, q9n2_0]).wr W4 (Or.inl (by simp))
  have N4 := Fr.snoc X4 N0 g_qa
  have V4 : Arv Z h4 qa qk (.object "java/lang/Object") (10 : Int32) [(.ref x0), (.ref x1), (.ref q9n2_1), .null, .null, .null, .null, .null, .null, .null] .null := Arv.set Ar2 q2 Sz2 Nn2 Hh2 Gg2 rfl W4 2 rfl (Nat.le_of_ble_eq_true rfl)
  have P4 : own_Go p e below S0 (T4.setTop (mkF m 15 #[.val (.ref q9n2_0), .val (.ref q9n2_1), .val (.ref qa), .val (.int (2 : Int32))] [])) := fun t k => P3 t (st4 _ k)
  have F5 : Exa Z h4 q9n2_0 "java/util/ArrayList" := E_q9n2_0.wr W4
  have F6 : Fld Z h4 q9n2_0 "java/util/ArrayList" "size" "I" (.int (2 : Int32)) := F_q9n2_0_size.other W4 (Or.inl hne_q9n2_0_qa)
  have P7 : own_Go p e below S0 (T4.setTop (mkF m 19 #[.val (.ref q9n2_0), .val (.ref q9n2_1), .val (.ref qa), .val (.int (2 : Int32))] [(.int (3 : Int32)), (.ref q9n2_0)])) := fun t k => P4 t (by
    show Steps p.tables e below (T4.setTop (mkF m 15 #[.val (.ref q9n2_0), .val (.ref q9n2_1), .val (.ref qa), .val (.int (2 : Int32))] [])) t
    refine XS.aloadN X4.here hx rfl (hb hby d9_15) rfl rfl ?_
    refine XS.iloadN X4.here hx rfl (hb hby d9_16) rfl ?_
    refine XS.iconst X4.here hx rfl (hb hby d9_17) ?_
    refine XS.iadd X4.here hx rfl (hb hby d9_18) rfl ?_
    show Steps p.tables e below (T4.setTop (mkF m 19 #[.val (.ref q9n2_0), .val (.ref q9n2_1), .val (.ref qa), .val (.int (2 : Int32))] [(.int (3 : Int32)), (.ref q9n2_0)])) t
    exact k)
  obtain ⟨T8, h8, X8, e8, W8, st8⟩ := putF X4 hx hZ hown (host := "") (Or.inl (hw _ (List.mem_of_getElem? (i := 58) rfl))) Via.refl e4 F6 F5 (Or.inl (hw _ (List.mem_of_getElem? (i := 59) rfl))) (hw _ (List.mem_of_getElem? (i := 28) rfl)) (ty := .int) (by decide) rfl rfl (g := (mkF m 19 #[.val (.ref q9n2_0), .val (.ref q9n2_1), .val (.ref qa), .val (.int (2 : Int32))] [(.int (3 : Int32)), (.ref q9n2_0)])) rfl rfl (hb hby d9_19)
  have K8 : Keep h0 h8 [qa, q9n2_0] := K4.wr W8 (Or.inl (by simp))
  have N8 := Fr.snoc X8 N4 g_q9n2_0
  have F8w : Fld Z h8 q9n2_0 "java/util/ArrayList" "size" "I" (.int (3 : Int32)) := F6.same W8
  have P8 : own_Go p e below S0 (T8.setTop (mkF m 22 #[.val (.ref q9n2_0), .val (.ref q9n2_1), .val (.ref qa), .val (.int (2 : Int32))] [])) := fun t k => P7 t (st8 _ k)
  have F9 : Fld Z h4 q9n2_0 "java/util/AbstractList" "modCount" "I" (.int w9n2_q9n2_0_modCount) := F_q9n2_0_modCount.other W4 (Or.inl hne_q9n2_0_qa)
  have F10 : Fld Z h8 q9n2_0 "java/util/AbstractList" "modCount" "I" (.int w9n2_q9n2_0_modCount) := F9.other W8 (Or.inr (slot_ne (Or.inl (hw _ (List.mem_of_getElem? (i := 47) rfl))) (Or.inl (hw _ (List.mem_of_getElem? (i := 59) rfl))) (by decide) (t := .int) (t' := .int) (by decide) (by decide)))
  have F11 : Fld Z h4 q9n2_0 "java/util/ArrayList" "elementData" "[Ljava/lang/Object;" (.ref w9n2_q9n2_0_elementData) := F_q9n2_0_elementData.other W4 (Or.inl hne_q9n2_0_qa)
  have F12 : Fld Z h8 q9n2_0 "java/util/ArrayList" "elementData" "[Ljava/lang/Object;" (.ref w9n2_q9n2_0_elementData) := F11.other W8 (Or.inr (slot_ne (Or.inl (hw _ (List.mem_of_getElem? (i := 50) rfl))) (Or.inl (hw _ (List.mem_of_getElem? (i := 59) rfl))) (by decide) (t := (.array (.object "java/lang/Object"))) (t' := .int) (by decide) (by decide)))
  have F13 : Arv Z h8 qa qk (.object "java/lang/Object") (10 : Int32) [(.ref x0), (.ref x1), (.ref q9n2_1), .null, .null, .null, .null, .null, .null, .null] .null := V4.other W8 (Ne.symm hne_q9n2_0_qa)
  obtain ⟨fs, hr, hrun, hended, hW, hsame⟩ := X8.leave (v := none) (fun _ => rfl)
  refine ⟨_, _, own_from hS0 (P8 _ ?_), hrun, hended, _, _, rfl, ?_, ⟨_, rfl⟩, hW, hsame.mono (by decide) (by decide)⟩
  · show Steps p.tables e below (T8.setTop (mkF m 22 #[.val (.ref q9n2_0), .val (.ref q9n2_1), .val (.ref qa), .val (.int (2 : Int32))] [])) _
    exact X8.returnOut hx Bd.returns (hb hby d9_22) hr
  · show Q9n2 Z q9n2_0 q9n2_1 qa qk x0 x1 w9n2_q9n2_0_modCount w9n2_q9n2_0_elementData h0 n0 _ T8.heap _
    rw [e8]
    exact ⟨rfl, N8, K8, F8w, F13, F10, F12⟩
theorem ef_8n2 (m : MethodId) (q8n2_0 : Addr) (q8n2_1 : Addr) : entryFrame m #[(.ref q8n2_0), (.ref q8n2_1)] 2 = mkF m 0 #[.val (.ref q8n2_0), .val (.ref q8n2_1)] [] := by first | (simp [entryFrame, mkF, argsToLocals, Value.category]; done) | rfl
def Q8n2 (Z : State) (q8n2_0 : Addr) (q8n2_1 : Addr) (qa : Addr) (qk : ClassId) (x0 : Addr) (x1 : Addr) (w8n2_q8n2_0_modCount : Int32) (h0 : Heap) (n0 : Nat) (v : Option Value) (h : Heap) (L : List Loc) : Prop := v = some (.int (1 : Int32)) ∧ Fr n0 L ∧ Keep h0 h [q8n2_0, qa] ∧ Fld Z h q8n2_0 "java/util/ArrayList" "size" "I" (.int (3 : Int32)) ∧ Arv Z h qa qk (.object "java/lang/Object") (10 : Int32) [(.ref x0), (.ref x1), (.ref q8n2_1), .null, .null, .null, .null, .null, .null, .null] .null ∧ Fld Z h q8n2_0 "java/util/AbstractList" "modCount" "I" (.int (w8n2_q8n2_0_modCount + (1 : Int32))) ∧ Fld Z h q8n2_0 "java/util/ArrayList" "elementData" "[Ljava/lang/Object;" (.ref qa)
set_option maxRecDepth 65536 in
set_option maxHeartbeats 40000000 in
theorem rm8n2 (l : Launch) (Z : State) (a0 : Array Value) (hw : ∀ d ∈ tables_1, d.before a0 Z = true) (ws : List Jvm.Cond) (q8n2_0 : Addr) (q8n2_1 : Addr) (qa : Addr) (qk : ClassId) (x0 : Addr) (x1 : Addr) (w8n2_q8n2_0_modCount : Int32) (h0 : Heap) (n0 : Nat) (Z0 : n0 ≤ h0.size) (F_q8n2_0_elementData : Fld Z h0 q8n2_0 "java/util/ArrayList" "elementData" "[Ljava/lang/Object;" (.ref qa)) (F_q8n2_0_size : Fld Z h0 q8n2_0 "java/util/ArrayList" "size" "I" (.int (2 : Int32))) (A_qa : Arv Z h0 qa qk (.object "java/lang/Object") (10 : Int32) [(.ref x0), (.ref x1), .null, .null, .null, .null, .null, .null, .null, .null] .null) (O_qa : Ovr Z qk "java/lang/Object") (E_q8n2_1 : Exa Z h0 q8n2_1 "com/example/penelope/penelope/program/Move") (F_q8n2_0_modCount : Fld Z h0 q8n2_0 "java/util/AbstractList" "modCount" "I" (.int w8n2_q8n2_0_modCount)) (E_q8n2_0 : Exa Z h0 q8n2_0 "java/util/ArrayList") (g_q8n2_0 : n0 ≤ q8n2_0) (hne_qa_q8n2_0 : qa ≠ q8n2_0) (g_qa : n0 ≤ qa) :
    MetFree l (⟨"java/util/ArrayList", "add", "(Ljava/lang/Object;)Z"⟩ : MethodName) (head1 (Jvm.Cond.code (⟨"java/util/ArrayList", "add", "(Ljava/lang/Object;)Z"⟩ : MethodName) jdk_38_method_25_code 2 (some .boolean) :: ws) ({ frames := 1, cells := 0, slots := 0, locals := 15 } : Room)) (fun a U => a = #[(.ref q8n2_0), (.ref q8n2_1)] ∧ Z.Warmed39 U.vm ∧ U.heap = h0) (fun _ _ _ _ _ => True) (fun _ U o U' => ∃ v L, o = .returned v ∧ Q8n2 Z q8n2_0 q8n2_1 qa qk x0 x1 w8n2_q8n2_0_modCount h0 n0 v U'.heap L ∧ FrameEnd U o U' L ({ frames := 1, cells := 0, slots := 0, locals := 15 } : Room).cells ({ frames := 1, cells := 0, slots := 0, locals := 15 } : Room).slots) := by
  refine MetFree.of_bodySF (plainFor_of_name pn_5) hisR ?_
  intro p e s m args below meth c s₁ Bd hml0 hP hK
  obtain ⟨rfl, hZ, hh⟩ := hP
  have hx := Bd.exec
  have hby := Bd.bytes
  have hml : c.maxLocals = 2 := hml0
  have hown : s.vm.findClass "java/util/ArrayList" = some m.cls := findClass_of_methodNamed Bd.named
  have hnm := (name_of_methodNamed Bd.named Bd.method).1
  have X0 : Stand p l e ({ frames := 1, cells := 0, slots := 0, locals := 15 } : Room) s m #[(.ref q8n2_0), (.ref q8n2_1)] below meth c s₁ [] 0 0 := Stand.of_body Bd
  have e0 : s₁.heap = h0 := by rw [← hh, Bd.state]; rfl
  have N0 := Fr.nil n0
  obtain ⟨S0, hS0⟩ : ∃ z, z = s₁.setTop (entryFrame m #[(.ref q8n2_0), (.ref q8n2_1)] 2) := ⟨_, rfl⟩
  have P0 : own_Go p e below S0 (s₁.setTop (mkF m 0 #[.val (.ref q8n2_0), .val (.ref q8n2_1)] [])) := fun t k => by rw [hS0]; exact castTop (ef_8n2 m q8n2_0 q8n2_1) k
  have P1 : own_Go p e below S0 (s₁.setTop (mkF m 2 #[.val (.ref q8n2_0), .val (.ref q8n2_1)] [(.ref q8n2_0), (.ref q8n2_0)])) := fun t k => P0 t (by
    show Steps p.tables e below (s₁.setTop (mkF m 0 #[.val (.ref q8n2_0), .val (.ref q8n2_1)] [])) t
    refine XS.aloadN X0.here hx rfl (hb hby d8_0) rfl rfl ?_
    refine XS.dup X0.here hx rfl (hb hby d8_1) rfl rfl ?_
    show Steps p.tables e below (s₁.setTop (mkF m 2 #[.val (.ref q8n2_0), .val (.ref q8n2_1)] [(.ref q8n2_0), (.ref q8n2_0)])) t
    exact k)
  obtain ⟨T2, X2, e2, st2⟩ := getF X0 hx hZ hown (host := "") (Or.inl (hw _ (List.mem_of_getElem? (i := 56) rfl))) (Via.of (hw _ (List.mem_of_getElem? (i := 57) rfl))) e0 F_q8n2_0_modCount (g := (mkF m 2 #[.val (.ref q8n2_0), .val (.ref q8n2_1)] [(.ref q8n2_0), (.ref q8n2_0)])) rfl rfl (hb hby d8_2)
  have P2 : own_Go p e below S0 (T2.setTop (mkF m 5 #[.val (.ref q8n2_0), .val (.ref q8n2_1)] [(.int w8n2_q8n2_0_modCount), (.ref q8n2_0)])) := fun t k => P1 t (st2 _ k)
  have P3 : own_Go p e below S0 (T2.setTop (mkF m 7 #[.val (.ref q8n2_0), .val (.ref q8n2_1)] [(.int (w8n2_q8n2_0_modCount + (1 : Int32))), (.ref q8n2_0)])) := fun t k => P2 t (by
    show Steps p.tables e below (T2.setTop (mkF m 5 #[.val (.ref q8n2_0), .val (.ref q8n2_1)] [(.int w8n2_q8n2_0_modCount), (.ref q8n2_0)])) t
    refine XS.iconst X2.here hx rfl (hb hby d8_5) ?_
    refine XS.iadd X2.here hx rfl (hb hby d8_6) rfl ?_
    show Steps p.tables e below (T2.setTop (mkF m 7 #[.val (.ref q8n2_0), .val (.ref q8n2_1)] [(.int (w8n2_q8n2_0_modCount + (1 : Int32))), (.ref q8n2_0)])) t
    exact k)
  obtain ⟨T4, h4, X4, e4, W4, st4⟩ := putF X2 hx hZ hown (host := "") (Or.inl (hw _ (List.mem_of_getElem? (i := 56) rfl))) (Via.of (hw _ (List.mem_of_getElem? (i := 57) rfl))) e2 F_q8n2_0_modCount E_q8n2_0 (Or.inl (hw _ (List.mem_of_getElem? (i := 47) rfl))) (hw _ (List.mem_of_getElem? (i := 28) rfl)) (ty := .int) (by decide) rfl rfl (g := (mkF m 7 #[.val (.ref q8n2_0), .val (.ref q8n2_1)] [(.int (w8n2_q8n2_0_modCount + (1 : Int32))), (.ref q8n2_0)])) rfl rfl (hb hby d8_7)
  have K4 : Keep h0 h4 [q8n2_0, qa] := (Keep.refl h0 [q8n2_0, qa]).wr W4 (Or.inl (by simp))
  have N4 := Fr.snoc X4 N0 g_q8n2_0
  have F4w : Fld Z h4 q8n2_0 "java/util/AbstractList" "modCount" "I" (.int (w8n2_q8n2_0_modCount + (1 : Int32))) := F_q8n2_0_modCount.same W4
  have P4 : own_Go p e below S0 (T4.setTop (mkF m 10 #[.val (.ref q8n2_0), .val (.ref q8n2_1)] [])) := fun t k => P3 t (st4 _ k)
  have F5 : Fld Z h4 q8n2_0 "java/util/ArrayList" "elementData" "[Ljava/lang/Object;" (.ref qa) := F_q8n2_0_elementData.other W4 (Or.inr (slot_ne (Or.inl (hw _ (List.mem_of_getElem? (i := 50) rfl))) (Or.inl (hw _ (List.mem_of_getElem? (i := 47) rfl))) (by decide) (t := (.array (.object "java/lang/Object"))) (t' := .int) (by decide) (by decide)))
  have P6 : own_Go p e below S0 (T4.setTop (mkF m 13 #[.val (.ref q8n2_0), .val (.ref q8n2_1)] [(.ref q8n2_0), (.ref q8n2_1), (.ref q8n2_0)])) := fun t k => P4 t (by
    show Steps p.tables e below (T4.setTop (mkF m 10 #[.val (.ref q8n2_0), .val (.ref q8n2_1)] [])) t
    refine XS.aloadN X4.here hx rfl (hb hby d8_10) rfl rfl ?_
    refine XS.aloadN X4.here hx rfl (hb hby d8_11) rfl rfl ?_
    refine XS.aloadN X4.here hx rfl (hb hby d8_12) rfl rfl ?_
    show Steps p.tables e below (T4.setTop (mkF m 13 #[.val (.ref q8n2_0), .val (.ref q8n2_1)] [(.ref q8n2_0), (.ref q8n2_1), (.ref q8n2_0)])) t
    exact k)
  obtain ⟨T7, X7, e7, st7⟩ := getF X4 hx hZ hown (host := "") (Or.inl (hw _ (List.mem_of_getElem? (i := 49) rfl))) Via.refl e4 F5 (g := (mkF m 13 #[.val (.ref q8n2_0), .val (.ref q8n2_1)] [(.ref q8n2_0), (.ref q8n2_1), (.ref q8n2_0)])) rfl rfl (hb hby d8_13)
  have P7 : own_Go p e below S0 (T7.setTop (mkF m 16 #[.val (.ref q8n2_0), .val (.ref q8n2_1)] [(.ref qa), (.ref q8n2_1), (.ref q8n2_0)])) := fun t k => P6 t (st7 _ k)
  have F8 : Fld Z h4 q8n2_0 "java/util/ArrayList" "size" "I" (.int (2 : Int32)) := F_q8n2_0_size.other W4 (Or.inr (slot_ne (Or.inl (hw _ (List.mem_of_getElem? (i := 59) rfl))) (Or.inl (hw _ (List.mem_of_getElem? (i := 47) rfl))) (by decide) (t := .int) (t' := .int) (by decide) (by decide)))
  have P9 : own_Go p e below S0 (T7.setTop (mkF m 17 #[.val (.ref q8n2_0), .val (.ref q8n2_1)] [(.ref q8n2_0), (.ref qa), (.ref q8n2_1), (.ref q8n2_0)])) := fun t k => P7 t (by
    show Steps p.tables e below (T7.setTop (mkF m 16 #[.val (.ref q8n2_0), .val (.ref q8n2_1)] [(.ref qa), (.ref q8n2_1), (.ref q8n2_0)])) t
    refine XS.aloadN X7.here hx rfl (hb hby d8_16) rfl rfl ?_
    show Steps p.tables e below (T7.setTop (mkF m 17 #[.val (.ref q8n2_0), .val (.ref q8n2_1)] [(.ref q8n2_0), (.ref qa), (.ref q8n2_1), (.ref q8n2_0)])) t
    exact k)
  obtain ⟨T10, X10, e10, st10⟩ := getF X7 hx hZ hown (host := "") (Or.inl (hw _ (List.mem_of_getElem? (i := 58) rfl))) Via.refl e7 F8 (g := (mkF m 17 #[.val (.ref q8n2_0), .val (.ref q8n2_1)] [(.ref q8n2_0), (.ref qa), (.ref q8n2_1), (.ref q8n2_0)])) rfl rfl (hb hby d8_17)
  have P10 : own_Go p e below S0 (T10.setTop (mkF m 20 #[.val (.ref q8n2_0), .val (.ref q8n2_1)] [(.int (2 : Int32)), (.ref qa), (.ref q8n2_1), (.ref q8n2_0)])) := fun t k => P9 t (st10 _ k)
  have F11 : Arv Z h4 qa qk (.object "java/lang/Object") (10 : Int32) [(.ref x0), (.ref x1), .null, .null, .null, .null, .null, .null, .null, .null] .null := A_qa.other W4 hne_qa_q8n2_0
  have F12 : Exa Z h4 q8n2_1 "com/example/penelope/penelope/program/Move" := E_q8n2_1.wr W4
  have F13 : Exa Z h4 q8n2_0 "java/util/ArrayList" := E_q8n2_0.wr W4
  obtain ⟨cq14, q14, q14'⟩ := F13.cell
  obtain ⟨_, _, ⟨T14, L14, k14, n14⟩, -, X14, ⟨Lc14, hQ14, l14, y14, z14⟩, st14⟩ := X10.privateBack hx (y := (⟨"java/util/ArrayList", "add", "(Ljava/lang/Object;[Ljava/lang/Object;I)V"⟩ : MethodName)) hown (mvT hZ (hw _ (List.mem_of_getElem? (i := 60) rfl))) (mvT hZ (hw _ (List.mem_of_getElem? (i := 61) rfl))) (mvT hZ (hw _ (List.mem_of_getElem? (i := 63) rfl))) (Cond.privateMethod_at (mvP hZ (hw _ (List.mem_of_getElem? (i := 62) rfl)) (args := #[]))) (mvT hZ (hw _ (List.mem_of_getElem? (i := 64) rfl))) (by decide) (backOf (W := 0) (rm9n2 l Z a0 hw [] q8n2_0 q8n2_1 qa qk x0 x1 (w8n2_q8n2_0_modCount + (1 : Int32)) qa h4 n0 (Nat.le_trans Z0 K4.1) F8 F11 O_qa F12 F4w F5 g_qa F13 (Ne.symm hne_qa_q8n2_0) g_q8n2_0) hZ (hw _ (List.mem_of_getElem? (i := 64) rfl)) (hw _ (List.mem_of_getElem? (i := 29) rfl)) (by decide) (by decide)) (g := (mkF m 20 #[.val (.ref q8n2_0), .val (.ref q8n2_1)] [(.int (2 : Int32)), (.ref qa), (.ref q8n2_1), (.ref q8n2_0)])) rfl (by rw [hml]; rfl) (Steps.refl _) (a := q8n2_0) (by rw [e10]; exact q14) q14' (argsL := [(.ref q8n2_1), (.ref qa), (.int (2 : Int32))]) (rest := []) (lenOf pd_5 rfl) rfl (by show 2 * 0 + _ ≤ _; exact Nat.le_of_eq rfl) (hb hby d8_20) (fun _ _ => ⟨rfl, e10, (by decide : 0 + 0 ≤ _), (by decide : 0 + 0 ≤ _)⟩)
  dsimp only [Pt.U, Pt.locs, Pt.cells, Pt.slots] at X14 l14 y14 z14 st14 hQ14
  subst l14 y14 z14
  obtain ⟨rfl, N14q, Kc14, F14_0, F14_1, F14_2, F14_3⟩ := hQ14
  have N14 := Fr.app N4 N14q
  have K14 : Keep h0 T14.heap [q8n2_0, qa] := Keep.trans K4 Kc14 (allS (Or.inl (by simp)) (allS (Or.inl (by simp)) all0))
  have P14 : own_Go p e below S0 (T14.setTop (mkF m 23 #[.val (.ref q8n2_0), .val (.ref q8n2_1)] [])) := fun t k => P10 t (st14.trans k)
  have P15 : own_Go p e below S0 (T14.setTop (mkF m 24 #[.val (.ref q8n2_0), .val (.ref q8n2_1)] [(.int (1 : Int32))])) := fun t k => P14 t (by
    show Steps p.tables e below (T14.setTop (mkF m 23 #[.val (.ref q8n2_0), .val (.ref q8n2_1)] [])) t
    refine XS.iconst X14.here hx rfl (hb hby d8_23) ?_
    show Steps p.tables e below (T14.setTop (mkF m 24 #[.val (.ref q8n2_0), .val (.ref q8n2_1)] [(.int (1 : Int32))])) t
    exact k)
  obtain ⟨fs, hr, hrun, hended, hW, hsame⟩ := X14.leave (v := some (.int (1 : Int32))) (fun h => by rw [Bd.returns] at h; cases h)
  refine ⟨_, _, own_from hS0 (P15 _ ?_), hrun, hended, _, _, rfl, ?_, ⟨_, rfl⟩, hW, hsame.mono (by decide) (by decide)⟩
  · show Steps p.tables e below (T14.setTop (mkF m 24 #[.val (.ref q8n2_0), .val (.ref q8n2_1)] [(.int (1 : Int32))])) _
    exact retN X14 hx (t := .boolean) Bd.returns (by simp) (hb hby d8_24) hr
  · show Q8n2 Z q8n2_0 q8n2_1 qa qk x0 x1 w8n2_q8n2_0_modCount h0 n0 _ T14.heap _
    exact ⟨rfl, N14, K14, F14_0, F14_1, F14_2, F14_3⟩
theorem pn_14 : plainName "java/util/List" = true := by first | (simp [plainName, overriddenIn]; done) | decide +kernel
theorem d14_0 : decode jdk_40_method_36_code 0 = .ok (.getstatic 90, 3) := by decide +kernel
theorem d14_3 : decode jdk_40_method_36_code 3 = .ok (.areturn, 1) := by decide +kernel
theorem ef_14 (m : MethodId)  : entryFrame m #[] 0 = mkF m 0 #[] [] := by first | (simp [entryFrame, mkF, argsToLocals, Value.category]; done) | rfl
def Q14 (Z : State) (z14_EMPTY_LIST : Addr) (h0 : Heap) (n0 : Nat) (v : Option Value) (h : Heap) (L : List Loc) : Prop := v = some (.ref z14_EMPTY_LIST) ∧ Fr n0 L ∧ h = h0
set_option maxRecDepth 65536 in
set_option maxHeartbeats 40000000 in
theorem rm14 (l : Launch) (Z : State) (a0 : Array Value) (hw : ∀ d ∈ tables_1, d.before a0 Z = true) (ws : List Jvm.Cond) (z14_EMPTY_LIST : Addr) (h0 : Heap) (n0 : Nat) (Z0 : n0 ≤ h0.size) (S_EMPTY_LIST : Sta Z h0 "java/util/ImmutableCollections" "EMPTY_LIST" "Ljava/util/ImmutableCollections$ListN;" (.ref z14_EMPTY_LIST)) :
    MetFree l (⟨"java/util/List", "of", "()Ljava/util/List;"⟩ : MethodName) (head1 (Jvm.Cond.code (⟨"java/util/List", "of", "()Ljava/util/List;"⟩ : MethodName) jdk_40_method_36_code 0 (some (.object "java/util/List")) :: ws) ({ frames := 0, cells := 0, slots := 0, locals := 0 } : Room)) (fun a U => a = #[] ∧ Z.Warmed39 U.vm ∧ U.heap = h0) (fun _ _ _ _ _ => True) (fun _ U o U' => ∃ v L, o = .returned v ∧ Q14 Z z14_EMPTY_LIST h0 n0 v U'.heap L ∧ FrameEnd U o U' L ({ frames := 0, cells := 0, slots := 0, locals := 0 } : Room).cells ({ frames := 0, cells := 0, slots := 0, locals := 0 } : Room).slots) := by
  refine MetFree.of_bodySF (plainFor_of_name pn_14) hisR ?_
  intro p e s m args below meth c s₁ Bd hml0 hP hK
  obtain ⟨rfl, hZ, hh⟩ := hP
  have hx := Bd.exec
  have hby := Bd.bytes
  have hml : c.maxLocals = 0 := hml0
  have hown : s.vm.findClass "java/util/List" = some m.cls := findClass_of_methodNamed Bd.named
  have hnm := (name_of_methodNamed Bd.named Bd.method).1
  have X0 : Stand p l e ({ frames := 0, cells := 0, slots := 0, locals := 0 } : Room) s m #[] below meth c s₁ [] 0 0 := Stand.of_body Bd
  have e0 : s₁.heap = h0 := by rw [← hh, Bd.state]; rfl
  have N0 := Fr.nil n0
  obtain ⟨S0, hS0⟩ : ∃ z, z = s₁.setTop (entryFrame m #[] 0) := ⟨_, rfl⟩
  have P0 : own_Go p e below S0 (s₁.setTop (mkF m 0 #[] [])) := fun t k => by rw [hS0]; exact castTop (ef_14 m ) k
  obtain ⟨T1, X1, e1, st1⟩ := getS2 X0 hx hZ hown (host := "") (Or.inl (hw _ (List.mem_of_getElem? (i := 92) rfl))) Via.refl e0 S_EMPTY_LIST (g := (mkF m 0 #[] [])) rfl (hb hby d14_0)
  have P1 : own_Go p e below S0 (T1.setTop (mkF m 3 #[] [(.ref z14_EMPTY_LIST)])) := fun t k => P0 t (st1 _ k)
  obtain ⟨fs, hr, hrun, hended, hW, hsame⟩ := X1.leave (v := some (.ref z14_EMPTY_LIST)) (fun h => by rw [Bd.returns] at h; cases h)
  refine ⟨_, _, own_from hS0 (P1 _ ?_), hrun, hended, _, _, rfl, ?_, ⟨_, rfl⟩, hW, hsame.mono (by decide) (by decide)⟩
  · show Steps p.tables e below (T1.setTop (mkF m 3 #[] [(.ref z14_EMPTY_LIST)])) _
    jvm_step X1.here [X1.here.top, hx, (hb hby d14_3), X1.method', Bd.returns, Value.isRef, FieldType.isReference]
    first | (intro acts; rw [hr _ acts rfl rfl rfl]) | rw [hr _ _ rfl rfl rfl]
    exact Steps.refl _
  · show Q14 Z z14_EMPTY_LIST h0 n0 _ T1.heap _
    rw [e1]
    exact ⟨rfl, N0, rfl⟩
theorem pn_15 : plainName "com/example/penelope/penelope/program/Expansion" = true := by first | (simp [plainName, overriddenIn]; done) | decide +kernel
theorem d15_0 : decode prog_88_method_2_code 0 = .ok (.aload_n 0, 1) := by decide +kernel
theorem d15_1 : decode prog_88_method_2_code 1 = .ok (.invokespecial 13, 3) := by decide +kernel
theorem d15_4 : decode prog_88_method_2_code 4 = .ok (.aload_n 0, 1) := by decide +kernel
theorem d15_5 : decode prog_88_method_2_code 5 = .ok (.aload_n 1, 1) := by decide +kernel
theorem d15_6 : decode prog_88_method_2_code 6 = .ok (.putfield 18, 3) := by decide +kernel
theorem d15_9 : decode prog_88_method_2_code 9 = .ok (.aload_n 0, 1) := by decide +kernel
theorem d15_10 : decode prog_88_method_2_code 10 = .ok (.aload_n 2, 1) := by decide +kernel
theorem d15_11 : decode prog_88_method_2_code 11 = .ok (.putfield 22, 3) := by decide +kernel
theorem d15_14 : decode prog_88_method_2_code 14 = .ok (.aload_n 0, 1) := by decide +kernel
theorem d15_15 : decode prog_88_method_2_code 15 = .ok (.aload_n 3, 1) := by decide +kernel
theorem d15_16 : decode prog_88_method_2_code 16 = .ok (.putfield 25, 3) := by decide +kernel
theorem d15_19 : decode prog_88_method_2_code 19 = .ok (.aload_n 0, 1) := by decide +kernel
theorem d15_20 : decode prog_88_method_2_code 20 = .ok (.iload 4, 2) := by decide +kernel
theorem d15_22 : decode prog_88_method_2_code 22 = .ok (.putfield 29, 3) := by decide +kernel
theorem d15_25 : decode prog_88_method_2_code 25 = .ok (.return_, 1) := by decide +kernel
theorem ef_15 (m : MethodId) (q15_0 : Addr) (q15_1 : Addr) (q15_2 : Addr) (q15_4 : Int32) : entryFrame m #[(.ref q15_0), (.ref q15_1), (.ref q15_2), .null, (.int q15_4)] 5 = mkF m 0 #[.val (.ref q15_0), .val (.ref q15_1), .val (.ref q15_2), .val .null, .val (.int q15_4)] [] := by first | (simp [entryFrame, mkF, argsToLocals, Value.category]; done) | rfl
def Q15 (Z : State) (q15_0 : Addr) (q15_1 : Addr) (q15_2 : Addr) (q15_4 : Int32) (u15_q15_0_moves : Value) (u15_q15_0_movesAfterClaim : Value) (u15_q15_0_faultAfterClaim : Value) (u15_q15_0_transientState : Value) (h0 : Heap) (n0 : Nat) (v : Option Value) (h : Heap) (L : List Loc) : Prop := v = none ∧ Fr n0 L ∧ Keep h0 h [q15_0] ∧ Fld Z h q15_0 "com/example/penelope/penelope/program/Expansion" "moves" "Ljava/util/List;" (.ref q15_1) ∧ Fld Z h q15_0 "com/example/penelope/penelope/program/Expansion" "movesAfterClaim" "Ljava/util/List;" (.ref q15_2) ∧ Fld Z h q15_0 "com/example/penelope/penelope/program/Expansion" "faultAfterClaim" "Lcom/example/penelope/penelope/program/Fault;" .null ∧ Fld Z h q15_0 "com/example/penelope/penelope/program/Expansion" "transientState" "Z" (.int (nar .boolean q15_4))
set_option maxRecDepth 65536 in
set_option maxHeartbeats 40000000 in
theorem rm15 (l : Launch) (Z : State) (a0 : Array Value) (hw : ∀ d ∈ tables_1, d.before a0 Z = true) (ws : List Jvm.Cond) (q15_0 : Addr) (q15_1 : Addr) (q15_2 : Addr) (q15_4 : Int32) (u15_q15_0_moves : Value) (u15_q15_0_movesAfterClaim : Value) (u15_q15_0_faultAfterClaim : Value) (u15_q15_0_transientState : Value) (h0 : Heap) (n0 : Nat) (Z0 : n0 ≤ h0.size) (E_q15_0 : Exa Z h0 q15_0 "com/example/penelope/penelope/program/Expansion") (F_q15_0_moves : Fld Z h0 q15_0 "com/example/penelope/penelope/program/Expansion" "moves" "Ljava/util/List;" u15_q15_0_moves) (g_q15_0 : n0 ≤ q15_0) (F_q15_0_movesAfterClaim : Fld Z h0 q15_0 "com/example/penelope/penelope/program/Expansion" "movesAfterClaim" "Ljava/util/List;" u15_q15_0_movesAfterClaim) (F_q15_0_faultAfterClaim : Fld Z h0 q15_0 "com/example/penelope/penelope/program/Expansion" "faultAfterClaim" "Lcom/example/penelope/penelope/program/Fault;" u15_q15_0_faultAfterClaim) (F_q15_0_transientState : Fld Z h0 q15_0 "com/example/penelope/penelope/program/Expansion" "transientState" "Z" u15_q15_0_transientState) :
    MetFree l (⟨"com/example/penelope/penelope/program/Expansion", "<init>", "(Ljava/util/List;Ljava/util/List;Lcom/example/penelope/penelope/program/Fault;Z)V"⟩ : MethodName) (head1 (Jvm.Cond.code (⟨"com/example/penelope/penelope/program/Expansion", "<init>", "(Ljava/util/List;Ljava/util/List;Lcom/example/penelope/penelope/program/Fault;Z)V"⟩ : MethodName) prog_88_method_2_code 5 none :: ws) ({ frames := 1, cells := 0, slots := 0, locals := 12 } : Room)) (fun a U => a = #[(.ref q15_0), (.ref q15_1), (.ref q15_2), .null, (.int q15_4)] ∧ Z.Warmed39 U.vm ∧ U.heap = h0) (fun _ _ _ _ _ => True) (fun _ U o U' => ∃ v L, o = .returned v ∧ Q15 Z q15_0 q15_1 q15_2 q15_4 u15_q15_0_moves u15_q15_0_movesAfterClaim u15_q15_0_faultAfterClaim u15_q15_0_transientState h0 n0 v U'.heap L ∧ FrameEnd U o U' L ({ frames := 1, cells := 0, slots := 0, locals := 12 } : Room).cells ({ frames := 1, cells := 0, slots := 0, locals := 12 } : Room).slots) := by
  refine MetFree.of_bodySF (plainFor_of_name pn_15) hisR ?_
  intro p e s m args below meth c s₁ Bd hml0 hP hK
  obtain ⟨rfl, hZ, hh⟩ := hP
  have hx := Bd.exec
  have hby := Bd.bytes
  have hml : c.maxLocals = 5 := hml0
  have hown : s.vm.findClass "com/example/penelope/penelope/program/Expansion" = some m.cls := findClass_of_methodNamed Bd.named
  have hnm := (name_of_methodNamed Bd.named Bd.method).1
  have X0 : Stand p l e ({ frames := 1, cells := 0, slots := 0, locals := 12 } : Room) s m #[(.ref q15_0), (.ref q15_1), (.ref q15_2), .null, (.int q15_4)] below meth c s₁ [] 0 0 := Stand.of_body Bd
  have e0 : s₁.heap = h0 := by rw [← hh, Bd.state]; rfl
  have N0 := Fr.nil n0
  obtain ⟨S0, hS0⟩ : ∃ z, z = s₁.setTop (entryFrame m #[(.ref q15_0), (.ref q15_1), (.ref q15_2), .null, (.int q15_4)] 5) := ⟨_, rfl⟩
  have P0 : own_Go p e below S0 (s₁.setTop (mkF m 0 #[.val (.ref q15_0), .val (.ref q15_1), .val (.ref q15_2), .val .null, .val (.int q15_4)] [])) := fun t k => by rw [hS0]; exact castTop (ef_15 m q15_0 q15_1 q15_2 q15_4) k
  have P1 : own_Go p e below S0 (s₁.setTop (mkF m 1 #[.val (.ref q15_0), .val (.ref q15_1), .val (.ref q15_2), .val .null, .val (.int q15_4)] [(.ref q15_0)])) := fun t k => P0 t (by
    show Steps p.tables e below (s₁.setTop (mkF m 0 #[.val (.ref q15_0), .val (.ref q15_1), .val (.ref q15_2), .val .null, .val (.int q15_4)] [])) t
    refine XS.aloadN X0.here hx rfl (hb hby d15_0) rfl rfl ?_
    show Steps p.tables e below (s₁.setTop (mkF m 1 #[.val (.ref q15_0), .val (.ref q15_1), .val (.ref q15_2), .val .null, .val (.int q15_4)] [(.ref q15_0)])) t
    exact k)
  obtain ⟨T2, X2, e2, st2⟩ := initO X0 hx hZ hown (hw _ (List.mem_of_getElem? (i := 97) rfl)) (hw _ (List.mem_of_getElem? (i := 10) rfl)) (hw _ (List.mem_of_getElem? (i := 11) rfl)) e0 (g := (mkF m 1 #[.val (.ref q15_0), .val (.ref q15_1), .val (.ref q15_2), .val .null, .val (.int q15_4)] [(.ref q15_0)])) rfl (by rw [hml]; rfl) rfl (hb hby d15_1) (by decide) (W := 0) (by show 2 * 0 + _ ≤ _; exact Nat.le_of_eq rfl) (by decide)
  have P2 : own_Go p e below S0 (T2.setTop (mkF m 4 #[.val (.ref q15_0), .val (.ref q15_1), .val (.ref q15_2), .val .null, .val (.int q15_4)] [])) := fun t k => P1 t (st2 _ k)
  have P3 : own_Go p e below S0 (T2.setTop (mkF m 6 #[.val (.ref q15_0), .val (.ref q15_1), .val (.ref q15_2), .val .null, .val (.int q15_4)] [(.ref q15_1), (.ref q15_0)])) := fun t k => P2 t (by
    show Steps p.tables e below (T2.setTop (mkF m 4 #[.val (.ref q15_0), .val (.ref q15_1), .val (.ref q15_2), .val .null, .val (.int q15_4)] [])) t
    refine XS.aloadN X2.here hx rfl (hb hby d15_4) rfl rfl ?_
    refine XS.aloadN X2.here hx rfl (hb hby d15_5) rfl rfl ?_
    show Steps p.tables e below (T2.setTop (mkF m 6 #[.val (.ref q15_0), .val (.ref q15_1), .val (.ref q15_2), .val .null, .val (.int q15_4)] [(.ref q15_1), (.ref q15_0)])) t
    exact k)
  obtain ⟨T4, h4, X4, e4, W4, st4⟩ := putF X2 hx hZ hown (host := "") (Or.inl (hw _ (List.mem_of_getElem? (i := 98) rfl))) Via.refl e2 F_q15_0_moves E_q15_0 (Or.inr ⟨(hw _ (List.mem_of_getElem? (i := 99) rfl)), rfl, hnm⟩) (hw _ (List.mem_of_getElem? (i := 83) rfl)) (ty := (.object "java/util/List")) (by decide) rfl rfl (g := (mkF m 6 #[.val (.ref q15_0), .val (.ref q15_1), .val (.ref q15_2), .val .null, .val (.int q15_4)] [(.ref q15_1), (.ref q15_0)])) rfl rfl (hb hby d15_6)
  have K4 : Keep h0 h4 [q15_0] := (Keep.refl h0 [q15_0]).wr W4 (Or.inl (by simp))
  have N4 := Fr.snoc X4 N0 g_q15_0
  have F4w : Fld Z h4 q15_0 "com/example/penelope/penelope/program/Expansion" "moves" "Ljava/util/List;" (.ref q15_1) := F_q15_0_moves.same W4
  have P4 : own_Go p e below S0 (T4.setTop (mkF m 9 #[.val (.ref q15_0), .val (.ref q15_1), .val (.ref q15_2), .val .null, .val (.int q15_4)] [])) := fun t k => P3 t (st4 _ k)
  have F5 : Exa Z h4 q15_0 "com/example/penelope/penelope/program/Expansion" := E_q15_0.wr W4
  have F6 : Fld Z h4 q15_0 "com/example/penelope/penelope/program/Expansion" "movesAfterClaim" "Ljava/util/List;" u15_q15_0_movesAfterClaim := F_q15_0_movesAfterClaim.other W4 (Or.inr (slot_ne (Or.inr (hw _ (List.mem_of_getElem? (i := 101) rfl))) (Or.inr (hw _ (List.mem_of_getElem? (i := 99) rfl))) (by decide) (t := (.object "java/util/List")) (t' := (.object "java/util/List")) (by decide) (by decide)))
  have P7 : own_Go p e below S0 (T4.setTop (mkF m 11 #[.val (.ref q15_0), .val (.ref q15_1), .val (.ref q15_2), .val .null, .val (.int q15_4)] [(.ref q15_2), (.ref q15_0)])) := fun t k => P4 t (by
    show Steps p.tables e below (T4.setTop (mkF m 9 #[.val (.ref q15_0), .val (.ref q15_1), .val (.ref q15_2), .val .null, .val (.int q15_4)] [])) t
    refine XS.aloadN X4.here hx rfl (hb hby d15_9) rfl rfl ?_
    refine XS.aloadN X4.here hx rfl (hb hby d15_10) rfl rfl ?_
    show Steps p.tables e below (T4.setTop (mkF m 11 #[.val (.ref q15_0), .val (.ref q15_1), .val (.ref q15_2), .val .null, .val (.int q15_4)] [(.ref q15_2), (.ref q15_0)])) t
    exact k)
  obtain ⟨T8, h8, X8, e8, W8, st8⟩ := putF X4 hx hZ hown (host := "") (Or.inl (hw _ (List.mem_of_getElem? (i := 100) rfl))) Via.refl e4 F6 F5 (Or.inr ⟨(hw _ (List.mem_of_getElem? (i := 101) rfl)), rfl, hnm⟩) (hw _ (List.mem_of_getElem? (i := 83) rfl)) (ty := (.object "java/util/List")) (by decide) rfl rfl (g := (mkF m 11 #[.val (.ref q15_0), .val (.ref q15_1), .val (.ref q15_2), .val .null, .val (.int q15_4)] [(.ref q15_2), (.ref q15_0)])) rfl rfl (hb hby d15_11)
  have K8 : Keep h0 h8 [q15_0] := K4.wr W8 (Or.inl (by simp))
  have N8 := Fr.snoc X8 N4 g_q15_0
  have F8w : Fld Z h8 q15_0 "com/example/penelope/penelope/program/Expansion" "movesAfterClaim" "Ljava/util/List;" (.ref q15_2) := F6.same W8
  have P8 : own_Go p e below S0 (T8.setTop (mkF m 14 #[.val (.ref q15_0), .val (.ref q15_1), .val (.ref q15_2), .val .null, .val (.int q15_4)] [])) := fun t k => P7 t (st8 _ k)
  have F9 : Exa Z h8 q15_0 "com/example/penelope/penelope/program/Expansion" := F5.wr W8
  have F10 : Fld Z h4 q15_0 "com/example/penelope/penelope/program/Expansion" "faultAfterClaim" "Lcom/example/penelope/penelope/program/Fault;" u15_q15_0_faultAfterClaim := F_q15_0_faultAfterClaim.other W4 (Or.inr (slot_ne (Or.inr (hw _ (List.mem_of_getElem? (i := 103) rfl))) (Or.inr (hw _ (List.mem_of_getElem? (i := 99) rfl))) (by decide) (t := (.object "com/example/penelope/penelope/program/Fault")) (t' := (.object "java/util/List")) (by decide) (by decide)))
  have F11 : Fld Z h8 q15_0 "com/example/penelope/penelope/program/Expansion" "faultAfterClaim" "Lcom/example/penelope/penelope/program/Fault;" u15_q15_0_faultAfterClaim := F10.other W8 (Or.inr (slot_ne (Or.inr (hw _ (List.mem_of_getElem? (i := 103) rfl))) (Or.inr (hw _ (List.mem_of_getElem? (i := 101) rfl))) (by decide) (t := (.object "com/example/penelope/penelope/program/Fault")) (t' := (.object "java/util/List")) (by decide) (by decide)))
  have P12 : own_Go p e below S0 (T8.setTop (mkF m 16 #[.val (.ref q15_0), .val (.ref q15_1), .val (.ref q15_2), .val .null, .val (.int q15_4)] [.null, (.ref q15_0)])) := fun t k => P8 t (by
    show Steps p.tables e below (T8.setTop (mkF m 14 #[.val (.ref q15_0), .val (.ref q15_1), .val (.ref q15_2), .val .null, .val (.int q15_4)] [])) t
    refine XS.aloadN X8.here hx rfl (hb hby d15_14) rfl rfl ?_
    refine XS.aloadN X8.here hx rfl (hb hby d15_15) rfl rfl ?_
    show Steps p.tables e below (T8.setTop (mkF m 16 #[.val (.ref q15_0), .val (.ref q15_1), .val (.ref q15_2), .val .null, .val (.int q15_4)] [.null, (.ref q15_0)])) t
    exact k)
  obtain ⟨T13, h13, X13, e13, W13, st13⟩ := putF X8 hx hZ hown (host := "") (Or.inl (hw _ (List.mem_of_getElem? (i := 102) rfl))) Via.refl e8 F11 F9 (Or.inr ⟨(hw _ (List.mem_of_getElem? (i := 103) rfl)), rfl, hnm⟩) (hw _ (List.mem_of_getElem? (i := 83) rfl)) (ty := (.object "com/example/penelope/penelope/program/Fault")) (by decide) rfl rfl (g := (mkF m 16 #[.val (.ref q15_0), .val (.ref q15_1), .val (.ref q15_2), .val .null, .val (.int q15_4)] [.null, (.ref q15_0)])) rfl rfl (hb hby d15_16)
  have K13 : Keep h0 h13 [q15_0] := K8.wr W13 (Or.inl (by simp))
  have N13 := Fr.snoc X13 N8 g_q15_0
  have F13w : Fld Z h13 q15_0 "com/example/penelope/penelope/program/Expansion" "faultAfterClaim" "Lcom/example/penelope/penelope/program/Fault;" .null := F11.same W13
  have P13 : own_Go p e below S0 (T13.setTop (mkF m 19 #[.val (.ref q15_0), .val (.ref q15_1), .val (.ref q15_2), .val .null, .val (.int q15_4)] [])) := fun t k => P12 t (st13 _ k)
  have F14 : Exa Z h13 q15_0 "com/example/penelope/penelope/program/Expansion" := F9.wr W13
  have F15 : Fld Z h4 q15_0 "com/example/penelope/penelope/program/Expansion" "transientState" "Z" u15_q15_0_transientState := F_q15_0_transientState.other W4 (Or.inr (slot_ne (Or.inr (hw _ (List.mem_of_getElem? (i := 105) rfl))) (Or.inr (hw _ (List.mem_of_getElem? (i := 99) rfl))) (by decide) (t := .boolean) (t' := (.object "java/util/List")) (by decide) (by decide)))
  have F16 : Fld Z h8 q15_0 "com/example/penelope/penelope/program/Expansion" "transientState" "Z" u15_q15_0_transientState := F15.other W8 (Or.inr (slot_ne (Or.inr (hw _ (List.mem_of_getElem? (i := 105) rfl))) (Or.inr (hw _ (List.mem_of_getElem? (i := 101) rfl))) (by decide) (t := .boolean) (t' := (.object "java/util/List")) (by decide) (by decide)))
  have F17 : Fld Z h13 q15_0 "com/example/penelope/penelope/program/Expansion" "transientState" "Z" u15_q15_0_transientState := F16.other W13 (Or.inr (slot_ne (Or.inr (hw _ (List.mem_of_getElem? (i := 105) rfl))) (Or.inr (hw _ (List.mem_of_getElem? (i := 103) rfl))) (by decide) (t := .boolean) (t' := (.object "com/example/penelope/penelope/program/Fault")) (by decide) (by decide)))
  have P18 : own_Go p e below S0 (T13.setTop (mkF m 22 #[.val (.ref q15_0), .val (.ref q15_1), .val (.ref q15_2), .val .null, .val (.int q15_4)] [(.int q15_4), (.ref q15_0)])) := fun t k => P13 t (by
    show Steps p.tables e below (T13.setTop (mkF m 19 #[.val (.ref q15_0), .val (.ref q15_1), .val (.ref q15_2), .val .null, .val (.int q15_4)] [])) t
    refine XS.aloadN X13.here hx rfl (hb hby d15_19) rfl rfl ?_
    refine XS.iload X13.here hx rfl (hb hby d15_20) rfl ?_
    show Steps p.tables e below (T13.setTop (mkF m 22 #[.val (.ref q15_0), .val (.ref q15_1), .val (.ref q15_2), .val .null, .val (.int q15_4)] [(.int q15_4), (.ref q15_0)])) t
    exact k)
  obtain ⟨T19, h19, X19, e19, W19, st19⟩ := putFN X13 hx hZ hown (hw _ (List.mem_of_getElem? (i := 104) rfl)) Via.refl e13 F17 F14 (Or.inr ⟨(hw _ (List.mem_of_getElem? (i := 105) rfl)), rfl, hnm⟩) (hw _ (List.mem_of_getElem? (i := 83) rfl)) (ty := .boolean) (v' := (.int (nar .boolean q15_4))) (by decide) rfl (fits_nar_bool _) (g := (mkF m 22 #[.val (.ref q15_0), .val (.ref q15_1), .val (.ref q15_2), .val .null, .val (.int q15_4)] [(.int q15_4), (.ref q15_0)])) rfl rfl (hb hby d15_22)
  have K19 : Keep h0 h19 [q15_0] := K13.wr W19 (Or.inl (by simp))
  have N19 := Fr.snoc X19 N13 g_q15_0
  have F19w : Fld Z h19 q15_0 "com/example/penelope/penelope/program/Expansion" "transientState" "Z" (.int (nar .boolean q15_4)) := F17.same W19
  have P19 : own_Go p e below S0 (T19.setTop (mkF m 25 #[.val (.ref q15_0), .val (.ref q15_1), .val (.ref q15_2), .val .null, .val (.int q15_4)] [])) := fun t k => P18 t (st19 _ k)
  have F20 : Fld Z h8 q15_0 "com/example/penelope/penelope/program/Expansion" "moves" "Ljava/util/List;" (.ref q15_1) := F4w.other W8 (Or.inr (slot_ne (Or.inr (hw _ (List.mem_of_getElem? (i := 99) rfl))) (Or.inr (hw _ (List.mem_of_getElem? (i := 101) rfl))) (by decide) (t := (.object "java/util/List")) (t' := (.object "java/util/List")) (by decide) (by decide)))
  have F21 : Fld Z h13 q15_0 "com/example/penelope/penelope/program/Expansion" "moves" "Ljava/util/List;" (.ref q15_1) := F20.other W13 (Or.inr (slot_ne (Or.inr (hw _ (List.mem_of_getElem? (i := 99) rfl))) (Or.inr (hw _ (List.mem_of_getElem? (i := 103) rfl))) (by decide) (t := (.object "java/util/List")) (t' := (.object "com/example/penelope/penelope/program/Fault")) (by decide) (by decide)))
  have F22 : Fld Z h19 q15_0 "com/example/penelope/penelope/program/Expansion" "moves" "Ljava/util/List;" (.ref q15_1) := F21.other W19 (Or.inr (slot_ne (Or.inr (hw _ (List.mem_of_getElem? (i := 99) rfl))) (Or.inr (hw _ (List.mem_of_getElem? (i := 105) rfl))) (by decide) (t := (.object "java/util/List")) (t' := .boolean) (by decide) (by decide)))
  have F23 : Fld Z h13 q15_0 "com/example/penelope/penelope/program/Expansion" "movesAfterClaim" "Ljava/util/List;" (.ref q15_2) := F8w.other W13 (Or.inr (slot_ne (Or.inr (hw _ (List.mem_of_getElem? (i := 101) rfl))) (Or.inr (hw _ (List.mem_of_getElem? (i := 103) rfl))) (by decide) (t := (.object "java/util/List")) (t' := (.object "com/example/penelope/penelope/program/Fault")) (by decide) (by decide)))
  have F24 : Fld Z h19 q15_0 "com/example/penelope/penelope/program/Expansion" "movesAfterClaim" "Ljava/util/List;" (.ref q15_2) := F23.other W19 (Or.inr (slot_ne (Or.inr (hw _ (List.mem_of_getElem? (i := 101) rfl))) (Or.inr (hw _ (List.mem_of_getElem? (i := 105) rfl))) (by decide) (t := (.object "java/util/List")) (t' := .boolean) (by decide) (by decide)))
  have F25 : Fld Z h19 q15_0 "com/example/penelope/penelope/program/Expansion" "faultAfterClaim" "Lcom/example/penelope/penelope/program/Fault;" .null := F13w.other W19 (Or.inr (slot_ne (Or.inr (hw _ (List.mem_of_getElem? (i := 103) rfl))) (Or.inr (hw _ (List.mem_of_getElem? (i := 105) rfl))) (by decide) (t := (.object "com/example/penelope/penelope/program/Fault")) (t' := .boolean) (by decide) (by decide)))
  obtain ⟨fs, hr, hrun, hended, hW, hsame⟩ := X19.leave (v := none) (fun _ => rfl)
  refine ⟨_, _, own_from hS0 (P19 _ ?_), hrun, hended, _, _, rfl, ?_, ⟨_, rfl⟩, hW, hsame.mono (by decide) (by decide)⟩
  · show Steps p.tables e below (T19.setTop (mkF m 25 #[.val (.ref q15_0), .val (.ref q15_1), .val (.ref q15_2), .val .null, .val (.int q15_4)] [])) _
    exact X19.returnOut hx Bd.returns (hb hby d15_25) hr
  · show Q15 Z q15_0 q15_1 q15_2 q15_4 u15_q15_0_moves u15_q15_0_movesAfterClaim u15_q15_0_faultAfterClaim u15_q15_0_transientState h0 n0 _ T19.heap _
    rw [e19]
    exact ⟨rfl, N19, K19, F22, F24, F25, F19w⟩
theorem pd_6 : parseMethodDescriptor "()Ljava/util/List;" = some ⟨[], some (.object "java/util/List")⟩ := by decide +kernel
theorem pd_7 : parseMethodDescriptor "(Ljava/util/List;Ljava/util/List;Lcom/example/penelope/penelope/program/Fault;Z)V" = some ⟨[(.object "java/util/List"), (.object "java/util/List"), (.object "com/example/penelope/penelope/program/Fault"), .boolean], none⟩ := by decide +kernel
theorem d13_0 : decode prog_88_method_1_code 0 = .ok (.aload_n 0, 1) := by decide +kernel
theorem d13_1 : decode prog_88_method_1_code 1 = .ok (.aload_n 1, 1) := by decide +kernel
theorem d13_2 : decode prog_88_method_1_code 2 = .ok (.invokestatic 1, 3) := by decide +kernel
theorem d13_5 : decode prog_88_method_1_code 5 = .ok (.aconst_null, 1) := by decide +kernel
theorem d13_6 : decode prog_88_method_1_code 6 = .ok (.iload_n 2, 1) := by decide +kernel
theorem d13_7 : decode prog_88_method_1_code 7 = .ok (.invokespecial 7, 3) := by decide +kernel
theorem d13_10 : decode prog_88_method_1_code 10 = .ok (.return_, 1) := by decide +kernel
theorem ef_13 (m : MethodId) (q13_0 : Addr) (q13_1 : Addr) (q13_2 : Int32) : entryFrame m #[(.ref q13_0), (.ref q13_1), (.int q13_2)] 3 = mkF m 0 #[.val (.ref q13_0), .val (.ref q13_1), .val (.int q13_2)] [] := by first | (simp [entryFrame, mkF, argsToLocals, Value.category]; done) | rfl
def Q13 (Z : State) (q13_0 : Addr) (q13_1 : Addr) (q13_2 : Int32) (z13_EMPTY_LIST : Addr) (u13_q13_0_moves : Value) (u13_q13_0_movesAfterClaim : Value) (u13_q13_0_faultAfterClaim : Value) (u13_q13_0_transientState : Value) (h0 : Heap) (n0 : Nat) (v : Option Value) (h : Heap) (L : List Loc) : Prop := v = none ∧ Fr n0 L ∧ Keep h0 h [q13_0] ∧ Fld Z h q13_0 "com/example/penelope/penelope/program/Expansion" "moves" "Ljava/util/List;" (.ref q13_1) ∧ Fld Z h q13_0 "com/example/penelope/penelope/program/Expansion" "movesAfterClaim" "Ljava/util/List;" (.ref z13_EMPTY_LIST) ∧ Fld Z h q13_0 "com/example/penelope/penelope/program/Expansion" "faultAfterClaim" "Lcom/example/penelope/penelope/program/Fault;" .null ∧ Fld Z h q13_0 "com/example/penelope/penelope/program/Expansion" "transientState" "Z" (.int (nar .boolean q13_2))
set_option maxRecDepth 65536 in
set_option maxHeartbeats 40000000 in
theorem rm13 (l : Launch) (Z : State) (a0 : Array Value) (hw : ∀ d ∈ tables_1, d.before a0 Z = true) (ws : List Jvm.Cond) (q13_0 : Addr) (q13_1 : Addr) (q13_2 : Int32) (z13_EMPTY_LIST : Addr) (u13_q13_0_moves : Value) (u13_q13_0_movesAfterClaim : Value) (u13_q13_0_faultAfterClaim : Value) (u13_q13_0_transientState : Value) (h0 : Heap) (n0 : Nat) (Z0 : n0 ≤ h0.size) (S_EMPTY_LIST : Sta Z h0 "java/util/ImmutableCollections" "EMPTY_LIST" "Ljava/util/ImmutableCollections$ListN;" (.ref z13_EMPTY_LIST)) (E_q13_0 : Exa Z h0 q13_0 "com/example/penelope/penelope/program/Expansion") (F_q13_0_moves : Fld Z h0 q13_0 "com/example/penelope/penelope/program/Expansion" "moves" "Ljava/util/List;" u13_q13_0_moves) (g_q13_0 : n0 ≤ q13_0) (F_q13_0_movesAfterClaim : Fld Z h0 q13_0 "com/example/penelope/penelope/program/Expansion" "movesAfterClaim" "Ljava/util/List;" u13_q13_0_movesAfterClaim) (F_q13_0_faultAfterClaim : Fld Z h0 q13_0 "com/example/penelope/penelope/program/Expansion" "faultAfterClaim" "Lcom/example/penelope/penelope/program/Fault;" u13_q13_0_faultAfterClaim) (F_q13_0_transientState : Fld Z h0 q13_0 "com/example/penelope/penelope/program/Expansion" "transientState" "Z" u13_q13_0_transientState) :
    MetFree l (⟨"com/example/penelope/penelope/program/Expansion", "<init>", "(Ljava/util/List;Z)V"⟩ : MethodName) (head1 (Jvm.Cond.code (⟨"com/example/penelope/penelope/program/Expansion", "<init>", "(Ljava/util/List;Z)V"⟩ : MethodName) prog_88_method_1_code 3 none :: ws) ({ frames := 2, cells := 0, slots := 0, locals := 28 } : Room)) (fun a U => a = #[(.ref q13_0), (.ref q13_1), (.int q13_2)] ∧ Z.Warmed39 U.vm ∧ U.heap = h0) (fun _ _ _ _ _ => True) (fun _ U o U' => ∃ v L, o = .returned v ∧ Q13 Z q13_0 q13_1 q13_2 z13_EMPTY_LIST u13_q13_0_moves u13_q13_0_movesAfterClaim u13_q13_0_faultAfterClaim u13_q13_0_transientState h0 n0 v U'.heap L ∧ FrameEnd U o U' L ({ frames := 2, cells := 0, slots := 0, locals := 28 } : Room).cells ({ frames := 2, cells := 0, slots := 0, locals := 28 } : Room).slots) := by
  refine MetFree.of_bodySF (plainFor_of_name pn_15) hisR ?_
  intro p e s m args below meth c s₁ Bd hml0 hP hK
  obtain ⟨rfl, hZ, hh⟩ := hP
  have hx := Bd.exec
  have hby := Bd.bytes
  have hml : c.maxLocals = 3 := hml0
  have hown : s.vm.findClass "com/example/penelope/penelope/program/Expansion" = some m.cls := findClass_of_methodNamed Bd.named
  have hnm := (name_of_methodNamed Bd.named Bd.method).1
  have X0 : Stand p l e ({ frames := 2, cells := 0, slots := 0, locals := 28 } : Room) s m #[(.ref q13_0), (.ref q13_1), (.int q13_2)] below meth c s₁ [] 0 0 := Stand.of_body Bd
  have e0 : s₁.heap = h0 := by rw [← hh, Bd.state]; rfl
  have N0 := Fr.nil n0
  obtain ⟨S0, hS0⟩ : ∃ z, z = s₁.setTop (entryFrame m #[(.ref q13_0), (.ref q13_1), (.int q13_2)] 3) := ⟨_, rfl⟩
  have P0 : own_Go p e below S0 (s₁.setTop (mkF m 0 #[.val (.ref q13_0), .val (.ref q13_1), .val (.int q13_2)] [])) := fun t k => by rw [hS0]; exact castTop (ef_13 m q13_0 q13_1 q13_2) k
  have P1 : own_Go p e below S0 (s₁.setTop (mkF m 2 #[.val (.ref q13_0), .val (.ref q13_1), .val (.int q13_2)] [(.ref q13_1), (.ref q13_0)])) := fun t k => P0 t (by
    show Steps p.tables e below (s₁.setTop (mkF m 0 #[.val (.ref q13_0), .val (.ref q13_1), .val (.int q13_2)] [])) t
    refine XS.aloadN X0.here hx rfl (hb hby d13_0) rfl rfl ?_
    refine XS.aloadN X0.here hx rfl (hb hby d13_1) rfl rfl ?_
    show Steps p.tables e below (s₁.setTop (mkF m 2 #[.val (.ref q13_0), .val (.ref q13_1), .val (.int q13_2)] [(.ref q13_1), (.ref q13_0)])) t
    exact k)
  obtain ⟨_, _, ⟨T2, L2, k2, n2⟩, -, X2, ⟨Lc2, hQ2, l2, y2, z2⟩, st2⟩ := Jvm.LawKit.callS X0 hx (y := (⟨"java/util/List", "of", "()Ljava/util/List;"⟩ : MethodName)) hown (mvT hZ (hw _ (List.mem_of_getElem? (i := 88) rfl))) (mvT hZ (hw _ (List.mem_of_getElem? (i := 89) rfl))) (mvT hZ (hw _ (List.mem_of_getElem? (i := 90) rfl))) (mvT hZ (hw _ (List.mem_of_getElem? (i := 91) rfl))) (by decide) (backOf (W := 2) (rm14 l Z a0 hw [] z13_EMPTY_LIST h0 n0 Z0 S_EMPTY_LIST) hZ (hw _ (List.mem_of_getElem? (i := 91) rfl)) (hw _ (List.mem_of_getElem? (i := 90) rfl)) (by decide) (by decide)) (g := (mkF m 2 #[.val (.ref q13_0), .val (.ref q13_1), .val (.int q13_2)] [(.ref q13_1), (.ref q13_0)])) rfl (by rw [hml]; rfl) (argsL := []) (rest := [(.ref q13_1), (.ref q13_0)]) (lenOf pd_6 rfl) rfl (by show 2 * 0 + _ ≤ _; exact Nat.le_of_eq rfl) (hb hby d13_2) (fun _ _ => ⟨rfl, e0, (by decide : 0 + 0 ≤ _), (by decide : 0 + 0 ≤ _)⟩)
  dsimp only [Pt.U, Pt.locs, Pt.cells, Pt.slots] at X2 l2 y2 z2 st2 hQ2
  subst l2 y2 z2
  obtain ⟨rfl, N2q, e2⟩ := hQ2
  have N2 := Fr.app N0 N2q
  have P2 : own_Go p e below S0 (T2.setTop (mkF m 5 #[.val (.ref q13_0), .val (.ref q13_1), .val (.int q13_2)] [(.ref z13_EMPTY_LIST), (.ref q13_1), (.ref q13_0)])) := fun t k => P1 t (st2 _ k)
  have P3 : own_Go p e below S0 (T2.setTop (mkF m 7 #[.val (.ref q13_0), .val (.ref q13_1), .val (.int q13_2)] [(.int q13_2), .null, (.ref z13_EMPTY_LIST), (.ref q13_1), (.ref q13_0)])) := fun t k => P2 t (by
    show Steps p.tables e below (T2.setTop (mkF m 5 #[.val (.ref q13_0), .val (.ref q13_1), .val (.int q13_2)] [(.ref z13_EMPTY_LIST), (.ref q13_1), (.ref q13_0)])) t
    refine XS.aconstNull X2.here hx rfl (hb hby d13_5) ?_
    refine XS.iloadN X2.here hx rfl (hb hby d13_6) rfl ?_
    show Steps p.tables e below (T2.setTop (mkF m 7 #[.val (.ref q13_0), .val (.ref q13_1), .val (.int q13_2)] [(.int q13_2), .null, (.ref z13_EMPTY_LIST), (.ref q13_1), (.ref q13_0)])) t
    exact k)
  obtain ⟨_, _, ⟨T4, L4, k4, n4⟩, -, X4, ⟨Lc4, hQ4, l4, y4, z4⟩, st4⟩ := X2.specialBack hx (y := (⟨"com/example/penelope/penelope/program/Expansion", "<init>", "(Ljava/util/List;Ljava/util/List;Lcom/example/penelope/penelope/program/Fault;Z)V"⟩ : MethodName)) rfl hown (mvT hZ (hw _ (List.mem_of_getElem? (i := 94) rfl))) (mvT hZ (hw _ (List.mem_of_getElem? (i := 95) rfl))) (mvT hZ (hw _ (List.mem_of_getElem? (i := 96) rfl))) (by decide) (backOf (W := 0) (rm15 l Z a0 hw [] q13_0 q13_1 z13_EMPTY_LIST q13_2 u13_q13_0_moves u13_q13_0_movesAfterClaim u13_q13_0_faultAfterClaim u13_q13_0_transientState h0 n0 Z0 E_q13_0 F_q13_0_moves g_q13_0 F_q13_0_movesAfterClaim F_q13_0_faultAfterClaim F_q13_0_transientState) hZ (hw _ (List.mem_of_getElem? (i := 96) rfl)) (hw _ (List.mem_of_getElem? (i := 84) rfl)) (by decide) (by decide)) (g := (mkF m 7 #[.val (.ref q13_0), .val (.ref q13_1), .val (.int q13_2)] [(.int q13_2), .null, (.ref z13_EMPTY_LIST), (.ref q13_1), (.ref q13_0)])) rfl (by rw [hml]; rfl) (Steps.refl _) (a := q13_0) (argsL := [(.ref q13_1), (.ref z13_EMPTY_LIST), .null, (.int q13_2)]) (rest := []) (lenOf pd_7 rfl) rfl (by show 2 * 0 + _ ≤ _; exact Nat.le_of_eq rfl) (hb hby d13_7) (fun _ _ => ⟨rfl, e2, (by decide : 0 + 0 ≤ _), (by decide : 0 + 0 ≤ _)⟩)
  dsimp only [Pt.U, Pt.locs, Pt.cells, Pt.slots] at X4 l4 y4 z4 st4 hQ4
  subst l4 y4 z4
  obtain ⟨rfl, N4q, Kc4, F4_0, F4_1, F4_2, F4_3⟩ := hQ4
  have N4 := Fr.app N2 N4q
  have K4 : Keep h0 T4.heap [q13_0] := Keep.trans (Keep.refl h0 [q13_0]) Kc4 (allS (Or.inl (by simp)) all0)
  have P4 : own_Go p e below S0 (T4.setTop (mkF m 10 #[.val (.ref q13_0), .val (.ref q13_1), .val (.int q13_2)] [])) := fun t k => P3 t (st4.trans k)
  obtain ⟨fs, hr, hrun, hended, hW, hsame⟩ := X4.leave (v := none) (fun _ => rfl)
  refine ⟨_, _, own_from hS0 (P4 _ ?_), hrun, hended, _, _, rfl, ?_, ⟨_, rfl⟩, hW, hsame.mono (by decide) (by decide)⟩
  · show Steps p.tables e below (T4.setTop (mkF m 10 #[.val (.ref q13_0), .val (.ref q13_1), .val (.int q13_2)] [])) _
    exact X4.returnOut hx Bd.returns (hb hby d13_10) hr
  · show Q13 Z q13_0 q13_1 q13_2 z13_EMPTY_LIST u13_q13_0_moves u13_q13_0_movesAfterClaim u13_q13_0_faultAfterClaim u13_q13_0_transientState h0 n0 _ T4.heap _
    exact ⟨rfl, N4, K4, F4_0, F4_1, F4_2, F4_3⟩
theorem d16_0 : decode prog_88_method_6_code 0 = .ok (.aload_n 0, 1) := by decide +kernel
theorem d16_1 : decode prog_88_method_6_code 1 = .ok (.getfield 25, 3) := by decide +kernel
theorem d16_4 : decode prog_88_method_6_code 4 = .ok (.ifnull 8, 3) := by decide +kernel
theorem d16_12 : decode prog_88_method_6_code 12 = .ok (.aload_n 0, 1) := by decide +kernel
theorem d16_13 : decode prog_88_method_6_code 13 = .ok (.getfield 22, 3) := by decide +kernel
theorem d16_16 : decode prog_88_method_6_code 16 = .ok (.areturn, 1) := by decide +kernel
theorem ef_16 (m : MethodId) (q16_0 : Addr) : entryFrame m #[(.ref q16_0)] 1 = mkF m 0 #[.val (.ref q16_0)] [] := by first | (simp [entryFrame, mkF, argsToLocals, Value.category]; done) | rfl
def Q16 (Z : State) (q16_0 : Addr) (w16_q16_0_movesAfterClaim : Addr) (h0 : Heap) (n0 : Nat) (v : Option Value) (h : Heap) (L : List Loc) : Prop := v = some (.ref w16_q16_0_movesAfterClaim) ∧ Fr n0 L ∧ h = h0
set_option maxRecDepth 65536 in
set_option maxHeartbeats 40000000 in
theorem rm16 (l : Launch) (Z : State) (a0 : Array Value) (hw : ∀ d ∈ tables_1, d.before a0 Z = true) (ws : List Jvm.Cond) (q16_0 : Addr) (w16_q16_0_movesAfterClaim : Addr) (h0 : Heap) (n0 : Nat) (Z0 : n0 ≤ h0.size) (F_q16_0_faultAfterClaim : Fld Z h0 q16_0 "com/example/penelope/penelope/program/Expansion" "faultAfterClaim" "Lcom/example/penelope/penelope/program/Fault;" .null) (F_q16_0_movesAfterClaim : Fld Z h0 q16_0 "com/example/penelope/penelope/program/Expansion" "movesAfterClaim" "Ljava/util/List;" (.ref w16_q16_0_movesAfterClaim)) :
    MetFree l (⟨"com/example/penelope/penelope/program/Expansion", "movesAfterClaim", "()Ljava/util/List;"⟩ : MethodName) (head1 (Jvm.Cond.code (⟨"com/example/penelope/penelope/program/Expansion", "movesAfterClaim", "()Ljava/util/List;"⟩ : MethodName) prog_88_method_6_code 1 (some (.object "java/util/List")) :: ws) ({ frames := 0, cells := 0, slots := 0, locals := 0 } : Room)) (fun a U => a = #[(.ref q16_0)] ∧ Z.Warmed39 U.vm ∧ U.heap = h0) (fun _ _ _ _ _ => True) (fun _ U o U' => ∃ v L, o = .returned v ∧ Q16 Z q16_0 w16_q16_0_movesAfterClaim h0 n0 v U'.heap L ∧ FrameEnd U o U' L ({ frames := 0, cells := 0, slots := 0, locals := 0 } : Room).cells ({ frames := 0, cells := 0, slots := 0, locals := 0 } : Room).slots) := by
  refine MetFree.of_bodySF (plainFor_of_name pn_15) hisR ?_
  intro p e s m args below meth c s₁ Bd hml0 hP hK
  obtain ⟨rfl, hZ, hh⟩ := hP
  have hx := Bd.exec
  have hby := Bd.bytes
  have hml : c.maxLocals = 1 := hml0
  have hown : s.vm.findClass "com/example/penelope/penelope/program/Expansion" = some m.cls := findClass_of_methodNamed Bd.named
  have hnm := (name_of_methodNamed Bd.named Bd.method).1
  have X0 : Stand p l e ({ frames := 0, cells := 0, slots := 0, locals := 0 } : Room) s m #[(.ref q16_0)] below meth c s₁ [] 0 0 := Stand.of_body Bd
  have e0 : s₁.heap = h0 := by rw [← hh, Bd.state]; rfl
  have N0 := Fr.nil n0
  obtain ⟨S0, hS0⟩ : ∃ z, z = s₁.setTop (entryFrame m #[(.ref q16_0)] 1) := ⟨_, rfl⟩
  have P0 : own_Go p e below S0 (s₁.setTop (mkF m 0 #[.val (.ref q16_0)] [])) := fun t k => by rw [hS0]; exact castTop (ef_16 m q16_0) k
  have P1 : own_Go p e below S0 (s₁.setTop (mkF m 1 #[.val (.ref q16_0)] [(.ref q16_0)])) := fun t k => P0 t (by
    show Steps p.tables e below (s₁.setTop (mkF m 0 #[.val (.ref q16_0)] [])) t
    refine XS.aloadN X0.here hx rfl (hb hby d16_0) rfl rfl ?_
    show Steps p.tables e below (s₁.setTop (mkF m 1 #[.val (.ref q16_0)] [(.ref q16_0)])) t
    exact k)
  obtain ⟨T2, X2, e2, st2⟩ := getF X0 hx hZ hown (host := "") (Or.inl (hw _ (List.mem_of_getElem? (i := 102) rfl))) Via.refl e0 F_q16_0_faultAfterClaim (g := (mkF m 1 #[.val (.ref q16_0)] [(.ref q16_0)])) rfl rfl (hb hby d16_1)
  have P2 : own_Go p e below S0 (T2.setTop (mkF m 4 #[.val (.ref q16_0)] [.null])) := fun t k => P1 t (st2 _ k)
  have P3 : own_Go p e below S0 (T2.setTop (mkF m 13 #[.val (.ref q16_0)] [(.ref q16_0)])) := fun t k => P2 t (by
    show Steps p.tables e below (T2.setTop (mkF m 4 #[.val (.ref q16_0)] [.null])) t
    refine XS.ifnullYes X2.here hx rfl (pc0 := 4) (pc' := 12) rfl (hb hby d16_4) rfl (by decide) (by decide) ?_
    refine XS.aloadN X2.here hx rfl (hb hby d16_12) rfl rfl ?_
    show Steps p.tables e below (T2.setTop (mkF m 13 #[.val (.ref q16_0)] [(.ref q16_0)])) t
    exact k)
  obtain ⟨T4, X4, e4, st4⟩ := getF X2 hx hZ hown (host := "") (Or.inl (hw _ (List.mem_of_getElem? (i := 100) rfl))) Via.refl e2 F_q16_0_movesAfterClaim (g := (mkF m 13 #[.val (.ref q16_0)] [(.ref q16_0)])) rfl rfl (hb hby d16_13)
  have P4 : own_Go p e below S0 (T4.setTop (mkF m 16 #[.val (.ref q16_0)] [(.ref w16_q16_0_movesAfterClaim)])) := fun t k => P3 t (st4 _ k)
  obtain ⟨fs, hr, hrun, hended, hW, hsame⟩ := X4.leave (v := some (.ref w16_q16_0_movesAfterClaim)) (fun h => by rw [Bd.returns] at h; cases h)
  refine ⟨_, _, own_from hS0 (P4 _ ?_), hrun, hended, _, _, rfl, ?_, ⟨_, rfl⟩, hW, hsame.mono (by decide) (by decide)⟩
  · show Steps p.tables e below (T4.setTop (mkF m 16 #[.val (.ref q16_0)] [(.ref w16_q16_0_movesAfterClaim)])) _
    jvm_step X4.here [X4.here.top, hx, (hb hby d16_16), X4.method', Bd.returns, Value.isRef, FieldType.isReference]
    first | (intro acts; rw [hr _ acts rfl rfl rfl]) | rw [hr _ _ rfl rfl rfl]
    exact Steps.refl _
  · show Q16 Z q16_0 w16_q16_0_movesAfterClaim h0 n0 _ T4.heap _
    rw [e4]
    exact ⟨rfl, N0, rfl⟩
theorem pn_17 : plainName "java/util/ImmutableCollections$ListN" = true := by first | (simp [plainName, overriddenIn]; done) | decide +kernel
theorem d17_0 : decode jdk_45_method_3_code 0 = .ok (.aload_n 0, 1) := by decide +kernel
theorem d17_1 : decode jdk_45_method_3_code 1 = .ok (.getfield 7, 3) := by decide +kernel
theorem d17_4 : decode jdk_45_method_3_code 4 = .ok (.arraylength, 1) := by decide +kernel
theorem d17_5 : decode jdk_45_method_3_code 5 = .ok (.ireturn, 1) := by decide +kernel
theorem ef_17 (m : MethodId) (q17_0 : Addr) : entryFrame m #[(.ref q17_0)] 1 = mkF m 0 #[.val (.ref q17_0)] [] := by first | (simp [entryFrame, mkF, argsToLocals, Value.category]; done) | rfl
def Q17 (Z : State) (q17_0 : Addr) (qe : Addr) (qk : ClassId) (h0 : Heap) (n0 : Nat) (v : Option Value) (h : Heap) (L : List Loc) : Prop := v = some (.int (0 : Int32)) ∧ Fr n0 L ∧ h = h0
set_option maxRecDepth 65536 in
set_option maxHeartbeats 40000000 in
theorem rm17 (l : Launch) (Z : State) (a0 : Array Value) (hw : ∀ d ∈ tables_1, d.before a0 Z = true) (ws : List Jvm.Cond) (q17_0 : Addr) (qe : Addr) (qk : ClassId) (h0 : Heap) (n0 : Nat) (Z0 : n0 ≤ h0.size) (F_q17_0_elements : Fld Z h0 q17_0 "java/util/ImmutableCollections$ListN" "elements" "[Ljava/lang/Object;" (.ref qe)) (A_qe : Arv Z h0 qe qk (.object "java/lang/Object") (0 : Int32) [] .null) :
    MetFree l (⟨"java/util/ImmutableCollections$ListN", "size", "()I"⟩ : MethodName) (head1 (Jvm.Cond.code (⟨"java/util/ImmutableCollections$ListN", "size", "()I"⟩ : MethodName) jdk_45_method_3_code 1 (some .int) :: ws) ({ frames := 0, cells := 0, slots := 0, locals := 0 } : Room)) (fun a U => a = #[(.ref q17_0)] ∧ Z.Warmed39 U.vm ∧ U.heap = h0) (fun _ _ _ _ _ => True) (fun _ U o U' => ∃ v L, o = .returned v ∧ Q17 Z q17_0 qe qk h0 n0 v U'.heap L ∧ FrameEnd U o U' L ({ frames := 0, cells := 0, slots := 0, locals := 0 } : Room).cells ({ frames := 0, cells := 0, slots := 0, locals := 0 } : Room).slots) := by
  refine MetFree.of_bodySF (plainFor_of_name pn_17) hisR ?_
  intro p e s m args below meth c s₁ Bd hml0 hP hK
  obtain ⟨rfl, hZ, hh⟩ := hP
  have hx := Bd.exec
  have hby := Bd.bytes
  have hml : c.maxLocals = 1 := hml0
  have hown : s.vm.findClass "java/util/ImmutableCollections$ListN" = some m.cls := findClass_of_methodNamed Bd.named
  have hnm := (name_of_methodNamed Bd.named Bd.method).1
  have X0 : Stand p l e ({ frames := 0, cells := 0, slots := 0, locals := 0 } : Room) s m #[(.ref q17_0)] below meth c s₁ [] 0 0 := Stand.of_body Bd
  have e0 : s₁.heap = h0 := by rw [← hh, Bd.state]; rfl
  have N0 := Fr.nil n0
  obtain ⟨S0, hS0⟩ : ∃ z, z = s₁.setTop (entryFrame m #[(.ref q17_0)] 1) := ⟨_, rfl⟩
  have P0 : own_Go p e below S0 (s₁.setTop (mkF m 0 #[.val (.ref q17_0)] [])) := fun t k => by rw [hS0]; exact castTop (ef_17 m q17_0) k
  have P1 : own_Go p e below S0 (s₁.setTop (mkF m 1 #[.val (.ref q17_0)] [(.ref q17_0)])) := fun t k => P0 t (by
    show Steps p.tables e below (s₁.setTop (mkF m 0 #[.val (.ref q17_0)] [])) t
    refine XS.aloadN X0.here hx rfl (hb hby d17_0) rfl rfl ?_
    show Steps p.tables e below (s₁.setTop (mkF m 1 #[.val (.ref q17_0)] [(.ref q17_0)])) t
    exact k)
  obtain ⟨T2, X2, e2, st2⟩ := getF X0 hx hZ hown (host := "") (Or.inl (hw _ (List.mem_of_getElem? (i := 121) rfl))) Via.refl e0 F_q17_0_elements (g := (mkF m 1 #[.val (.ref q17_0)] [(.ref q17_0)])) rfl rfl (hb hby d17_1)
  have P2 : own_Go p e below S0 (T2.setTop (mkF m 4 #[.val (.ref q17_0)] [(.ref qe)])) := fun t k => P1 t (st2 _ k)
  obtain ⟨cl3, Ar3, q3, Sz3, Nn3, Hh3, Gg3⟩ := id A_qe
  have P4 : own_Go p e below S0 (T2.setTop (mkF m 5 #[.val (.ref q17_0)] [(.int (0 : Int32))])) := fun t k => P2 t (by
    show Steps p.tables e below (T2.setTop (mkF m 4 #[.val (.ref q17_0)] [(.ref qe)])) t
    refine X2.arraylength hx (by rw [e2]; exact Ar3.1) (State.isArrayOf_alike hZ.alike Ar3.2.1) (g := (mkF m 4 #[.val (.ref q17_0)] [(.ref qe)])) rfl rfl (hb hby d17_4) _ ?_
    rw [len_of Sz3 Nn3]
    show Steps p.tables e below (T2.setTop (mkF m 5 #[.val (.ref q17_0)] [(.int (0 : Int32))])) t
    exact k)
  obtain ⟨fs, hr, hrun, hended, hW, hsame⟩ := X2.leave (v := some (.int (0 : Int32))) (fun h => by rw [Bd.returns] at h; cases h)
  refine ⟨_, _, own_from hS0 (P4 _ ?_), hrun, hended, _, _, rfl, ?_, ⟨_, rfl⟩, hW, hsame.mono (by decide) (by decide)⟩
  · show Steps p.tables e below (T2.setTop (mkF m 5 #[.val (.ref q17_0)] [(.int (0 : Int32))])) _
    exact retI X2 hx Bd.returns (hb hby d17_5) hr
  · show Q17 Z q17_0 qe qk h0 n0 _ T2.heap _
    rw [e2]
    exact ⟨rfl, N0, rfl⟩
theorem d18_0 : decode prog_88_method_3_code 0 = .ok (.new 8, 3) := by decide +kernel
theorem d18_3 : decode prog_88_method_3_code 3 = .ok (.dup, 1) := by decide +kernel
theorem d18_4 : decode prog_88_method_3_code 4 = .ok (.aload_n 0, 1) := by decide +kernel
theorem d18_5 : decode prog_88_method_3_code 5 = .ok (.aload_n 1, 1) := by decide +kernel
theorem d18_6 : decode prog_88_method_3_code 6 = .ok (.getfield 18, 3) := by decide +kernel
theorem d18_9 : decode prog_88_method_3_code 9 = .ok (.aconst_null, 1) := by decide +kernel
theorem d18_10 : decode prog_88_method_3_code 10 = .ok (.aload_n 1, 1) := by decide +kernel
theorem d18_11 : decode prog_88_method_3_code 11 = .ok (.getfield 29, 3) := by decide +kernel
theorem d18_14 : decode prog_88_method_3_code 14 = .ok (.invokespecial 7, 3) := by decide +kernel
theorem d18_17 : decode prog_88_method_3_code 17 = .ok (.areturn, 1) := by decide +kernel
theorem ef_18 (m : MethodId) (q18_0 : Addr) (q18_1 : Addr) : entryFrame m #[(.ref q18_0), (.ref q18_1)] 2 = mkF m 0 #[.val (.ref q18_0), .val (.ref q18_1)] [] := by first | (simp [entryFrame, mkF, argsToLocals, Value.category]; done) | rfl
def Q18 (Z : State) (q18_0 : Addr) (q18_1 : Addr) (w18_q18_1_moves : Addr) (w18_q18_1_transientState : Int32) (h0 : Heap) (n0 : Nat) (v : Option Value) (h : Heap) (L : List Loc) : Prop := ∃ (b1 : Addr), v = some (.ref b1) ∧ Fr n0 L ∧ Keep h0 h [] ∧ h0.size ≤ b1 ∧ Exa Z h b1 "com/example/penelope/penelope/program/Expansion" ∧ Fld Z h b1 "com/example/penelope/penelope/program/Expansion" "moves" "Ljava/util/List;" (.ref q18_0) ∧ Fld Z h b1 "com/example/penelope/penelope/program/Expansion" "movesAfterClaim" "Ljava/util/List;" (.ref w18_q18_1_moves) ∧ Fld Z h b1 "com/example/penelope/penelope/program/Expansion" "faultAfterClaim" "Lcom/example/penelope/penelope/program/Fault;" .null ∧ Fld Z h b1 "com/example/penelope/penelope/program/Expansion" "transientState" "Z" (.int (nar .boolean w18_q18_1_transientState))
set_option maxRecDepth 65536 in
set_option maxHeartbeats 40000000 in
theorem rm18 (l : Launch) (Z : State) (a0 : Array Value) (hw : ∀ d ∈ tables_1, d.before a0 Z = true) (ws : List Jvm.Cond) (q18_0 : Addr) (q18_1 : Addr) (w18_q18_1_moves : Addr) (w18_q18_1_transientState : Int32) (h0 : Heap) (n0 : Nat) (Z0 : n0 ≤ h0.size) (F_q18_1_moves : Fld Z h0 q18_1 "com/example/penelope/penelope/program/Expansion" "moves" "Ljava/util/List;" (.ref w18_q18_1_moves)) (F_q18_1_transientState : Fld Z h0 q18_1 "com/example/penelope/penelope/program/Expansion" "transientState" "Z" (.int w18_q18_1_transientState)) :
    MetFree l (⟨"com/example/penelope/penelope/program/Expansion", "underClaim", "(Ljava/util/List;Lcom/example/penelope/penelope/program/Expansion;)Lcom/example/penelope/penelope/program/Expansion;"⟩ : MethodName) (head1 (Jvm.Cond.code (⟨"com/example/penelope/penelope/program/Expansion", "underClaim", "(Ljava/util/List;Lcom/example/penelope/penelope/program/Expansion;)Lcom/example/penelope/penelope/program/Expansion;"⟩ : MethodName) prog_88_method_3_code 2 (some (.object "com/example/penelope/penelope/program/Expansion")) :: ws) ({ frames := 2, cells := 1, slots := 4, locals := 29 } : Room)) (fun a U => a = #[(.ref q18_0), (.ref q18_1)] ∧ Z.Warmed39 U.vm ∧ U.heap = h0) (fun _ _ _ _ _ => True) (fun _ U o U' => ∃ v L, o = .returned v ∧ Q18 Z q18_0 q18_1 w18_q18_1_moves w18_q18_1_transientState h0 n0 v U'.heap L ∧ FrameEnd U o U' L ({ frames := 2, cells := 1, slots := 4, locals := 29 } : Room).cells ({ frames := 2, cells := 1, slots := 4, locals := 29 } : Room).slots) := by
  refine MetFree.of_bodySF (plainFor_of_name pn_15) hisR ?_
  intro p e s m args below meth c s₁ Bd hml0 hP hK
  obtain ⟨rfl, hZ, hh⟩ := hP
  have hx := Bd.exec
  have hby := Bd.bytes
  have hml : c.maxLocals = 2 := hml0
  have hown : s.vm.findClass "com/example/penelope/penelope/program/Expansion" = some m.cls := findClass_of_methodNamed Bd.named
  have hnm := (name_of_methodNamed Bd.named Bd.method).1
  have X0 : Stand p l e ({ frames := 2, cells := 1, slots := 4, locals := 29 } : Room) s m #[(.ref q18_0), (.ref q18_1)] below meth c s₁ [] 0 0 := Stand.of_body Bd
  have e0 : s₁.heap = h0 := by rw [← hh, Bd.state]; rfl
  have N0 := Fr.nil n0
  obtain ⟨S0, hS0⟩ : ∃ z, z = s₁.setTop (entryFrame m #[(.ref q18_0), (.ref q18_1)] 2) := ⟨_, rfl⟩
  have P0 : own_Go p e below S0 (s₁.setTop (mkF m 0 #[.val (.ref q18_0), .val (.ref q18_1)] [])) := fun t k => by rw [hS0]; exact castTop (ef_18 m q18_0 q18_1) k
  obtain ⟨T1, h1, X1, e1, E1, A1, D1, -, st1⟩ := newO X0 hx hZ hown (hw _ (List.mem_of_getElem? (i := 126) rfl)) (hw _ (List.mem_of_getElem? (i := 83) rfl)) (hw _ (List.mem_of_getElem? (i := 84) rfl)) e0 (g := (mkF m 0 #[.val (.ref q18_0), .val (.ref q18_1)] [])) rfl (hb hby d18_0) (by decide) (by decide)
  obtain ⟨b1, g1⟩ : ∃ z, z = h0.size := ⟨_, rfl⟩
  rw [← g1] at A1 D1 st1
  have sz_b1 : h0.size ≤ b1 := Nat.le_of_eq g1.symm
  have g_b1 : n0 ≤ b1 := Nat.le_trans Z0 sz_b1
  have o_b1 : h0.size ≤ b1 := sz_b1
  have K1 : Keep h0 h1 [] := (Keep.refl h0 []).ext E1
  have F1_moves : Fld Z h1 b1 "com/example/penelope/penelope/program/Expansion" "moves" "Ljava/util/List;" .null := D1 (Or.inr (hw _ (List.mem_of_getElem? (i := 99) rfl))) (ty := (.object "java/util/List")) (by decide)
  have F1_movesAfterClaim : Fld Z h1 b1 "com/example/penelope/penelope/program/Expansion" "movesAfterClaim" "Ljava/util/List;" .null := D1 (Or.inr (hw _ (List.mem_of_getElem? (i := 101) rfl))) (ty := (.object "java/util/List")) (by decide)
  have F1_faultAfterClaim : Fld Z h1 b1 "com/example/penelope/penelope/program/Expansion" "faultAfterClaim" "Lcom/example/penelope/penelope/program/Fault;" .null := D1 (Or.inr (hw _ (List.mem_of_getElem? (i := 103) rfl))) (ty := (.object "com/example/penelope/penelope/program/Fault")) (by decide)
  have F1_transientState : Fld Z h1 b1 "com/example/penelope/penelope/program/Expansion" "transientState" "Z" (.int (0 : Int32)) := D1 (Or.inr (hw _ (List.mem_of_getElem? (i := 105) rfl))) (ty := .boolean) (by decide)
  have P1 : own_Go p e below S0 (T1.setTop (mkF m 3 #[.val (.ref q18_0), .val (.ref q18_1)] [(.ref b1)])) := fun t k => P0 t (st1 _ k)
  have F2 : Fld Z h1 q18_1 "com/example/penelope/penelope/program/Expansion" "moves" "Ljava/util/List;" (.ref w18_q18_1_moves) := F_q18_1_moves.ext E1
  have P3 : own_Go p e below S0 (T1.setTop (mkF m 6 #[.val (.ref q18_0), .val (.ref q18_1)] [(.ref q18_1), (.ref q18_0), (.ref b1), (.ref b1)])) := fun t k => P1 t (by
    show Steps p.tables e below (T1.setTop (mkF m 3 #[.val (.ref q18_0), .val (.ref q18_1)] [(.ref b1)])) t
    refine XS.dup X1.here hx rfl (hb hby d18_3) rfl rfl ?_
    refine XS.aloadN X1.here hx rfl (hb hby d18_4) rfl rfl ?_
    refine XS.aloadN X1.here hx rfl (hb hby d18_5) rfl rfl ?_
    show Steps p.tables e below (T1.setTop (mkF m 6 #[.val (.ref q18_0), .val (.ref q18_1)] [(.ref q18_1), (.ref q18_0), (.ref b1), (.ref b1)])) t
    exact k)
  obtain ⟨T4, X4, e4, st4⟩ := getF X1 hx hZ hown (host := "") (Or.inl (hw _ (List.mem_of_getElem? (i := 98) rfl))) Via.refl e1 F2 (g := (mkF m 6 #[.val (.ref q18_0), .val (.ref q18_1)] [(.ref q18_1), (.ref q18_0), (.ref b1), (.ref b1)])) rfl rfl (hb hby d18_6)
  have P4 : own_Go p e below S0 (T4.setTop (mkF m 9 #[.val (.ref q18_0), .val (.ref q18_1)] [(.ref w18_q18_1_moves), (.ref q18_0), (.ref b1), (.ref b1)])) := fun t k => P3 t (st4 _ k)
  have F5 : Fld Z h1 q18_1 "com/example/penelope/penelope/program/Expansion" "transientState" "Z" (.int w18_q18_1_transientState) := F_q18_1_transientState.ext E1
  have P6 : own_Go p e below S0 (T4.setTop (mkF m 11 #[.val (.ref q18_0), .val (.ref q18_1)] [(.ref q18_1), .null, (.ref w18_q18_1_moves), (.ref q18_0), (.ref b1), (.ref b1)])) := fun t k => P4 t (by
    show Steps p.tables e below (T4.setTop (mkF m 9 #[.val (.ref q18_0), .val (.ref q18_1)] [(.ref w18_q18_1_moves), (.ref q18_0), (.ref b1), (.ref b1)])) t
    refine XS.aconstNull X4.here hx rfl (hb hby d18_9) ?_
    refine XS.aloadN X4.here hx rfl (hb hby d18_10) rfl rfl ?_
    show Steps p.tables e below (T4.setTop (mkF m 11 #[.val (.ref q18_0), .val (.ref q18_1)] [(.ref q18_1), .null, (.ref w18_q18_1_moves), (.ref q18_0), (.ref b1), (.ref b1)])) t
    exact k)
  obtain ⟨T7, X7, e7, st7⟩ := getF X4 hx hZ hown (host := "") (Or.inl (hw _ (List.mem_of_getElem? (i := 104) rfl))) Via.refl e4 F5 (g := (mkF m 11 #[.val (.ref q18_0), .val (.ref q18_1)] [(.ref q18_1), .null, (.ref w18_q18_1_moves), (.ref q18_0), (.ref b1), (.ref b1)])) rfl rfl (hb hby d18_11)
  have P7 : own_Go p e below S0 (T7.setTop (mkF m 14 #[.val (.ref q18_0), .val (.ref q18_1)] [(.int w18_q18_1_transientState), .null, (.ref w18_q18_1_moves), (.ref q18_0), (.ref b1), (.ref b1)])) := fun t k => P6 t (st7 _ k)
  obtain ⟨_, _, ⟨T8, L8, k8, n8⟩, -, X8, ⟨Lc8, hQ8, l8, y8, z8⟩, st8⟩ := X7.specialBack hx (y := (⟨"com/example/penelope/penelope/program/Expansion", "<init>", "(Ljava/util/List;Ljava/util/List;Lcom/example/penelope/penelope/program/Fault;Z)V"⟩ : MethodName)) rfl hown (mvT hZ (hw _ (List.mem_of_getElem? (i := 94) rfl))) (mvT hZ (hw _ (List.mem_of_getElem? (i := 95) rfl))) (mvT hZ (hw _ (List.mem_of_getElem? (i := 96) rfl))) (by decide) (backOf (W := 1) (rm15 l Z a0 hw [] b1 q18_0 w18_q18_1_moves w18_q18_1_transientState .null .null .null (.int (0 : Int32)) h1 n0 (Nat.le_trans Z0 K1.1) A1 F1_moves g_b1 F1_movesAfterClaim F1_faultAfterClaim F1_transientState) hZ (hw _ (List.mem_of_getElem? (i := 96) rfl)) (hw _ (List.mem_of_getElem? (i := 84) rfl)) (by decide) (by decide)) (g := (mkF m 14 #[.val (.ref q18_0), .val (.ref q18_1)] [(.int w18_q18_1_transientState), .null, (.ref w18_q18_1_moves), (.ref q18_0), (.ref b1), (.ref b1)])) rfl (by rw [hml]; rfl) (Steps.refl _) (a := b1) (argsL := [(.ref q18_0), (.ref w18_q18_1_moves), .null, (.int w18_q18_1_transientState)]) (rest := [(.ref b1)]) (lenOf pd_7 rfl) rfl (by show 2 * 0 + _ ≤ _; exact Nat.le_of_eq rfl) (hb hby d18_14) (fun _ _ => ⟨rfl, e7, (by decide : 1 + 0 ≤ _), (by decide : 4 + 0 ≤ _)⟩)
  dsimp only [Pt.U, Pt.locs, Pt.cells, Pt.slots] at X8 l8 y8 z8 st8 hQ8
  subst l8 y8 z8
  obtain ⟨rfl, N8q, Kc8, F8_0, F8_1, F8_2, F8_3⟩ := hQ8
  have N8 := Fr.app N0 N8q
  have K8 : Keep h0 T8.heap [] := Keep.trans K1 Kc8 (allS (Or.inr o_b1) all0)
  have P8 : own_Go p e below S0 (T8.setTop (mkF m 17 #[.val (.ref q18_0), .val (.ref q18_1)] [(.ref b1)])) := fun t k => P7 t (st8.trans k)
  have F9 : Exa Z T8.heap b1 "com/example/penelope/penelope/program/Expansion" := A1.keep Kc8
  obtain ⟨fs, hr, hrun, hended, hW, hsame⟩ := X8.leave (v := some (.ref b1)) (fun h => by rw [Bd.returns] at h; cases h)
  refine ⟨_, _, own_from hS0 (P8 _ ?_), hrun, hended, _, _, rfl, ?_, ⟨_, rfl⟩, hW, hsame.mono (by decide) (by decide)⟩
  · show Steps p.tables e below (T8.setTop (mkF m 17 #[.val (.ref q18_0), .val (.ref q18_1)] [(.ref b1)])) _
    jvm_step X8.here [X8.here.top, hx, (hb hby d18_17), X8.method', Bd.returns, Value.isRef, FieldType.isReference]
    first | (intro acts; rw [hr _ acts rfl rfl rfl]) | rw [hr _ _ rfl rfl rfl]
    exact Steps.refl _
  · show Q18 Z q18_0 q18_1 w18_q18_1_moves w18_q18_1_transientState h0 n0 _ T8.heap _
    exact ⟨b1, rfl, N8, K8, o_b1, F9, F8_0, F8_1, F8_2, F8_3⟩
theorem d19_0 : decode jdk_38_method_8_code 0 = .ok (.aload_n 0, 1) := by decide +kernel
theorem d19_1 : decode jdk_38_method_8_code 1 = .ok (.getfield 48, 3) := by decide +kernel
theorem d19_4 : decode jdk_38_method_8_code 4 = .ok (.ireturn, 1) := by decide +kernel
theorem ef_19 (m : MethodId) (q19_0 : Addr) : entryFrame m #[(.ref q19_0)] 1 = mkF m 0 #[.val (.ref q19_0)] [] := by first | (simp [entryFrame, mkF, argsToLocals, Value.category]; done) | rfl
def Q19 (Z : State) (q19_0 : Addr) (w19_q19_0_size : Int32) (h0 : Heap) (n0 : Nat) (v : Option Value) (h : Heap) (L : List Loc) : Prop := v = some (.int w19_q19_0_size) ∧ Fr n0 L ∧ h = h0
set_option maxRecDepth 65536 in
set_option maxHeartbeats 40000000 in
theorem rm19 (l : Launch) (Z : State) (a0 : Array Value) (hw : ∀ d ∈ tables_1, d.before a0 Z = true) (ws : List Jvm.Cond) (q19_0 : Addr) (w19_q19_0_size : Int32) (h0 : Heap) (n0 : Nat) (Z0 : n0 ≤ h0.size) (F_q19_0_size : Fld Z h0 q19_0 "java/util/ArrayList" "size" "I" (.int w19_q19_0_size)) :
    MetFree l (⟨"java/util/ArrayList", "size", "()I"⟩ : MethodName) (head1 (Jvm.Cond.code (⟨"java/util/ArrayList", "size", "()I"⟩ : MethodName) jdk_38_method_8_code 1 (some .int) :: ws) ({ frames := 0, cells := 0, slots := 0, locals := 0 } : Room)) (fun a U => a = #[(.ref q19_0)] ∧ Z.Warmed39 U.vm ∧ U.heap = h0) (fun _ _ _ _ _ => True) (fun _ U o U' => ∃ v L, o = .returned v ∧ Q19 Z q19_0 w19_q19_0_size h0 n0 v U'.heap L ∧ FrameEnd U o U' L ({ frames := 0, cells := 0, slots := 0, locals := 0 } : Room).cells ({ frames := 0, cells := 0, slots := 0, locals := 0 } : Room).slots) := by
  refine MetFree.of_bodySF (plainFor_of_name pn_5) hisR ?_
  intro p e s m args below meth c s₁ Bd hml0 hP hK
  obtain ⟨rfl, hZ, hh⟩ := hP
  have hx := Bd.exec
  have hby := Bd.bytes
  have hml : c.maxLocals = 1 := hml0
  have hown : s.vm.findClass "java/util/ArrayList" = some m.cls := findClass_of_methodNamed Bd.named
  have hnm := (name_of_methodNamed Bd.named Bd.method).1
  have X0 : Stand p l e ({ frames := 0, cells := 0, slots := 0, locals := 0 } : Room) s m #[(.ref q19_0)] below meth c s₁ [] 0 0 := Stand.of_body Bd
  have e0 : s₁.heap = h0 := by rw [← hh, Bd.state]; rfl
  have N0 := Fr.nil n0
  obtain ⟨S0, hS0⟩ : ∃ z, z = s₁.setTop (entryFrame m #[(.ref q19_0)] 1) := ⟨_, rfl⟩
  have P0 : own_Go p e below S0 (s₁.setTop (mkF m 0 #[.val (.ref q19_0)] [])) := fun t k => by rw [hS0]; exact castTop (ef_19 m q19_0) k
  have P1 : own_Go p e below S0 (s₁.setTop (mkF m 1 #[.val (.ref q19_0)] [(.ref q19_0)])) := fun t k => P0 t (by
    show Steps p.tables e below (s₁.setTop (mkF m 0 #[.val (.ref q19_0)] [])) t
    refine XS.aloadN X0.here hx rfl (hb hby d19_0) rfl rfl ?_
    show Steps p.tables e below (s₁.setTop (mkF m 1 #[.val (.ref q19_0)] [(.ref q19_0)])) t
    exact k)
  obtain ⟨T2, X2, e2, st2⟩ := getF X0 hx hZ hown (host := "") (Or.inl (hw _ (List.mem_of_getElem? (i := 58) rfl))) Via.refl e0 F_q19_0_size (g := (mkF m 1 #[.val (.ref q19_0)] [(.ref q19_0)])) rfl rfl (hb hby d19_1)
  have P2 : own_Go p e below S0 (T2.setTop (mkF m 4 #[.val (.ref q19_0)] [(.int w19_q19_0_size)])) := fun t k => P1 t (st2 _ k)
  obtain ⟨fs, hr, hrun, hended, hW, hsame⟩ := X2.leave (v := some (.int w19_q19_0_size)) (fun h => by rw [Bd.returns] at h; cases h)
  refine ⟨_, _, own_from hS0 (P2 _ ?_), hrun, hended, _, _, rfl, ?_, ⟨_, rfl⟩, hW, hsame.mono (by decide) (by decide)⟩
  · show Steps p.tables e below (T2.setTop (mkF m 4 #[.val (.ref q19_0)] [(.int w19_q19_0_size)])) _
    exact retI X2 hx Bd.returns (hb hby d19_4) hr
  · show Q19 Z q19_0 w19_q19_0_size h0 n0 _ T2.heap _
    rw [e2]
    exact ⟨rfl, N0, rfl⟩
theorem pn_22 : plainName "jdk/internal/util/Preconditions" = true := by first | (simp [plainName, overriddenIn]; done) | decide +kernel
theorem d22_0 : decode jdk_41_method_11_code 0 = .ok (.iload_n 0, 1) := by decide +kernel
theorem d22_1 : decode jdk_41_method_11_code 1 = .ok (.ifCond .lt 8, 3) := by decide +kernel
theorem d22_4 : decode jdk_41_method_11_code 4 = .ok (.iload_n 0, 1) := by decide +kernel
theorem d22_5 : decode jdk_41_method_11_code 5 = .ok (.iload_n 1, 1) := by decide +kernel
theorem d22_6 : decode jdk_41_method_11_code 6 = .ok (.if_icmp .lt 10, 3) := by decide +kernel
theorem d22_16 : decode jdk_41_method_11_code 16 = .ok (.iload_n 0, 1) := by decide +kernel
theorem d22_17 : decode jdk_41_method_11_code 17 = .ok (.ireturn, 1) := by decide +kernel
theorem ef_22_1_0 (m : MethodId)  : entryFrame m #[(.int (0 : Int32)), (.int (1 : Int32)), .null] 3 = mkF m 0 #[.val (.int (0 : Int32)), .val (.int (1 : Int32)), .val .null] [] := by first | (simp [entryFrame, mkF, argsToLocals, Value.category]; done) | rfl
def Q22_1_0 (Z : State)  (h0 : Heap) (n0 : Nat) (v : Option Value) (h : Heap) (L : List Loc) : Prop := v = some (.int (0 : Int32)) ∧ Fr n0 L ∧ h = h0
set_option maxRecDepth 65536 in
set_option maxHeartbeats 40000000 in
theorem rm22_1_0 (l : Launch) (Z : State) (a0 : Array Value) (hw : ∀ d ∈ tables_1, d.before a0 Z = true) (ws : List Jvm.Cond)  (h0 : Heap) (n0 : Nat) (Z0 : n0 ≤ h0.size) :
    MetFree l (⟨"jdk/internal/util/Preconditions", "checkIndex", "(IILjava/util/function/BiFunction;)I"⟩ : MethodName) (head1 (Jvm.Cond.code (⟨"jdk/internal/util/Preconditions", "checkIndex", "(IILjava/util/function/BiFunction;)I"⟩ : MethodName) jdk_41_method_11_code 3 (some .int) :: ws) ({ frames := 0, cells := 0, slots := 0, locals := 0 } : Room)) (fun a U => a = #[(.int (0 : Int32)), (.int (1 : Int32)), .null] ∧ Z.Warmed39 U.vm ∧ U.heap = h0) (fun _ _ _ _ _ => True) (fun _ U o U' => ∃ v L, o = .returned v ∧ Q22_1_0 Z  h0 n0 v U'.heap L ∧ FrameEnd U o U' L ({ frames := 0, cells := 0, slots := 0, locals := 0 } : Room).cells ({ frames := 0, cells := 0, slots := 0, locals := 0 } : Room).slots) := by
  refine MetFree.of_bodySF (plainFor_of_name pn_22) hisR ?_
  intro p e s m args below meth c s₁ Bd hml0 hP hK
  obtain ⟨rfl, hZ, hh⟩ := hP
  have hx := Bd.exec
  have hby := Bd.bytes
  have hml : c.maxLocals = 3 := hml0
  have hown : s.vm.findClass "jdk/internal/util/Preconditions" = some m.cls := findClass_of_methodNamed Bd.named
  have hnm := (name_of_methodNamed Bd.named Bd.method).1
  have X0 : Stand p l e ({ frames := 0, cells := 0, slots := 0, locals := 0 } : Room) s m #[(.int (0 : Int32)), (.int (1 : Int32)), .null] below meth c s₁ [] 0 0 := Stand.of_body Bd
  have e0 : s₁.heap = h0 := by rw [← hh, Bd.state]; rfl
  have N0 := Fr.nil n0
  obtain ⟨S0, hS0⟩ : ∃ z, z = s₁.setTop (entryFrame m #[(.int (0 : Int32)), (.int (1 : Int32)), .null] 3) := ⟨_, rfl⟩
  have P0 : own_Go p e below S0 (s₁.setTop (mkF m 0 #[.val (.int (0 : Int32)), .val (.int (1 : Int32)), .val .null] [])) := fun t k => by rw [hS0]; exact castTop (ef_22_1_0 m ) k
  have P1 : own_Go p e below S0 (s₁.setTop (mkF m 17 #[.val (.int (0 : Int32)), .val (.int (1 : Int32)), .val .null] [(.int (0 : Int32))])) := fun t k => P0 t (by
    show Steps p.tables e below (s₁.setTop (mkF m 0 #[.val (.int (0 : Int32)), .val (.int (1 : Int32)), .val .null] [])) t
    refine XS.iloadN X0.here hx rfl (hb hby d22_0) rfl ?_
    refine XS.ifNo X0.here hx rfl (hb hby d22_1) rfl ((if0 _ _).trans (flt (by decide)).1) ?_
    refine XS.iloadN X0.here hx rfl (hb hby d22_4) rfl ?_
    refine XS.iloadN X0.here hx rfl (hb hby d22_5) rfl ?_
    refine XS.icmpYes X0.here hx rfl (pc0 := 6) (pc' := 16) rfl (hb hby d22_6) rfl (tlt (by decide)).1 (by decide) (by decide) ?_
    refine XS.iloadN X0.here hx rfl (hb hby d22_16) rfl ?_
    show Steps p.tables e below (s₁.setTop (mkF m 17 #[.val (.int (0 : Int32)), .val (.int (1 : Int32)), .val .null] [(.int (0 : Int32))])) t
    exact k)
  obtain ⟨fs, hr, hrun, hended, hW, hsame⟩ := X0.leave (v := some (.int (0 : Int32))) (fun h => by rw [Bd.returns] at h; cases h)
  refine ⟨_, _, own_from hS0 (P1 _ ?_), hrun, hended, _, _, rfl, ?_, ⟨_, rfl⟩, hW, hsame.mono (by decide) (by decide)⟩
  · show Steps p.tables e below (s₁.setTop (mkF m 17 #[.val (.int (0 : Int32)), .val (.int (1 : Int32)), .val .null] [(.int (0 : Int32))])) _
    exact retI X0 hx Bd.returns (hb hby d22_17) hr
  · show Q22_1_0 Z  h0 n0 _ s₁.heap _
    rw [e0]
    exact ⟨rfl, N0, rfl⟩
theorem pd_8 : parseMethodDescriptor "(IILjava/util/function/BiFunction;)I" = some ⟨[.int, .int, (.object "java/util/function/BiFunction")], some .int⟩ := by decide +kernel
theorem pn_21 : plainName "java/util/Objects" = true := by first | (simp [plainName, overriddenIn]; done) | decide +kernel
theorem d21_0 : decode jdk_31_method_17_code 0 = .ok (.iload_n 0, 1) := by decide +kernel
theorem d21_1 : decode jdk_31_method_17_code 1 = .ok (.iload_n 1, 1) := by decide +kernel
theorem d21_2 : decode jdk_31_method_17_code 2 = .ok (.aconst_null, 1) := by decide +kernel
theorem d21_3 : decode jdk_31_method_17_code 3 = .ok (.invokestatic 105, 3) := by decide +kernel
theorem d21_6 : decode jdk_31_method_17_code 6 = .ok (.ireturn, 1) := by decide +kernel
theorem ef_21_1_0 (m : MethodId)  : entryFrame m #[(.int (0 : Int32)), (.int (1 : Int32))] 2 = mkF m 0 #[.val (.int (0 : Int32)), .val (.int (1 : Int32))] [] := by first | (simp [entryFrame, mkF, argsToLocals, Value.category]; done) | rfl
def Q21_1_0 (Z : State)  (h0 : Heap) (n0 : Nat) (v : Option Value) (h : Heap) (L : List Loc) : Prop := v = some (.int (0 : Int32)) ∧ Fr n0 L ∧ h = h0
set_option maxRecDepth 65536 in
set_option maxHeartbeats 40000000 in
theorem rm21_1_0 (l : Launch) (Z : State) (a0 : Array Value) (hw : ∀ d ∈ tables_1, d.before a0 Z = true) (ws : List Jvm.Cond)  (h0 : Heap) (n0 : Nat) (Z0 : n0 ≤ h0.size) :
    MetFree l (⟨"java/util/Objects", "checkIndex", "(II)I"⟩ : MethodName) (head1 (Jvm.Cond.code (⟨"java/util/Objects", "checkIndex", "(II)I"⟩ : MethodName) jdk_31_method_17_code 2 (some .int) :: ws) ({ frames := 1, cells := 0, slots := 0, locals := 14 } : Room)) (fun a U => a = #[(.int (0 : Int32)), (.int (1 : Int32))] ∧ Z.Warmed39 U.vm ∧ U.heap = h0) (fun _ _ _ _ _ => True) (fun _ U o U' => ∃ v L, o = .returned v ∧ Q21_1_0 Z  h0 n0 v U'.heap L ∧ FrameEnd U o U' L ({ frames := 1, cells := 0, slots := 0, locals := 14 } : Room).cells ({ frames := 1, cells := 0, slots := 0, locals := 14 } : Room).slots) := by
  refine MetFree.of_bodySF (plainFor_of_name pn_21) hisR ?_
  intro p e s m args below meth c s₁ Bd hml0 hP hK
  obtain ⟨rfl, hZ, hh⟩ := hP
  have hx := Bd.exec
  have hby := Bd.bytes
  have hml : c.maxLocals = 2 := hml0
  have hown : s.vm.findClass "java/util/Objects" = some m.cls := findClass_of_methodNamed Bd.named
  have hnm := (name_of_methodNamed Bd.named Bd.method).1
  have X0 : Stand p l e ({ frames := 1, cells := 0, slots := 0, locals := 14 } : Room) s m #[(.int (0 : Int32)), (.int (1 : Int32))] below meth c s₁ [] 0 0 := Stand.of_body Bd
  have e0 : s₁.heap = h0 := by rw [← hh, Bd.state]; rfl
  have N0 := Fr.nil n0
  obtain ⟨S0, hS0⟩ : ∃ z, z = s₁.setTop (entryFrame m #[(.int (0 : Int32)), (.int (1 : Int32))] 2) := ⟨_, rfl⟩
  have P0 : own_Go p e below S0 (s₁.setTop (mkF m 0 #[.val (.int (0 : Int32)), .val (.int (1 : Int32))] [])) := fun t k => by rw [hS0]; exact castTop (ef_21_1_0 m ) k
  have P1 : own_Go p e below S0 (s₁.setTop (mkF m 3 #[.val (.int (0 : Int32)), .val (.int (1 : Int32))] [.null, (.int (1 : Int32)), (.int (0 : Int32))])) := fun t k => P0 t (by
    show Steps p.tables e below (s₁.setTop (mkF m 0 #[.val (.int (0 : Int32)), .val (.int (1 : Int32))] [])) t
    refine XS.iloadN X0.here hx rfl (hb hby d21_0) rfl ?_
    refine XS.iloadN X0.here hx rfl (hb hby d21_1) rfl ?_
    refine XS.aconstNull X0.here hx rfl (hb hby d21_2) ?_
    show Steps p.tables e below (s₁.setTop (mkF m 3 #[.val (.int (0 : Int32)), .val (.int (1 : Int32))] [.null, (.int (1 : Int32)), (.int (0 : Int32))])) t
    exact k)
  obtain ⟨_, _, ⟨T2, L2, k2, n2⟩, -, X2, ⟨Lc2, hQ2, l2, y2, z2⟩, st2⟩ := Jvm.LawKit.callS X0 hx (y := (⟨"jdk/internal/util/Preconditions", "checkIndex", "(IILjava/util/function/BiFunction;)I"⟩ : MethodName)) hown (mvT hZ (hw _ (List.mem_of_getElem? (i := 145) rfl))) (mvT hZ (hw _ (List.mem_of_getElem? (i := 146) rfl))) (mvT hZ (hw _ (List.mem_of_getElem? (i := 147) rfl))) (mvT hZ (hw _ (List.mem_of_getElem? (i := 148) rfl))) (by decide) (backOf (W := 0) (rm22_1_0 l Z a0 hw []  h0 n0 Z0) hZ (hw _ (List.mem_of_getElem? (i := 148) rfl)) (hw _ (List.mem_of_getElem? (i := 147) rfl)) (by decide) (by decide)) (g := (mkF m 3 #[.val (.int (0 : Int32)), .val (.int (1 : Int32))] [.null, (.int (1 : Int32)), (.int (0 : Int32))])) rfl (by rw [hml]; rfl) (argsL := [(.int (0 : Int32)), (.int (1 : Int32)), .null]) (rest := []) (lenOf pd_8 rfl) rfl (by show 2 * 0 + _ ≤ _; exact Nat.le_of_eq rfl) (hb hby d21_3) (fun _ _ => ⟨rfl, e0, (by decide : 0 + 0 ≤ _), (by decide : 0 + 0 ≤ _)⟩)
  dsimp only [Pt.U, Pt.locs, Pt.cells, Pt.slots] at X2 l2 y2 z2 st2 hQ2
  subst l2 y2 z2
  obtain ⟨rfl, N2q, e2⟩ := hQ2
  have N2 := Fr.app N0 N2q
  have P2 : own_Go p e below S0 (T2.setTop (mkF m 6 #[.val (.int (0 : Int32)), .val (.int (1 : Int32))] [(.int (0 : Int32))])) := fun t k => P1 t (st2 _ k)
  obtain ⟨fs, hr, hrun, hended, hW, hsame⟩ := X2.leave (v := some (.int (0 : Int32))) (fun h => by rw [Bd.returns] at h; cases h)
  refine ⟨_, _, own_from hS0 (P2 _ ?_), hrun, hended, _, _, rfl, ?_, ⟨_, rfl⟩, hW, hsame.mono (by decide) (by decide)⟩
  · show Steps p.tables e below (T2.setTop (mkF m 6 #[.val (.int (0 : Int32)), .val (.int (1 : Int32))] [(.int (0 : Int32))])) _
    exact retI X2 hx Bd.returns (hb hby d21_6) hr
  · show Q21_1_0 Z  h0 n0 _ T2.heap _
    rw [e2]
    exact ⟨rfl, N2, rfl⟩
theorem d23_0 : decode jdk_38_method_18_code 0 = .ok (.aload_n 0, 1) := by decide +kernel
theorem d23_1 : decode jdk_38_method_18_code 1 = .ok (.getfield 9, 3) := by decide +kernel
theorem d23_4 : decode jdk_38_method_18_code 4 = .ok (.iload_n 1, 1) := by decide +kernel
theorem d23_5 : decode jdk_38_method_18_code 5 = .ok (.aaload, 1) := by decide +kernel
theorem d23_6 : decode jdk_38_method_18_code 6 = .ok (.areturn, 1) := by decide +kernel
theorem ef_23_1_0 (m : MethodId) (q23_1_0_0 : Addr) : entryFrame m #[(.ref q23_1_0_0), (.int (0 : Int32))] 2 = mkF m 0 #[.val (.ref q23_1_0_0), .val (.int (0 : Int32))] [] := by first | (simp [entryFrame, mkF, argsToLocals, Value.category]; done) | rfl
def Q23_1_0 (Z : State) (q23_1_0_0 : Addr) (qa : Addr) (qk : ClassId) (x0 : Addr) (h0 : Heap) (n0 : Nat) (v : Option Value) (h : Heap) (L : List Loc) : Prop := v = some (.ref x0) ∧ Fr n0 L ∧ h = h0
set_option maxRecDepth 65536 in
set_option maxHeartbeats 40000000 in
theorem rm23_1_0 (l : Launch) (Z : State) (a0 : Array Value) (hw : ∀ d ∈ tables_1, d.before a0 Z = true) (ws : List Jvm.Cond) (q23_1_0_0 : Addr) (qa : Addr) (qk : ClassId) (x0 : Addr) (h0 : Heap) (n0 : Nat) (Z0 : n0 ≤ h0.size) (F_q23_1_0_0_elementData : Fld Z h0 q23_1_0_0 "java/util/ArrayList" "elementData" "[Ljava/lang/Object;" (.ref qa)) (A_qa : Arv Z h0 qa qk (.object "java/lang/Object") (10 : Int32) [(.ref x0), .null, .null, .null, .null, .null, .null, .null, .null, .null] .null) :
    MetFree l (⟨"java/util/ArrayList", "elementData", "(I)Ljava/lang/Object;"⟩ : MethodName) (head1 (Jvm.Cond.code (⟨"java/util/ArrayList", "elementData", "(I)Ljava/lang/Object;"⟩ : MethodName) jdk_38_method_18_code 2 (some (.object "java/lang/Object")) :: ws) ({ frames := 0, cells := 0, slots := 0, locals := 0 } : Room)) (fun a U => a = #[(.ref q23_1_0_0), (.int (0 : Int32))] ∧ Z.Warmed39 U.vm ∧ U.heap = h0) (fun _ _ _ _ _ => True) (fun _ U o U' => ∃ v L, o = .returned v ∧ Q23_1_0 Z q23_1_0_0 qa qk x0 h0 n0 v U'.heap L ∧ FrameEnd U o U' L ({ frames := 0, cells := 0, slots := 0, locals := 0 } : Room).cells ({ frames := 0, cells := 0, slots := 0, locals := 0 } : Room).slots) := by
  refine MetFree.of_bodySF (plainFor_of_name pn_5) hisR ?_
  intro p e s m args below meth c s₁ Bd hml0 hP hK
  obtain ⟨rfl, hZ, hh⟩ := hP
  have hx := Bd.exec
  have hby := Bd.bytes
  have hml : c.maxLocals = 2 := hml0
  have hown : s.vm.findClass "java/util/ArrayList" = some m.cls := findClass_of_methodNamed Bd.named
  have hnm := (name_of_methodNamed Bd.named Bd.method).1
  have X0 : Stand p l e ({ frames := 0, cells := 0, slots := 0, locals := 0 } : Room) s m #[(.ref q23_1_0_0), (.int (0 : Int32))] below meth c s₁ [] 0 0 := Stand.of_body Bd
  have e0 : s₁.heap = h0 := by rw [← hh, Bd.state]; rfl
  have N0 := Fr.nil n0
  obtain ⟨S0, hS0⟩ : ∃ z, z = s₁.setTop (entryFrame m #[(.ref q23_1_0_0), (.int (0 : Int32))] 2) := ⟨_, rfl⟩
  have P0 : own_Go p e below S0 (s₁.setTop (mkF m 0 #[.val (.ref q23_1_0_0), .val (.int (0 : Int32))] [])) := fun t k => by rw [hS0]; exact castTop (ef_23_1_0 m q23_1_0_0) k
  have P1 : own_Go p e below S0 (s₁.setTop (mkF m 1 #[.val (.ref q23_1_0_0), .val (.int (0 : Int32))] [(.ref q23_1_0_0)])) := fun t k => P0 t (by
    show Steps p.tables e below (s₁.setTop (mkF m 0 #[.val (.ref q23_1_0_0), .val (.int (0 : Int32))] [])) t
    refine XS.aloadN X0.here hx rfl (hb hby d23_0) rfl rfl ?_
    show Steps p.tables e below (s₁.setTop (mkF m 1 #[.val (.ref q23_1_0_0), .val (.int (0 : Int32))] [(.ref q23_1_0_0)])) t
    exact k)
  obtain ⟨T2, X2, e2, st2⟩ := getF X0 hx hZ hown (host := "") (Or.inl (hw _ (List.mem_of_getElem? (i := 49) rfl))) Via.refl e0 F_q23_1_0_0_elementData (g := (mkF m 1 #[.val (.ref q23_1_0_0), .val (.int (0 : Int32))] [(.ref q23_1_0_0)])) rfl rfl (hb hby d23_1)
  have P2 : own_Go p e below S0 (T2.setTop (mkF m 4 #[.val (.ref q23_1_0_0), .val (.int (0 : Int32))] [(.ref qa)])) := fun t k => P1 t (st2 _ k)
  obtain ⟨cl3, Ar3, q3, Sz3, Nn3, Hh3, Gg3⟩ := id A_qa
  have hin3 : ¬ ((0 : Int32) < 0 ∨ cl3.slots.size ≤ ((0 : Int32)).toNatClampNeg) := inb_of Sz3 ⟨by decide, by decide⟩
  have hat3 : cl3.slots[((0 : Int32)).toNatClampNeg]? = some (.ref x0) := Has.at Hh3 hin3 rfl
  have P4 : own_Go p e below S0 (T2.setTop (mkF m 6 #[.val (.ref q23_1_0_0), .val (.int (0 : Int32))] [(.ref x0)])) := fun t k => P2 t (by
    show Steps p.tables e below (T2.setTop (mkF m 4 #[.val (.ref q23_1_0_0), .val (.int (0 : Int32))] [(.ref qa)])) t
    refine XS.iloadN X2.here hx rfl (hb hby d23_4) rfl ?_
    show Steps p.tables e below (T2.setTop (mkF m 5 #[.val (.ref q23_1_0_0), .val (.int (0 : Int32))] [(.int (0 : Int32)), (.ref qa)])) t
    refine X2.aaload hx (j := (0 : Int32)) (v := (.ref x0)) (by rw [e2]; exact Ar3.1) (State.isArrayOf_alike hZ.alike Ar3.2.1) rfl Ar3.2.2 hin3 hat3 (g := (mkF m 5 #[.val (.ref q23_1_0_0), .val (.int (0 : Int32))] [(.int (0 : Int32)), (.ref qa)])) rfl rfl (hb hby d23_5) _ ?_
    show Steps p.tables e below (T2.setTop (mkF m 6 #[.val (.ref q23_1_0_0), .val (.int (0 : Int32))] [(.ref x0)])) t
    exact k)
  obtain ⟨fs, hr, hrun, hended, hW, hsame⟩ := X2.leave (v := some (.ref x0)) (fun h => by rw [Bd.returns] at h; cases h)
  refine ⟨_, _, own_from hS0 (P4 _ ?_), hrun, hended, _, _, rfl, ?_, ⟨_, rfl⟩, hW, hsame.mono (by decide) (by decide)⟩
  · show Steps p.tables e below (T2.setTop (mkF m 6 #[.val (.ref q23_1_0_0), .val (.int (0 : Int32))] [(.ref x0)])) _
    jvm_step X2.here [X2.here.top, hx, (hb hby d23_6), X2.method', Bd.returns, Value.isRef, FieldType.isReference]
    first | (intro acts; rw [hr _ acts rfl rfl rfl]) | rw [hr _ _ rfl rfl rfl]
    exact Steps.refl _
  · show Q23_1_0 Z q23_1_0_0 qa qk x0 h0 n0 _ T2.heap _
    rw [e2]
    exact ⟨rfl, N0, rfl⟩
theorem pd_9 : parseMethodDescriptor "(I)Ljava/lang/Object;" = some ⟨[.int], some (.object "java/lang/Object")⟩ := by decide +kernel
theorem d20_0 : decode jdk_38_method_20_code 0 = .ok (.iload_n 1, 1) := by decide +kernel
theorem d20_1 : decode jdk_38_method_20_code 1 = .ok (.aload_n 0, 1) := by decide +kernel
theorem d20_2 : decode jdk_38_method_20_code 2 = .ok (.getfield 48, 3) := by decide +kernel
theorem d20_5 : decode jdk_38_method_20_code 5 = .ok (.invokestatic 118, 3) := by decide +kernel
theorem d20_8 : decode jdk_38_method_20_code 8 = .ok (.pop, 1) := by decide +kernel
theorem d20_9 : decode jdk_38_method_20_code 9 = .ok (.aload_n 0, 1) := by decide +kernel
theorem d20_10 : decode jdk_38_method_20_code 10 = .ok (.iload_n 1, 1) := by decide +kernel
theorem d20_11 : decode jdk_38_method_20_code 11 = .ok (.invokevirtual 123, 3) := by decide +kernel
theorem d20_14 : decode jdk_38_method_20_code 14 = .ok (.areturn, 1) := by decide +kernel
theorem ef_20_1_0 (m : MethodId) (q20_1_0_0 : Addr) : entryFrame m #[(.ref q20_1_0_0), (.int (0 : Int32))] 2 = mkF m 0 #[.val (.ref q20_1_0_0), .val (.int (0 : Int32))] [] := by first | (simp [entryFrame, mkF, argsToLocals, Value.category]; done) | rfl
def Q20_1_0 (Z : State) (q20_1_0_0 : Addr) (qa : Addr) (qk : ClassId) (x0 : Addr) (h0 : Heap) (n0 : Nat) (v : Option Value) (h : Heap) (L : List Loc) : Prop := v = some (.ref x0) ∧ Fr n0 L ∧ h = h0
set_option maxRecDepth 65536 in
set_option maxHeartbeats 40000000 in
theorem rm20_1_0 (l : Launch) (Z : State) (a0 : Array Value) (hw : ∀ d ∈ tables_1, d.before a0 Z = true) (ws : List Jvm.Cond) (q20_1_0_0 : Addr) (qa : Addr) (qk : ClassId) (x0 : Addr) (h0 : Heap) (n0 : Nat) (Z0 : n0 ≤ h0.size) (F_q20_1_0_0_size : Fld Z h0 q20_1_0_0 "java/util/ArrayList" "size" "I" (.int (1 : Int32))) (F_q20_1_0_0_elementData : Fld Z h0 q20_1_0_0 "java/util/ArrayList" "elementData" "[Ljava/lang/Object;" (.ref qa)) (A_qa : Arv Z h0 qa qk (.object "java/lang/Object") (10 : Int32) [(.ref x0), .null, .null, .null, .null, .null, .null, .null, .null, .null] .null) (E_q20_1_0_0 : Exa Z h0 q20_1_0_0 "java/util/ArrayList") :
    MetFree l (⟨"java/util/ArrayList", "get", "(I)Ljava/lang/Object;"⟩ : MethodName) (head1 (Jvm.Cond.code (⟨"java/util/ArrayList", "get", "(I)Ljava/lang/Object;"⟩ : MethodName) jdk_38_method_20_code 2 (some (.object "java/lang/Object")) :: ws) ({ frames := 2, cells := 0, slots := 0, locals := 27 } : Room)) (fun a U => a = #[(.ref q20_1_0_0), (.int (0 : Int32))] ∧ Z.Warmed39 U.vm ∧ U.heap = h0) (fun _ _ _ _ _ => True) (fun _ U o U' => ∃ v L, o = .returned v ∧ Q20_1_0 Z q20_1_0_0 qa qk x0 h0 n0 v U'.heap L ∧ FrameEnd U o U' L ({ frames := 2, cells := 0, slots := 0, locals := 27 } : Room).cells ({ frames := 2, cells := 0, slots := 0, locals := 27 } : Room).slots) := by
  refine MetFree.of_bodySF (plainFor_of_name pn_5) hisR ?_
  intro p e s m args below meth c s₁ Bd hml0 hP hK
  obtain ⟨rfl, hZ, hh⟩ := hP
  have hx := Bd.exec
  have hby := Bd.bytes
  have hml : c.maxLocals = 2 := hml0
  have hown : s.vm.findClass "java/util/ArrayList" = some m.cls := findClass_of_methodNamed Bd.named
  have hnm := (name_of_methodNamed Bd.named Bd.method).1
  have X0 : Stand p l e ({ frames := 2, cells := 0, slots := 0, locals := 27 } : Room) s m #[(.ref q20_1_0_0), (.int (0 : Int32))] below meth c s₁ [] 0 0 := Stand.of_body Bd
  have e0 : s₁.heap = h0 := by rw [← hh, Bd.state]; rfl
  have N0 := Fr.nil n0
  obtain ⟨S0, hS0⟩ : ∃ z, z = s₁.setTop (entryFrame m #[(.ref q20_1_0_0), (.int (0 : Int32))] 2) := ⟨_, rfl⟩
  have P0 : own_Go p e below S0 (s₁.setTop (mkF m 0 #[.val (.ref q20_1_0_0), .val (.int (0 : Int32))] [])) := fun t k => by rw [hS0]; exact castTop (ef_20_1_0 m q20_1_0_0) k
  have P1 : own_Go p e below S0 (s₁.setTop (mkF m 2 #[.val (.ref q20_1_0_0), .val (.int (0 : Int32))] [(.ref q20_1_0_0), (.int (0 : Int32))])) := fun t k => P0 t (by
    show Steps p.tables e below (s₁.setTop (mkF m 0 #[.val (.ref q20_1_0_0), .val (.int (0 : Int32))] [])) t
    refine XS.iloadN X0.here hx rfl (hb hby d20_0) rfl ?_
    refine XS.aloadN X0.here hx rfl (hb hby d20_1) rfl rfl ?_
    show Steps p.tables e below (s₁.setTop (mkF m 2 #[.val (.ref q20_1_0_0), .val (.int (0 : Int32))] [(.ref q20_1_0_0), (.int (0 : Int32))])) t
    exact k)
  obtain ⟨T2, X2, e2, st2⟩ := getF X0 hx hZ hown (host := "") (Or.inl (hw _ (List.mem_of_getElem? (i := 58) rfl))) Via.refl e0 F_q20_1_0_0_size (g := (mkF m 2 #[.val (.ref q20_1_0_0), .val (.int (0 : Int32))] [(.ref q20_1_0_0), (.int (0 : Int32))])) rfl rfl (hb hby d20_2)
  have P2 : own_Go p e below S0 (T2.setTop (mkF m 5 #[.val (.ref q20_1_0_0), .val (.int (0 : Int32))] [(.int (1 : Int32)), (.int (0 : Int32))])) := fun t k => P1 t (st2 _ k)
  obtain ⟨_, _, ⟨T3, L3, k3, n3⟩, -, X3, ⟨Lc3, hQ3, l3, y3, z3⟩, st3⟩ := Jvm.LawKit.callS X2 hx (y := (⟨"java/util/Objects", "checkIndex", "(II)I"⟩ : MethodName)) hown (mvT hZ (hw _ (List.mem_of_getElem? (i := 141) rfl))) (mvT hZ (hw _ (List.mem_of_getElem? (i := 142) rfl))) (mvT hZ (hw _ (List.mem_of_getElem? (i := 143) rfl))) (mvT hZ (hw _ (List.mem_of_getElem? (i := 144) rfl))) (by decide) (backOf (W := 0) (rm21_1_0 l Z a0 hw []  h0 n0 Z0) hZ (hw _ (List.mem_of_getElem? (i := 144) rfl)) (hw _ (List.mem_of_getElem? (i := 143) rfl)) (by decide) (by decide)) (g := (mkF m 5 #[.val (.ref q20_1_0_0), .val (.int (0 : Int32))] [(.int (1 : Int32)), (.int (0 : Int32))])) rfl (by rw [hml]; rfl) (argsL := [(.int (0 : Int32)), (.int (1 : Int32))]) (rest := []) (lenOf pd_2 rfl) rfl (by show 2 * 0 + _ ≤ _; exact Nat.le_of_eq rfl) (hb hby d20_5) (fun _ _ => ⟨rfl, e2, (by decide : 0 + 0 ≤ _), (by decide : 0 + 0 ≤ _)⟩)
  dsimp only [Pt.U, Pt.locs, Pt.cells, Pt.slots] at X3 l3 y3 z3 st3 hQ3
  subst l3 y3 z3
  obtain ⟨rfl, N3q, e3⟩ := hQ3
  have N3 := Fr.app N0 N3q
  have P3 : own_Go p e below S0 (T3.setTop (mkF m 8 #[.val (.ref q20_1_0_0), .val (.int (0 : Int32))] [(.int (0 : Int32))])) := fun t k => P2 t (st3 _ k)
  have P4 : own_Go p e below S0 (T3.setTop (mkF m 11 #[.val (.ref q20_1_0_0), .val (.int (0 : Int32))] [(.int (0 : Int32)), (.ref q20_1_0_0)])) := fun t k => P3 t (by
    show Steps p.tables e below (T3.setTop (mkF m 8 #[.val (.ref q20_1_0_0), .val (.int (0 : Int32))] [(.int (0 : Int32))])) t
    refine XS.pop X3.here hx rfl (hb hby d20_8) rfl rfl ?_
    refine XS.aloadN X3.here hx rfl (hb hby d20_9) rfl rfl ?_
    refine XS.iloadN X3.here hx rfl (hb hby d20_10) rfl ?_
    show Steps p.tables e below (T3.setTop (mkF m 11 #[.val (.ref q20_1_0_0), .val (.int (0 : Int32))] [(.int (0 : Int32)), (.ref q20_1_0_0)])) t
    exact k)
  obtain ⟨cq5, kq5, q5a, q5b, q5c⟩ := isOf hZ e3 E_q20_1_0_0
  obtain ⟨_, _, ⟨T5, L5, k5, n5⟩, -, X5, ⟨Lc5, hQ5, l5, y5, z5⟩, st5⟩ := X3.virtualBack hx (y := (⟨"java/util/ArrayList", "elementData", "(I)Ljava/lang/Object;"⟩ : MethodName)) (z := (⟨"java/util/ArrayList", "elementData", "(I)Ljava/lang/Object;"⟩ : MethodName)) hown (mvT hZ (hw _ (List.mem_of_getElem? (i := 149) rfl))) (mvT hZ (hw _ (List.mem_of_getElem? (i := 150) rfl))) (notFace_of_selects (args := #[]) (mvT hZ (hw _ (List.mem_of_getElem? (i := 152) rfl)))) (mvT hZ (hw _ (List.mem_of_getElem? (i := 152) rfl))) (mvT hZ (hw _ (List.mem_of_getElem? (i := 151) rfl))) (by decide) (backOf (W := 0) (rm23_1_0 l Z a0 hw [] q20_1_0_0 qa qk x0 h0 n0 Z0 F_q20_1_0_0_elementData A_qa) hZ (hw _ (List.mem_of_getElem? (i := 153) rfl)) (hw _ (List.mem_of_getElem? (i := 29) rfl)) (by decide) (by decide)) q5a q5c (g := (mkF m 11 #[.val (.ref q20_1_0_0), .val (.int (0 : Int32))] [(.int (0 : Int32)), (.ref q20_1_0_0)])) rfl (by rw [hml]; rfl) (Steps.refl _) (argsL := [(.int (0 : Int32))]) (rest := []) (lenOf pd_9 rfl) rfl (by show 2 * 0 + _ ≤ _; exact Nat.le_of_eq rfl) (hb hby d20_11) (fun _ _ => ⟨rfl, e3, (by decide : 0 + 0 ≤ _), (by decide : 0 + 0 ≤ _)⟩)
  dsimp only [Pt.U, Pt.locs, Pt.cells, Pt.slots] at X5 l5 y5 z5 st5 hQ5
  subst l5 y5 z5
  obtain ⟨rfl, N5q, e5⟩ := hQ5
  have N5 := Fr.app N3 N5q
  have P5 : own_Go p e below S0 (T5.setTop (mkF m 14 #[.val (.ref q20_1_0_0), .val (.int (0 : Int32))] [(.ref x0)])) := fun t k => P4 t (st5.trans k)
  obtain ⟨fs, hr, hrun, hended, hW, hsame⟩ := X5.leave (v := some (.ref x0)) (fun h => by rw [Bd.returns] at h; cases h)
  refine ⟨_, _, own_from hS0 (P5 _ ?_), hrun, hended, _, _, rfl, ?_, ⟨_, rfl⟩, hW, hsame.mono (by decide) (by decide)⟩
  · show Steps p.tables e below (T5.setTop (mkF m 14 #[.val (.ref q20_1_0_0), .val (.int (0 : Int32))] [(.ref x0)])) _
    jvm_step X5.here [X5.here.top, hx, (hb hby d20_14), X5.method', Bd.returns, Value.isRef, FieldType.isReference]
    first | (intro acts; rw [hr _ acts rfl rfl rfl]) | rw [hr _ _ rfl rfl rfl]
    exact Steps.refl _
  · show Q20_1_0 Z q20_1_0_0 qa qk x0 h0 n0 _ T5.heap _
    rw [e5]
    exact ⟨rfl, N5, rfl⟩
theorem ef_22_2_0 (m : MethodId)  : entryFrame m #[(.int (0 : Int32)), (.int (2 : Int32)), .null] 3 = mkF m 0 #[.val (.int (0 : Int32)), .val (.int (2 : Int32)), .val .null] [] := by first | (simp [entryFrame, mkF, argsToLocals, Value.category]; done) | rfl
def Q22_2_0 (Z : State)  (h0 : Heap) (n0 : Nat) (v : Option Value) (h : Heap) (L : List Loc) : Prop := v = some (.int (0 : Int32)) ∧ Fr n0 L ∧ h = h0
set_option maxRecDepth 65536 in
set_option maxHeartbeats 40000000 in
theorem rm22_2_0 (l : Launch) (Z : State) (a0 : Array Value) (hw : ∀ d ∈ tables_1, d.before a0 Z = true) (ws : List Jvm.Cond)  (h0 : Heap) (n0 : Nat) (Z0 : n0 ≤ h0.size) :
    MetFree l (⟨"jdk/internal/util/Preconditions", "checkIndex", "(IILjava/util/function/BiFunction;)I"⟩ : MethodName) (head1 (Jvm.Cond.code (⟨"jdk/internal/util/Preconditions", "checkIndex", "(IILjava/util/function/BiFunction;)I"⟩ : MethodName) jdk_41_method_11_code 3 (some .int) :: ws) ({ frames := 0, cells := 0, slots := 0, locals := 0 } : Room)) (fun a U => a = #[(.int (0 : Int32)), (.int (2 : Int32)), .null] ∧ Z.Warmed39 U.vm ∧ U.heap = h0) (fun _ _ _ _ _ => True) (fun _ U o U' => ∃ v L, o = .returned v ∧ Q22_2_0 Z  h0 n0 v U'.heap L ∧ FrameEnd U o U' L ({ frames := 0, cells := 0, slots := 0, locals := 0 } : Room).cells ({ frames := 0, cells := 0, slots := 0, locals := 0 } : Room).slots) := by
  refine MetFree.of_bodySF (plainFor_of_name pn_22) hisR ?_
  intro p e s m args below meth c s₁ Bd hml0 hP hK
  obtain ⟨rfl, hZ, hh⟩ := hP
  have hx := Bd.exec
  have hby := Bd.bytes
  have hml : c.maxLocals = 3 := hml0
  have hown : s.vm.findClass "jdk/internal/util/Preconditions" = some m.cls := findClass_of_methodNamed Bd.named
  have hnm := (name_of_methodNamed Bd.named Bd.method).1
  have X0 : Stand p l e ({ frames := 0, cells := 0, slots := 0, locals := 0 } : Room) s m #[(.int (0 : Int32)), (.int (2 : Int32)), .null] below meth c s₁ [] 0 0 := Stand.of_body Bd
  have e0 : s₁.heap = h0 := by rw [← hh, Bd.state]; rfl
  have N0 := Fr.nil n0
  obtain ⟨S0, hS0⟩ : ∃ z, z = s₁.setTop (entryFrame m #[(.int (0 : Int32)), (.int (2 : Int32)), .null] 3) := ⟨_, rfl⟩
  have P0 : own_Go p e below S0 (s₁.setTop (mkF m 0 #[.val (.int (0 : Int32)), .val (.int (2 : Int32)), .val .null] [])) := fun t k => by rw [hS0]; exact castTop (ef_22_2_0 m ) k
  have P1 : own_Go p e below S0 (s₁.setTop (mkF m 17 #[.val (.int (0 : Int32)), .val (.int (2 : Int32)), .val .null] [(.int (0 : Int32))])) := fun t k => P0 t (by
    show Steps p.tables e below (s₁.setTop (mkF m 0 #[.val (.int (0 : Int32)), .val (.int (2 : Int32)), .val .null] [])) t
    refine XS.iloadN X0.here hx rfl (hb hby d22_0) rfl ?_
    refine XS.ifNo X0.here hx rfl (hb hby d22_1) rfl ((if0 _ _).trans (flt (by decide)).1) ?_
    refine XS.iloadN X0.here hx rfl (hb hby d22_4) rfl ?_
    refine XS.iloadN X0.here hx rfl (hb hby d22_5) rfl ?_
    refine XS.icmpYes X0.here hx rfl (pc0 := 6) (pc' := 16) rfl (hb hby d22_6) rfl (tlt (by decide)).1 (by decide) (by decide) ?_
    refine XS.iloadN X0.here hx rfl (hb hby d22_16) rfl ?_
    show Steps p.tables e below (s₁.setTop (mkF m 17 #[.val (.int (0 : Int32)), .val (.int (2 : Int32)), .val .null] [(.int (0 : Int32))])) t
    exact k)
  obtain ⟨fs, hr, hrun, hended, hW, hsame⟩ := X0.leave (v := some (.int (0 : Int32))) (fun h => by rw [Bd.returns] at h; cases h)
  refine ⟨_, _, own_from hS0 (P1 _ ?_), hrun, hended, _, _, rfl, ?_, ⟨_, rfl⟩, hW, hsame.mono (by decide) (by decide)⟩
  · show Steps p.tables e below (s₁.setTop (mkF m 17 #[.val (.int (0 : Int32)), .val (.int (2 : Int32)), .val .null] [(.int (0 : Int32))])) _
    exact retI X0 hx Bd.returns (hb hby d22_17) hr
  · show Q22_2_0 Z  h0 n0 _ s₁.heap _
    rw [e0]
    exact ⟨rfl, N0, rfl⟩
theorem ef_21_2_0 (m : MethodId)  : entryFrame m #[(.int (0 : Int32)), (.int (2 : Int32))] 2 = mkF m 0 #[.val (.int (0 : Int32)), .val (.int (2 : Int32))] [] := by first | (simp [entryFrame, mkF, argsToLocals, Value.category]; done) | rfl
def Q21_2_0 (Z : State)  (h0 : Heap) (n0 : Nat) (v : Option Value) (h : Heap) (L : List Loc) : Prop := v = some (.int (0 : Int32)) ∧ Fr n0 L ∧ h = h0
set_option maxRecDepth 65536 in
set_option maxHeartbeats 40000000 in
theorem rm21_2_0 (l : Launch) (Z : State) (a0 : Array Value) (hw : ∀ d ∈ tables_1, d.before a0 Z = true) (ws : List Jvm.Cond)  (h0 : Heap) (n0 : Nat) (Z0 : n0 ≤ h0.size) :
    MetFree l (⟨"java/util/Objects", "checkIndex", "(II)I"⟩ : MethodName) (head1 (Jvm.Cond.code (⟨"java/util/Objects", "checkIndex", "(II)I"⟩ : MethodName) jdk_31_method_17_code 2 (some .int) :: ws) ({ frames := 1, cells := 0, slots := 0, locals := 14 } : Room)) (fun a U => a = #[(.int (0 : Int32)), (.int (2 : Int32))] ∧ Z.Warmed39 U.vm ∧ U.heap = h0) (fun _ _ _ _ _ => True) (fun _ U o U' => ∃ v L, o = .returned v ∧ Q21_2_0 Z  h0 n0 v U'.heap L ∧ FrameEnd U o U' L ({ frames := 1, cells := 0, slots := 0, locals := 14 } : Room).cells ({ frames := 1, cells := 0, slots := 0, locals := 14 } : Room).slots) := by
  refine MetFree.of_bodySF (plainFor_of_name pn_21) hisR ?_
  intro p e s m args below meth c s₁ Bd hml0 hP hK
  obtain ⟨rfl, hZ, hh⟩ := hP
  have hx := Bd.exec
  have hby := Bd.bytes
  have hml : c.maxLocals = 2 := hml0
  have hown : s.vm.findClass "java/util/Objects" = some m.cls := findClass_of_methodNamed Bd.named
  have hnm := (name_of_methodNamed Bd.named Bd.method).1
  have X0 : Stand p l e ({ frames := 1, cells := 0, slots := 0, locals := 14 } : Room) s m #[(.int (0 : Int32)), (.int (2 : Int32))] below meth c s₁ [] 0 0 := Stand.of_body Bd
  have e0 : s₁.heap = h0 := by rw [← hh, Bd.state]; rfl
  have N0 := Fr.nil n0
  obtain ⟨S0, hS0⟩ : ∃ z, z = s₁.setTop (entryFrame m #[(.int (0 : Int32)), (.int (2 : Int32))] 2) := ⟨_, rfl⟩
  have P0 : own_Go p e below S0 (s₁.setTop (mkF m 0 #[.val (.int (0 : Int32)), .val (.int (2 : Int32))] [])) := fun t k => by rw [hS0]; exact castTop (ef_21_2_0 m ) k
  have P1 : own_Go p e below S0 (s₁.setTop (mkF m 3 #[.val (.int (0 : Int32)), .val (.int (2 : Int32))] [.null, (.int (2 : Int32)), (.int (0 : Int32))])) := fun t k => P0 t (by
    show Steps p.tables e below (s₁.setTop (mkF m 0 #[.val (.int (0 : Int32)), .val (.int (2 : Int32))] [])) t
    refine XS.iloadN X0.here hx rfl (hb hby d21_0) rfl ?_
    refine XS.iloadN X0.here hx rfl (hb hby d21_1) rfl ?_
    refine XS.aconstNull X0.here hx rfl (hb hby d21_2) ?_
    show Steps p.tables e below (s₁.setTop (mkF m 3 #[.val (.int (0 : Int32)), .val (.int (2 : Int32))] [.null, (.int (2 : Int32)), (.int (0 : Int32))])) t
    exact k)
  obtain ⟨_, _, ⟨T2, L2, k2, n2⟩, -, X2, ⟨Lc2, hQ2, l2, y2, z2⟩, st2⟩ := Jvm.LawKit.callS X0 hx (y := (⟨"jdk/internal/util/Preconditions", "checkIndex", "(IILjava/util/function/BiFunction;)I"⟩ : MethodName)) hown (mvT hZ (hw _ (List.mem_of_getElem? (i := 145) rfl))) (mvT hZ (hw _ (List.mem_of_getElem? (i := 146) rfl))) (mvT hZ (hw _ (List.mem_of_getElem? (i := 147) rfl))) (mvT hZ (hw _ (List.mem_of_getElem? (i := 148) rfl))) (by decide) (backOf (W := 0) (rm22_2_0 l Z a0 hw []  h0 n0 Z0) hZ (hw _ (List.mem_of_getElem? (i := 148) rfl)) (hw _ (List.mem_of_getElem? (i := 147) rfl)) (by decide) (by decide)) (g := (mkF m 3 #[.val (.int (0 : Int32)), .val (.int (2 : Int32))] [.null, (.int (2 : Int32)), (.int (0 : Int32))])) rfl (by rw [hml]; rfl) (argsL := [(.int (0 : Int32)), (.int (2 : Int32)), .null]) (rest := []) (lenOf pd_8 rfl) rfl (by show 2 * 0 + _ ≤ _; exact Nat.le_of_eq rfl) (hb hby d21_3) (fun _ _ => ⟨rfl, e0, (by decide : 0 + 0 ≤ _), (by decide : 0 + 0 ≤ _)⟩)
  dsimp only [Pt.U, Pt.locs, Pt.cells, Pt.slots] at X2 l2 y2 z2 st2 hQ2
  subst l2 y2 z2
  obtain ⟨rfl, N2q, e2⟩ := hQ2
  have N2 := Fr.app N0 N2q
  have P2 : own_Go p e below S0 (T2.setTop (mkF m 6 #[.val (.int (0 : Int32)), .val (.int (2 : Int32))] [(.int (0 : Int32))])) := fun t k => P1 t (st2 _ k)
  obtain ⟨fs, hr, hrun, hended, hW, hsame⟩ := X2.leave (v := some (.int (0 : Int32))) (fun h => by rw [Bd.returns] at h; cases h)
  refine ⟨_, _, own_from hS0 (P2 _ ?_), hrun, hended, _, _, rfl, ?_, ⟨_, rfl⟩, hW, hsame.mono (by decide) (by decide)⟩
  · show Steps p.tables e below (T2.setTop (mkF m 6 #[.val (.int (0 : Int32)), .val (.int (2 : Int32))] [(.int (0 : Int32))])) _
    exact retI X2 hx Bd.returns (hb hby d21_6) hr
  · show Q21_2_0 Z  h0 n0 _ T2.heap _
    rw [e2]
    exact ⟨rfl, N2, rfl⟩
theorem ef_23_2_0 (m : MethodId) (q23_2_0_0 : Addr) : entryFrame m #[(.ref q23_2_0_0), (.int (0 : Int32))] 2 = mkF m 0 #[.val (.ref q23_2_0_0), .val (.int (0 : Int32))] [] := by first | (simp [entryFrame, mkF, argsToLocals, Value.category]; done) | rfl
def Q23_2_0 (Z : State) (q23_2_0_0 : Addr) (qa : Addr) (qk : ClassId) (x0 : Addr) (x1 : Addr) (h0 : Heap) (n0 : Nat) (v : Option Value) (h : Heap) (L : List Loc) : Prop := v = some (.ref x0) ∧ Fr n0 L ∧ h = h0
set_option maxRecDepth 65536 in
set_option maxHeartbeats 40000000 in
theorem rm23_2_0 (l : Launch) (Z : State) (a0 : Array Value) (hw : ∀ d ∈ tables_1, d.before a0 Z = true) (ws : List Jvm.Cond) (q23_2_0_0 : Addr) (qa : Addr) (qk : ClassId) (x0 : Addr) (x1 : Addr) (h0 : Heap) (n0 : Nat) (Z0 : n0 ≤ h0.size) (F_q23_2_0_0_elementData : Fld Z h0 q23_2_0_0 "java/util/ArrayList" "elementData" "[Ljava/lang/Object;" (.ref qa)) (A_qa : Arv Z h0 qa qk (.object "java/lang/Object") (10 : Int32) [(.ref x0), (.ref x1), .null, .null, .null, .null, .null, .null, .null, .null] .null) :
    MetFree l (⟨"java/util/ArrayList", "elementData", "(I)Ljava/lang/Object;"⟩ : MethodName) (head1 (Jvm.Cond.code (⟨"java/util/ArrayList", "elementData", "(I)Ljava/lang/Object;"⟩ : MethodName) jdk_38_method_18_code 2 (some (.object "java/lang/Object")) :: ws) ({ frames := 0, cells := 0, slots := 0, locals := 0 } : Room)) (fun a U => a = #[(.ref q23_2_0_0), (.int (0 : Int32))] ∧ Z.Warmed39 U.vm ∧ U.heap = h0) (fun _ _ _ _ _ => True) (fun _ U o U' => ∃ v L, o = .returned v ∧ Q23_2_0 Z q23_2_0_0 qa qk x0 x1 h0 n0 v U'.heap L ∧ FrameEnd U o U' L ({ frames := 0, cells := 0, slots := 0, locals := 0 } : Room).cells ({ frames := 0, cells := 0, slots := 0, locals := 0 } : Room).slots) := by
  refine MetFree.of_bodySF (plainFor_of_name pn_5) hisR ?_
  intro p e s m args below meth c s₁ Bd hml0 hP hK
  obtain ⟨rfl, hZ, hh⟩ := hP
  have hx := Bd.exec
  have hby := Bd.bytes
  have hml : c.maxLocals = 2 := hml0
  have hown : s.vm.findClass "java/util/ArrayList" = some m.cls := findClass_of_methodNamed Bd.named
  have hnm := (name_of_methodNamed Bd.named Bd.method).1
  have X0 : Stand p l e ({ frames := 0, cells := 0, slots := 0, locals := 0 } : Room) s m #[(.ref q23_2_0_0), (.int (0 : Int32))] below meth c s₁ [] 0 0 := Stand.of_body Bd
  have e0 : s₁.heap = h0 := by rw [← hh, Bd.state]; rfl
  have N0 := Fr.nil n0
  obtain ⟨S0, hS0⟩ : ∃ z, z = s₁.setTop (entryFrame m #[(.ref q23_2_0_0), (.int (0 : Int32))] 2) := ⟨_, rfl⟩
  have P0 : own_Go p e below S0 (s₁.setTop (mkF m 0 #[.val (.ref q23_2_0_0), .val (.int (0 : Int32))] [])) := fun t k => by rw [hS0]; exact castTop (ef_23_2_0 m q23_2_0_0) k
  have P1 : own_Go p e below S0 (s₁.setTop (mkF m 1 #[.val (.ref q23_2_0_0), .val (.int (0 : Int32))] [(.ref q23_2_0_0)])) := fun t k => P0 t (by
    show Steps p.tables e below (s₁.setTop (mkF m 0 #[.val (.ref q23_2_0_0), .val (.int (0 : Int32))] [])) t
    refine XS.aloadN X0.here hx rfl (hb hby d23_0) rfl rfl ?_
    show Steps p.tables e below (s₁.setTop (mkF m 1 #[.val (.ref q23_2_0_0), .val (.int (0 : Int32))] [(.ref q23_2_0_0)])) t
    exact k)
  obtain ⟨T2, X2, e2, st2⟩ := getF X0 hx hZ hown (host := "") (Or.inl (hw _ (List.mem_of_getElem? (i := 49) rfl))) Via.refl e0 F_q23_2_0_0_elementData (g := (mkF m 1 #[.val (.ref q23_2_0_0), .val (.int (0 : Int32))] [(.ref q23_2_0_0)])) rfl rfl (hb hby d23_1)
  have P2 : own_Go p e below S0 (T2.setTop (mkF m 4 #[.val (.ref q23_2_0_0), .val (.int (0 : Int32))] [(.ref qa)])) := fun t k => P1 t (st2 _ k)
  obtain ⟨cl3, Ar3, q3, Sz3, Nn3, Hh3, Gg3⟩ := id A_qa
  have hin3 : ¬ ((0 : Int32) < 0 ∨ cl3.slots.size ≤ ((0 : Int32)).toNatClampNeg) := inb_of Sz3 ⟨by decide, by decide⟩
  have hat3 : cl3.slots[((0 : Int32)).toNatClampNeg]? = some (.ref x0) := Has.at Hh3 hin3 rfl
  have P4 : own_Go p e below S0 (T2.setTop (mkF m 6 #[.val (.ref q23_2_0_0), .val (.int (0 : Int32))] [(.ref x0)])) := fun t k => P2 t (by
    show Steps p.tables e below (T2.setTop (mkF m 4 #[.val (.ref q23_2_0_0), .val (.int (0 : Int32))] [(.ref qa)])) t
    refine XS.iloadN X2.here hx rfl (hb hby d23_4) rfl ?_
    show Steps p.tables e below (T2.setTop (mkF m 5 #[.val (.ref q23_2_0_0), .val (.int (0 : Int32))] [(.int (0 : Int32)), (.ref qa)])) t
    refine X2.aaload hx (j := (0 : Int32)) (v := (.ref x0)) (by rw [e2]; exact Ar3.1) (State.isArrayOf_alike hZ.alike Ar3.2.1) rfl Ar3.2.2 hin3 hat3 (g := (mkF m 5 #[.val (.ref q23_2_0_0), .val (.int (0 : Int32))] [(.int (0 : Int32)), (.ref qa)])) rfl rfl (hb hby d23_5) _ ?_
    show Steps p.tables e below (T2.setTop (mkF m 6 #[.val (.ref q23_2_0_0), .val (.int (0 : Int32))] [(.ref x0)])) t
    exact k)
  obtain ⟨fs, hr, hrun, hended, hW, hsame⟩ := X2.leave (v := some (.ref x0)) (fun h => by rw [Bd.returns] at h; cases h)
  refine ⟨_, _, own_from hS0 (P4 _ ?_), hrun, hended, _, _, rfl, ?_, ⟨_, rfl⟩, hW, hsame.mono (by decide) (by decide)⟩
  · show Steps p.tables e below (T2.setTop (mkF m 6 #[.val (.ref q23_2_0_0), .val (.int (0 : Int32))] [(.ref x0)])) _
    jvm_step X2.here [X2.here.top, hx, (hb hby d23_6), X2.method', Bd.returns, Value.isRef, FieldType.isReference]
    first | (intro acts; rw [hr _ acts rfl rfl rfl]) | rw [hr _ _ rfl rfl rfl]
    exact Steps.refl _
  · show Q23_2_0 Z q23_2_0_0 qa qk x0 x1 h0 n0 _ T2.heap _
    rw [e2]
    exact ⟨rfl, N0, rfl⟩
theorem ef_20_2_0 (m : MethodId) (q20_2_0_0 : Addr) : entryFrame m #[(.ref q20_2_0_0), (.int (0 : Int32))] 2 = mkF m 0 #[.val (.ref q20_2_0_0), .val (.int (0 : Int32))] [] := by first | (simp [entryFrame, mkF, argsToLocals, Value.category]; done) | rfl
def Q20_2_0 (Z : State) (q20_2_0_0 : Addr) (qa : Addr) (qk : ClassId) (x0 : Addr) (x1 : Addr) (h0 : Heap) (n0 : Nat) (v : Option Value) (h : Heap) (L : List Loc) : Prop := v = some (.ref x0) ∧ Fr n0 L ∧ h = h0
set_option maxRecDepth 65536 in
set_option maxHeartbeats 40000000 in
theorem rm20_2_0 (l : Launch) (Z : State) (a0 : Array Value) (hw : ∀ d ∈ tables_1, d.before a0 Z = true) (ws : List Jvm.Cond) (q20_2_0_0 : Addr) (qa : Addr) (qk : ClassId) (x0 : Addr) (x1 : Addr) (h0 : Heap) (n0 : Nat) (Z0 : n0 ≤ h0.size) (F_q20_2_0_0_size : Fld Z h0 q20_2_0_0 "java/util/ArrayList" "size" "I" (.int (2 : Int32))) (F_q20_2_0_0_elementData : Fld Z h0 q20_2_0_0 "java/util/ArrayList" "elementData" "[Ljava/lang/Object;" (.ref qa)) (A_qa : Arv Z h0 qa qk (.object "java/lang/Object") (10 : Int32) [(.ref x0), (.ref x1), .null, .null, .null, .null, .null, .null, .null, .null] .null) (E_q20_2_0_0 : Exa Z h0 q20_2_0_0 "java/util/ArrayList") :
    MetFree l (⟨"java/util/ArrayList", "get", "(I)Ljava/lang/Object;"⟩ : MethodName) (head1 (Jvm.Cond.code (⟨"java/util/ArrayList", "get", "(I)Ljava/lang/Object;"⟩ : MethodName) jdk_38_method_20_code 2 (some (.object "java/lang/Object")) :: ws) ({ frames := 2, cells := 0, slots := 0, locals := 27 } : Room)) (fun a U => a = #[(.ref q20_2_0_0), (.int (0 : Int32))] ∧ Z.Warmed39 U.vm ∧ U.heap = h0) (fun _ _ _ _ _ => True) (fun _ U o U' => ∃ v L, o = .returned v ∧ Q20_2_0 Z q20_2_0_0 qa qk x0 x1 h0 n0 v U'.heap L ∧ FrameEnd U o U' L ({ frames := 2, cells := 0, slots := 0, locals := 27 } : Room).cells ({ frames := 2, cells := 0, slots := 0, locals := 27 } : Room).slots) := by
  refine MetFree.of_bodySF (plainFor_of_name pn_5) hisR ?_
  intro p e s m args below meth c s₁ Bd hml0 hP hK
  obtain ⟨rfl, hZ, hh⟩ := hP
  have hx := Bd.exec
  have hby := Bd.bytes
  have hml : c.maxLocals = 2 := hml0
  have hown : s.vm.findClass "java/util/ArrayList" = some m.cls := findClass_of_methodNamed Bd.named
  have hnm := (name_of_methodNamed Bd.named Bd.method).1
  have X0 : Stand p l e ({ frames := 2, cells := 0, slots := 0, locals := 27 } : Room) s m #[(.ref q20_2_0_0), (.int (0 : Int32))] below meth c s₁ [] 0 0 := Stand.of_body Bd
  have e0 : s₁.heap = h0 := by rw [← hh, Bd.state]; rfl
  have N0 := Fr.nil n0
  obtain ⟨S0, hS0⟩ : ∃ z, z = s₁.setTop (entryFrame m #[(.ref q20_2_0_0), (.int (0 : Int32))] 2) := ⟨_, rfl⟩
  have P0 : own_Go p e below S0 (s₁.setTop (mkF m 0 #[.val (.ref q20_2_0_0), .val (.int (0 : Int32))] [])) := fun t k => by rw [hS0]; exact castTop (ef_20_2_0 m q20_2_0_0) k
  have P1 : own_Go p e below S0 (s₁.setTop (mkF m 2 #[.val (.ref q20_2_0_0), .val (.int (0 : Int32))] [(.ref q20_2_0_0), (.int (0 : Int32))])) := fun t k => P0 t (by
    show Steps p.tables e below (s₁.setTop (mkF m 0 #[.val (.ref q20_2_0_0), .val (.int (0 : Int32))] [])) t
    refine XS.iloadN X0.here hx rfl (hb hby d20_0) rfl ?_
    refine XS.aloadN X0.here hx rfl (hb hby d20_1) rfl rfl ?_
    show Steps p.tables e below (s₁.setTop (mkF m 2 #[.val (.ref q20_2_0_0), .val (.int (0 : Int32))] [(.ref q20_2_0_0), (.int (0 : Int32))])) t
    exact k)
  obtain ⟨T2, X2, e2, st2⟩ := getF X0 hx hZ hown (host := "") (Or.inl (hw _ (List.mem_of_getElem? (i := 58) rfl))) Via.refl e0 F_q20_2_0_0_size (g := (mkF m 2 #[.val (.ref q20_2_0_0), .val (.int (0 : Int32))] [(.ref q20_2_0_0), (.int (0 : Int32))])) rfl rfl (hb hby d20_2)
  have P2 : own_Go p e below S0 (T2.setTop (mkF m 5 #[.val (.ref q20_2_0_0), .val (.int (0 : Int32))] [(.int (2 : Int32)), (.int (0 : Int32))])) := fun t k => P1 t (st2 _ k)
  obtain ⟨_, _, ⟨T3, L3, k3, n3⟩, -, X3, ⟨Lc3, hQ3, l3, y3, z3⟩, st3⟩ := Jvm.LawKit.callS X2 hx (y := (⟨"java/util/Objects", "checkIndex", "(II)I"⟩ : MethodName)) hown (mvT hZ (hw _ (List.mem_of_getElem? (i := 141) rfl))) (mvT hZ (hw _ (List.mem_of_getElem? (i := 142) rfl))) (mvT hZ (hw _ (List.mem_of_getElem? (i := 143) rfl))) (mvT hZ (hw _ (List.mem_of_getElem? (i := 144) rfl))) (by decide) (backOf (W := 0) (rm21_2_0 l Z a0 hw []  h0 n0 Z0) hZ (hw _ (List.mem_of_getElem? (i := 144) rfl)) (hw _ (List.mem_of_getElem? (i := 143) rfl)) (by decide) (by decide)) (g := (mkF m 5 #[.val (.ref q20_2_0_0), .val (.int (0 : Int32))] [(.int (2 : Int32)), (.int (0 : Int32))])) rfl (by rw [hml]; rfl) (argsL := [(.int (0 : Int32)), (.int (2 : Int32))]) (rest := []) (lenOf pd_2 rfl) rfl (by show 2 * 0 + _ ≤ _; exact Nat.le_of_eq rfl) (hb hby d20_5) (fun _ _ => ⟨rfl, e2, (by decide : 0 + 0 ≤ _), (by decide : 0 + 0 ≤ _)⟩)
  dsimp only [Pt.U, Pt.locs, Pt.cells, Pt.slots] at X3 l3 y3 z3 st3 hQ3
  subst l3 y3 z3
  obtain ⟨rfl, N3q, e3⟩ := hQ3
  have N3 := Fr.app N0 N3q
  have P3 : own_Go p e below S0 (T3.setTop (mkF m 8 #[.val (.ref q20_2_0_0), .val (.int (0 : Int32))] [(.int (0 : Int32))])) := fun t k => P2 t (st3 _ k)
  have P4 : own_Go p e below S0 (T3.setTop (mkF m 11 #[.val (.ref q20_2_0_0), .val (.int (0 : Int32))] [(.int (0 : Int32)), (.ref q20_2_0_0)])) := fun t k => P3 t (by
    show Steps p.tables e below (T3.setTop (mkF m 8 #[.val (.ref q20_2_0_0), .val (.int (0 : Int32))] [(.int (0 : Int32))])) t
    refine XS.pop X3.here hx rfl (hb hby d20_8) rfl rfl ?_
    refine XS.aloadN X3.here hx rfl (hb hby d20_9) rfl rfl ?_
    refine XS.iloadN X3.here hx rfl (hb hby d20_10) rfl ?_
    show Steps p.tables e below (T3.setTop (mkF m 11 #[.val (.ref q20_2_0_0), .val (.int (0 : Int32))] [(.int (0 : Int32)), (.ref q20_2_0_0)])) t
    exact k)
  obtain ⟨cq5, kq5, q5a, q5b, q5c⟩ := isOf hZ e3 E_q20_2_0_0
  obtain ⟨_, _, ⟨T5, L5, k5, n5⟩, -, X5, ⟨Lc5, hQ5, l5, y5, z5⟩, st5⟩ := X3.virtualBack hx (y := (⟨"java/util/ArrayList", "elementData", "(I)Ljava/lang/Object;"⟩ : MethodName)) (z := (⟨"java/util/ArrayList", "elementData", "(I)Ljava/lang/Object;"⟩ : MethodName)) hown (mvT hZ (hw _ (List.mem_of_getElem? (i := 149) rfl))) (mvT hZ (hw _ (List.mem_of_getElem? (i := 150) rfl))) (notFace_of_selects (args := #[]) (mvT hZ (hw _ (List.mem_of_getElem? (i := 152) rfl)))) (mvT hZ (hw _ (List.mem_of_getElem? (i := 152) rfl))) (mvT hZ (hw _ (List.mem_of_getElem? (i := 151) rfl))) (by decide) (backOf (W := 0) (rm23_2_0 l Z a0 hw [] q20_2_0_0 qa qk x0 x1 h0 n0 Z0 F_q20_2_0_0_elementData A_qa) hZ (hw _ (List.mem_of_getElem? (i := 153) rfl)) (hw _ (List.mem_of_getElem? (i := 29) rfl)) (by decide) (by decide)) q5a q5c (g := (mkF m 11 #[.val (.ref q20_2_0_0), .val (.int (0 : Int32))] [(.int (0 : Int32)), (.ref q20_2_0_0)])) rfl (by rw [hml]; rfl) (Steps.refl _) (argsL := [(.int (0 : Int32))]) (rest := []) (lenOf pd_9 rfl) rfl (by show 2 * 0 + _ ≤ _; exact Nat.le_of_eq rfl) (hb hby d20_11) (fun _ _ => ⟨rfl, e3, (by decide : 0 + 0 ≤ _), (by decide : 0 + 0 ≤ _)⟩)
  dsimp only [Pt.U, Pt.locs, Pt.cells, Pt.slots] at X5 l5 y5 z5 st5 hQ5
  subst l5 y5 z5
  obtain ⟨rfl, N5q, e5⟩ := hQ5
  have N5 := Fr.app N3 N5q
  have P5 : own_Go p e below S0 (T5.setTop (mkF m 14 #[.val (.ref q20_2_0_0), .val (.int (0 : Int32))] [(.ref x0)])) := fun t k => P4 t (st5.trans k)
  obtain ⟨fs, hr, hrun, hended, hW, hsame⟩ := X5.leave (v := some (.ref x0)) (fun h => by rw [Bd.returns] at h; cases h)
  refine ⟨_, _, own_from hS0 (P5 _ ?_), hrun, hended, _, _, rfl, ?_, ⟨_, rfl⟩, hW, hsame.mono (by decide) (by decide)⟩
  · show Steps p.tables e below (T5.setTop (mkF m 14 #[.val (.ref q20_2_0_0), .val (.int (0 : Int32))] [(.ref x0)])) _
    jvm_step X5.here [X5.here.top, hx, (hb hby d20_14), X5.method', Bd.returns, Value.isRef, FieldType.isReference]
    first | (intro acts; rw [hr _ acts rfl rfl rfl]) | rw [hr _ _ rfl rfl rfl]
    exact Steps.refl _
  · show Q20_2_0 Z q20_2_0_0 qa qk x0 x1 h0 n0 _ T5.heap _
    rw [e5]
    exact ⟨rfl, N5, rfl⟩
theorem ef_22_2_1 (m : MethodId)  : entryFrame m #[(.int (1 : Int32)), (.int (2 : Int32)), .null] 3 = mkF m 0 #[.val (.int (1 : Int32)), .val (.int (2 : Int32)), .val .null] [] := by first | (simp [entryFrame, mkF, argsToLocals, Value.category]; done) | rfl
def Q22_2_1 (Z : State)  (h0 : Heap) (n0 : Nat) (v : Option Value) (h : Heap) (L : List Loc) : Prop := v = some (.int (1 : Int32)) ∧ Fr n0 L ∧ h = h0
set_option maxRecDepth 65536 in
set_option maxHeartbeats 40000000 in
theorem rm22_2_1 (l : Launch) (Z : State) (a0 : Array Value) (hw : ∀ d ∈ tables_1, d.before a0 Z = true) (ws : List Jvm.Cond)  (h0 : Heap) (n0 : Nat) (Z0 : n0 ≤ h0.size) :
    MetFree l (⟨"jdk/internal/util/Preconditions", "checkIndex", "(IILjava/util/function/BiFunction;)I"⟩ : MethodName) (head1 (Jvm.Cond.code (⟨"jdk/internal/util/Preconditions", "checkIndex", "(IILjava/util/function/BiFunction;)I"⟩ : MethodName) jdk_41_method_11_code 3 (some .int) :: ws) ({ frames := 0, cells := 0, slots := 0, locals := 0 } : Room)) (fun a U => a = #[(.int (1 : Int32)), (.int (2 : Int32)), .null] ∧ Z.Warmed39 U.vm ∧ U.heap = h0) (fun _ _ _ _ _ => True) (fun _ U o U' => ∃ v L, o = .returned v ∧ Q22_2_1 Z  h0 n0 v U'.heap L ∧ FrameEnd U o U' L ({ frames := 0, cells := 0, slots := 0, locals := 0 } : Room).cells ({ frames := 0, cells := 0, slots := 0, locals := 0 } : Room).slots) := by
  refine MetFree.of_bodySF (plainFor_of_name pn_22) hisR ?_
  intro p e s m args below meth c s₁ Bd hml0 hP hK
  obtain ⟨rfl, hZ, hh⟩ := hP
  have hx := Bd.exec
  have hby := Bd.bytes
  have hml : c.maxLocals = 3 := hml0
  have hown : s.vm.findClass "jdk/internal/util/Preconditions" = some m.cls := findClass_of_methodNamed Bd.named
  have hnm := (name_of_methodNamed Bd.named Bd.method).1
  have X0 : Stand p l e ({ frames := 0, cells := 0, slots := 0, locals := 0 } : Room) s m #[(.int (1 : Int32)), (.int (2 : Int32)), .null] below meth c s₁ [] 0 0 := Stand.of_body Bd
  have e0 : s₁.heap = h0 := by rw [← hh, Bd.state]; rfl
  have N0 := Fr.nil n0
  obtain ⟨S0, hS0⟩ : ∃ z, z = s₁.setTop (entryFrame m #[(.int (1 : Int32)), (.int (2 : Int32)), .null] 3) := ⟨_, rfl⟩
  have P0 : own_Go p e below S0 (s₁.setTop (mkF m 0 #[.val (.int (1 : Int32)), .val (.int (2 : Int32)), .val .null] [])) := fun t k => by rw [hS0]; exact castTop (ef_22_2_1 m ) k
  have P1 : own_Go p e below S0 (s₁.setTop (mkF m 17 #[.val (.int (1 : Int32)), .val (.int (2 : Int32)), .val .null] [(.int (1 : Int32))])) := fun t k => P0 t (by
    show Steps p.tables e below (s₁.setTop (mkF m 0 #[.val (.int (1 : Int32)), .val (.int (2 : Int32)), .val .null] [])) t
    refine XS.iloadN X0.here hx rfl (hb hby d22_0) rfl ?_
    refine XS.ifNo X0.here hx rfl (hb hby d22_1) rfl ((if0 _ _).trans (flt (by decide)).1) ?_
    refine XS.iloadN X0.here hx rfl (hb hby d22_4) rfl ?_
    refine XS.iloadN X0.here hx rfl (hb hby d22_5) rfl ?_
    refine XS.icmpYes X0.here hx rfl (pc0 := 6) (pc' := 16) rfl (hb hby d22_6) rfl (tlt (by decide)).1 (by decide) (by decide) ?_
    refine XS.iloadN X0.here hx rfl (hb hby d22_16) rfl ?_
    show Steps p.tables e below (s₁.setTop (mkF m 17 #[.val (.int (1 : Int32)), .val (.int (2 : Int32)), .val .null] [(.int (1 : Int32))])) t
    exact k)
  obtain ⟨fs, hr, hrun, hended, hW, hsame⟩ := X0.leave (v := some (.int (1 : Int32))) (fun h => by rw [Bd.returns] at h; cases h)
  refine ⟨_, _, own_from hS0 (P1 _ ?_), hrun, hended, _, _, rfl, ?_, ⟨_, rfl⟩, hW, hsame.mono (by decide) (by decide)⟩
  · show Steps p.tables e below (s₁.setTop (mkF m 17 #[.val (.int (1 : Int32)), .val (.int (2 : Int32)), .val .null] [(.int (1 : Int32))])) _
    exact retI X0 hx Bd.returns (hb hby d22_17) hr
  · show Q22_2_1 Z  h0 n0 _ s₁.heap _
    rw [e0]
    exact ⟨rfl, N0, rfl⟩
theorem ef_21_2_1 (m : MethodId)  : entryFrame m #[(.int (1 : Int32)), (.int (2 : Int32))] 2 = mkF m 0 #[.val (.int (1 : Int32)), .val (.int (2 : Int32))] [] := by first | (simp [entryFrame, mkF, argsToLocals, Value.category]; done) | rfl
def Q21_2_1 (Z : State)  (h0 : Heap) (n0 : Nat) (v : Option Value) (h : Heap) (L : List Loc) : Prop := v = some (.int (1 : Int32)) ∧ Fr n0 L ∧ h = h0
set_option maxRecDepth 65536 in
set_option maxHeartbeats 40000000 in
theorem rm21_2_1 (l : Launch) (Z : State) (a0 : Array Value) (hw : ∀ d ∈ tables_1, d.before a0 Z = true) (ws : List Jvm.Cond)  (h0 : Heap) (n0 : Nat) (Z0 : n0 ≤ h0.size) :
    MetFree l (⟨"java/util/Objects", "checkIndex", "(II)I"⟩ : MethodName) (head1 (Jvm.Cond.code (⟨"java/util/Objects", "checkIndex", "(II)I"⟩ : MethodName) jdk_31_method_17_code 2 (some .int) :: ws) ({ frames := 1, cells := 0, slots := 0, locals := 14 } : Room)) (fun a U => a = #[(.int (1 : Int32)), (.int (2 : Int32))] ∧ Z.Warmed39 U.vm ∧ U.heap = h0) (fun _ _ _ _ _ => True) (fun _ U o U' => ∃ v L, o = .returned v ∧ Q21_2_1 Z  h0 n0 v U'.heap L ∧ FrameEnd U o U' L ({ frames := 1, cells := 0, slots := 0, locals := 14 } : Room).cells ({ frames := 1, cells := 0, slots := 0, locals := 14 } : Room).slots) := by
  refine MetFree.of_bodySF (plainFor_of_name pn_21) hisR ?_
  intro p e s m args below meth c s₁ Bd hml0 hP hK
  obtain ⟨rfl, hZ, hh⟩ := hP
  have hx := Bd.exec
  have hby := Bd.bytes
  have hml : c.maxLocals = 2 := hml0
  have hown : s.vm.findClass "java/util/Objects" = some m.cls := findClass_of_methodNamed Bd.named
  have hnm := (name_of_methodNamed Bd.named Bd.method).1
  have X0 : Stand p l e ({ frames := 1, cells := 0, slots := 0, locals := 14 } : Room) s m #[(.int (1 : Int32)), (.int (2 : Int32))] below meth c s₁ [] 0 0 := Stand.of_body Bd
  have e0 : s₁.heap = h0 := by rw [← hh, Bd.state]; rfl
  have N0 := Fr.nil n0
  obtain ⟨S0, hS0⟩ : ∃ z, z = s₁.setTop (entryFrame m #[(.int (1 : Int32)), (.int (2 : Int32))] 2) := ⟨_, rfl⟩
  have P0 : own_Go p e below S0 (s₁.setTop (mkF m 0 #[.val (.int (1 : Int32)), .val (.int (2 : Int32))] [])) := fun t k => by rw [hS0]; exact castTop (ef_21_2_1 m ) k
  have P1 : own_Go p e below S0 (s₁.setTop (mkF m 3 #[.val (.int (1 : Int32)), .val (.int (2 : Int32))] [.null, (.int (2 : Int32)), (.int (1 : Int32))])) := fun t k => P0 t (by
    show Steps p.tables e below (s₁.setTop (mkF m 0 #[.val (.int (1 : Int32)), .val (.int (2 : Int32))] [])) t
    refine XS.iloadN X0.here hx rfl (hb hby d21_0) rfl ?_
    refine XS.iloadN X0.here hx rfl (hb hby d21_1) rfl ?_
    refine XS.aconstNull X0.here hx rfl (hb hby d21_2) ?_
    show Steps p.tables e below (s₁.setTop (mkF m 3 #[.val (.int (1 : Int32)), .val (.int (2 : Int32))] [.null, (.int (2 : Int32)), (.int (1 : Int32))])) t
    exact k)
  obtain ⟨_, _, ⟨T2, L2, k2, n2⟩, -, X2, ⟨Lc2, hQ2, l2, y2, z2⟩, st2⟩ := Jvm.LawKit.callS X0 hx (y := (⟨"jdk/internal/util/Preconditions", "checkIndex", "(IILjava/util/function/BiFunction;)I"⟩ : MethodName)) hown (mvT hZ (hw _ (List.mem_of_getElem? (i := 145) rfl))) (mvT hZ (hw _ (List.mem_of_getElem? (i := 146) rfl))) (mvT hZ (hw _ (List.mem_of_getElem? (i := 147) rfl))) (mvT hZ (hw _ (List.mem_of_getElem? (i := 148) rfl))) (by decide) (backOf (W := 0) (rm22_2_1 l Z a0 hw []  h0 n0 Z0) hZ (hw _ (List.mem_of_getElem? (i := 148) rfl)) (hw _ (List.mem_of_getElem? (i := 147) rfl)) (by decide) (by decide)) (g := (mkF m 3 #[.val (.int (1 : Int32)), .val (.int (2 : Int32))] [.null, (.int (2 : Int32)), (.int (1 : Int32))])) rfl (by rw [hml]; rfl) (argsL := [(.int (1 : Int32)), (.int (2 : Int32)), .null]) (rest := []) (lenOf pd_8 rfl) rfl (by show 2 * 0 + _ ≤ _; exact Nat.le_of_eq rfl) (hb hby d21_3) (fun _ _ => ⟨rfl, e0, (by decide : 0 + 0 ≤ _), (by decide : 0 + 0 ≤ _)⟩)
  dsimp only [Pt.U, Pt.locs, Pt.cells, Pt.slots] at X2 l2 y2 z2 st2 hQ2
  subst l2 y2 z2
  obtain ⟨rfl, N2q, e2⟩ := hQ2
  have N2 := Fr.app N0 N2q
  have P2 : own_Go p e below S0 (T2.setTop (mkF m 6 #[.val (.int (1 : Int32)), .val (.int (2 : Int32))] [(.int (1 : Int32))])) := fun t k => P1 t (st2 _ k)
  obtain ⟨fs, hr, hrun, hended, hW, hsame⟩ := X2.leave (v := some (.int (1 : Int32))) (fun h => by rw [Bd.returns] at h; cases h)
  refine ⟨_, _, own_from hS0 (P2 _ ?_), hrun, hended, _, _, rfl, ?_, ⟨_, rfl⟩, hW, hsame.mono (by decide) (by decide)⟩
  · show Steps p.tables e below (T2.setTop (mkF m 6 #[.val (.int (1 : Int32)), .val (.int (2 : Int32))] [(.int (1 : Int32))])) _
    exact retI X2 hx Bd.returns (hb hby d21_6) hr
  · show Q21_2_1 Z  h0 n0 _ T2.heap _
    rw [e2]
    exact ⟨rfl, N2, rfl⟩
theorem ef_23_2_1 (m : MethodId) (q23_2_1_0 : Addr) : entryFrame m #[(.ref q23_2_1_0), (.int (1 : Int32))] 2 = mkF m 0 #[.val (.ref q23_2_1_0), .val (.int (1 : Int32))] [] := by first | (simp [entryFrame, mkF, argsToLocals, Value.category]; done) | rfl
def Q23_2_1 (Z : State) (q23_2_1_0 : Addr) (qa : Addr) (qk : ClassId) (x0 : Addr) (x1 : Addr) (h0 : Heap) (n0 : Nat) (v : Option Value) (h : Heap) (L : List Loc) : Prop := v = some (.ref x1) ∧ Fr n0 L ∧ h = h0
set_option maxRecDepth 65536 in
set_option maxHeartbeats 40000000 in
theorem rm23_2_1 (l : Launch) (Z : State) (a0 : Array Value) (hw : ∀ d ∈ tables_1, d.before a0 Z = true) (ws : List Jvm.Cond) (q23_2_1_0 : Addr) (qa : Addr) (qk : ClassId) (x0 : Addr) (x1 : Addr) (h0 : Heap) (n0 : Nat) (Z0 : n0 ≤ h0.size) (F_q23_2_1_0_elementData : Fld Z h0 q23_2_1_0 "java/util/ArrayList" "elementData" "[Ljava/lang/Object;" (.ref qa)) (A_qa : Arv Z h0 qa qk (.object "java/lang/Object") (10 : Int32) [(.ref x0), (.ref x1), .null, .null, .null, .null, .null, .null, .null, .null] .null) :
    MetFree l (⟨"java/util/ArrayList", "elementData", "(I)Ljava/lang/Object;"⟩ : MethodName) (head1 (Jvm.Cond.code (⟨"java/util/ArrayList", "elementData", "(I)Ljava/lang/Object;"⟩ : MethodName) jdk_38_method_18_code 2 (some (.object "java/lang/Object")) :: ws) ({ frames := 0, cells := 0, slots := 0, locals := 0 } : Room)) (fun a U => a = #[(.ref q23_2_1_0), (.int (1 : Int32))] ∧ Z.Warmed39 U.vm ∧ U.heap = h0) (fun _ _ _ _ _ => True) (fun _ U o U' => ∃ v L, o = .returned v ∧ Q23_2_1 Z q23_2_1_0 qa qk x0 x1 h0 n0 v U'.heap L ∧ FrameEnd U o U' L ({ frames := 0, cells := 0, slots := 0, locals := 0 } : Room).cells ({ frames := 0, cells := 0, slots := 0, locals := 0 } : Room).slots) := by
  refine MetFree.of_bodySF (plainFor_of_name pn_5) hisR ?_
  intro p e s m args below meth c s₁ Bd hml0 hP hK
  obtain ⟨rfl, hZ, hh⟩ := hP
  have hx := Bd.exec
  have hby := Bd.bytes
  have hml : c.maxLocals = 2 := hml0
  have hown : s.vm.findClass "java/util/ArrayList" = some m.cls := findClass_of_methodNamed Bd.named
  have hnm := (name_of_methodNamed Bd.named Bd.method).1
  have X0 : Stand p l e ({ frames := 0, cells := 0, slots := 0, locals := 0 } : Room) s m #[(.ref q23_2_1_0), (.int (1 : Int32))] below meth c s₁ [] 0 0 := Stand.of_body Bd
  have e0 : s₁.heap = h0 := by rw [← hh, Bd.state]; rfl
  have N0 := Fr.nil n0
  obtain ⟨S0, hS0⟩ : ∃ z, z = s₁.setTop (entryFrame m #[(.ref q23_2_1_0), (.int (1 : Int32))] 2) := ⟨_, rfl⟩
  have P0 : own_Go p e below S0 (s₁.setTop (mkF m 0 #[.val (.ref q23_2_1_0), .val (.int (1 : Int32))] [])) := fun t k => by rw [hS0]; exact castTop (ef_23_2_1 m q23_2_1_0) k
  have P1 : own_Go p e below S0 (s₁.setTop (mkF m 1 #[.val (.ref q23_2_1_0), .val (.int (1 : Int32))] [(.ref q23_2_1_0)])) := fun t k => P0 t (by
    show Steps p.tables e below (s₁.setTop (mkF m 0 #[.val (.ref q23_2_1_0), .val (.int (1 : Int32))] [])) t
    refine XS.aloadN X0.here hx rfl (hb hby d23_0) rfl rfl ?_
    show Steps p.tables e below (s₁.setTop (mkF m 1 #[.val (.ref q23_2_1_0), .val (.int (1 : Int32))] [(.ref q23_2_1_0)])) t
    exact k)
  obtain ⟨T2, X2, e2, st2⟩ := getF X0 hx hZ hown (host := "") (Or.inl (hw _ (List.mem_of_getElem? (i := 49) rfl))) Via.refl e0 F_q23_2_1_0_elementData (g := (mkF m 1 #[.val (.ref q23_2_1_0), .val (.int (1 : Int32))] [(.ref q23_2_1_0)])) rfl rfl (hb hby d23_1)
  have P2 : own_Go p e below S0 (T2.setTop (mkF m 4 #[.val (.ref q23_2_1_0), .val (.int (1 : Int32))] [(.ref qa)])) := fun t k => P1 t (st2 _ k)
  obtain ⟨cl3, Ar3, q3, Sz3, Nn3, Hh3, Gg3⟩ := id A_qa
  have hin3 : ¬ ((1 : Int32) < 0 ∨ cl3.slots.size ≤ ((1 : Int32)).toNatClampNeg) := inb_of Sz3 ⟨by decide, by decide⟩
  have hat3 : cl3.slots[((1 : Int32)).toNatClampNeg]? = some (.ref x1) := Has.at Hh3 hin3 rfl
  have P4 : own_Go p e below S0 (T2.setTop (mkF m 6 #[.val (.ref q23_2_1_0), .val (.int (1 : Int32))] [(.ref x1)])) := fun t k => P2 t (by
    show Steps p.tables e below (T2.setTop (mkF m 4 #[.val (.ref q23_2_1_0), .val (.int (1 : Int32))] [(.ref qa)])) t
    refine XS.iloadN X2.here hx rfl (hb hby d23_4) rfl ?_
    show Steps p.tables e below (T2.setTop (mkF m 5 #[.val (.ref q23_2_1_0), .val (.int (1 : Int32))] [(.int (1 : Int32)), (.ref qa)])) t
    refine X2.aaload hx (j := (1 : Int32)) (v := (.ref x1)) (by rw [e2]; exact Ar3.1) (State.isArrayOf_alike hZ.alike Ar3.2.1) rfl Ar3.2.2 hin3 hat3 (g := (mkF m 5 #[.val (.ref q23_2_1_0), .val (.int (1 : Int32))] [(.int (1 : Int32)), (.ref qa)])) rfl rfl (hb hby d23_5) _ ?_
    show Steps p.tables e below (T2.setTop (mkF m 6 #[.val (.ref q23_2_1_0), .val (.int (1 : Int32))] [(.ref x1)])) t
    exact k)
  obtain ⟨fs, hr, hrun, hended, hW, hsame⟩ := X2.leave (v := some (.ref x1)) (fun h => by rw [Bd.returns] at h; cases h)
  refine ⟨_, _, own_from hS0 (P4 _ ?_), hrun, hended, _, _, rfl, ?_, ⟨_, rfl⟩, hW, hsame.mono (by decide) (by decide)⟩
  · show Steps p.tables e below (T2.setTop (mkF m 6 #[.val (.ref q23_2_1_0), .val (.int (1 : Int32))] [(.ref x1)])) _
    jvm_step X2.here [X2.here.top, hx, (hb hby d23_6), X2.method', Bd.returns, Value.isRef, FieldType.isReference]
    first | (intro acts; rw [hr _ acts rfl rfl rfl]) | rw [hr _ _ rfl rfl rfl]
    exact Steps.refl _
  · show Q23_2_1 Z q23_2_1_0 qa qk x0 x1 h0 n0 _ T2.heap _
    rw [e2]
    exact ⟨rfl, N0, rfl⟩
theorem ef_20_2_1 (m : MethodId) (q20_2_1_0 : Addr) : entryFrame m #[(.ref q20_2_1_0), (.int (1 : Int32))] 2 = mkF m 0 #[.val (.ref q20_2_1_0), .val (.int (1 : Int32))] [] := by first | (simp [entryFrame, mkF, argsToLocals, Value.category]; done) | rfl
def Q20_2_1 (Z : State) (q20_2_1_0 : Addr) (qa : Addr) (qk : ClassId) (x0 : Addr) (x1 : Addr) (h0 : Heap) (n0 : Nat) (v : Option Value) (h : Heap) (L : List Loc) : Prop := v = some (.ref x1) ∧ Fr n0 L ∧ h = h0
set_option maxRecDepth 65536 in
set_option maxHeartbeats 40000000 in
theorem rm20_2_1 (l : Launch) (Z : State) (a0 : Array Value) (hw : ∀ d ∈ tables_1, d.before a0 Z = true) (ws : List Jvm.Cond) (q20_2_1_0 : Addr) (qa : Addr) (qk : ClassId) (x0 : Addr) (x1 : Addr) (h0 : Heap) (n0 : Nat) (Z0 : n0 ≤ h0.size) (F_q20_2_1_0_size : Fld Z h0 q20_2_1_0 "java/util/ArrayList" "size" "I" (.int (2 : Int32))) (F_q20_2_1_0_elementData : Fld Z h0 q20_2_1_0 "java/util/ArrayList" "elementData" "[Ljava/lang/Object;" (.ref qa)) (A_qa : Arv Z h0 qa qk (.object "java/lang/Object") (10 : Int32) [(.ref x0), (.ref x1), .null, .null, .null, .null, .null, .null, .null, .null] .null) (E_q20_2_1_0 : Exa Z h0 q20_2_1_0 "java/util/ArrayList") :
    MetFree l (⟨"java/util/ArrayList", "get", "(I)Ljava/lang/Object;"⟩ : MethodName) (head1 (Jvm.Cond.code (⟨"java/util/ArrayList", "get", "(I)Ljava/lang/Object;"⟩ : MethodName) jdk_38_method_20_code 2 (some (.object "java/lang/Object")) :: ws) ({ frames := 2, cells := 0, slots := 0, locals := 27 } : Room)) (fun a U => a = #[(.ref q20_2_1_0), (.int (1 : Int32))] ∧ Z.Warmed39 U.vm ∧ U.heap = h0) (fun _ _ _ _ _ => True) (fun _ U o U' => ∃ v L, o = .returned v ∧ Q20_2_1 Z q20_2_1_0 qa qk x0 x1 h0 n0 v U'.heap L ∧ FrameEnd U o U' L ({ frames := 2, cells := 0, slots := 0, locals := 27 } : Room).cells ({ frames := 2, cells := 0, slots := 0, locals := 27 } : Room).slots) := by
  refine MetFree.of_bodySF (plainFor_of_name pn_5) hisR ?_
  intro p e s m args below meth c s₁ Bd hml0 hP hK
  obtain ⟨rfl, hZ, hh⟩ := hP
  have hx := Bd.exec
  have hby := Bd.bytes
  have hml : c.maxLocals = 2 := hml0
  have hown : s.vm.findClass "java/util/ArrayList" = some m.cls := findClass_of_methodNamed Bd.named
  have hnm := (name_of_methodNamed Bd.named Bd.method).1
  have X0 : Stand p l e ({ frames := 2, cells := 0, slots := 0, locals := 27 } : Room) s m #[(.ref q20_2_1_0), (.int (1 : Int32))] below meth c s₁ [] 0 0 := Stand.of_body Bd
  have e0 : s₁.heap = h0 := by rw [← hh, Bd.state]; rfl
  have N0 := Fr.nil n0
  obtain ⟨S0, hS0⟩ : ∃ z, z = s₁.setTop (entryFrame m #[(.ref q20_2_1_0), (.int (1 : Int32))] 2) := ⟨_, rfl⟩
  have P0 : own_Go p e below S0 (s₁.setTop (mkF m 0 #[.val (.ref q20_2_1_0), .val (.int (1 : Int32))] [])) := fun t k => by rw [hS0]; exact castTop (ef_20_2_1 m q20_2_1_0) k
  have P1 : own_Go p e below S0 (s₁.setTop (mkF m 2 #[.val (.ref q20_2_1_0), .val (.int (1 : Int32))] [(.ref q20_2_1_0), (.int (1 : Int32))])) := fun t k => P0 t (by
    show Steps p.tables e below (s₁.setTop (mkF m 0 #[.val (.ref q20_2_1_0), .val (.int (1 : Int32))] [])) t
    refine XS.iloadN X0.here hx rfl (hb hby d20_0) rfl ?_
    refine XS.aloadN X0.here hx rfl (hb hby d20_1) rfl rfl ?_
    show Steps p.tables e below (s₁.setTop (mkF m 2 #[.val (.ref q20_2_1_0), .val (.int (1 : Int32))] [(.ref q20_2_1_0), (.int (1 : Int32))])) t
    exact k)
  obtain ⟨T2, X2, e2, st2⟩ := getF X0 hx hZ hown (host := "") (Or.inl (hw _ (List.mem_of_getElem? (i := 58) rfl))) Via.refl e0 F_q20_2_1_0_size (g := (mkF m 2 #[.val (.ref q20_2_1_0), .val (.int (1 : Int32))] [(.ref q20_2_1_0), (.int (1 : Int32))])) rfl rfl (hb hby d20_2)
  have P2 : own_Go p e below S0 (T2.setTop (mkF m 5 #[.val (.ref q20_2_1_0), .val (.int (1 : Int32))] [(.int (2 : Int32)), (.int (1 : Int32))])) := fun t k => P1 t (st2 _ k)
  obtain ⟨_, _, ⟨T3, L3, k3, n3⟩, -, X3, ⟨Lc3, hQ3, l3, y3, z3⟩, st3⟩ := Jvm.LawKit.callS X2 hx (y := (⟨"java/util/Objects", "checkIndex", "(II)I"⟩ : MethodName)) hown (mvT hZ (hw _ (List.mem_of_getElem? (i := 141) rfl))) (mvT hZ (hw _ (List.mem_of_getElem? (i := 142) rfl))) (mvT hZ (hw _ (List.mem_of_getElem? (i := 143) rfl))) (mvT hZ (hw _ (List.mem_of_getElem? (i := 144) rfl))) (by decide) (backOf (W := 0) (rm21_2_1 l Z a0 hw []  h0 n0 Z0) hZ (hw _ (List.mem_of_getElem? (i := 144) rfl)) (hw _ (List.mem_of_getElem? (i := 143) rfl)) (by decide) (by decide)) (g := (mkF m 5 #[.val (.ref q20_2_1_0), .val (.int (1 : Int32))] [(.int (2 : Int32)), (.int (1 : Int32))])) rfl (by rw [hml]; rfl) (argsL := [(.int (1 : Int32)), (.int (2 : Int32))]) (rest := []) (lenOf pd_2 rfl) rfl (by show 2 * 0 + _ ≤ _; exact Nat.le_of_eq rfl) (hb hby d20_5) (fun _ _ => ⟨rfl, e2, (by decide : 0 + 0 ≤ _), (by decide : 0 + 0 ≤ _)⟩)
  dsimp only [Pt.U, Pt.locs, Pt.cells, Pt.slots] at X3 l3 y3 z3 st3 hQ3
  subst l3 y3 z3
  obtain ⟨rfl, N3q, e3⟩ := hQ3
  have N3 := Fr.app N0 N3q
  have P3 : own_Go p e below S0 (T3.setTop (mkF m 8 #[.val (.ref q20_2_1_0), .val (.int (1 : Int32))] [(.int (1 : Int32))])) := fun t k => P2 t (st3 _ k)
  have P4 : own_Go p e below S0 (T3.setTop (mkF m 11 #[.val (.ref q20_2_1_0), .val (.int (1 : Int32))] [(.int (1 : Int32)), (.ref q20_2_1_0)])) := fun t k => P3 t (by
    show Steps p.tables e below (T3.setTop (mkF m 8 #[.val (.ref q20_2_1_0), .val (.int (1 : Int32))] [(.int (1 : Int32))])) t
    refine XS.pop X3.here hx rfl (hb hby d20_8) rfl rfl ?_
    refine XS.aloadN X3.here hx rfl (hb hby d20_9) rfl rfl ?_
    refine XS.iloadN X3.here hx rfl (hb hby d20_10) rfl ?_
    show Steps p.tables e below (T3.setTop (mkF m 11 #[.val (.ref q20_2_1_0), .val (.int (1 : Int32))] [(.int (1 : Int32)), (.ref q20_2_1_0)])) t
    exact k)
  obtain ⟨cq5, kq5, q5a, q5b, q5c⟩ := isOf hZ e3 E_q20_2_1_0
  obtain ⟨_, _, ⟨T5, L5, k5, n5⟩, -, X5, ⟨Lc5, hQ5, l5, y5, z5⟩, st5⟩ := X3.virtualBack hx (y := (⟨"java/util/ArrayList", "elementData", "(I)Ljava/lang/Object;"⟩ : MethodName)) (z := (⟨"java/util/ArrayList", "elementData", "(I)Ljava/lang/Object;"⟩ : MethodName)) hown (mvT hZ (hw _ (List.mem_of_getElem? (i := 149) rfl))) (mvT hZ (hw _ (List.mem_of_getElem? (i := 150) rfl))) (notFace_of_selects (args := #[]) (mvT hZ (hw _ (List.mem_of_getElem? (i := 152) rfl)))) (mvT hZ (hw _ (List.mem_of_getElem? (i := 152) rfl))) (mvT hZ (hw _ (List.mem_of_getElem? (i := 151) rfl))) (by decide) (backOf (W := 0) (rm23_2_1 l Z a0 hw [] q20_2_1_0 qa qk x0 x1 h0 n0 Z0 F_q20_2_1_0_elementData A_qa) hZ (hw _ (List.mem_of_getElem? (i := 153) rfl)) (hw _ (List.mem_of_getElem? (i := 29) rfl)) (by decide) (by decide)) q5a q5c (g := (mkF m 11 #[.val (.ref q20_2_1_0), .val (.int (1 : Int32))] [(.int (1 : Int32)), (.ref q20_2_1_0)])) rfl (by rw [hml]; rfl) (Steps.refl _) (argsL := [(.int (1 : Int32))]) (rest := []) (lenOf pd_9 rfl) rfl (by show 2 * 0 + _ ≤ _; exact Nat.le_of_eq rfl) (hb hby d20_11) (fun _ _ => ⟨rfl, e3, (by decide : 0 + 0 ≤ _), (by decide : 0 + 0 ≤ _)⟩)
  dsimp only [Pt.U, Pt.locs, Pt.cells, Pt.slots] at X5 l5 y5 z5 st5 hQ5
  subst l5 y5 z5
  obtain ⟨rfl, N5q, e5⟩ := hQ5
  have N5 := Fr.app N3 N5q
  have P5 : own_Go p e below S0 (T5.setTop (mkF m 14 #[.val (.ref q20_2_1_0), .val (.int (1 : Int32))] [(.ref x1)])) := fun t k => P4 t (st5.trans k)
  obtain ⟨fs, hr, hrun, hended, hW, hsame⟩ := X5.leave (v := some (.ref x1)) (fun h => by rw [Bd.returns] at h; cases h)
  refine ⟨_, _, own_from hS0 (P5 _ ?_), hrun, hended, _, _, rfl, ?_, ⟨_, rfl⟩, hW, hsame.mono (by decide) (by decide)⟩
  · show Steps p.tables e below (T5.setTop (mkF m 14 #[.val (.ref q20_2_1_0), .val (.int (1 : Int32))] [(.ref x1)])) _
    jvm_step X5.here [X5.here.top, hx, (hb hby d20_14), X5.method', Bd.returns, Value.isRef, FieldType.isReference]
    first | (intro acts; rw [hr _ acts rfl rfl rfl]) | rw [hr _ _ rfl rfl rfl]
    exact Steps.refl _
  · show Q20_2_1 Z q20_2_1_0 qa qk x0 x1 h0 n0 _ T5.heap _
    rw [e5]
    exact ⟨rfl, N5, rfl⟩
theorem ef_22_3_0 (m : MethodId)  : entryFrame m #[(.int (0 : Int32)), (.int (3 : Int32)), .null] 3 = mkF m 0 #[.val (.int (0 : Int32)), .val (.int (3 : Int32)), .val .null] [] := by first | (simp [entryFrame, mkF, argsToLocals, Value.category]; done) | rfl
def Q22_3_0 (Z : State)  (h0 : Heap) (n0 : Nat) (v : Option Value) (h : Heap) (L : List Loc) : Prop := v = some (.int (0 : Int32)) ∧ Fr n0 L ∧ h = h0
set_option maxRecDepth 65536 in
set_option maxHeartbeats 40000000 in
theorem rm22_3_0 (l : Launch) (Z : State) (a0 : Array Value) (hw : ∀ d ∈ tables_1, d.before a0 Z = true) (ws : List Jvm.Cond)  (h0 : Heap) (n0 : Nat) (Z0 : n0 ≤ h0.size) :
    MetFree l (⟨"jdk/internal/util/Preconditions", "checkIndex", "(IILjava/util/function/BiFunction;)I"⟩ : MethodName) (head1 (Jvm.Cond.code (⟨"jdk/internal/util/Preconditions", "checkIndex", "(IILjava/util/function/BiFunction;)I"⟩ : MethodName) jdk_41_method_11_code 3 (some .int) :: ws) ({ frames := 0, cells := 0, slots := 0, locals := 0 } : Room)) (fun a U => a = #[(.int (0 : Int32)), (.int (3 : Int32)), .null] ∧ Z.Warmed39 U.vm ∧ U.heap = h0) (fun _ _ _ _ _ => True) (fun _ U o U' => ∃ v L, o = .returned v ∧ Q22_3_0 Z  h0 n0 v U'.heap L ∧ FrameEnd U o U' L ({ frames := 0, cells := 0, slots := 0, locals := 0 } : Room).cells ({ frames := 0, cells := 0, slots := 0, locals := 0 } : Room).slots) := by
  refine MetFree.of_bodySF (plainFor_of_name pn_22) hisR ?_
  intro p e s m args below meth c s₁ Bd hml0 hP hK
  obtain ⟨rfl, hZ, hh⟩ := hP
  have hx := Bd.exec
  have hby := Bd.bytes
  have hml : c.maxLocals = 3 := hml0
  have hown : s.vm.findClass "jdk/internal/util/Preconditions" = some m.cls := findClass_of_methodNamed Bd.named
  have hnm := (name_of_methodNamed Bd.named Bd.method).1
  have X0 : Stand p l e ({ frames := 0, cells := 0, slots := 0, locals := 0 } : Room) s m #[(.int (0 : Int32)), (.int (3 : Int32)), .null] below meth c s₁ [] 0 0 := Stand.of_body Bd
  have e0 : s₁.heap = h0 := by rw [← hh, Bd.state]; rfl
  have N0 := Fr.nil n0
  obtain ⟨S0, hS0⟩ : ∃ z, z = s₁.setTop (entryFrame m #[(.int (0 : Int32)), (.int (3 : Int32)), .null] 3) := ⟨_, rfl⟩
  have P0 : own_Go p e below S0 (s₁.setTop (mkF m 0 #[.val (.int (0 : Int32)), .val (.int (3 : Int32)), .val .null] [])) := fun t k => by rw [hS0]; exact castTop (ef_22_3_0 m ) k
  have P1 : own_Go p e below S0 (s₁.setTop (mkF m 17 #[.val (.int (0 : Int32)), .val (.int (3 : Int32)), .val .null] [(.int (0 : Int32))])) := fun t k => P0 t (by
    show Steps p.tables e below (s₁.setTop (mkF m 0 #[.val (.int (0 : Int32)), .val (.int (3 : Int32)), .val .null] [])) t
    refine XS.iloadN X0.here hx rfl (hb hby d22_0) rfl ?_
    refine XS.ifNo X0.here hx rfl (hb hby d22_1) rfl ((if0 _ _).trans (flt (by decide)).1) ?_
    refine XS.iloadN X0.here hx rfl (hb hby d22_4) rfl ?_
    refine XS.iloadN X0.here hx rfl (hb hby d22_5) rfl ?_
    refine XS.icmpYes X0.here hx rfl (pc0 := 6) (pc' := 16) rfl (hb hby d22_6) rfl (tlt (by decide)).1 (by decide) (by decide) ?_
    refine XS.iloadN X0.here hx rfl (hb hby d22_16) rfl ?_
    show Steps p.tables e below (s₁.setTop (mkF m 17 #[.val (.int (0 : Int32)), .val (.int (3 : Int32)), .val .null] [(.int (0 : Int32))])) t
    exact k)
  obtain ⟨fs, hr, hrun, hended, hW, hsame⟩ := X0.leave (v := some (.int (0 : Int32))) (fun h => by rw [Bd.returns] at h; cases h)
  refine ⟨_, _, own_from hS0 (P1 _ ?_), hrun, hended, _, _, rfl, ?_, ⟨_, rfl⟩, hW, hsame.mono (by decide) (by decide)⟩
  · show Steps p.tables e below (s₁.setTop (mkF m 17 #[.val (.int (0 : Int32)), .val (.int (3 : Int32)), .val .null] [(.int (0 : Int32))])) _
    exact retI X0 hx Bd.returns (hb hby d22_17) hr
  · show Q22_3_0 Z  h0 n0 _ s₁.heap _
    rw [e0]
    exact ⟨rfl, N0, rfl⟩
theorem ef_21_3_0 (m : MethodId)  : entryFrame m #[(.int (0 : Int32)), (.int (3 : Int32))] 2 = mkF m 0 #[.val (.int (0 : Int32)), .val (.int (3 : Int32))] [] := by first | (simp [entryFrame, mkF, argsToLocals, Value.category]; done) | rfl
def Q21_3_0 (Z : State)  (h0 : Heap) (n0 : Nat) (v : Option Value) (h : Heap) (L : List Loc) : Prop := v = some (.int (0 : Int32)) ∧ Fr n0 L ∧ h = h0
set_option maxRecDepth 65536 in
set_option maxHeartbeats 40000000 in
theorem rm21_3_0 (l : Launch) (Z : State) (a0 : Array Value) (hw : ∀ d ∈ tables_1, d.before a0 Z = true) (ws : List Jvm.Cond)  (h0 : Heap) (n0 : Nat) (Z0 : n0 ≤ h0.size) :
    MetFree l (⟨"java/util/Objects", "checkIndex", "(II)I"⟩ : MethodName) (head1 (Jvm.Cond.code (⟨"java/util/Objects", "checkIndex", "(II)I"⟩ : MethodName) jdk_31_method_17_code 2 (some .int) :: ws) ({ frames := 1, cells := 0, slots := 0, locals := 14 } : Room)) (fun a U => a = #[(.int (0 : Int32)), (.int (3 : Int32))] ∧ Z.Warmed39 U.vm ∧ U.heap = h0) (fun _ _ _ _ _ => True) (fun _ U o U' => ∃ v L, o = .returned v ∧ Q21_3_0 Z  h0 n0 v U'.heap L ∧ FrameEnd U o U' L ({ frames := 1, cells := 0, slots := 0, locals := 14 } : Room).cells ({ frames := 1, cells := 0, slots := 0, locals := 14 } : Room).slots) := by
  refine MetFree.of_bodySF (plainFor_of_name pn_21) hisR ?_
  intro p e s m args below meth c s₁ Bd hml0 hP hK
  obtain ⟨rfl, hZ, hh⟩ := hP
  have hx := Bd.exec
  have hby := Bd.bytes
  have hml : c.maxLocals = 2 := hml0
  have hown : s.vm.findClass "java/util/Objects" = some m.cls := findClass_of_methodNamed Bd.named
  have hnm := (name_of_methodNamed Bd.named Bd.method).1
  have X0 : Stand p l e ({ frames := 1, cells := 0, slots := 0, locals := 14 } : Room) s m #[(.int (0 : Int32)), (.int (3 : Int32))] below meth c s₁ [] 0 0 := Stand.of_body Bd
  have e0 : s₁.heap = h0 := by rw [← hh, Bd.state]; rfl
  have N0 := Fr.nil n0
  obtain ⟨S0, hS0⟩ : ∃ z, z = s₁.setTop (entryFrame m #[(.int (0 : Int32)), (.int (3 : Int32))] 2) := ⟨_, rfl⟩
  have P0 : own_Go p e below S0 (s₁.setTop (mkF m 0 #[.val (.int (0 : Int32)), .val (.int (3 : Int32))] [])) := fun t k => by rw [hS0]; exact castTop (ef_21_3_0 m ) k
  have P1 : own_Go p e below S0 (s₁.setTop (mkF m 3 #[.val (.int (0 : Int32)), .val (.int (3 : Int32))] [.null, (.int (3 : Int32)), (.int (0 : Int32))])) := fun t k => P0 t (by
    show Steps p.tables e below (s₁.setTop (mkF m 0 #[.val (.int (0 : Int32)), .val (.int (3 : Int32))] [])) t
    refine XS.iloadN X0.here hx rfl (hb hby d21_0) rfl ?_
    refine XS.iloadN X0.here hx rfl (hb hby d21_1) rfl ?_
    refine XS.aconstNull X0.here hx rfl (hb hby d21_2) ?_
    show Steps p.tables e below (s₁.setTop (mkF m 3 #[.val (.int (0 : Int32)), .val (.int (3 : Int32))] [.null, (.int (3 : Int32)), (.int (0 : Int32))])) t
    exact k)
  obtain ⟨_, _, ⟨T2, L2, k2, n2⟩, -, X2, ⟨Lc2, hQ2, l2, y2, z2⟩, st2⟩ := Jvm.LawKit.callS X0 hx (y := (⟨"jdk/internal/util/Preconditions", "checkIndex", "(IILjava/util/function/BiFunction;)I"⟩ : MethodName)) hown (mvT hZ (hw _ (List.mem_of_getElem? (i := 145) rfl))) (mvT hZ (hw _ (List.mem_of_getElem? (i := 146) rfl))) (mvT hZ (hw _ (List.mem_of_getElem? (i := 147) rfl))) (mvT hZ (hw _ (List.mem_of_getElem? (i := 148) rfl))) (by decide) (backOf (W := 0) (rm22_3_0 l Z a0 hw []  h0 n0 Z0) hZ (hw _ (List.mem_of_getElem? (i := 148) rfl)) (hw _ (List.mem_of_getElem? (i := 147) rfl)) (by decide) (by decide)) (g := (mkF m 3 #[.val (.int (0 : Int32)), .val (.int (3 : Int32))] [.null, (.int (3 : Int32)), (.int (0 : Int32))])) rfl (by rw [hml]; rfl) (argsL := [(.int (0 : Int32)), (.int (3 : Int32)), .null]) (rest := []) (lenOf pd_8 rfl) rfl (by show 2 * 0 + _ ≤ _; exact Nat.le_of_eq rfl) (hb hby d21_3) (fun _ _ => ⟨rfl, e0, (by decide : 0 + 0 ≤ _), (by decide : 0 + 0 ≤ _)⟩)
  dsimp only [Pt.U, Pt.locs, Pt.cells, Pt.slots] at X2 l2 y2 z2 st2 hQ2
  subst l2 y2 z2
  obtain ⟨rfl, N2q, e2⟩ := hQ2
  have N2 := Fr.app N0 N2q
  have P2 : own_Go p e below S0 (T2.setTop (mkF m 6 #[.val (.int (0 : Int32)), .val (.int (3 : Int32))] [(.int (0 : Int32))])) := fun t k => P1 t (st2 _ k)
  obtain ⟨fs, hr, hrun, hended, hW, hsame⟩ := X2.leave (v := some (.int (0 : Int32))) (fun h => by rw [Bd.returns] at h; cases h)
  refine ⟨_, _, own_from hS0 (P2 _ ?_), hrun, hended, _, _, rfl, ?_, ⟨_, rfl⟩, hW, hsame.mono (by decide) (by decide)⟩
  · show Steps p.tables e below (T2.setTop (mkF m 6 #[.val (.int (0 : Int32)), .val (.int (3 : Int32))] [(.int (0 : Int32))])) _
    exact retI X2 hx Bd.returns (hb hby d21_6) hr
  · show Q21_3_0 Z  h0 n0 _ T2.heap _
    rw [e2]
    exact ⟨rfl, N2, rfl⟩
theorem ef_23_3_0 (m : MethodId) (q23_3_0_0 : Addr) : entryFrame m #[(.ref q23_3_0_0), (.int (0 : Int32))] 2 = mkF m 0 #[.val (.ref q23_3_0_0), .val (.int (0 : Int32))] [] := by first | (simp [entryFrame, mkF, argsToLocals, Value.category]; done) | rfl
def Q23_3_0 (Z : State) (q23_3_0_0 : Addr) (qa : Addr) (qk : ClassId) (x0 : Addr) (x1 : Addr) (x2 : Addr) (h0 : Heap) (n0 : Nat) (v : Option Value) (h : Heap) (L : List Loc) : Prop := v = some (.ref x0) ∧ Fr n0 L ∧ h = h0
set_option maxRecDepth 65536 in
set_option maxHeartbeats 40000000 in
theorem rm23_3_0 (l : Launch) (Z : State) (a0 : Array Value) (hw : ∀ d ∈ tables_1, d.before a0 Z = true) (ws : List Jvm.Cond) (q23_3_0_0 : Addr) (qa : Addr) (qk : ClassId) (x0 : Addr) (x1 : Addr) (x2 : Addr) (h0 : Heap) (n0 : Nat) (Z0 : n0 ≤ h0.size) (F_q23_3_0_0_elementData : Fld Z h0 q23_3_0_0 "java/util/ArrayList" "elementData" "[Ljava/lang/Object;" (.ref qa)) (A_qa : Arv Z h0 qa qk (.object "java/lang/Object") (10 : Int32) [(.ref x0), (.ref x1), (.ref x2), .null, .null, .null, .null, .null, .null, .null] .null) :
    MetFree l (⟨"java/util/ArrayList", "elementData", "(I)Ljava/lang/Object;"⟩ : MethodName) (head1 (Jvm.Cond.code (⟨"java/util/ArrayList", "elementData", "(I)Ljava/lang/Object;"⟩ : MethodName) jdk_38_method_18_code 2 (some (.object "java/lang/Object")) :: ws) ({ frames := 0, cells := 0, slots := 0, locals := 0 } : Room)) (fun a U => a = #[(.ref q23_3_0_0), (.int (0 : Int32))] ∧ Z.Warmed39 U.vm ∧ U.heap = h0) (fun _ _ _ _ _ => True) (fun _ U o U' => ∃ v L, o = .returned v ∧ Q23_3_0 Z q23_3_0_0 qa qk x0 x1 x2 h0 n0 v U'.heap L ∧ FrameEnd U o U' L ({ frames := 0, cells := 0, slots := 0, locals := 0 } : Room).cells ({ frames := 0, cells := 0, slots := 0, locals := 0 } : Room).slots) := by
  refine MetFree.of_bodySF (plainFor_of_name pn_5) hisR ?_
  intro p e s m args below meth c s₁ Bd hml0 hP hK
  obtain ⟨rfl, hZ, hh⟩ := hP
  have hx := Bd.exec
  have hby := Bd.bytes
  have hml : c.maxLocals = 2 := hml0
  have hown : s.vm.findClass "java/util/ArrayList" = some m.cls := findClass_of_methodNamed Bd.named
  have hnm := (name_of_methodNamed Bd.named Bd.method).1
  have X0 : Stand p l e ({ frames := 0, cells := 0, slots := 0, locals := 0 } : Room) s m #[(.ref q23_3_0_0), (.int (0 : Int32))] below meth c s₁ [] 0 0 := Stand.of_body Bd
  have e0 : s₁.heap = h0 := by rw [← hh, Bd.state]; rfl
  have N0 := Fr.nil n0
  obtain ⟨S0, hS0⟩ : ∃ z, z = s₁.setTop (entryFrame m #[(.ref q23_3_0_0), (.int (0 : Int32))] 2) := ⟨_, rfl⟩
  have P0 : own_Go p e below S0 (s₁.setTop (mkF m 0 #[.val (.ref q23_3_0_0), .val (.int (0 : Int32))] [])) := fun t k => by rw [hS0]; exact castTop (ef_23_3_0 m q23_3_0_0) k
  have P1 : own_Go p e below S0 (s₁.setTop (mkF m 1 #[.val (.ref q23_3_0_0), .val (.int (0 : Int32))] [(.ref q23_3_0_0)])) := fun t k => P0 t (by
    show Steps p.tables e below (s₁.setTop (mkF m 0 #[.val (.ref q23_3_0_0), .val (.int (0 : Int32))] [])) t
    refine XS.aloadN X0.here hx rfl (hb hby d23_0) rfl rfl ?_
    show Steps p.tables e below (s₁.setTop (mkF m 1 #[.val (.ref q23_3_0_0), .val (.int (0 : Int32))] [(.ref q23_3_0_0)])) t
    exact k)
  obtain ⟨T2, X2, e2, st2⟩ := getF X0 hx hZ hown (host := "") (Or.inl (hw _ (List.mem_of_getElem? (i := 49) rfl))) Via.refl e0 F_q23_3_0_0_elementData (g := (mkF m 1 #[.val (.ref q23_3_0_0), .val (.int (0 : Int32))] [(.ref q23_3_0_0)])) rfl rfl (hb hby d23_1)
  have P2 : own_Go p e below S0 (T2.setTop (mkF m 4 #[.val (.ref q23_3_0_0), .val (.int (0 : Int32))] [(.ref qa)])) := fun t k => P1 t (st2 _ k)
  obtain ⟨cl3, Ar3, q3, Sz3, Nn3, Hh3, Gg3⟩ := id A_qa
  have hin3 : ¬ ((0 : Int32) < 0 ∨ cl3.slots.size ≤ ((0 : Int32)).toNatClampNeg) := inb_of Sz3 ⟨by decide, by decide⟩
  have hat3 : cl3.slots[((0 : Int32)).toNatClampNeg]? = some (.ref x0) := Has.at Hh3 hin3 rfl
  have P4 : own_Go p e below S0 (T2.setTop (mkF m 6 #[.val (.ref q23_3_0_0), .val (.int (0 : Int32))] [(.ref x0)])) := fun t k => P2 t (by
    show Steps p.tables e below (T2.setTop (mkF m 4 #[.val (.ref q23_3_0_0), .val (.int (0 : Int32))] [(.ref qa)])) t
    refine XS.iloadN X2.here hx rfl (hb hby d23_4) rfl ?_
    show Steps p.tables e below (T2.setTop (mkF m 5 #[.val (.ref q23_3_0_0), .val (.int (0 : Int32))] [(.int (0 : Int32)), (.ref qa)])) t
    refine X2.aaload hx (j := (0 : Int32)) (v := (.ref x0)) (by rw [e2]; exact Ar3.1) (State.isArrayOf_alike hZ.alike Ar3.2.1) rfl Ar3.2.2 hin3 hat3 (g := (mkF m 5 #[.val (.ref q23_3_0_0), .val (.int (0 : Int32))] [(.int (0 : Int32)), (.ref qa)])) rfl rfl (hb hby d23_5) _ ?_
    show Steps p.tables e below (T2.setTop (mkF m 6 #[.val (.ref q23_3_0_0), .val (.int (0 : Int32))] [(.ref x0)])) t
    exact k)
  obtain ⟨fs, hr, hrun, hended, hW, hsame⟩ := X2.leave (v := some (.ref x0)) (fun h => by rw [Bd.returns] at h; cases h)
  refine ⟨_, _, own_from hS0 (P4 _ ?_), hrun, hended, _, _, rfl, ?_, ⟨_, rfl⟩, hW, hsame.mono (by decide) (by decide)⟩
  · show Steps p.tables e below (T2.setTop (mkF m 6 #[.val (.ref q23_3_0_0), .val (.int (0 : Int32))] [(.ref x0)])) _
    jvm_step X2.here [X2.here.top, hx, (hb hby d23_6), X2.method', Bd.returns, Value.isRef, FieldType.isReference]
    first | (intro acts; rw [hr _ acts rfl rfl rfl]) | rw [hr _ _ rfl rfl rfl]
    exact Steps.refl _
  · show Q23_3_0 Z q23_3_0_0 qa qk x0 x1 x2 h0 n0 _ T2.heap _
    rw [e2]
    exact ⟨rfl, N0, rfl⟩
theorem ef_20_3_0 (m : MethodId) (q20_3_0_0 : Addr) : entryFrame m #[(.ref q20_3_0_0), (.int (0 : Int32))] 2 = mkF m 0 #[.val (.ref q20_3_0_0), .val (.int (0 : Int32))] [] := by first | (simp [entryFrame, mkF, argsToLocals, Value.category]; done) | rfl
def Q20_3_0 (Z : State) (q20_3_0_0 : Addr) (qa : Addr) (qk : ClassId) (x0 : Addr) (x1 : Addr) (x2 : Addr) (h0 : Heap) (n0 : Nat) (v : Option Value) (h : Heap) (L : List Loc) : Prop := v = some (.ref x0) ∧ Fr n0 L ∧ h = h0
set_option maxRecDepth 65536 in
set_option maxHeartbeats 40000000 in
theorem rm20_3_0 (l : Launch) (Z : State) (a0 : Array Value) (hw : ∀ d ∈ tables_1, d.before a0 Z = true) (ws : List Jvm.Cond) (q20_3_0_0 : Addr) (qa : Addr) (qk : ClassId) (x0 : Addr) (x1 : Addr) (x2 : Addr) (h0 : Heap) (n0 : Nat) (Z0 : n0 ≤ h0.size) (F_q20_3_0_0_size : Fld Z h0 q20_3_0_0 "java/util/ArrayList" "size" "I" (.int (3 : Int32))) (F_q20_3_0_0_elementData : Fld Z h0 q20_3_0_0 "java/util/ArrayList" "elementData" "[Ljava/lang/Object;" (.ref qa)) (A_qa : Arv Z h0 qa qk (.object "java/lang/Object") (10 : Int32) [(.ref x0), (.ref x1), (.ref x2), .null, .null, .null, .null, .null, .null, .null] .null) (E_q20_3_0_0 : Exa Z h0 q20_3_0_0 "java/util/ArrayList") :
    MetFree l (⟨"java/util/ArrayList", "get", "(I)Ljava/lang/Object;"⟩ : MethodName) (head1 (Jvm.Cond.code (⟨"java/util/ArrayList", "get", "(I)Ljava/lang/Object;"⟩ : MethodName) jdk_38_method_20_code 2 (some (.object "java/lang/Object")) :: ws) ({ frames := 2, cells := 0, slots := 0, locals := 27 } : Room)) (fun a U => a = #[(.ref q20_3_0_0), (.int (0 : Int32))] ∧ Z.Warmed39 U.vm ∧ U.heap = h0) (fun _ _ _ _ _ => True) (fun _ U o U' => ∃ v L, o = .returned v ∧ Q20_3_0 Z q20_3_0_0 qa qk x0 x1 x2 h0 n0 v U'.heap L ∧ FrameEnd U o U' L ({ frames := 2, cells := 0, slots := 0, locals := 27 } : Room).cells ({ frames := 2, cells := 0, slots := 0, locals := 27 } : Room).slots) := by
  refine MetFree.of_bodySF (plainFor_of_name pn_5) hisR ?_
  intro p e s m args below meth c s₁ Bd hml0 hP hK
  obtain ⟨rfl, hZ, hh⟩ := hP
  have hx := Bd.exec
  have hby := Bd.bytes
  have hml : c.maxLocals = 2 := hml0
  have hown : s.vm.findClass "java/util/ArrayList" = some m.cls := findClass_of_methodNamed Bd.named
  have hnm := (name_of_methodNamed Bd.named Bd.method).1
  have X0 : Stand p l e ({ frames := 2, cells := 0, slots := 0, locals := 27 } : Room) s m #[(.ref q20_3_0_0), (.int (0 : Int32))] below meth c s₁ [] 0 0 := Stand.of_body Bd
  have e0 : s₁.heap = h0 := by rw [← hh, Bd.state]; rfl
  have N0 := Fr.nil n0
  obtain ⟨S0, hS0⟩ : ∃ z, z = s₁.setTop (entryFrame m #[(.ref q20_3_0_0), (.int (0 : Int32))] 2) := ⟨_, rfl⟩
  have P0 : own_Go p e below S0 (s₁.setTop (mkF m 0 #[.val (.ref q20_3_0_0), .val (.int (0 : Int32))] [])) := fun t k => by rw [hS0]; exact castTop (ef_20_3_0 m q20_3_0_0) k
  have P1 : own_Go p e below S0 (s₁.setTop (mkF m 2 #[.val (.ref q20_3_0_0), .val (.int (0 : Int32))] [(.ref q20_3_0_0), (.int (0 : Int32))])) := fun t k => P0 t (by
    show Steps p.tables e below (s₁.setTop (mkF m 0 #[.val (.ref q20_3_0_0), .val (.int (0 : Int32))] [])) t
    refine XS.iloadN X0.here hx rfl (hb hby d20_0) rfl ?_
    refine XS.aloadN X0.here hx rfl (hb hby d20_1) rfl rfl ?_
    show Steps p.tables e below (s₁.setTop (mkF m 2 #[.val (.ref q20_3_0_0), .val (.int (0 : Int32))] [(.ref q20_3_0_0), (.int (0 : Int32))])) t
    exact k)
  obtain ⟨T2, X2, e2, st2⟩ := getF X0 hx hZ hown (host := "") (Or.inl (hw _ (List.mem_of_getElem? (i := 58) rfl))) Via.refl e0 F_q20_3_0_0_size (g := (mkF m 2 #[.val (.ref q20_3_0_0), .val (.int (0 : Int32))] [(.ref q20_3_0_0), (.int (0 : Int32))])) rfl rfl (hb hby d20_2)
  have P2 : own_Go p e below S0 (T2.setTop (mkF m 5 #[.val (.ref q20_3_0_0), .val (.int (0 : Int32))] [(.int (3 : Int32)), (.int (0 : Int32))])) := fun t k => P1 t (st2 _ k)
  obtain ⟨_, _, ⟨T3, L3, k3, n3⟩, -, X3, ⟨Lc3, hQ3, l3, y3, z3⟩, st3⟩ := Jvm.LawKit.callS X2 hx (y := (⟨"java/util/Objects", "checkIndex", "(II)I"⟩ : MethodName)) hown (mvT hZ (hw _ (List.mem_of_getElem? (i := 141) rfl))) (mvT hZ (hw _ (List.mem_of_getElem? (i := 142) rfl))) (mvT hZ (hw _ (List.mem_of_getElem? (i := 143) rfl))) (mvT hZ (hw _ (List.mem_of_getElem? (i := 144) rfl))) (by decide) (backOf (W := 0) (rm21_3_0 l Z a0 hw []  h0 n0 Z0) hZ (hw _ (List.mem_of_getElem? (i := 144) rfl)) (hw _ (List.mem_of_getElem? (i := 143) rfl)) (by decide) (by decide)) (g := (mkF m 5 #[.val (.ref q20_3_0_0), .val (.int (0 : Int32))] [(.int (3 : Int32)), (.int (0 : Int32))])) rfl (by rw [hml]; rfl) (argsL := [(.int (0 : Int32)), (.int (3 : Int32))]) (rest := []) (lenOf pd_2 rfl) rfl (by show 2 * 0 + _ ≤ _; exact Nat.le_of_eq rfl) (hb hby d20_5) (fun _ _ => ⟨rfl, e2, (by decide : 0 + 0 ≤ _), (by decide : 0 + 0 ≤ _)⟩)
  dsimp only [Pt.U, Pt.locs, Pt.cells, Pt.slots] at X3 l3 y3 z3 st3 hQ3
  subst l3 y3 z3
  obtain ⟨rfl, N3q, e3⟩ := hQ3
  have N3 := Fr.app N0 N3q
  have P3 : own_Go p e below S0 (T3.setTop (mkF m 8 #[.val (.ref q20_3_0_0), .val (.int (0 : Int32))] [(.int (0 : Int32))])) := fun t k => P2 t (st3 _ k)
  have P4 : own_Go p e below S0 (T3.setTop (mkF m 11 #[.val (.ref q20_3_0_0), .val (.int (0 : Int32))] [(.int (0 : Int32)), (.ref q20_3_0_0)])) := fun t k => P3 t (by
    show Steps p.tables e below (T3.setTop (mkF m 8 #[.val (.ref q20_3_0_0), .val (.int (0 : Int32))] [(.int (0 : Int32))])) t
    refine XS.pop X3.here hx rfl (hb hby d20_8) rfl rfl ?_
    refine XS.aloadN X3.here hx rfl (hb hby d20_9) rfl rfl ?_
    refine XS.iloadN X3.here hx rfl (hb hby d20_10) rfl ?_
    show Steps p.tables e below (T3.setTop (mkF m 11 #[.val (.ref q20_3_0_0), .val (.int (0 : Int32))] [(.int (0 : Int32)), (.ref q20_3_0_0)])) t
    exact k)
  obtain ⟨cq5, kq5, q5a, q5b, q5c⟩ := isOf hZ e3 E_q20_3_0_0
  obtain ⟨_, _, ⟨T5, L5, k5, n5⟩, -, X5, ⟨Lc5, hQ5, l5, y5, z5⟩, st5⟩ := X3.virtualBack hx (y := (⟨"java/util/ArrayList", "elementData", "(I)Ljava/lang/Object;"⟩ : MethodName)) (z := (⟨"java/util/ArrayList", "elementData", "(I)Ljava/lang/Object;"⟩ : MethodName)) hown (mvT hZ (hw _ (List.mem_of_getElem? (i := 149) rfl))) (mvT hZ (hw _ (List.mem_of_getElem? (i := 150) rfl))) (notFace_of_selects (args := #[]) (mvT hZ (hw _ (List.mem_of_getElem? (i := 152) rfl)))) (mvT hZ (hw _ (List.mem_of_getElem? (i := 152) rfl))) (mvT hZ (hw _ (List.mem_of_getElem? (i := 151) rfl))) (by decide) (backOf (W := 0) (rm23_3_0 l Z a0 hw [] q20_3_0_0 qa qk x0 x1 x2 h0 n0 Z0 F_q20_3_0_0_elementData A_qa) hZ (hw _ (List.mem_of_getElem? (i := 153) rfl)) (hw _ (List.mem_of_getElem? (i := 29) rfl)) (by decide) (by decide)) q5a q5c (g := (mkF m 11 #[.val (.ref q20_3_0_0), .val (.int (0 : Int32))] [(.int (0 : Int32)), (.ref q20_3_0_0)])) rfl (by rw [hml]; rfl) (Steps.refl _) (argsL := [(.int (0 : Int32))]) (rest := []) (lenOf pd_9 rfl) rfl (by show 2 * 0 + _ ≤ _; exact Nat.le_of_eq rfl) (hb hby d20_11) (fun _ _ => ⟨rfl, e3, (by decide : 0 + 0 ≤ _), (by decide : 0 + 0 ≤ _)⟩)
  dsimp only [Pt.U, Pt.locs, Pt.cells, Pt.slots] at X5 l5 y5 z5 st5 hQ5
  subst l5 y5 z5
  obtain ⟨rfl, N5q, e5⟩ := hQ5
  have N5 := Fr.app N3 N5q
  have P5 : own_Go p e below S0 (T5.setTop (mkF m 14 #[.val (.ref q20_3_0_0), .val (.int (0 : Int32))] [(.ref x0)])) := fun t k => P4 t (st5.trans k)
  obtain ⟨fs, hr, hrun, hended, hW, hsame⟩ := X5.leave (v := some (.ref x0)) (fun h => by rw [Bd.returns] at h; cases h)
  refine ⟨_, _, own_from hS0 (P5 _ ?_), hrun, hended, _, _, rfl, ?_, ⟨_, rfl⟩, hW, hsame.mono (by decide) (by decide)⟩
  · show Steps p.tables e below (T5.setTop (mkF m 14 #[.val (.ref q20_3_0_0), .val (.int (0 : Int32))] [(.ref x0)])) _
    jvm_step X5.here [X5.here.top, hx, (hb hby d20_14), X5.method', Bd.returns, Value.isRef, FieldType.isReference]
    first | (intro acts; rw [hr _ acts rfl rfl rfl]) | rw [hr _ _ rfl rfl rfl]
    exact Steps.refl _
  · show Q20_3_0 Z q20_3_0_0 qa qk x0 x1 x2 h0 n0 _ T5.heap _
    rw [e5]
    exact ⟨rfl, N5, rfl⟩
theorem ef_22_3_1 (m : MethodId)  : entryFrame m #[(.int (1 : Int32)), (.int (3 : Int32)), .null] 3 = mkF m 0 #[.val (.int (1 : Int32)), .val (.int (3 : Int32)), .val .null] [] := by first | (simp [entryFrame, mkF, argsToLocals, Value.category]; done) | rfl
def Q22_3_1 (Z : State)  (h0 : Heap) (n0 : Nat) (v : Option Value) (h : Heap) (L : List Loc) : Prop := v = some (.int (1 : Int32)) ∧ Fr n0 L ∧ h = h0
set_option maxRecDepth 65536 in
set_option maxHeartbeats 40000000 in
theorem rm22_3_1 (l : Launch) (Z : State) (a0 : Array Value) (hw : ∀ d ∈ tables_1, d.before a0 Z = true) (ws : List Jvm.Cond)  (h0 : Heap) (n0 : Nat) (Z0 : n0 ≤ h0.size) :
    MetFree l (⟨"jdk/internal/util/Preconditions", "checkIndex", "(IILjava/util/function/BiFunction;)I"⟩ : MethodName) (head1 (Jvm.Cond.code (⟨"jdk/internal/util/Preconditions", "checkIndex", "(IILjava/util/function/BiFunction;)I"⟩ : MethodName) jdk_41_method_11_code 3 (some .int) :: ws) ({ frames := 0, cells := 0, slots := 0, locals := 0 } : Room)) (fun a U => a = #[(.int (1 : Int32)), (.int (3 : Int32)), .null] ∧ Z.Warmed39 U.vm ∧ U.heap = h0) (fun _ _ _ _ _ => True) (fun _ U o U' => ∃ v L, o = .returned v ∧ Q22_3_1 Z  h0 n0 v U'.heap L ∧ FrameEnd U o U' L ({ frames := 0, cells := 0, slots := 0, locals := 0 } : Room).cells ({ frames := 0, cells := 0, slots := 0, locals := 0 } : Room).slots) := by
  refine MetFree.of_bodySF (plainFor_of_name pn_22) hisR ?_
  intro p e s m args below meth c s₁ Bd hml0 hP hK
  obtain ⟨rfl, hZ, hh⟩ := hP
  have hx := Bd.exec
  have hby := Bd.bytes
  have hml : c.maxLocals = 3 := hml0
  have hown : s.vm.findClass "jdk/internal/util/Preconditions" = some m.cls := findClass_of_methodNamed Bd.named
  have hnm := (name_of_methodNamed Bd.named Bd.method).1
  have X0 : Stand p l e ({ frames := 0, cells := 0, slots := 0, locals := 0 } : Room) s m #[(.int (1 : Int32)), (.int (3 : Int32)), .null] below meth c s₁ [] 0 0 := Stand.of_body Bd
  have e0 : s₁.heap = h0 := by rw [← hh, Bd.state]; rfl
  have N0 := Fr.nil n0
  obtain ⟨S0, hS0⟩ : ∃ z, z = s₁.setTop (entryFrame m #[(.int (1 : Int32)), (.int (3 : Int32)), .null] 3) := ⟨_, rfl⟩
  have P0 : own_Go p e below S0 (s₁.setTop (mkF m 0 #[.val (.int (1 : Int32)), .val (.int (3 : Int32)), .val .null] [])) := fun t k => by rw [hS0]; exact castTop (ef_22_3_1 m ) k
  have P1 : own_Go p e below S0 (s₁.setTop (mkF m 17 #[.val (.int (1 : Int32)), .val (.int (3 : Int32)), .val .null] [(.int (1 : Int32))])) := fun t k => P0 t (by
    show Steps p.tables e below (s₁.setTop (mkF m 0 #[.val (.int (1 : Int32)), .val (.int (3 : Int32)), .val .null] [])) t
    refine XS.iloadN X0.here hx rfl (hb hby d22_0) rfl ?_
    refine XS.ifNo X0.here hx rfl (hb hby d22_1) rfl ((if0 _ _).trans (flt (by decide)).1) ?_
    refine XS.iloadN X0.here hx rfl (hb hby d22_4) rfl ?_
    refine XS.iloadN X0.here hx rfl (hb hby d22_5) rfl ?_
    refine XS.icmpYes X0.here hx rfl (pc0 := 6) (pc' := 16) rfl (hb hby d22_6) rfl (tlt (by decide)).1 (by decide) (by decide) ?_
    refine XS.iloadN X0.here hx rfl (hb hby d22_16) rfl ?_
    show Steps p.tables e below (s₁.setTop (mkF m 17 #[.val (.int (1 : Int32)), .val (.int (3 : Int32)), .val .null] [(.int (1 : Int32))])) t
    exact k)
  obtain ⟨fs, hr, hrun, hended, hW, hsame⟩ := X0.leave (v := some (.int (1 : Int32))) (fun h => by rw [Bd.returns] at h; cases h)
  refine ⟨_, _, own_from hS0 (P1 _ ?_), hrun, hended, _, _, rfl, ?_, ⟨_, rfl⟩, hW, hsame.mono (by decide) (by decide)⟩
  · show Steps p.tables e below (s₁.setTop (mkF m 17 #[.val (.int (1 : Int32)), .val (.int (3 : Int32)), .val .null] [(.int (1 : Int32))])) _
    exact retI X0 hx Bd.returns (hb hby d22_17) hr
  · show Q22_3_1 Z  h0 n0 _ s₁.heap _
    rw [e0]
    exact ⟨rfl, N0, rfl⟩
theorem ef_21_3_1 (m : MethodId)  : entryFrame m #[(.int (1 : Int32)), (.int (3 : Int32))] 2 = mkF m 0 #[.val (.int (1 : Int32)), .val (.int (3 : Int32))] [] := by first | (simp [entryFrame, mkF, argsToLocals, Value.category]; done) | rfl
def Q21_3_1 (Z : State)  (h0 : Heap) (n0 : Nat) (v : Option Value) (h : Heap) (L : List Loc) : Prop := v = some (.int (1 : Int32)) ∧ Fr n0 L ∧ h = h0
set_option maxRecDepth 65536 in
set_option maxHeartbeats 40000000 in
theorem rm21_3_1 (l : Launch) (Z : State) (a0 : Array Value) (hw : ∀ d ∈ tables_1, d.before a0 Z = true) (ws : List Jvm.Cond)  (h0 : Heap) (n0 : Nat) (Z0 : n0 ≤ h0.size) :
    MetFree l (⟨"java/util/Objects", "checkIndex", "(II)I"⟩ : MethodName) (head1 (Jvm.Cond.code (⟨"java/util/Objects", "checkIndex", "(II)I"⟩ : MethodName) jdk_31_method_17_code 2 (some .int) :: ws) ({ frames := 1, cells := 0, slots := 0, locals := 14 } : Room)) (fun a U => a = #[(.int (1 : Int32)), (.int (3 : Int32))] ∧ Z.Warmed39 U.vm ∧ U.heap = h0) (fun _ _ _ _ _ => True) (fun _ U o U' => ∃ v L, o = .returned v ∧ Q21_3_1 Z  h0 n0 v U'.heap L ∧ FrameEnd U o U' L ({ frames := 1, cells := 0, slots := 0, locals := 14 } : Room).cells ({ frames := 1, cells := 0, slots := 0, locals := 14 } : Room).slots) := by
  refine MetFree.of_bodySF (plainFor_of_name pn_21) hisR ?_
  intro p e s m args below meth c s₁ Bd hml0 hP hK
  obtain ⟨rfl, hZ, hh⟩ := hP
  have hx := Bd.exec
  have hby := Bd.bytes
  have hml : c.maxLocals = 2 := hml0
  have hown : s.vm.findClass "java/util/Objects" = some m.cls := findClass_of_methodNamed Bd.named
  have hnm := (name_of_methodNamed Bd.named Bd.method).1
  have X0 : Stand p l e ({ frames := 1, cells := 0, slots := 0, locals := 14 } : Room) s m #[(.int (1 : Int32)), (.int (3 : Int32))] below meth c s₁ [] 0 0 := Stand.of_body Bd
  have e0 : s₁.heap = h0 := by rw [← hh, Bd.state]; rfl
  have N0 := Fr.nil n0
  obtain ⟨S0, hS0⟩ : ∃ z, z = s₁.setTop (entryFrame m #[(.int (1 : Int32)), (.int (3 : Int32))] 2) := ⟨_, rfl⟩
  have P0 : own_Go p e below S0 (s₁.setTop (mkF m 0 #[.val (.int (1 : Int32)), .val (.int (3 : Int32))] [])) := fun t k => by rw [hS0]; exact castTop (ef_21_3_1 m ) k
  have P1 : own_Go p e below S0 (s₁.setTop (mkF m 3 #[.val (.int (1 : Int32)), .val (.int (3 : Int32))] [.null, (.int (3 : Int32)), (.int (1 : Int32))])) := fun t k => P0 t (by
    show Steps p.tables e below (s₁.setTop (mkF m 0 #[.val (.int (1 : Int32)), .val (.int (3 : Int32))] [])) t
    refine XS.iloadN X0.here hx rfl (hb hby d21_0) rfl ?_
    refine XS.iloadN X0.here hx rfl (hb hby d21_1) rfl ?_
    refine XS.aconstNull X0.here hx rfl (hb hby d21_2) ?_
    show Steps p.tables e below (s₁.setTop (mkF m 3 #[.val (.int (1 : Int32)), .val (.int (3 : Int32))] [.null, (.int (3 : Int32)), (.int (1 : Int32))])) t
    exact k)
  obtain ⟨_, _, ⟨T2, L2, k2, n2⟩, -, X2, ⟨Lc2, hQ2, l2, y2, z2⟩, st2⟩ := Jvm.LawKit.callS X0 hx (y := (⟨"jdk/internal/util/Preconditions", "checkIndex", "(IILjava/util/function/BiFunction;)I"⟩ : MethodName)) hown (mvT hZ (hw _ (List.mem_of_getElem? (i := 145) rfl))) (mvT hZ (hw _ (List.mem_of_getElem? (i := 146) rfl))) (mvT hZ (hw _ (List.mem_of_getElem? (i := 147) rfl))) (mvT hZ (hw _ (List.mem_of_getElem? (i := 148) rfl))) (by decide) (backOf (W := 0) (rm22_3_1 l Z a0 hw []  h0 n0 Z0) hZ (hw _ (List.mem_of_getElem? (i := 148) rfl)) (hw _ (List.mem_of_getElem? (i := 147) rfl)) (by decide) (by decide)) (g := (mkF m 3 #[.val (.int (1 : Int32)), .val (.int (3 : Int32))] [.null, (.int (3 : Int32)), (.int (1 : Int32))])) rfl (by rw [hml]; rfl) (argsL := [(.int (1 : Int32)), (.int (3 : Int32)), .null]) (rest := []) (lenOf pd_8 rfl) rfl (by show 2 * 0 + _ ≤ _; exact Nat.le_of_eq rfl) (hb hby d21_3) (fun _ _ => ⟨rfl, e0, (by decide : 0 + 0 ≤ _), (by decide : 0 + 0 ≤ _)⟩)
  dsimp only [Pt.U, Pt.locs, Pt.cells, Pt.slots] at X2 l2 y2 z2 st2 hQ2
  subst l2 y2 z2
  obtain ⟨rfl, N2q, e2⟩ := hQ2
  have N2 := Fr.app N0 N2q
  have P2 : own_Go p e below S0 (T2.setTop (mkF m 6 #[.val (.int (1 : Int32)), .val (.int (3 : Int32))] [(.int (1 : Int32))])) := fun t k => P1 t (st2 _ k)
  obtain ⟨fs, hr, hrun, hended, hW, hsame⟩ := X2.leave (v := some (.int (1 : Int32))) (fun h => by rw [Bd.returns] at h; cases h)
  refine ⟨_, _, own_from hS0 (P2 _ ?_), hrun, hended, _, _, rfl, ?_, ⟨_, rfl⟩, hW, hsame.mono (by decide) (by decide)⟩
  · show Steps p.tables e below (T2.setTop (mkF m 6 #[.val (.int (1 : Int32)), .val (.int (3 : Int32))] [(.int (1 : Int32))])) _
    exact retI X2 hx Bd.returns (hb hby d21_6) hr
  · show Q21_3_1 Z  h0 n0 _ T2.heap _
    rw [e2]
    exact ⟨rfl, N2, rfl⟩
theorem ef_23_3_1 (m : MethodId) (q23_3_1_0 : Addr) : entryFrame m #[(.ref q23_3_1_0), (.int (1 : Int32))] 2 = mkF m 0 #[.val (.ref q23_3_1_0), .val (.int (1 : Int32))] [] := by first | (simp [entryFrame, mkF, argsToLocals, Value.category]; done) | rfl
def Q23_3_1 (Z : State) (q23_3_1_0 : Addr) (qa : Addr) (qk : ClassId) (x0 : Addr) (x1 : Addr) (x2 : Addr) (h0 : Heap) (n0 : Nat) (v : Option Value) (h : Heap) (L : List Loc) : Prop := v = some (.ref x1) ∧ Fr n0 L ∧ h = h0
set_option maxRecDepth 65536 in
set_option maxHeartbeats 40000000 in
theorem rm23_3_1 (l : Launch) (Z : State) (a0 : Array Value) (hw : ∀ d ∈ tables_1, d.before a0 Z = true) (ws : List Jvm.Cond) (q23_3_1_0 : Addr) (qa : Addr) (qk : ClassId) (x0 : Addr) (x1 : Addr) (x2 : Addr) (h0 : Heap) (n0 : Nat) (Z0 : n0 ≤ h0.size) (F_q23_3_1_0_elementData : Fld Z h0 q23_3_1_0 "java/util/ArrayList" "elementData" "[Ljava/lang/Object;" (.ref qa)) (A_qa : Arv Z h0 qa qk (.object "java/lang/Object") (10 : Int32) [(.ref x0), (.ref x1), (.ref x2), .null, .null, .null, .null, .null, .null, .null] .null) :
    MetFree l (⟨"java/util/ArrayList", "elementData", "(I)Ljava/lang/Object;"⟩ : MethodName) (head1 (Jvm.Cond.code (⟨"java/util/ArrayList", "elementData", "(I)Ljava/lang/Object;"⟩ : MethodName) jdk_38_method_18_code 2 (some (.object "java/lang/Object")) :: ws) ({ frames := 0, cells := 0, slots := 0, locals := 0 } : Room)) (fun a U => a = #[(.ref q23_3_1_0), (.int (1 : Int32))] ∧ Z.Warmed39 U.vm ∧ U.heap = h0) (fun _ _ _ _ _ => True) (fun _ U o U' => ∃ v L, o = .returned v ∧ Q23_3_1 Z q23_3_1_0 qa qk x0 x1 x2 h0 n0 v U'.heap L ∧ FrameEnd U o U' L ({ frames := 0, cells := 0, slots := 0, locals := 0 } : Room).cells ({ frames := 0, cells := 0, slots := 0, locals := 0 } : Room).slots) := by
  refine MetFree.of_bodySF (plainFor_of_name pn_5) hisR ?_
  intro p e s m args below meth c s₁ Bd hml0 hP hK
  obtain ⟨rfl, hZ, hh⟩ := hP
  have hx := Bd.exec
  have hby := Bd.bytes
  have hml : c.maxLocals = 2 := hml0
  have hown : s.vm.findClass "java/util/ArrayList" = some m.cls := findClass_of_methodNamed Bd.named
  have hnm := (name_of_methodNamed Bd.named Bd.method).1
  have X0 : Stand p l e ({ frames := 0, cells := 0, slots := 0, locals := 0 } : Room) s m #[(.ref q23_3_1_0), (.int (1 : Int32))] below meth c s₁ [] 0 0 := Stand.of_body Bd
  have e0 : s₁.heap = h0 := by rw [← hh, Bd.state]; rfl
  have N0 := Fr.nil n0
  obtain ⟨S0, hS0⟩ : ∃ z, z = s₁.setTop (entryFrame m #[(.ref q23_3_1_0), (.int (1 : Int32))] 2) := ⟨_, rfl⟩
  have P0 : own_Go p e below S0 (s₁.setTop (mkF m 0 #[.val (.ref q23_3_1_0), .val (.int (1 : Int32))] [])) := fun t k => by rw [hS0]; exact castTop (ef_23_3_1 m q23_3_1_0) k
  have P1 : own_Go p e below S0 (s₁.setTop (mkF m 1 #[.val (.ref q23_3_1_0), .val (.int (1 : Int32))] [(.ref q23_3_1_0)])) := fun t k => P0 t (by
    show Steps p.tables e below (s₁.setTop (mkF m 0 #[.val (.ref q23_3_1_0), .val (.int (1 : Int32))] [])) t
    refine XS.aloadN X0.here hx rfl (hb hby d23_0) rfl rfl ?_
    show Steps p.tables e below (s₁.setTop (mkF m 1 #[.val (.ref q23_3_1_0), .val (.int (1 : Int32))] [(.ref q23_3_1_0)])) t
    exact k)
  obtain ⟨T2, X2, e2, st2⟩ := getF X0 hx hZ hown (host := "") (Or.inl (hw _ (List.mem_of_getElem? (i := 49) rfl))) Via.refl e0 F_q23_3_1_0_elementData (g := (mkF m 1 #[.val (.ref q23_3_1_0), .val (.int (1 : Int32))] [(.ref q23_3_1_0)])) rfl rfl (hb hby d23_1)
  have P2 : own_Go p e below S0 (T2.setTop (mkF m 4 #[.val (.ref q23_3_1_0), .val (.int (1 : Int32))] [(.ref qa)])) := fun t k => P1 t (st2 _ k)
  obtain ⟨cl3, Ar3, q3, Sz3, Nn3, Hh3, Gg3⟩ := id A_qa
  have hin3 : ¬ ((1 : Int32) < 0 ∨ cl3.slots.size ≤ ((1 : Int32)).toNatClampNeg) := inb_of Sz3 ⟨by decide, by decide⟩
  have hat3 : cl3.slots[((1 : Int32)).toNatClampNeg]? = some (.ref x1) := Has.at Hh3 hin3 rfl
  have P4 : own_Go p e below S0 (T2.setTop (mkF m 6 #[.val (.ref q23_3_1_0), .val (.int (1 : Int32))] [(.ref x1)])) := fun t k => P2 t (by
    show Steps p.tables e below (T2.setTop (mkF m 4 #[.val (.ref q23_3_1_0), .val (.int (1 : Int32))] [(.ref qa)])) t
    refine XS.iloadN X2.here hx rfl (hb hby d23_4) rfl ?_
    show Steps p.tables e below (T2.setTop (mkF m 5 #[.val (.ref q23_3_1_0), .val (.int (1 : Int32))] [(.int (1 : Int32)), (.ref qa)])) t
    refine X2.aaload hx (j := (1 : Int32)) (v := (.ref x1)) (by rw [e2]; exact Ar3.1) (State.isArrayOf_alike hZ.alike Ar3.2.1) rfl Ar3.2.2 hin3 hat3 (g := (mkF m 5 #[.val (.ref q23_3_1_0), .val (.int (1 : Int32))] [(.int (1 : Int32)), (.ref qa)])) rfl rfl (hb hby d23_5) _ ?_
    show Steps p.tables e below (T2.setTop (mkF m 6 #[.val (.ref q23_3_1_0), .val (.int (1 : Int32))] [(.ref x1)])) t
    exact k)
  obtain ⟨fs, hr, hrun, hended, hW, hsame⟩ := X2.leave (v := some (.ref x1)) (fun h => by rw [Bd.returns] at h; cases h)
  refine ⟨_, _, own_from hS0 (P4 _ ?_), hrun, hended, _, _, rfl, ?_, ⟨_, rfl⟩, hW, hsame.mono (by decide) (by decide)⟩
  · show Steps p.tables e below (T2.setTop (mkF m 6 #[.val (.ref q23_3_1_0), .val (.int (1 : Int32))] [(.ref x1)])) _
    jvm_step X2.here [X2.here.top, hx, (hb hby d23_6), X2.method', Bd.returns, Value.isRef, FieldType.isReference]
    first | (intro acts; rw [hr _ acts rfl rfl rfl]) | rw [hr _ _ rfl rfl rfl]
    exact Steps.refl _
  · show Q23_3_1 Z q23_3_1_0 qa qk x0 x1 x2 h0 n0 _ T2.heap _
    rw [e2]
    exact ⟨rfl, N0, rfl⟩
theorem ef_20_3_1 (m : MethodId) (q20_3_1_0 : Addr) : entryFrame m #[(.ref q20_3_1_0), (.int (1 : Int32))] 2 = mkF m 0 #[.val (.ref q20_3_1_0), .val (.int (1 : Int32))] [] := by first | (simp [entryFrame, mkF, argsToLocals, Value.category]; done) | rfl
def Q20_3_1 (Z : State) (q20_3_1_0 : Addr) (qa : Addr) (qk : ClassId) (x0 : Addr) (x1 : Addr) (x2 : Addr) (h0 : Heap) (n0 : Nat) (v : Option Value) (h : Heap) (L : List Loc) : Prop := v = some (.ref x1) ∧ Fr n0 L ∧ h = h0
set_option maxRecDepth 65536 in
set_option maxHeartbeats 40000000 in
theorem rm20_3_1 (l : Launch) (Z : State) (a0 : Array Value) (hw : ∀ d ∈ tables_1, d.before a0 Z = true) (ws : List Jvm.Cond) (q20_3_1_0 : Addr) (qa : Addr) (qk : ClassId) (x0 : Addr) (x1 : Addr) (x2 : Addr) (h0 : Heap) (n0 : Nat) (Z0 : n0 ≤ h0.size) (F_q20_3_1_0_size : Fld Z h0 q20_3_1_0 "java/util/ArrayList" "size" "I" (.int (3 : Int32))) (F_q20_3_1_0_elementData : Fld Z h0 q20_3_1_0 "java/util/ArrayList" "elementData" "[Ljava/lang/Object;" (.ref qa)) (A_qa : Arv Z h0 qa qk (.object "java/lang/Object") (10 : Int32) [(.ref x0), (.ref x1), (.ref x2), .null, .null, .null, .null, .null, .null, .null] .null) (E_q20_3_1_0 : Exa Z h0 q20_3_1_0 "java/util/ArrayList") :
    MetFree l (⟨"java/util/ArrayList", "get", "(I)Ljava/lang/Object;"⟩ : MethodName) (head1 (Jvm.Cond.code (⟨"java/util/ArrayList", "get", "(I)Ljava/lang/Object;"⟩ : MethodName) jdk_38_method_20_code 2 (some (.object "java/lang/Object")) :: ws) ({ frames := 2, cells := 0, slots := 0, locals := 27 } : Room)) (fun a U => a = #[(.ref q20_3_1_0), (.int (1 : Int32))] ∧ Z.Warmed39 U.vm ∧ U.heap = h0) (fun _ _ _ _ _ => True) (fun _ U o U' => ∃ v L, o = .returned v ∧ Q20_3_1 Z q20_3_1_0 qa qk x0 x1 x2 h0 n0 v U'.heap L ∧ FrameEnd U o U' L ({ frames := 2, cells := 0, slots := 0, locals := 27 } : Room).cells ({ frames := 2, cells := 0, slots := 0, locals := 27 } : Room).slots) := by
  refine MetFree.of_bodySF (plainFor_of_name pn_5) hisR ?_
  intro p e s m args below meth c s₁ Bd hml0 hP hK
  obtain ⟨rfl, hZ, hh⟩ := hP
  have hx := Bd.exec
  have hby := Bd.bytes
  have hml : c.maxLocals = 2 := hml0
  have hown : s.vm.findClass "java/util/ArrayList" = some m.cls := findClass_of_methodNamed Bd.named
  have hnm := (name_of_methodNamed Bd.named Bd.method).1
  have X0 : Stand p l e ({ frames := 2, cells := 0, slots := 0, locals := 27 } : Room) s m #[(.ref q20_3_1_0), (.int (1 : Int32))] below meth c s₁ [] 0 0 := Stand.of_body Bd
  have e0 : s₁.heap = h0 := by rw [← hh, Bd.state]; rfl
  have N0 := Fr.nil n0
  obtain ⟨S0, hS0⟩ : ∃ z, z = s₁.setTop (entryFrame m #[(.ref q20_3_1_0), (.int (1 : Int32))] 2) := ⟨_, rfl⟩
  have P0 : own_Go p e below S0 (s₁.setTop (mkF m 0 #[.val (.ref q20_3_1_0), .val (.int (1 : Int32))] [])) := fun t k => by rw [hS0]; exact castTop (ef_20_3_1 m q20_3_1_0) k
  have P1 : own_Go p e below S0 (s₁.setTop (mkF m 2 #[.val (.ref q20_3_1_0), .val (.int (1 : Int32))] [(.ref q20_3_1_0), (.int (1 : Int32))])) := fun t k => P0 t (by
    show Steps p.tables e below (s₁.setTop (mkF m 0 #[.val (.ref q20_3_1_0), .val (.int (1 : Int32))] [])) t
    refine XS.iloadN X0.here hx rfl (hb hby d20_0) rfl ?_
    refine XS.aloadN X0.here hx rfl (hb hby d20_1) rfl rfl ?_
    show Steps p.tables e below (s₁.setTop (mkF m 2 #[.val (.ref q20_3_1_0), .val (.int (1 : Int32))] [(.ref q20_3_1_0), (.int (1 : Int32))])) t
    exact k)
  obtain ⟨T2, X2, e2, st2⟩ := getF X0 hx hZ hown (host := "") (Or.inl (hw _ (List.mem_of_getElem? (i := 58) rfl))) Via.refl e0 F_q20_3_1_0_size (g := (mkF m 2 #[.val (.ref q20_3_1_0), .val (.int (1 : Int32))] [(.ref q20_3_1_0), (.int (1 : Int32))])) rfl rfl (hb hby d20_2)
  have P2 : own_Go p e below S0 (T2.setTop (mkF m 5 #[.val (.ref q20_3_1_0), .val (.int (1 : Int32))] [(.int (3 : Int32)), (.int (1 : Int32))])) := fun t k => P1 t (st2 _ k)
  obtain ⟨_, _, ⟨T3, L3, k3, n3⟩, -, X3, ⟨Lc3, hQ3, l3, y3, z3⟩, st3⟩ := Jvm.LawKit.callS X2 hx (y := (⟨"java/util/Objects", "checkIndex", "(II)I"⟩ : MethodName)) hown (mvT hZ (hw _ (List.mem_of_getElem? (i := 141) rfl))) (mvT hZ (hw _ (List.mem_of_getElem? (i := 142) rfl))) (mvT hZ (hw _ (List.mem_of_getElem? (i := 143) rfl))) (mvT hZ (hw _ (List.mem_of_getElem? (i := 144) rfl))) (by decide) (backOf (W := 0) (rm21_3_1 l Z a0 hw []  h0 n0 Z0) hZ (hw _ (List.mem_of_getElem? (i := 144) rfl)) (hw _ (List.mem_of_getElem? (i := 143) rfl)) (by decide) (by decide)) (g := (mkF m 5 #[.val (.ref q20_3_1_0), .val (.int (1 : Int32))] [(.int (3 : Int32)), (.int (1 : Int32))])) rfl (by rw [hml]; rfl) (argsL := [(.int (1 : Int32)), (.int (3 : Int32))]) (rest := []) (lenOf pd_2 rfl) rfl (by show 2 * 0 + _ ≤ _; exact Nat.le_of_eq rfl) (hb hby d20_5) (fun _ _ => ⟨rfl, e2, (by decide : 0 + 0 ≤ _), (by decide : 0 + 0 ≤ _)⟩)
  dsimp only [Pt.U, Pt.locs, Pt.cells, Pt.slots] at X3 l3 y3 z3 st3 hQ3
  subst l3 y3 z3
  obtain ⟨rfl, N3q, e3⟩ := hQ3
  have N3 := Fr.app N0 N3q
  have P3 : own_Go p e below S0 (T3.setTop (mkF m 8 #[.val (.ref q20_3_1_0), .val (.int (1 : Int32))] [(.int (1 : Int32))])) := fun t k => P2 t (st3 _ k)
  have P4 : own_Go p e below S0 (T3.setTop (mkF m 11 #[.val (.ref q20_3_1_0), .val (.int (1 : Int32))] [(.int (1 : Int32)), (.ref q20_3_1_0)])) := fun t k => P3 t (by
    show Steps p.tables e below (T3.setTop (mkF m 8 #[.val (.ref q20_3_1_0), .val (.int (1 : Int32))] [(.int (1 : Int32))])) t
    refine XS.pop X3.here hx rfl (hb hby d20_8) rfl rfl ?_
    refine XS.aloadN X3.here hx rfl (hb hby d20_9) rfl rfl ?_
    refine XS.iloadN X3.here hx rfl (hb hby d20_10) rfl ?_
    show Steps p.tables e below (T3.setTop (mkF m 11 #[.val (.ref q20_3_1_0), .val (.int (1 : Int32))] [(.int (1 : Int32)), (.ref q20_3_1_0)])) t
    exact k)
  obtain ⟨cq5, kq5, q5a, q5b, q5c⟩ := isOf hZ e3 E_q20_3_1_0
  obtain ⟨_, _, ⟨T5, L5, k5, n5⟩, -, X5, ⟨Lc5, hQ5, l5, y5, z5⟩, st5⟩ := X3.virtualBack hx (y := (⟨"java/util/ArrayList", "elementData", "(I)Ljava/lang/Object;"⟩ : MethodName)) (z := (⟨"java/util/ArrayList", "elementData", "(I)Ljava/lang/Object;"⟩ : MethodName)) hown (mvT hZ (hw _ (List.mem_of_getElem? (i := 149) rfl))) (mvT hZ (hw _ (List.mem_of_getElem? (i := 150) rfl))) (notFace_of_selects (args := #[]) (mvT hZ (hw _ (List.mem_of_getElem? (i := 152) rfl)))) (mvT hZ (hw _ (List.mem_of_getElem? (i := 152) rfl))) (mvT hZ (hw _ (List.mem_of_getElem? (i := 151) rfl))) (by decide) (backOf (W := 0) (rm23_3_1 l Z a0 hw [] q20_3_1_0 qa qk x0 x1 x2 h0 n0 Z0 F_q20_3_1_0_elementData A_qa) hZ (hw _ (List.mem_of_getElem? (i := 153) rfl)) (hw _ (List.mem_of_getElem? (i := 29) rfl)) (by decide) (by decide)) q5a q5c (g := (mkF m 11 #[.val (.ref q20_3_1_0), .val (.int (1 : Int32))] [(.int (1 : Int32)), (.ref q20_3_1_0)])) rfl (by rw [hml]; rfl) (Steps.refl _) (argsL := [(.int (1 : Int32))]) (rest := []) (lenOf pd_9 rfl) rfl (by show 2 * 0 + _ ≤ _; exact Nat.le_of_eq rfl) (hb hby d20_11) (fun _ _ => ⟨rfl, e3, (by decide : 0 + 0 ≤ _), (by decide : 0 + 0 ≤ _)⟩)
  dsimp only [Pt.U, Pt.locs, Pt.cells, Pt.slots] at X5 l5 y5 z5 st5 hQ5
  subst l5 y5 z5
  obtain ⟨rfl, N5q, e5⟩ := hQ5
  have N5 := Fr.app N3 N5q
  have P5 : own_Go p e below S0 (T5.setTop (mkF m 14 #[.val (.ref q20_3_1_0), .val (.int (1 : Int32))] [(.ref x1)])) := fun t k => P4 t (st5.trans k)
  obtain ⟨fs, hr, hrun, hended, hW, hsame⟩ := X5.leave (v := some (.ref x1)) (fun h => by rw [Bd.returns] at h; cases h)
  refine ⟨_, _, own_from hS0 (P5 _ ?_), hrun, hended, _, _, rfl, ?_, ⟨_, rfl⟩, hW, hsame.mono (by decide) (by decide)⟩
  · show Steps p.tables e below (T5.setTop (mkF m 14 #[.val (.ref q20_3_1_0), .val (.int (1 : Int32))] [(.ref x1)])) _
    jvm_step X5.here [X5.here.top, hx, (hb hby d20_14), X5.method', Bd.returns, Value.isRef, FieldType.isReference]
    first | (intro acts; rw [hr _ acts rfl rfl rfl]) | rw [hr _ _ rfl rfl rfl]
    exact Steps.refl _
  · show Q20_3_1 Z q20_3_1_0 qa qk x0 x1 x2 h0 n0 _ T5.heap _
    rw [e5]
    exact ⟨rfl, N5, rfl⟩
theorem ef_22_3_2 (m : MethodId)  : entryFrame m #[(.int (2 : Int32)), (.int (3 : Int32)), .null] 3 = mkF m 0 #[.val (.int (2 : Int32)), .val (.int (3 : Int32)), .val .null] [] := by first | (simp [entryFrame, mkF, argsToLocals, Value.category]; done) | rfl
def Q22_3_2 (Z : State)  (h0 : Heap) (n0 : Nat) (v : Option Value) (h : Heap) (L : List Loc) : Prop := v = some (.int (2 : Int32)) ∧ Fr n0 L ∧ h = h0
set_option maxRecDepth 65536 in
set_option maxHeartbeats 40000000 in
theorem rm22_3_2 (l : Launch) (Z : State) (a0 : Array Value) (hw : ∀ d ∈ tables_1, d.before a0 Z = true) (ws : List Jvm.Cond)  (h0 : Heap) (n0 : Nat) (Z0 : n0 ≤ h0.size) :
    MetFree l (⟨"jdk/internal/util/Preconditions", "checkIndex", "(IILjava/util/function/BiFunction;)I"⟩ : MethodName) (head1 (Jvm.Cond.code (⟨"jdk/internal/util/Preconditions", "checkIndex", "(IILjava/util/function/BiFunction;)I"⟩ : MethodName) jdk_41_method_11_code 3 (some .int) :: ws) ({ frames := 0, cells := 0, slots := 0, locals := 0 } : Room)) (fun a U => a = #[(.int (2 : Int32)), (.int (3 : Int32)), .null] ∧ Z.Warmed39 U.vm ∧ U.heap = h0) (fun _ _ _ _ _ => True) (fun _ U o U' => ∃ v L, o = .returned v ∧ Q22_3_2 Z  h0 n0 v U'.heap L ∧ FrameEnd U o U' L ({ frames := 0, cells := 0, slots := 0, locals := 0 } : Room).cells ({ frames := 0, cells := 0, slots := 0, locals := 0 } : Room).slots) := by
  refine MetFree.of_bodySF (plainFor_of_name pn_22) hisR ?_
  intro p e s m args below meth c s₁ Bd hml0 hP hK
  obtain ⟨rfl, hZ, hh⟩ := hP
  have hx := Bd.exec
  have hby := Bd.bytes
  have hml : c.maxLocals = 3 := hml0
  have hown : s.vm.findClass "jdk/internal/util/Preconditions" = some m.cls := findClass_of_methodNamed Bd.named
  have hnm := (name_of_methodNamed Bd.named Bd.method).1
  have X0 : Stand p l e ({ frames := 0, cells := 0, slots := 0, locals := 0 } : Room) s m #[(.int (2 : Int32)), (.int (3 : Int32)), .null] below meth c s₁ [] 0 0 := Stand.of_body Bd
  have e0 : s₁.heap = h0 := by rw [← hh, Bd.state]; rfl
  have N0 := Fr.nil n0
  obtain ⟨S0, hS0⟩ : ∃ z, z = s₁.setTop (entryFrame m #[(.int (2 : Int32)), (.int (3 : Int32)), .null] 3) := ⟨_, rfl⟩
  have P0 : own_Go p e below S0 (s₁.setTop (mkF m 0 #[.val (.int (2 : Int32)), .val (.int (3 : Int32)), .val .null] [])) := fun t k => by rw [hS0]; exact castTop (ef_22_3_2 m ) k
  have P1 : own_Go p e below S0 (s₁.setTop (mkF m 17 #[.val (.int (2 : Int32)), .val (.int (3 : Int32)), .val .null] [(.int (2 : Int32))])) := fun t k => P0 t (by
    show Steps p.tables e below (s₁.setTop (mkF m 0 #[.val (.int (2 : Int32)), .val (.int (3 : Int32)), .val .null] [])) t
    refine XS.iloadN X0.here hx rfl (hb hby d22_0) rfl ?_
    refine XS.ifNo X0.here hx rfl (hb hby d22_1) rfl ((if0 _ _).trans (flt (by decide)).1) ?_
    refine XS.iloadN X0.here hx rfl (hb hby d22_4) rfl ?_
    refine XS.iloadN X0.here hx rfl (hb hby d22_5) rfl ?_
    refine XS.icmpYes X0.here hx rfl (pc0 := 6) (pc' := 16) rfl (hb hby d22_6) rfl (tlt (by decide)).1 (by decide) (by decide) ?_
    refine XS.iloadN X0.here hx rfl (hb hby d22_16) rfl ?_
    show Steps p.tables e below (s₁.setTop (mkF m 17 #[.val (.int (2 : Int32)), .val (.int (3 : Int32)), .val .null] [(.int (2 : Int32))])) t
    exact k)
  obtain ⟨fs, hr, hrun, hended, hW, hsame⟩ := X0.leave (v := some (.int (2 : Int32))) (fun h => by rw [Bd.returns] at h; cases h)
  refine ⟨_, _, own_from hS0 (P1 _ ?_), hrun, hended, _, _, rfl, ?_, ⟨_, rfl⟩, hW, hsame.mono (by decide) (by decide)⟩
  · show Steps p.tables e below (s₁.setTop (mkF m 17 #[.val (.int (2 : Int32)), .val (.int (3 : Int32)), .val .null] [(.int (2 : Int32))])) _
    exact retI X0 hx Bd.returns (hb hby d22_17) hr
  · show Q22_3_2 Z  h0 n0 _ s₁.heap _
    rw [e0]
    exact ⟨rfl, N0, rfl⟩
theorem ef_21_3_2 (m : MethodId)  : entryFrame m #[(.int (2 : Int32)), (.int (3 : Int32))] 2 = mkF m 0 #[.val (.int (2 : Int32)), .val (.int (3 : Int32))] [] := by first | (simp [entryFrame, mkF, argsToLocals, Value.category]; done) | rfl
def Q21_3_2 (Z : State)  (h0 : Heap) (n0 : Nat) (v : Option Value) (h : Heap) (L : List Loc) : Prop := v = some (.int (2 : Int32)) ∧ Fr n0 L ∧ h = h0
set_option maxRecDepth 65536 in
set_option maxHeartbeats 40000000 in
theorem rm21_3_2 (l : Launch) (Z : State) (a0 : Array Value) (hw : ∀ d ∈ tables_1, d.before a0 Z = true) (ws : List Jvm.Cond)  (h0 : Heap) (n0 : Nat) (Z0 : n0 ≤ h0.size) :
    MetFree l (⟨"java/util/Objects", "checkIndex", "(II)I"⟩ : MethodName) (head1 (Jvm.Cond.code (⟨"java/util/Objects", "checkIndex", "(II)I"⟩ : MethodName) jdk_31_method_17_code 2 (some .int) :: ws) ({ frames := 1, cells := 0, slots := 0, locals := 14 } : Room)) (fun a U => a = #[(.int (2 : Int32)), (.int (3 : Int32))] ∧ Z.Warmed39 U.vm ∧ U.heap = h0) (fun _ _ _ _ _ => True) (fun _ U o U' => ∃ v L, o = .returned v ∧ Q21_3_2 Z  h0 n0 v U'.heap L ∧ FrameEnd U o U' L ({ frames := 1, cells := 0, slots := 0, locals := 14 } : Room).cells ({ frames := 1, cells := 0, slots := 0, locals := 14 } : Room).slots) := by
  refine MetFree.of_bodySF (plainFor_of_name pn_21) hisR ?_
  intro p e s m args below meth c s₁ Bd hml0 hP hK
  obtain ⟨rfl, hZ, hh⟩ := hP
  have hx := Bd.exec
  have hby := Bd.bytes
  have hml : c.maxLocals = 2 := hml0
  have hown : s.vm.findClass "java/util/Objects" = some m.cls := findClass_of_methodNamed Bd.named
  have hnm := (name_of_methodNamed Bd.named Bd.method).1
  have X0 : Stand p l e ({ frames := 1, cells := 0, slots := 0, locals := 14 } : Room) s m #[(.int (2 : Int32)), (.int (3 : Int32))] below meth c s₁ [] 0 0 := Stand.of_body Bd
  have e0 : s₁.heap = h0 := by rw [← hh, Bd.state]; rfl
  have N0 := Fr.nil n0
  obtain ⟨S0, hS0⟩ : ∃ z, z = s₁.setTop (entryFrame m #[(.int (2 : Int32)), (.int (3 : Int32))] 2) := ⟨_, rfl⟩
  have P0 : own_Go p e below S0 (s₁.setTop (mkF m 0 #[.val (.int (2 : Int32)), .val (.int (3 : Int32))] [])) := fun t k => by rw [hS0]; exact castTop (ef_21_3_2 m ) k
  have P1 : own_Go p e below S0 (s₁.setTop (mkF m 3 #[.val (.int (2 : Int32)), .val (.int (3 : Int32))] [.null, (.int (3 : Int32)), (.int (2 : Int32))])) := fun t k => P0 t (by
    show Steps p.tables e below (s₁.setTop (mkF m 0 #[.val (.int (2 : Int32)), .val (.int (3 : Int32))] [])) t
    refine XS.iloadN X0.here hx rfl (hb hby d21_0) rfl ?_
    refine XS.iloadN X0.here hx rfl (hb hby d21_1) rfl ?_
    refine XS.aconstNull X0.here hx rfl (hb hby d21_2) ?_
    show Steps p.tables e below (s₁.setTop (mkF m 3 #[.val (.int (2 : Int32)), .val (.int (3 : Int32))] [.null, (.int (3 : Int32)), (.int (2 : Int32))])) t
    exact k)
  obtain ⟨_, _, ⟨T2, L2, k2, n2⟩, -, X2, ⟨Lc2, hQ2, l2, y2, z2⟩, st2⟩ := Jvm.LawKit.callS X0 hx (y := (⟨"jdk/internal/util/Preconditions", "checkIndex", "(IILjava/util/function/BiFunction;)I"⟩ : MethodName)) hown (mvT hZ (hw _ (List.mem_of_getElem? (i := 145) rfl))) (mvT hZ (hw _ (List.mem_of_getElem? (i := 146) rfl))) (mvT hZ (hw _ (List.mem_of_getElem? (i := 147) rfl))) (mvT hZ (hw _ (List.mem_of_getElem? (i := 148) rfl))) (by decide) (backOf (W := 0) (rm22_3_2 l Z a0 hw []  h0 n0 Z0) hZ (hw _ (List.mem_of_getElem? (i := 148) rfl)) (hw _ (List.mem_of_getElem? (i := 147) rfl)) (by decide) (by decide)) (g := (mkF m 3 #[.val (.int (2 : Int32)), .val (.int (3 : Int32))] [.null, (.int (3 : Int32)), (.int (2 : Int32))])) rfl (by rw [hml]; rfl) (argsL := [(.int (2 : Int32)), (.int (3 : Int32)), .null]) (rest := []) (lenOf pd_8 rfl) rfl (by show 2 * 0 + _ ≤ _; exact Nat.le_of_eq rfl) (hb hby d21_3) (fun _ _ => ⟨rfl, e0, (by decide : 0 + 0 ≤ _), (by decide : 0 + 0 ≤ _)⟩)
  dsimp only [Pt.U, Pt.locs, Pt.cells, Pt.slots] at X2 l2 y2 z2 st2 hQ2
  subst l2 y2 z2
  obtain ⟨rfl, N2q, e2⟩ := hQ2
  have N2 := Fr.app N0 N2q
  have P2 : own_Go p e below S0 (T2.setTop (mkF m 6 #[.val (.int (2 : Int32)), .val (.int (3 : Int32))] [(.int (2 : Int32))])) := fun t k => P1 t (st2 _ k)
  obtain ⟨fs, hr, hrun, hended, hW, hsame⟩ := X2.leave (v := some (.int (2 : Int32))) (fun h => by rw [Bd.returns] at h; cases h)
  refine ⟨_, _, own_from hS0 (P2 _ ?_), hrun, hended, _, _, rfl, ?_, ⟨_, rfl⟩, hW, hsame.mono (by decide) (by decide)⟩
  · show Steps p.tables e below (T2.setTop (mkF m 6 #[.val (.int (2 : Int32)), .val (.int (3 : Int32))] [(.int (2 : Int32))])) _
    exact retI X2 hx Bd.returns (hb hby d21_6) hr
  · show Q21_3_2 Z  h0 n0 _ T2.heap _
    rw [e2]
    exact ⟨rfl, N2, rfl⟩
theorem ef_23_3_2 (m : MethodId) (q23_3_2_0 : Addr) : entryFrame m #[(.ref q23_3_2_0), (.int (2 : Int32))] 2 = mkF m 0 #[.val (.ref q23_3_2_0), .val (.int (2 : Int32))] [] := by first | (simp [entryFrame, mkF, argsToLocals, Value.category]; done) | rfl
def Q23_3_2 (Z : State) (q23_3_2_0 : Addr) (qa : Addr) (qk : ClassId) (x0 : Addr) (x1 : Addr) (x2 : Addr) (h0 : Heap) (n0 : Nat) (v : Option Value) (h : Heap) (L : List Loc) : Prop := v = some (.ref x2) ∧ Fr n0 L ∧ h = h0
set_option maxRecDepth 65536 in
set_option maxHeartbeats 40000000 in
theorem rm23_3_2 (l : Launch) (Z : State) (a0 : Array Value) (hw : ∀ d ∈ tables_1, d.before a0 Z = true) (ws : List Jvm.Cond) (q23_3_2_0 : Addr) (qa : Addr) (qk : ClassId) (x0 : Addr) (x1 : Addr) (x2 : Addr) (h0 : Heap) (n0 : Nat) (Z0 : n0 ≤ h0.size) (F_q23_3_2_0_elementData : Fld Z h0 q23_3_2_0 "java/util/ArrayList" "elementData" "[Ljava/lang/Object;" (.ref qa)) (A_qa : Arv Z h0 qa qk (.object "java/lang/Object") (10 : Int32) [(.ref x0), (.ref x1), (.ref x2), .null, .null, .null, .null, .null, .null, .null] .null) :
    MetFree l (⟨"java/util/ArrayList", "elementData", "(I)Ljava/lang/Object;"⟩ : MethodName) (head1 (Jvm.Cond.code (⟨"java/util/ArrayList", "elementData", "(I)Ljava/lang/Object;"⟩ : MethodName) jdk_38_method_18_code 2 (some (.object "java/lang/Object")) :: ws) ({ frames := 0, cells := 0, slots := 0, locals := 0 } : Room)) (fun a U => a = #[(.ref q23_3_2_0), (.int (2 : Int32))] ∧ Z.Warmed39 U.vm ∧ U.heap = h0) (fun _ _ _ _ _ => True) (fun _ U o U' => ∃ v L, o = .returned v ∧ Q23_3_2 Z q23_3_2_0 qa qk x0 x1 x2 h0 n0 v U'.heap L ∧ FrameEnd U o U' L ({ frames := 0, cells := 0, slots := 0, locals := 0 } : Room).cells ({ frames := 0, cells := 0, slots := 0, locals := 0 } : Room).slots) := by
  refine MetFree.of_bodySF (plainFor_of_name pn_5) hisR ?_
  intro p e s m args below meth c s₁ Bd hml0 hP hK
  obtain ⟨rfl, hZ, hh⟩ := hP
  have hx := Bd.exec
  have hby := Bd.bytes
  have hml : c.maxLocals = 2 := hml0
  have hown : s.vm.findClass "java/util/ArrayList" = some m.cls := findClass_of_methodNamed Bd.named
  have hnm := (name_of_methodNamed Bd.named Bd.method).1
  have X0 : Stand p l e ({ frames := 0, cells := 0, slots := 0, locals := 0 } : Room) s m #[(.ref q23_3_2_0), (.int (2 : Int32))] below meth c s₁ [] 0 0 := Stand.of_body Bd
  have e0 : s₁.heap = h0 := by rw [← hh, Bd.state]; rfl
  have N0 := Fr.nil n0
  obtain ⟨S0, hS0⟩ : ∃ z, z = s₁.setTop (entryFrame m #[(.ref q23_3_2_0), (.int (2 : Int32))] 2) := ⟨_, rfl⟩
  have P0 : own_Go p e below S0 (s₁.setTop (mkF m 0 #[.val (.ref q23_3_2_0), .val (.int (2 : Int32))] [])) := fun t k => by rw [hS0]; exact castTop (ef_23_3_2 m q23_3_2_0) k
  have P1 : own_Go p e below S0 (s₁.setTop (mkF m 1 #[.val (.ref q23_3_2_0), .val (.int (2 : Int32))] [(.ref q23_3_2_0)])) := fun t k => P0 t (by
    show Steps p.tables e below (s₁.setTop (mkF m 0 #[.val (.ref q23_3_2_0), .val (.int (2 : Int32))] [])) t
    refine XS.aloadN X0.here hx rfl (hb hby d23_0) rfl rfl ?_
    show Steps p.tables e below (s₁.setTop (mkF m 1 #[.val (.ref q23_3_2_0), .val (.int (2 : Int32))] [(.ref q23_3_2_0)])) t
    exact k)
  obtain ⟨T2, X2, e2, st2⟩ := getF X0 hx hZ hown (host := "") (Or.inl (hw _ (List.mem_of_getElem? (i := 49) rfl))) Via.refl e0 F_q23_3_2_0_elementData (g := (mkF m 1 #[.val (.ref q23_3_2_0), .val (.int (2 : Int32))] [(.ref q23_3_2_0)])) rfl rfl (hb hby d23_1)
  have P2 : own_Go p e below S0 (T2.setTop (mkF m 4 #[.val (.ref q23_3_2_0), .val (.int (2 : Int32))] [(.ref qa)])) := fun t k => P1 t (st2 _ k)
  obtain ⟨cl3, Ar3, q3, Sz3, Nn3, Hh3, Gg3⟩ := id A_qa
  have hin3 : ¬ ((2 : Int32) < 0 ∨ cl3.slots.size ≤ ((2 : Int32)).toNatClampNeg) := inb_of Sz3 ⟨by decide, by decide⟩
  have hat3 : cl3.slots[((2 : Int32)).toNatClampNeg]? = some (.ref x2) := Has.at Hh3 hin3 rfl
  have P4 : own_Go p e below S0 (T2.setTop (mkF m 6 #[.val (.ref q23_3_2_0), .val (.int (2 : Int32))] [(.ref x2)])) := fun t k => P2 t (by
    show Steps p.tables e below (T2.setTop (mkF m 4 #[.val (.ref q23_3_2_0), .val (.int (2 : Int32))] [(.ref qa)])) t
    refine XS.iloadN X2.here hx rfl (hb hby d23_4) rfl ?_
    show Steps p.tables e below (T2.setTop (mkF m 5 #[.val (.ref q23_3_2_0), .val (.int (2 : Int32))] [(.int (2 : Int32)), (.ref qa)])) t
    refine X2.aaload hx (j := (2 : Int32)) (v := (.ref x2)) (by rw [e2]; exact Ar3.1) (State.isArrayOf_alike hZ.alike Ar3.2.1) rfl Ar3.2.2 hin3 hat3 (g := (mkF m 5 #[.val (.ref q23_3_2_0), .val (.int (2 : Int32))] [(.int (2 : Int32)), (.ref qa)])) rfl rfl (hb hby d23_5) _ ?_
    show Steps p.tables e below (T2.setTop (mkF m 6 #[.val (.ref q23_3_2_0), .val (.int (2 : Int32))] [(.ref x2)])) t
    exact k)
  obtain ⟨fs, hr, hrun, hended, hW, hsame⟩ := X2.leave (v := some (.ref x2)) (fun h => by rw [Bd.returns] at h; cases h)
  refine ⟨_, _, own_from hS0 (P4 _ ?_), hrun, hended, _, _, rfl, ?_, ⟨_, rfl⟩, hW, hsame.mono (by decide) (by decide)⟩
  · show Steps p.tables e below (T2.setTop (mkF m 6 #[.val (.ref q23_3_2_0), .val (.int (2 : Int32))] [(.ref x2)])) _
    jvm_step X2.here [X2.here.top, hx, (hb hby d23_6), X2.method', Bd.returns, Value.isRef, FieldType.isReference]
    first | (intro acts; rw [hr _ acts rfl rfl rfl]) | rw [hr _ _ rfl rfl rfl]
    exact Steps.refl _
  · show Q23_3_2 Z q23_3_2_0 qa qk x0 x1 x2 h0 n0 _ T2.heap _
    rw [e2]
    exact ⟨rfl, N0, rfl⟩
theorem ef_20_3_2 (m : MethodId) (q20_3_2_0 : Addr) : entryFrame m #[(.ref q20_3_2_0), (.int (2 : Int32))] 2 = mkF m 0 #[.val (.ref q20_3_2_0), .val (.int (2 : Int32))] [] := by first | (simp [entryFrame, mkF, argsToLocals, Value.category]; done) | rfl
def Q20_3_2 (Z : State) (q20_3_2_0 : Addr) (qa : Addr) (qk : ClassId) (x0 : Addr) (x1 : Addr) (x2 : Addr) (h0 : Heap) (n0 : Nat) (v : Option Value) (h : Heap) (L : List Loc) : Prop := v = some (.ref x2) ∧ Fr n0 L ∧ h = h0
set_option maxRecDepth 65536 in
set_option maxHeartbeats 40000000 in
theorem rm20_3_2 (l : Launch) (Z : State) (a0 : Array Value) (hw : ∀ d ∈ tables_1, d.before a0 Z = true) (ws : List Jvm.Cond) (q20_3_2_0 : Addr) (qa : Addr) (qk : ClassId) (x0 : Addr) (x1 : Addr) (x2 : Addr) (h0 : Heap) (n0 : Nat) (Z0 : n0 ≤ h0.size) (F_q20_3_2_0_size : Fld Z h0 q20_3_2_0 "java/util/ArrayList" "size" "I" (.int (3 : Int32))) (F_q20_3_2_0_elementData : Fld Z h0 q20_3_2_0 "java/util/ArrayList" "elementData" "[Ljava/lang/Object;" (.ref qa)) (A_qa : Arv Z h0 qa qk (.object "java/lang/Object") (10 : Int32) [(.ref x0), (.ref x1), (.ref x2), .null, .null, .null, .null, .null, .null, .null] .null) (E_q20_3_2_0 : Exa Z h0 q20_3_2_0 "java/util/ArrayList") :
    MetFree l (⟨"java/util/ArrayList", "get", "(I)Ljava/lang/Object;"⟩ : MethodName) (head1 (Jvm.Cond.code (⟨"java/util/ArrayList", "get", "(I)Ljava/lang/Object;"⟩ : MethodName) jdk_38_method_20_code 2 (some (.object "java/lang/Object")) :: ws) ({ frames := 2, cells := 0, slots := 0, locals := 27 } : Room)) (fun a U => a = #[(.ref q20_3_2_0), (.int (2 : Int32))] ∧ Z.Warmed39 U.vm ∧ U.heap = h0) (fun _ _ _ _ _ => True) (fun _ U o U' => ∃ v L, o = .returned v ∧ Q20_3_2 Z q20_3_2_0 qa qk x0 x1 x2 h0 n0 v U'.heap L ∧ FrameEnd U o U' L ({ frames := 2, cells := 0, slots := 0, locals := 27 } : Room).cells ({ frames := 2, cells := 0, slots := 0, locals := 27 } : Room).slots) := by
  refine MetFree.of_bodySF (plainFor_of_name pn_5) hisR ?_
  intro p e s m args below meth c s₁ Bd hml0 hP hK
  obtain ⟨rfl, hZ, hh⟩ := hP
  have hx := Bd.exec
  have hby := Bd.bytes
  have hml : c.maxLocals = 2 := hml0
  have hown : s.vm.findClass "java/util/ArrayList" = some m.cls := findClass_of_methodNamed Bd.named
  have hnm := (name_of_methodNamed Bd.named Bd.method).1
  have X0 : Stand p l e ({ frames := 2, cells := 0, slots := 0, locals := 27 } : Room) s m #[(.ref q20_3_2_0), (.int (2 : Int32))] below meth c s₁ [] 0 0 := Stand.of_body Bd
  have e0 : s₁.heap = h0 := by rw [← hh, Bd.state]; rfl
  have N0 := Fr.nil n0
  obtain ⟨S0, hS0⟩ : ∃ z, z = s₁.setTop (entryFrame m #[(.ref q20_3_2_0), (.int (2 : Int32))] 2) := ⟨_, rfl⟩
  have P0 : own_Go p e below S0 (s₁.setTop (mkF m 0 #[.val (.ref q20_3_2_0), .val (.int (2 : Int32))] [])) := fun t k => by rw [hS0]; exact castTop (ef_20_3_2 m q20_3_2_0) k
  have P1 : own_Go p e below S0 (s₁.setTop (mkF m 2 #[.val (.ref q20_3_2_0), .val (.int (2 : Int32))] [(.ref q20_3_2_0), (.int (2 : Int32))])) := fun t k => P0 t (by
    show Steps p.tables e below (s₁.setTop (mkF m 0 #[.val (.ref q20_3_2_0), .val (.int (2 : Int32))] [])) t
    refine XS.iloadN X0.here hx rfl (hb hby d20_0) rfl ?_
    refine XS.aloadN X0.here hx rfl (hb hby d20_1) rfl rfl ?_
    show Steps p.tables e below (s₁.setTop (mkF m 2 #[.val (.ref q20_3_2_0), .val (.int (2 : Int32))] [(.ref q20_3_2_0), (.int (2 : Int32))])) t
    exact k)
  obtain ⟨T2, X2, e2, st2⟩ := getF X0 hx hZ hown (host := "") (Or.inl (hw _ (List.mem_of_getElem? (i := 58) rfl))) Via.refl e0 F_q20_3_2_0_size (g := (mkF m 2 #[.val (.ref q20_3_2_0), .val (.int (2 : Int32))] [(.ref q20_3_2_0), (.int (2 : Int32))])) rfl rfl (hb hby d20_2)
  have P2 : own_Go p e below S0 (T2.setTop (mkF m 5 #[.val (.ref q20_3_2_0), .val (.int (2 : Int32))] [(.int (3 : Int32)), (.int (2 : Int32))])) := fun t k => P1 t (st2 _ k)
  obtain ⟨_, _, ⟨T3, L3, k3, n3⟩, -, X3, ⟨Lc3, hQ3, l3, y3, z3⟩, st3⟩ := Jvm.LawKit.callS X2 hx (y := (⟨"java/util/Objects", "checkIndex", "(II)I"⟩ : MethodName)) hown (mvT hZ (hw _ (List.mem_of_getElem? (i := 141) rfl))) (mvT hZ (hw _ (List.mem_of_getElem? (i := 142) rfl))) (mvT hZ (hw _ (List.mem_of_getElem? (i := 143) rfl))) (mvT hZ (hw _ (List.mem_of_getElem? (i := 144) rfl))) (by decide) (backOf (W := 0) (rm21_3_2 l Z a0 hw []  h0 n0 Z0) hZ (hw _ (List.mem_of_getElem? (i := 144) rfl)) (hw _ (List.mem_of_getElem? (i := 143) rfl)) (by decide) (by decide)) (g := (mkF m 5 #[.val (.ref q20_3_2_0), .val (.int (2 : Int32))] [(.int (3 : Int32)), (.int (2 : Int32))])) rfl (by rw [hml]; rfl) (argsL := [(.int (2 : Int32)), (.int (3 : Int32))]) (rest := []) (lenOf pd_2 rfl) rfl (by show 2 * 0 + _ ≤ _; exact Nat.le_of_eq rfl) (hb hby d20_5) (fun _ _ => ⟨rfl, e2, (by decide : 0 + 0 ≤ _), (by decide : 0 + 0 ≤ _)⟩)
  dsimp only [Pt.U, Pt.locs, Pt.cells, Pt.slots] at X3 l3 y3 z3 st3 hQ3
  subst l3 y3 z3
  obtain ⟨rfl, N3q, e3⟩ := hQ3
  have N3 := Fr.app N0 N3q
  have P3 : own_Go p e below S0 (T3.setTop (mkF m 8 #[.val (.ref q20_3_2_0), .val (.int (2 : Int32))] [(.int (2 : Int32))])) := fun t k => P2 t (st3 _ k)
  have P4 : own_Go p e below S0 (T3.setTop (mkF m 11 #[.val (.ref q20_3_2_0), .val (.int (2 : Int32))] [(.int (2 : Int32)), (.ref q20_3_2_0)])) := fun t k => P3 t (by
    show Steps p.tables e below (T3.setTop (mkF m 8 #[.val (.ref q20_3_2_0), .val (.int (2 : Int32))] [(.int (2 : Int32))])) t
    refine XS.pop X3.here hx rfl (hb hby d20_8) rfl rfl ?_
    refine XS.aloadN X3.here hx rfl (hb hby d20_9) rfl rfl ?_
    refine XS.iloadN X3.here hx rfl (hb hby d20_10) rfl ?_
    show Steps p.tables e below (T3.setTop (mkF m 11 #[.val (.ref q20_3_2_0), .val (.int (2 : Int32))] [(.int (2 : Int32)), (.ref q20_3_2_0)])) t
    exact k)
  obtain ⟨cq5, kq5, q5a, q5b, q5c⟩ := isOf hZ e3 E_q20_3_2_0
  obtain ⟨_, _, ⟨T5, L5, k5, n5⟩, -, X5, ⟨Lc5, hQ5, l5, y5, z5⟩, st5⟩ := X3.virtualBack hx (y := (⟨"java/util/ArrayList", "elementData", "(I)Ljava/lang/Object;"⟩ : MethodName)) (z := (⟨"java/util/ArrayList", "elementData", "(I)Ljava/lang/Object;"⟩ : MethodName)) hown (mvT hZ (hw _ (List.mem_of_getElem? (i := 149) rfl))) (mvT hZ (hw _ (List.mem_of_getElem? (i := 150) rfl))) (notFace_of_selects (args := #[]) (mvT hZ (hw _ (List.mem_of_getElem? (i := 152) rfl)))) (mvT hZ (hw _ (List.mem_of_getElem? (i := 152) rfl))) (mvT hZ (hw _ (List.mem_of_getElem? (i := 151) rfl))) (by decide) (backOf (W := 0) (rm23_3_2 l Z a0 hw [] q20_3_2_0 qa qk x0 x1 x2 h0 n0 Z0 F_q20_3_2_0_elementData A_qa) hZ (hw _ (List.mem_of_getElem? (i := 153) rfl)) (hw _ (List.mem_of_getElem? (i := 29) rfl)) (by decide) (by decide)) q5a q5c (g := (mkF m 11 #[.val (.ref q20_3_2_0), .val (.int (2 : Int32))] [(.int (2 : Int32)), (.ref q20_3_2_0)])) rfl (by rw [hml]; rfl) (Steps.refl _) (argsL := [(.int (2 : Int32))]) (rest := []) (lenOf pd_9 rfl) rfl (by show 2 * 0 + _ ≤ _; exact Nat.le_of_eq rfl) (hb hby d20_11) (fun _ _ => ⟨rfl, e3, (by decide : 0 + 0 ≤ _), (by decide : 0 + 0 ≤ _)⟩)
  dsimp only [Pt.U, Pt.locs, Pt.cells, Pt.slots] at X5 l5 y5 z5 st5 hQ5
  subst l5 y5 z5
  obtain ⟨rfl, N5q, e5⟩ := hQ5
  have N5 := Fr.app N3 N5q
  have P5 : own_Go p e below S0 (T5.setTop (mkF m 14 #[.val (.ref q20_3_2_0), .val (.int (2 : Int32))] [(.ref x2)])) := fun t k => P4 t (st5.trans k)
  obtain ⟨fs, hr, hrun, hended, hW, hsame⟩ := X5.leave (v := some (.ref x2)) (fun h => by rw [Bd.returns] at h; cases h)
  refine ⟨_, _, own_from hS0 (P5 _ ?_), hrun, hended, _, _, rfl, ?_, ⟨_, rfl⟩, hW, hsame.mono (by decide) (by decide)⟩
  · show Steps p.tables e below (T5.setTop (mkF m 14 #[.val (.ref q20_3_2_0), .val (.int (2 : Int32))] [(.ref x2)])) _
    jvm_step X5.here [X5.here.top, hx, (hb hby d20_14), X5.method', Bd.returns, Value.isRef, FieldType.isReference]
    first | (intro acts; rw [hr _ acts rfl rfl rfl]) | rw [hr _ _ rfl rfl rfl]
    exact Steps.refl _
  · show Q20_3_2 Z q20_3_2_0 qa qk x0 x1 x2 h0 n0 _ T5.heap _
    rw [e5]
    exact ⟨rfl, N5, rfl⟩
theorem own_n01 {x : Int32} (h : ¬ ((0 : Int32) < x)) : ¬ ((1 : Int32) < x) := by
  rw [Int32.lt_iff_toInt_lt] at *
  have e0 : (0 : Int32).toInt = 0 := by decide
  have e1 : (1 : Int32).toInt = 1 := by decide
  omega
theorem own_n12 {x : Int32} (h : ¬ ((1 : Int32) < x)) : ¬ ((2 : Int32) < x) := by
  rw [Int32.lt_iff_toInt_lt] at *
  have e1 : (1 : Int32).toInt = 1 := by decide
  have e2 : (2 : Int32).toInt = 2 := by decide
  omega
theorem pd_10 : parseMethodDescriptor "(IILcom/example/penelope/penelope/program/ProcessType;ILcom/example/penelope/penelope/program/Transition;)V" = some ⟨[.int, .int, (.object "com/example/penelope/penelope/program/ProcessType"), .int, (.object "com/example/penelope/penelope/program/Transition")], none⟩ := by decide +kernel
theorem pd_11 : parseMethodDescriptor "(Lcom/example/penelope/penelope/program/ProcessType;ILcom/example/penelope/penelope/program/Transition;)V" = some ⟨[(.object "com/example/penelope/penelope/program/ProcessType"), .int, (.object "com/example/penelope/penelope/program/Transition")], none⟩ := by decide +kernel
theorem pd_12 : parseMethodDescriptor "(Ljava/lang/Object;)Z" = some ⟨[(.object "java/lang/Object")], some .boolean⟩ := by decide +kernel
theorem pd_13 : parseMethodDescriptor "(Ljava/util/List;Z)V" = some ⟨[(.object "java/util/List"), .boolean], none⟩ := by decide +kernel
theorem pd_14 : parseMethodDescriptor "()I" = some ⟨[], some .int⟩ := by decide +kernel
theorem pd_15 : parseMethodDescriptor "(Ljava/util/List;Lcom/example/penelope/penelope/program/Expansion;)Lcom/example/penelope/penelope/program/Expansion;" = some ⟨[(.object "java/util/List"), (.object "com/example/penelope/penelope/program/Expansion")], some (.object "com/example/penelope/penelope/program/Expansion")⟩ := by decide +kernel
theorem pn_0 : plainName "com/example/penelope/penelope/program/ExpansionMovesAfterClaimPinLaw" = true := by first | (simp [plainName, overriddenIn]; done) | decide +kernel
theorem ef_0 (m : MethodId) (i0 : Int32) (i1 : Int32) (i2 : Int32) (i3 : Int32) (i4 : Int32) : entryFrame m #[(.int i0), (.int i1), (.int i2), (.int i3), (.int i4)] maxLocals = mkF m 0 #[.val (.int i0), .val (.int i1), .val (.int i2), .val (.int i3), .val (.int i4), .unset, .unset, .unset, .unset, .unset, .unset, .unset, .unset, .unset, .unset, .unset, .unset] [] := by first | (simp [entryFrame, mkF, argsToLocals, Value.category, maxLocals]; done) | rfl
def Q0 (Z : State) (i0 : Int32) (i1 : Int32) (i2 : Int32) (i3 : Int32) (i4 : Int32) (z0_DEFAULTCAPACITY_EMPTY_ELEMENTDATA : Addr) (qk0 : ClassId) (z0_EMPTY_LIST : Addr) (qe : Addr) (qke : ClassId) (h0 : Heap) (n0 : Nat) (v : Option Value) (h : Heap) (L : List Loc) : Prop := v = some (.int 1) ∧ Fr n0 L
set_option maxRecDepth 65536 in
set_option maxHeartbeats 40000000 in
theorem rm0 (l : Launch) (Z : State) (a0 : Array Value) (hw : ∀ d ∈ tables_1, d.before a0 Z = true) (ws : List Jvm.Cond) (i0 : Int32) (i1 : Int32) (i2 : Int32) (i3 : Int32) (i4 : Int32) (z0_DEFAULTCAPACITY_EMPTY_ELEMENTDATA : Addr) (qk0 : ClassId) (z0_EMPTY_LIST : Addr) (qe : Addr) (qke : ClassId) (h0 : Heap) (n0 : Nat) (Z0 : n0 ≤ h0.size) (S_DEFAULTCAPACITY_EMPTY_ELEMENTDATA : Sta Z h0 "java/util/ArrayList" "DEFAULTCAPACITY_EMPTY_ELEMENTDATA" "[Ljava/lang/Object;" (.ref z0_DEFAULTCAPACITY_EMPTY_ELEMENTDATA)) (A_z0_DEFAULTCAPACITY_EMPTY_ELEMENTDATA : Arv Z h0 z0_DEFAULTCAPACITY_EMPTY_ELEMENTDATA qk0 (.object "java/lang/Object") (0 : Int32) [] .null) (S_EMPTY_LIST : Sta Z h0 "java/util/ImmutableCollections" "EMPTY_LIST" "Ljava/util/ImmutableCollections$ListN;" (.ref z0_EMPTY_LIST)) (F_z0_EMPTY_LIST_elements : Fld Z h0 z0_EMPTY_LIST "java/util/ImmutableCollections$ListN" "elements" "[Ljava/lang/Object;" (.ref qe)) (A_qe : Arv Z h0 qe qke (.object "java/lang/Object") (0 : Int32) [] .null) (E_z0_EMPTY_LIST : Exa Z h0 z0_EMPTY_LIST "java/util/ImmutableCollections$ListN") :
    MetFree l x (head1 (Jvm.Cond.code x code maxLocals ret :: ws) room_1) (fun a U => a = #[(.int i0), (.int i1), (.int i2), (.int i3), (.int i4)] ∧ Z.Warmed39 U.vm ∧ U.heap = h0) (fun _ _ _ _ _ => True) (fun _ U o U' => ∃ v L, o = .returned v ∧ Q0 Z i0 i1 i2 i3 i4 z0_DEFAULTCAPACITY_EMPTY_ELEMENTDATA qk0 z0_EMPTY_LIST qe qke h0 n0 v U'.heap L ∧ FrameEnd U o U' L room_1.cells room_1.slots) := by
  refine MetFree.of_bodySF (plainFor_of_name pn_0) hisR ?_
  intro p e s m args below meth c s₁ Bd hml0 hP hK
  obtain ⟨rfl, hZ, hh⟩ := hP
  have hx := Bd.exec
  have hby := Bd.bytes
  have hml : c.maxLocals = 17 := hml0
  have hown : s.vm.findClass "com/example/penelope/penelope/program/ExpansionMovesAfterClaimPinLaw" = some m.cls := findClass_of_methodNamed Bd.named
  have hnm := (name_of_methodNamed Bd.named Bd.method).1
  have X0 : Stand p l e room_1 s m #[(.int i0), (.int i1), (.int i2), (.int i3), (.int i4)] below meth c s₁ [] 0 0 := Stand.of_body Bd
  have e0 : s₁.heap = h0 := by rw [← hh, Bd.state]; rfl
  have N0 := Fr.nil n0
  obtain ⟨S0, hS0⟩ : ∃ z, z = s₁.setTop (entryFrame m #[(.int i0), (.int i1), (.int i2), (.int i3), (.int i4)] maxLocals) := ⟨_, rfl⟩
  have P0 : own_Go p e below S0 (s₁.setTop (mkF m 0 #[.val (.int i0), .val (.int i1), .val (.int i2), .val (.int i3), .val (.int i4), .unset, .unset, .unset, .unset, .unset, .unset, .unset, .unset, .unset, .unset, .unset, .unset] [])) := fun t k => by rw [hS0]; exact castTop (ef_0 m i0 i1 i2 i3 i4) k
  have P1 : own_Go p e below S0 (s₁.setTop (mkF m 13 #[.val (.int i0), .val (.int i1), .val (.int i2), .val (.int i3), .val (.int i4), .val (.int (i0 &&& (3 : Int32))), .val (.int (i1 &&& (3 : Int32))), .unset, .unset, .unset, .unset, .unset, .unset, .unset, .unset, .unset, .unset] [(.int (i2 &&& (1 : Int32)))])) := fun t k => P0 t (by
    show Steps p.tables e below (s₁.setTop (mkF m 0 #[.val (.int i0), .val (.int i1), .val (.int i2), .val (.int i3), .val (.int i4), .unset, .unset, .unset, .unset, .unset, .unset, .unset, .unset, .unset, .unset, .unset, .unset] [])) t
    refine XS.iloadN X0.here hx rfl (hb hby at_0) rfl ?_
    refine XS.iconst X0.here hx rfl (hb hby at_1) ?_
    refine XS.iand X0.here hx rfl (hb hby at_2) rfl ?_
    refine XS.istore X0.here hx rfl (hb hby at_3) rfl (l' := #[.val (.int i0), .val (.int i1), .val (.int i2), .val (.int i3), .val (.int i4), .val (.int (i0 &&& (3 : Int32))), .unset, .unset, .unset, .unset, .unset, .unset, .unset, .unset, .unset, .unset, .unset]) rfl ?_
    refine XS.iloadN X0.here hx rfl (hb hby at_5) rfl ?_
    refine XS.iconst X0.here hx rfl (hb hby at_6) ?_
    show Steps p.tables e below (s₁.setTop (mkF m 7 #[.val (.int i0), .val (.int i1), .val (.int i2), .val (.int i3), .val (.int i4), .val (.int (i0 &&& (3 : Int32))), .unset, .unset, .unset, .unset, .unset, .unset, .unset, .unset, .unset, .unset, .unset] [(.int (3 : Int32)), (.int i1)])) t
    refine XS.iand X0.here hx rfl (hb hby at_7) rfl ?_
    refine XS.istore X0.here hx rfl (hb hby at_8) rfl (l' := #[.val (.int i0), .val (.int i1), .val (.int i2), .val (.int i3), .val (.int i4), .val (.int (i0 &&& (3 : Int32))), .val (.int (i1 &&& (3 : Int32))), .unset, .unset, .unset, .unset, .unset, .unset, .unset, .unset, .unset, .unset]) rfl ?_
    refine XS.iloadN X0.here hx rfl (hb hby at_10) rfl ?_
    refine XS.iconst X0.here hx rfl (hb hby at_11) ?_
    refine XS.iand X0.here hx rfl (hb hby at_12) rfl ?_
    show Steps p.tables e below (s₁.setTop (mkF m 13 #[.val (.int i0), .val (.int i1), .val (.int i2), .val (.int i3), .val (.int i4), .val (.int (i0 &&& (3 : Int32))), .val (.int (i1 &&& (3 : Int32))), .unset, .unset, .unset, .unset, .unset, .unset, .unset, .unset, .unset, .unset] [(.int (i2 &&& (1 : Int32)))])) t
    exact k)
  obtain ⟨v5_s0, hv5_s0, P5⟩ : ∃ (v5_s0 : Int32), (v5_s0 = (if (i2 &&& (1 : Int32)) = (0 : Int32) then (0 : Int32) else (1 : Int32))) ∧ (own_Go p e below S0 (s₁.setTop (mkF m 21 #[.val (.int i0), .val (.int i1), .val (.int i2), .val (.int i3), .val (.int i4), .val (.int (i0 &&& (3 : Int32))), .val (.int (i1 &&& (3 : Int32))), .unset, .unset, .unset, .unset, .unset, .unset, .unset, .unset, .unset, .unset] [(.int v5_s0)]))) := by
    by_cases c2 : (i2 &&& (1 : Int32)) = (0 : Int32)
    · skip
      have P3 : own_Go p e below S0 (s₁.setTop (mkF m 21 #[.val (.int i0), .val (.int i1), .val (.int i2), .val (.int i3), .val (.int i4), .val (.int (i0 &&& (3 : Int32))), .val (.int (i1 &&& (3 : Int32))), .unset, .unset, .unset, .unset, .unset, .unset, .unset, .unset, .unset, .unset] [(.int (0 : Int32))])) := fun t k => P1 t (by
        show Steps p.tables e below (s₁.setTop (mkF m 13 #[.val (.int i0), .val (.int i1), .val (.int i2), .val (.int i3), .val (.int i4), .val (.int (i0 &&& (3 : Int32))), .val (.int (i1 &&& (3 : Int32))), .unset, .unset, .unset, .unset, .unset, .unset, .unset, .unset, .unset, .unset] [(.int (i2 &&& (1 : Int32)))])) t
        refine XS.ifYes X0.here hx rfl (pc0 := 13) (pc' := 20) rfl (hb hby at_13) rfl ((if0 _ _).trans (teq c2).1) (by decide) (by decide) ?_
        refine XS.iconst X0.here hx rfl (hb hby at_20) ?_
        show Steps p.tables e below (s₁.setTop (mkF m 21 #[.val (.int i0), .val (.int i1), .val (.int i2), .val (.int i3), .val (.int i4), .val (.int (i0 &&& (3 : Int32))), .val (.int (i1 &&& (3 : Int32))), .unset, .unset, .unset, .unset, .unset, .unset, .unset, .unset, .unset, .unset] [(.int (0 : Int32))])) t
        exact k)
      exact ⟨(0 : Int32), (Eq.symm (if_pos c2)), P3⟩
    · skip
      have P4 : own_Go p e below S0 (s₁.setTop (mkF m 21 #[.val (.int i0), .val (.int i1), .val (.int i2), .val (.int i3), .val (.int i4), .val (.int (i0 &&& (3 : Int32))), .val (.int (i1 &&& (3 : Int32))), .unset, .unset, .unset, .unset, .unset, .unset, .unset, .unset, .unset, .unset] [(.int (1 : Int32))])) := fun t k => P1 t (by
        show Steps p.tables e below (s₁.setTop (mkF m 13 #[.val (.int i0), .val (.int i1), .val (.int i2), .val (.int i3), .val (.int i4), .val (.int (i0 &&& (3 : Int32))), .val (.int (i1 &&& (3 : Int32))), .unset, .unset, .unset, .unset, .unset, .unset, .unset, .unset, .unset, .unset] [(.int (i2 &&& (1 : Int32)))])) t
        refine XS.ifNo X0.here hx rfl (hb hby at_13) rfl ((if0 _ _).trans (feq c2).1) ?_
        refine XS.iconst X0.here hx rfl (hb hby at_16) ?_
        refine XS.goto X0.here hx rfl (pc0 := 17) (pc' := 21) rfl (hb hby at_17) (by decide) (by decide) ?_
        show Steps p.tables e below (s₁.setTop (mkF m 21 #[.val (.int i0), .val (.int i1), .val (.int i2), .val (.int i3), .val (.int i4), .val (.int (i0 &&& (3 : Int32))), .val (.int (i1 &&& (3 : Int32))), .unset, .unset, .unset, .unset, .unset, .unset, .unset, .unset, .unset, .unset] [(.int (1 : Int32))])) t
        exact k)
      exact ⟨(1 : Int32), (Eq.symm (if_neg c2)), P4⟩
  have P6 : own_Go p e below S0 (s₁.setTop (mkF m 23 #[.val (.int i0), .val (.int i1), .val (.int i2), .val (.int i3), .val (.int i4), .val (.int (i0 &&& (3 : Int32))), .val (.int (i1 &&& (3 : Int32))), .val (.int v5_s0), .unset, .unset, .unset, .unset, .unset, .unset, .unset, .unset, .unset] [])) := fun t k => P5 t (by
    show Steps p.tables e below (s₁.setTop (mkF m 21 #[.val (.int i0), .val (.int i1), .val (.int i2), .val (.int i3), .val (.int i4), .val (.int (i0 &&& (3 : Int32))), .val (.int (i1 &&& (3 : Int32))), .unset, .unset, .unset, .unset, .unset, .unset, .unset, .unset, .unset, .unset] [(.int v5_s0)])) t
    refine XS.istore X0.here hx rfl (hb hby at_21) rfl (l' := #[.val (.int i0), .val (.int i1), .val (.int i2), .val (.int i3), .val (.int i4), .val (.int (i0 &&& (3 : Int32))), .val (.int (i1 &&& (3 : Int32))), .val (.int v5_s0), .unset, .unset, .unset, .unset, .unset, .unset, .unset, .unset, .unset]) rfl ?_
    show Steps p.tables e below (s₁.setTop (mkF m 23 #[.val (.int i0), .val (.int i1), .val (.int i2), .val (.int i3), .val (.int i4), .val (.int (i0 &&& (3 : Int32))), .val (.int (i1 &&& (3 : Int32))), .val (.int v5_s0), .unset, .unset, .unset, .unset, .unset, .unset, .unset, .unset, .unset] [])) t
    exact k)
  obtain ⟨T7, h7, X7, e7, E7, A7, D7, -, st7⟩ := newO X0 hx hZ hown (hw _ (List.mem_of_getElem? (i := 0) rfl)) (hw _ (List.mem_of_getElem? (i := 1) rfl)) (hw _ (List.mem_of_getElem? (i := 2) rfl)) e0 (g := (mkF m 23 #[.val (.int i0), .val (.int i1), .val (.int i2), .val (.int i3), .val (.int i4), .val (.int (i0 &&& (3 : Int32))), .val (.int (i1 &&& (3 : Int32))), .val (.int v5_s0), .unset, .unset, .unset, .unset, .unset, .unset, .unset, .unset, .unset] [])) rfl (hb hby at_23) (by decide) (by decide)
  obtain ⟨b7, g7⟩ : ∃ z, z = h0.size := ⟨_, rfl⟩
  rw [← g7] at A7 D7 st7
  have sz_b7 : h0.size ≤ b7 := Nat.le_of_eq g7.symm
  have ne_z0_DEFAULTCAPACITY_EMPTY_ELEMENTDATA_b7 : z0_DEFAULTCAPACITY_EMPTY_ELEMENTDATA ≠ b7 := Nat.ne_of_lt (Nat.lt_of_lt_of_le A_z0_DEFAULTCAPACITY_EMPTY_ELEMENTDATA.lt sz_b7)
  have ne_z0_EMPTY_LIST_b7 : z0_EMPTY_LIST ≠ b7 := Nat.ne_of_lt (Nat.lt_of_lt_of_le F_z0_EMPTY_LIST_elements.lt sz_b7)
  have ne_qe_b7 : qe ≠ b7 := Nat.ne_of_lt (Nat.lt_of_lt_of_le A_qe.lt sz_b7)
  have g_b7 : n0 ≤ b7 := Nat.le_trans Z0 sz_b7
  have o_b7 : h0.size ≤ b7 := sz_b7
  have K7 : Keep h0 h7 [] := (Keep.refl h0 []).ext E7
  have F7_pid : Fld Z h7 b7 "com/example/penelope/penelope/program/Move" "pid" "I" (.int (0 : Int32)) := D7 (Or.inr (hw _ (List.mem_of_getElem? (i := 13) rfl))) (ty := .int) (by decide)
  have F7_process : Fld Z h7 b7 "com/example/penelope/penelope/program/Move" "process" "I" (.int (0 : Int32)) := D7 (Or.inr (hw _ (List.mem_of_getElem? (i := 15) rfl))) (ty := .int) (by decide)
  have F7_type : Fld Z h7 b7 "com/example/penelope/penelope/program/Move" "type" "Lcom/example/penelope/penelope/program/ProcessType;" .null := D7 (Or.inr (hw _ (List.mem_of_getElem? (i := 17) rfl))) (ty := (.object "com/example/penelope/penelope/program/ProcessType")) (by decide)
  have F7_choice : Fld Z h7 b7 "com/example/penelope/penelope/program/Move" "choice" "I" (.int (0 : Int32)) := D7 (Or.inr (hw _ (List.mem_of_getElem? (i := 19) rfl))) (ty := .int) (by decide)
  have F7_transition : Fld Z h7 b7 "com/example/penelope/penelope/program/Move" "transition" "Lcom/example/penelope/penelope/program/Transition;" .null := D7 (Or.inr (hw _ (List.mem_of_getElem? (i := 21) rfl))) (ty := (.object "com/example/penelope/penelope/program/Transition")) (by decide)
  have F7_receiver : Fld Z h7 b7 "com/example/penelope/penelope/program/Move" "receiver" "Lcom/example/penelope/penelope/program/Move;" .null := D7 (Or.inr (hw _ (List.mem_of_getElem? (i := 23) rfl))) (ty := (.object "com/example/penelope/penelope/program/Move")) (by decide)
  have P7 : own_Go p e below S0 (T7.setTop (mkF m 26 #[.val (.int i0), .val (.int i1), .val (.int i2), .val (.int i3), .val (.int i4), .val (.int (i0 &&& (3 : Int32))), .val (.int (i1 &&& (3 : Int32))), .val (.int v5_s0), .unset, .unset, .unset, .unset, .unset, .unset, .unset, .unset, .unset] [(.ref b7)])) := fun t k => P6 t (st7 _ k)
  have P8 : own_Go p e below S0 (T7.setTop (mkF m 33 #[.val (.int i0), .val (.int i1), .val (.int i2), .val (.int i3), .val (.int i4), .val (.int (i0 &&& (3 : Int32))), .val (.int (i1 &&& (3 : Int32))), .val (.int v5_s0), .unset, .unset, .unset, .unset, .unset, .unset, .unset, .unset, .unset] [.null, (.int i4), .null, (.int (0 : Int32)), (.int i3), (.ref b7), (.ref b7)])) := fun t k => P7 t (by
    show Steps p.tables e below (T7.setTop (mkF m 26 #[.val (.int i0), .val (.int i1), .val (.int i2), .val (.int i3), .val (.int i4), .val (.int (i0 &&& (3 : Int32))), .val (.int (i1 &&& (3 : Int32))), .val (.int v5_s0), .unset, .unset, .unset, .unset, .unset, .unset, .unset, .unset, .unset] [(.ref b7)])) t
    refine XS.dup X7.here hx rfl (hb hby at_26) rfl rfl ?_
    refine XS.iloadN X7.here hx rfl (hb hby at_27) rfl ?_
    refine XS.iconst X7.here hx rfl (hb hby at_28) ?_
    refine XS.aconstNull X7.here hx rfl (hb hby at_29) ?_
    refine XS.iload X7.here hx rfl (hb hby at_30) rfl ?_
    refine XS.aconstNull X7.here hx rfl (hb hby at_32) ?_
    show Steps p.tables e below (T7.setTop (mkF m 33 #[.val (.int i0), .val (.int i1), .val (.int i2), .val (.int i3), .val (.int i4), .val (.int (i0 &&& (3 : Int32))), .val (.int (i1 &&& (3 : Int32))), .val (.int v5_s0), .unset, .unset, .unset, .unset, .unset, .unset, .unset, .unset, .unset] [.null, (.int i4), .null, (.int (0 : Int32)), (.int i3), (.ref b7), (.ref b7)])) t
    exact k)
  obtain ⟨_, _, ⟨T9, L9, k9, n9⟩, -, X9, ⟨Lc9, hQ9, l9, y9, z9⟩, st9⟩ := X7.specialBack hx (y := (⟨"com/example/penelope/penelope/program/Move", "<init>", "(IILcom/example/penelope/penelope/program/ProcessType;ILcom/example/penelope/penelope/program/Transition;)V"⟩ : MethodName)) rfl hown (mvT hZ (hw _ (List.mem_of_getElem? (i := 3) rfl))) (mvT hZ (hw _ (List.mem_of_getElem? (i := 4) rfl))) (mvT hZ (hw _ (List.mem_of_getElem? (i := 5) rfl))) (by decide) (backOf (W := 1) (rm1 l Z a0 hw [] b7 i3 (0 : Int32) i4 (.int (0 : Int32)) (.int (0 : Int32)) .null (.int (0 : Int32)) .null .null h7 n0 (Nat.le_trans Z0 K7.1) A7 F7_pid g_b7 F7_process F7_type F7_choice F7_transition F7_receiver) hZ (hw _ (List.mem_of_getElem? (i := 5) rfl)) (hw _ (List.mem_of_getElem? (i := 2) rfl)) (by decide) (by decide)) (g := (mkF m 33 #[.val (.int i0), .val (.int i1), .val (.int i2), .val (.int i3), .val (.int i4), .val (.int (i0 &&& (3 : Int32))), .val (.int (i1 &&& (3 : Int32))), .val (.int v5_s0), .unset, .unset, .unset, .unset, .unset, .unset, .unset, .unset, .unset] [.null, (.int i4), .null, (.int (0 : Int32)), (.int i3), (.ref b7), (.ref b7)])) rfl (by rw [hml]; rfl) (Steps.refl _) (a := b7) (argsL := [(.int i3), (.int (0 : Int32)), .null, (.int i4), .null]) (rest := [(.ref b7)]) (lenOf pd_10 rfl) rfl (by show 2 * 0 + _ ≤ _; exact Nat.le_of_eq rfl) (hb hby at_33) (fun _ _ => ⟨rfl, e7, (by decide : 1 + 0 ≤ _), (by decide : 6 + 0 ≤ _)⟩)
  dsimp only [Pt.U, Pt.locs, Pt.cells, Pt.slots] at X9 l9 y9 z9 st9 hQ9
  subst l9 y9 z9
  obtain ⟨rfl, N9q, Kc9, F9_0, F9_1, F9_2, F9_3, F9_4, F9_5⟩ := hQ9
  have N9 := Fr.app N0 N9q
  have K9 : Keep h0 T9.heap [] := Keep.trans K7 Kc9 (allS (Or.inr o_b7) all0)
  have P9 : own_Go p e below S0 (T9.setTop (mkF m 36 #[.val (.int i0), .val (.int i1), .val (.int i2), .val (.int i3), .val (.int i4), .val (.int (i0 &&& (3 : Int32))), .val (.int (i1 &&& (3 : Int32))), .val (.int v5_s0), .unset, .unset, .unset, .unset, .unset, .unset, .unset, .unset, .unset] [(.ref b7)])) := fun t k => P8 t (st9.trans k)
  have F10 : Arv Z h7 z0_DEFAULTCAPACITY_EMPTY_ELEMENTDATA qk0 (.object "java/lang/Object") (0 : Int32) [] .null := A_z0_DEFAULTCAPACITY_EMPTY_ELEMENTDATA.ext E7
  have F11 : Arv Z T9.heap z0_DEFAULTCAPACITY_EMPTY_ELEMENTDATA qk0 (.object "java/lang/Object") (0 : Int32) [] .null := F10.keep Kc9 (ninS ne_z0_DEFAULTCAPACITY_EMPTY_ELEMENTDATA_b7 nin0)
  have F12 : Fld Z h7 z0_EMPTY_LIST "java/util/ImmutableCollections$ListN" "elements" "[Ljava/lang/Object;" (.ref qe) := F_z0_EMPTY_LIST_elements.ext E7
  have F13 : Fld Z T9.heap z0_EMPTY_LIST "java/util/ImmutableCollections$ListN" "elements" "[Ljava/lang/Object;" (.ref qe) := F12.keep Kc9 (ninS ne_z0_EMPTY_LIST_b7 nin0)
  have F14 : Arv Z h7 qe qke (.object "java/lang/Object") (0 : Int32) [] .null := A_qe.ext E7
  have F15 : Arv Z T9.heap qe qke (.object "java/lang/Object") (0 : Int32) [] .null := F14.keep Kc9 (ninS ne_qe_b7 nin0)
  have F16 : Exa Z T9.heap b7 "com/example/penelope/penelope/program/Move" := A7.keep Kc9
  have P17 : own_Go p e below S0 (T9.setTop (mkF m 38 #[.val (.int i0), .val (.int i1), .val (.int i2), .val (.int i3), .val (.int i4), .val (.int (i0 &&& (3 : Int32))), .val (.int (i1 &&& (3 : Int32))), .val (.int v5_s0), .val (.ref b7), .unset, .unset, .unset, .unset, .unset, .unset, .unset, .unset] [])) := fun t k => P9 t (by
    show Steps p.tables e below (T9.setTop (mkF m 36 #[.val (.int i0), .val (.int i1), .val (.int i2), .val (.int i3), .val (.int i4), .val (.int (i0 &&& (3 : Int32))), .val (.int (i1 &&& (3 : Int32))), .val (.int v5_s0), .unset, .unset, .unset, .unset, .unset, .unset, .unset, .unset, .unset] [(.ref b7)])) t
    refine XS.astore X9.here hx rfl (hb hby at_36) rfl rfl (l' := #[.val (.int i0), .val (.int i1), .val (.int i2), .val (.int i3), .val (.int i4), .val (.int (i0 &&& (3 : Int32))), .val (.int (i1 &&& (3 : Int32))), .val (.int v5_s0), .val (.ref b7), .unset, .unset, .unset, .unset, .unset, .unset, .unset, .unset]) rfl ?_
    show Steps p.tables e below (T9.setTop (mkF m 38 #[.val (.int i0), .val (.int i1), .val (.int i2), .val (.int i3), .val (.int i4), .val (.int (i0 &&& (3 : Int32))), .val (.int (i1 &&& (3 : Int32))), .val (.int v5_s0), .val (.ref b7), .unset, .unset, .unset, .unset, .unset, .unset, .unset, .unset] [])) t
    exact k)
  obtain ⟨T18, h18, X18, e18, E18, A18, D18, -, st18⟩ := newO X9 hx hZ hown (hw _ (List.mem_of_getElem? (i := 0) rfl)) (hw _ (List.mem_of_getElem? (i := 1) rfl)) (hw _ (List.mem_of_getElem? (i := 2) rfl)) rfl (g := (mkF m 38 #[.val (.int i0), .val (.int i1), .val (.int i2), .val (.int i3), .val (.int i4), .val (.int (i0 &&& (3 : Int32))), .val (.int (i1 &&& (3 : Int32))), .val (.int v5_s0), .val (.ref b7), .unset, .unset, .unset, .unset, .unset, .unset, .unset, .unset] [])) rfl (hb hby at_38) (by decide) (by decide)
  obtain ⟨b18, g18⟩ : ∃ z, z = T9.heap.size := ⟨_, rfl⟩
  rw [← g18] at A18 D18 st18
  have sz_b18 : T9.heap.size ≤ b18 := Nat.le_of_eq g18.symm
  have ne_z0_DEFAULTCAPACITY_EMPTY_ELEMENTDATA_b18 : z0_DEFAULTCAPACITY_EMPTY_ELEMENTDATA ≠ b18 := Nat.ne_of_lt (Nat.lt_of_lt_of_le F11.lt sz_b18)
  have ne_z0_EMPTY_LIST_b18 : z0_EMPTY_LIST ≠ b18 := Nat.ne_of_lt (Nat.lt_of_lt_of_le F13.lt sz_b18)
  have ne_qe_b18 : qe ≠ b18 := Nat.ne_of_lt (Nat.lt_of_lt_of_le F15.lt sz_b18)
  have ne_b7_b18 : b7 ≠ b18 := Nat.ne_of_lt (Nat.lt_of_lt_of_le F16.lt sz_b18)
  have g_b18 : n0 ≤ b18 := Nat.le_trans (Nat.le_trans Z0 K9.1) sz_b18
  have o_b18 : h0.size ≤ b18 := Nat.le_trans K9.1 sz_b18
  have K18 : Keep h0 h18 [] := K9.ext E18
  have F18_pid : Fld Z h18 b18 "com/example/penelope/penelope/program/Move" "pid" "I" (.int (0 : Int32)) := D18 (Or.inr (hw _ (List.mem_of_getElem? (i := 13) rfl))) (ty := .int) (by decide)
  have F18_process : Fld Z h18 b18 "com/example/penelope/penelope/program/Move" "process" "I" (.int (0 : Int32)) := D18 (Or.inr (hw _ (List.mem_of_getElem? (i := 15) rfl))) (ty := .int) (by decide)
  have F18_type : Fld Z h18 b18 "com/example/penelope/penelope/program/Move" "type" "Lcom/example/penelope/penelope/program/ProcessType;" .null := D18 (Or.inr (hw _ (List.mem_of_getElem? (i := 17) rfl))) (ty := (.object "com/example/penelope/penelope/program/ProcessType")) (by decide)
  have F18_choice : Fld Z h18 b18 "com/example/penelope/penelope/program/Move" "choice" "I" (.int (0 : Int32)) := D18 (Or.inr (hw _ (List.mem_of_getElem? (i := 19) rfl))) (ty := .int) (by decide)
  have F18_transition : Fld Z h18 b18 "com/example/penelope/penelope/program/Move" "transition" "Lcom/example/penelope/penelope/program/Transition;" .null := D18 (Or.inr (hw _ (List.mem_of_getElem? (i := 21) rfl))) (ty := (.object "com/example/penelope/penelope/program/Transition")) (by decide)
  have F18_receiver : Fld Z h18 b18 "com/example/penelope/penelope/program/Move" "receiver" "Lcom/example/penelope/penelope/program/Move;" .null := D18 (Or.inr (hw _ (List.mem_of_getElem? (i := 23) rfl))) (ty := (.object "com/example/penelope/penelope/program/Move")) (by decide)
  have P18 : own_Go p e below S0 (T18.setTop (mkF m 41 #[.val (.int i0), .val (.int i1), .val (.int i2), .val (.int i3), .val (.int i4), .val (.int (i0 &&& (3 : Int32))), .val (.int (i1 &&& (3 : Int32))), .val (.int v5_s0), .val (.ref b7), .unset, .unset, .unset, .unset, .unset, .unset, .unset, .unset] [(.ref b18)])) := fun t k => P17 t (st18 _ k)
  have P19 : own_Go p e below S0 (T18.setTop (mkF m 52 #[.val (.int i0), .val (.int i1), .val (.int i2), .val (.int i3), .val (.int i4), .val (.int (i0 &&& (3 : Int32))), .val (.int (i1 &&& (3 : Int32))), .val (.int v5_s0), .val (.ref b7), .unset, .unset, .unset, .unset, .unset, .unset, .unset, .unset] [.null, (.int (i4 + (1 : Int32))), .null, (.int (1 : Int32)), (.int (i3 ^^^ (1 : Int32))), (.ref b18), (.ref b18)])) := fun t k => P18 t (by
    show Steps p.tables e below (T18.setTop (mkF m 41 #[.val (.int i0), .val (.int i1), .val (.int i2), .val (.int i3), .val (.int i4), .val (.int (i0 &&& (3 : Int32))), .val (.int (i1 &&& (3 : Int32))), .val (.int v5_s0), .val (.ref b7), .unset, .unset, .unset, .unset, .unset, .unset, .unset, .unset] [(.ref b18)])) t
    refine XS.dup X18.here hx rfl (hb hby at_41) rfl rfl ?_
    refine XS.iloadN X18.here hx rfl (hb hby at_42) rfl ?_
    refine XS.iconst X18.here hx rfl (hb hby at_43) ?_
    refine XS.ixor X18.here hx rfl (hb hby at_44) rfl ?_
    refine XS.iconst X18.here hx rfl (hb hby at_45) ?_
    refine XS.aconstNull X18.here hx rfl (hb hby at_46) ?_
    show Steps p.tables e below (T18.setTop (mkF m 47 #[.val (.int i0), .val (.int i1), .val (.int i2), .val (.int i3), .val (.int i4), .val (.int (i0 &&& (3 : Int32))), .val (.int (i1 &&& (3 : Int32))), .val (.int v5_s0), .val (.ref b7), .unset, .unset, .unset, .unset, .unset, .unset, .unset, .unset] [.null, (.int (1 : Int32)), (.int (i3 ^^^ (1 : Int32))), (.ref b18), (.ref b18)])) t
    refine XS.iload X18.here hx rfl (hb hby at_47) rfl ?_
    refine XS.iconst X18.here hx rfl (hb hby at_49) ?_
    refine XS.iadd X18.here hx rfl (hb hby at_50) rfl ?_
    refine XS.aconstNull X18.here hx rfl (hb hby at_51) ?_
    show Steps p.tables e below (T18.setTop (mkF m 52 #[.val (.int i0), .val (.int i1), .val (.int i2), .val (.int i3), .val (.int i4), .val (.int (i0 &&& (3 : Int32))), .val (.int (i1 &&& (3 : Int32))), .val (.int v5_s0), .val (.ref b7), .unset, .unset, .unset, .unset, .unset, .unset, .unset, .unset] [.null, (.int (i4 + (1 : Int32))), .null, (.int (1 : Int32)), (.int (i3 ^^^ (1 : Int32))), (.ref b18), (.ref b18)])) t
    exact k)
  obtain ⟨_, _, ⟨T20, L20, k20, n20⟩, -, X20, ⟨Lc20, hQ20, l20, y20, z20⟩, st20⟩ := X18.specialBack hx (y := (⟨"com/example/penelope/penelope/program/Move", "<init>", "(IILcom/example/penelope/penelope/program/ProcessType;ILcom/example/penelope/penelope/program/Transition;)V"⟩ : MethodName)) rfl hown (mvT hZ (hw _ (List.mem_of_getElem? (i := 3) rfl))) (mvT hZ (hw _ (List.mem_of_getElem? (i := 4) rfl))) (mvT hZ (hw _ (List.mem_of_getElem? (i := 5) rfl))) (by decide) (backOf (W := 1) (rm1 l Z a0 hw [] b18 (i3 ^^^ (1 : Int32)) (1 : Int32) (i4 + (1 : Int32)) (.int (0 : Int32)) (.int (0 : Int32)) .null (.int (0 : Int32)) .null .null h18 n0 (Nat.le_trans Z0 K18.1) A18 F18_pid g_b18 F18_process F18_type F18_choice F18_transition F18_receiver) hZ (hw _ (List.mem_of_getElem? (i := 5) rfl)) (hw _ (List.mem_of_getElem? (i := 2) rfl)) (by decide) (by decide)) (g := (mkF m 52 #[.val (.int i0), .val (.int i1), .val (.int i2), .val (.int i3), .val (.int i4), .val (.int (i0 &&& (3 : Int32))), .val (.int (i1 &&& (3 : Int32))), .val (.int v5_s0), .val (.ref b7), .unset, .unset, .unset, .unset, .unset, .unset, .unset, .unset] [.null, (.int (i4 + (1 : Int32))), .null, (.int (1 : Int32)), (.int (i3 ^^^ (1 : Int32))), (.ref b18), (.ref b18)])) rfl (by rw [hml]; rfl) (Steps.refl _) (a := b18) (argsL := [(.int (i3 ^^^ (1 : Int32))), (.int (1 : Int32)), .null, (.int (i4 + (1 : Int32))), .null]) (rest := [(.ref b18)]) (lenOf pd_10 rfl) rfl (by show 2 * 0 + _ ≤ _; exact Nat.le_of_eq rfl) (hb hby at_52) (fun _ _ => ⟨rfl, e18, (by decide : 2 + 0 ≤ _), (by decide : 12 + 0 ≤ _)⟩)
  dsimp only [Pt.U, Pt.locs, Pt.cells, Pt.slots] at X20 l20 y20 z20 st20 hQ20
  subst l20 y20 z20
  obtain ⟨rfl, N20q, Kc20, F20_0, F20_1, F20_2, F20_3, F20_4, F20_5⟩ := hQ20
  have N20 := Fr.app N9 N20q
  have K20 : Keep h0 T20.heap [] := Keep.trans K18 Kc20 (allS (Or.inr o_b18) all0)
  have P20 : own_Go p e below S0 (T20.setTop (mkF m 55 #[.val (.int i0), .val (.int i1), .val (.int i2), .val (.int i3), .val (.int i4), .val (.int (i0 &&& (3 : Int32))), .val (.int (i1 &&& (3 : Int32))), .val (.int v5_s0), .val (.ref b7), .unset, .unset, .unset, .unset, .unset, .unset, .unset, .unset] [(.ref b18)])) := fun t k => P19 t (st20.trans k)
  have F21 : Arv Z h18 z0_DEFAULTCAPACITY_EMPTY_ELEMENTDATA qk0 (.object "java/lang/Object") (0 : Int32) [] .null := F11.ext E18
  have F22 : Arv Z T20.heap z0_DEFAULTCAPACITY_EMPTY_ELEMENTDATA qk0 (.object "java/lang/Object") (0 : Int32) [] .null := F21.keep Kc20 (ninS ne_z0_DEFAULTCAPACITY_EMPTY_ELEMENTDATA_b18 nin0)
  have F23 : Fld Z h18 z0_EMPTY_LIST "java/util/ImmutableCollections$ListN" "elements" "[Ljava/lang/Object;" (.ref qe) := F13.ext E18
  have F24 : Fld Z T20.heap z0_EMPTY_LIST "java/util/ImmutableCollections$ListN" "elements" "[Ljava/lang/Object;" (.ref qe) := F23.keep Kc20 (ninS ne_z0_EMPTY_LIST_b18 nin0)
  have F25 : Arv Z h18 qe qke (.object "java/lang/Object") (0 : Int32) [] .null := F15.ext E18
  have F26 : Arv Z T20.heap qe qke (.object "java/lang/Object") (0 : Int32) [] .null := F25.keep Kc20 (ninS ne_qe_b18 nin0)
  have F27 : Exa Z h18 b7 "com/example/penelope/penelope/program/Move" := F16.ext E18
  have F28 : Exa Z T20.heap b7 "com/example/penelope/penelope/program/Move" := F27.keep Kc20
  have F29 : Exa Z T20.heap b18 "com/example/penelope/penelope/program/Move" := A18.keep Kc20
  have P30 : own_Go p e below S0 (T20.setTop (mkF m 57 #[.val (.int i0), .val (.int i1), .val (.int i2), .val (.int i3), .val (.int i4), .val (.int (i0 &&& (3 : Int32))), .val (.int (i1 &&& (3 : Int32))), .val (.int v5_s0), .val (.ref b7), .val (.ref b18), .unset, .unset, .unset, .unset, .unset, .unset, .unset] [])) := fun t k => P20 t (by
    show Steps p.tables e below (T20.setTop (mkF m 55 #[.val (.int i0), .val (.int i1), .val (.int i2), .val (.int i3), .val (.int i4), .val (.int (i0 &&& (3 : Int32))), .val (.int (i1 &&& (3 : Int32))), .val (.int v5_s0), .val (.ref b7), .unset, .unset, .unset, .unset, .unset, .unset, .unset, .unset] [(.ref b18)])) t
    refine XS.astore X20.here hx rfl (hb hby at_55) rfl rfl (l' := #[.val (.int i0), .val (.int i1), .val (.int i2), .val (.int i3), .val (.int i4), .val (.int (i0 &&& (3 : Int32))), .val (.int (i1 &&& (3 : Int32))), .val (.int v5_s0), .val (.ref b7), .val (.ref b18), .unset, .unset, .unset, .unset, .unset, .unset, .unset]) rfl ?_
    show Steps p.tables e below (T20.setTop (mkF m 57 #[.val (.int i0), .val (.int i1), .val (.int i2), .val (.int i3), .val (.int i4), .val (.int (i0 &&& (3 : Int32))), .val (.int (i1 &&& (3 : Int32))), .val (.int v5_s0), .val (.ref b7), .val (.ref b18), .unset, .unset, .unset, .unset, .unset, .unset, .unset] [])) t
    exact k)
  obtain ⟨T31, h31, X31, e31, E31, A31, D31, -, st31⟩ := newO X20 hx hZ hown (hw _ (List.mem_of_getElem? (i := 0) rfl)) (hw _ (List.mem_of_getElem? (i := 1) rfl)) (hw _ (List.mem_of_getElem? (i := 2) rfl)) rfl (g := (mkF m 57 #[.val (.int i0), .val (.int i1), .val (.int i2), .val (.int i3), .val (.int i4), .val (.int (i0 &&& (3 : Int32))), .val (.int (i1 &&& (3 : Int32))), .val (.int v5_s0), .val (.ref b7), .val (.ref b18), .unset, .unset, .unset, .unset, .unset, .unset, .unset] [])) rfl (hb hby at_57) (by decide) (by decide)
  obtain ⟨b31, g31⟩ : ∃ z, z = T20.heap.size := ⟨_, rfl⟩
  rw [← g31] at A31 D31 st31
  have sz_b31 : T20.heap.size ≤ b31 := Nat.le_of_eq g31.symm
  have ne_z0_DEFAULTCAPACITY_EMPTY_ELEMENTDATA_b31 : z0_DEFAULTCAPACITY_EMPTY_ELEMENTDATA ≠ b31 := Nat.ne_of_lt (Nat.lt_of_lt_of_le F22.lt sz_b31)
  have ne_z0_EMPTY_LIST_b31 : z0_EMPTY_LIST ≠ b31 := Nat.ne_of_lt (Nat.lt_of_lt_of_le F24.lt sz_b31)
  have ne_qe_b31 : qe ≠ b31 := Nat.ne_of_lt (Nat.lt_of_lt_of_le F26.lt sz_b31)
  have ne_b7_b31 : b7 ≠ b31 := Nat.ne_of_lt (Nat.lt_of_lt_of_le F28.lt sz_b31)
  have ne_b18_b31 : b18 ≠ b31 := Nat.ne_of_lt (Nat.lt_of_lt_of_le F29.lt sz_b31)
  have g_b31 : n0 ≤ b31 := Nat.le_trans (Nat.le_trans Z0 K20.1) sz_b31
  have o_b31 : h0.size ≤ b31 := Nat.le_trans K20.1 sz_b31
  have K31 : Keep h0 h31 [] := K20.ext E31
  have F31_pid : Fld Z h31 b31 "com/example/penelope/penelope/program/Move" "pid" "I" (.int (0 : Int32)) := D31 (Or.inr (hw _ (List.mem_of_getElem? (i := 13) rfl))) (ty := .int) (by decide)
  have F31_process : Fld Z h31 b31 "com/example/penelope/penelope/program/Move" "process" "I" (.int (0 : Int32)) := D31 (Or.inr (hw _ (List.mem_of_getElem? (i := 15) rfl))) (ty := .int) (by decide)
  have F31_type : Fld Z h31 b31 "com/example/penelope/penelope/program/Move" "type" "Lcom/example/penelope/penelope/program/ProcessType;" .null := D31 (Or.inr (hw _ (List.mem_of_getElem? (i := 17) rfl))) (ty := (.object "com/example/penelope/penelope/program/ProcessType")) (by decide)
  have F31_choice : Fld Z h31 b31 "com/example/penelope/penelope/program/Move" "choice" "I" (.int (0 : Int32)) := D31 (Or.inr (hw _ (List.mem_of_getElem? (i := 19) rfl))) (ty := .int) (by decide)
  have F31_transition : Fld Z h31 b31 "com/example/penelope/penelope/program/Move" "transition" "Lcom/example/penelope/penelope/program/Transition;" .null := D31 (Or.inr (hw _ (List.mem_of_getElem? (i := 21) rfl))) (ty := (.object "com/example/penelope/penelope/program/Transition")) (by decide)
  have F31_receiver : Fld Z h31 b31 "com/example/penelope/penelope/program/Move" "receiver" "Lcom/example/penelope/penelope/program/Move;" .null := D31 (Or.inr (hw _ (List.mem_of_getElem? (i := 23) rfl))) (ty := (.object "com/example/penelope/penelope/program/Move")) (by decide)
  have P31 : own_Go p e below S0 (T31.setTop (mkF m 60 #[.val (.int i0), .val (.int i1), .val (.int i2), .val (.int i3), .val (.int i4), .val (.int (i0 &&& (3 : Int32))), .val (.int (i1 &&& (3 : Int32))), .val (.int v5_s0), .val (.ref b7), .val (.ref b18), .unset, .unset, .unset, .unset, .unset, .unset, .unset] [(.ref b31)])) := fun t k => P30 t (st31 _ k)
  have P32 : own_Go p e below S0 (T31.setTop (mkF m 65 #[.val (.int i0), .val (.int i1), .val (.int i2), .val (.int i3), .val (.int i4), .val (.int (i0 &&& (3 : Int32))), .val (.int (i1 &&& (3 : Int32))), .val (.int v5_s0), .val (.ref b7), .val (.ref b18), .unset, .unset, .unset, .unset, .unset, .unset, .unset] [.null, (.int i4), .null, (.ref b31), (.ref b31)])) := fun t k => P31 t (by
    show Steps p.tables e below (T31.setTop (mkF m 60 #[.val (.int i0), .val (.int i1), .val (.int i2), .val (.int i3), .val (.int i4), .val (.int (i0 &&& (3 : Int32))), .val (.int (i1 &&& (3 : Int32))), .val (.int v5_s0), .val (.ref b7), .val (.ref b18), .unset, .unset, .unset, .unset, .unset, .unset, .unset] [(.ref b31)])) t
    refine XS.dup X31.here hx rfl (hb hby at_60) rfl rfl ?_
    refine XS.aconstNull X31.here hx rfl (hb hby at_61) ?_
    refine XS.iload X31.here hx rfl (hb hby at_62) rfl ?_
    refine XS.aconstNull X31.here hx rfl (hb hby at_64) ?_
    show Steps p.tables e below (T31.setTop (mkF m 65 #[.val (.int i0), .val (.int i1), .val (.int i2), .val (.int i3), .val (.int i4), .val (.int (i0 &&& (3 : Int32))), .val (.int (i1 &&& (3 : Int32))), .val (.int v5_s0), .val (.ref b7), .val (.ref b18), .unset, .unset, .unset, .unset, .unset, .unset, .unset] [.null, (.int i4), .null, (.ref b31), (.ref b31)])) t
    exact k)
  obtain ⟨_, _, ⟨T33, L33, k33, n33⟩, -, X33, ⟨Lc33, hQ33, l33, y33, z33⟩, st33⟩ := X31.specialBack hx (y := (⟨"com/example/penelope/penelope/program/Move", "<init>", "(Lcom/example/penelope/penelope/program/ProcessType;ILcom/example/penelope/penelope/program/Transition;)V"⟩ : MethodName)) rfl hown (mvT hZ (hw _ (List.mem_of_getElem? (i := 24) rfl))) (mvT hZ (hw _ (List.mem_of_getElem? (i := 25) rfl))) (mvT hZ (hw _ (List.mem_of_getElem? (i := 26) rfl))) (by decide) (backOf (W := 1) (rm4 l Z a0 hw [] b31 i4 (.int (0 : Int32)) (.int (0 : Int32)) .null (.int (0 : Int32)) .null .null h31 n0 (Nat.le_trans Z0 K31.1) A31 F31_pid g_b31 F31_process F31_type F31_choice F31_transition F31_receiver) hZ (hw _ (List.mem_of_getElem? (i := 26) rfl)) (hw _ (List.mem_of_getElem? (i := 2) rfl)) (by decide) (by decide)) (g := (mkF m 65 #[.val (.int i0), .val (.int i1), .val (.int i2), .val (.int i3), .val (.int i4), .val (.int (i0 &&& (3 : Int32))), .val (.int (i1 &&& (3 : Int32))), .val (.int v5_s0), .val (.ref b7), .val (.ref b18), .unset, .unset, .unset, .unset, .unset, .unset, .unset] [.null, (.int i4), .null, (.ref b31), (.ref b31)])) rfl (by rw [hml]; rfl) (Steps.refl _) (a := b31) (argsL := [.null, (.int i4), .null]) (rest := [(.ref b31)]) (lenOf pd_11 rfl) rfl (by show 2 * 0 + _ ≤ _; exact Nat.le_of_eq rfl) (hb hby at_65) (fun _ _ => ⟨rfl, e31, (by decide : 3 + 0 ≤ _), (by decide : 18 + 0 ≤ _)⟩)
  dsimp only [Pt.U, Pt.locs, Pt.cells, Pt.slots] at X33 l33 y33 z33 st33 hQ33
  subst l33 y33 z33
  obtain ⟨rfl, N33q, Kc33, F33_0, F33_1, F33_2, F33_3, F33_4, F33_5⟩ := hQ33
  have N33 := Fr.app N20 N33q
  have K33 : Keep h0 T33.heap [] := Keep.trans K31 Kc33 (allS (Or.inr o_b31) all0)
  have P33 : own_Go p e below S0 (T33.setTop (mkF m 68 #[.val (.int i0), .val (.int i1), .val (.int i2), .val (.int i3), .val (.int i4), .val (.int (i0 &&& (3 : Int32))), .val (.int (i1 &&& (3 : Int32))), .val (.int v5_s0), .val (.ref b7), .val (.ref b18), .unset, .unset, .unset, .unset, .unset, .unset, .unset] [(.ref b31)])) := fun t k => P32 t (st33.trans k)
  have F34 : Arv Z h31 z0_DEFAULTCAPACITY_EMPTY_ELEMENTDATA qk0 (.object "java/lang/Object") (0 : Int32) [] .null := F22.ext E31
  have F35 : Arv Z T33.heap z0_DEFAULTCAPACITY_EMPTY_ELEMENTDATA qk0 (.object "java/lang/Object") (0 : Int32) [] .null := F34.keep Kc33 (ninS ne_z0_DEFAULTCAPACITY_EMPTY_ELEMENTDATA_b31 nin0)
  have F36 : Fld Z h31 z0_EMPTY_LIST "java/util/ImmutableCollections$ListN" "elements" "[Ljava/lang/Object;" (.ref qe) := F24.ext E31
  have F37 : Fld Z T33.heap z0_EMPTY_LIST "java/util/ImmutableCollections$ListN" "elements" "[Ljava/lang/Object;" (.ref qe) := F36.keep Kc33 (ninS ne_z0_EMPTY_LIST_b31 nin0)
  have F38 : Arv Z h31 qe qke (.object "java/lang/Object") (0 : Int32) [] .null := F26.ext E31
  have F39 : Arv Z T33.heap qe qke (.object "java/lang/Object") (0 : Int32) [] .null := F38.keep Kc33 (ninS ne_qe_b31 nin0)
  have F40 : Exa Z h31 b7 "com/example/penelope/penelope/program/Move" := F28.ext E31
  have F41 : Exa Z T33.heap b7 "com/example/penelope/penelope/program/Move" := F40.keep Kc33
  have F42 : Exa Z h31 b18 "com/example/penelope/penelope/program/Move" := F29.ext E31
  have F43 : Exa Z T33.heap b18 "com/example/penelope/penelope/program/Move" := F42.keep Kc33
  have F44 : Exa Z T33.heap b31 "com/example/penelope/penelope/program/Move" := A31.keep Kc33
  have P45 : own_Go p e below S0 (T33.setTop (mkF m 70 #[.val (.int i0), .val (.int i1), .val (.int i2), .val (.int i3), .val (.int i4), .val (.int (i0 &&& (3 : Int32))), .val (.int (i1 &&& (3 : Int32))), .val (.int v5_s0), .val (.ref b7), .val (.ref b18), .val (.ref b31), .unset, .unset, .unset, .unset, .unset, .unset] [])) := fun t k => P33 t (by
    show Steps p.tables e below (T33.setTop (mkF m 68 #[.val (.int i0), .val (.int i1), .val (.int i2), .val (.int i3), .val (.int i4), .val (.int (i0 &&& (3 : Int32))), .val (.int (i1 &&& (3 : Int32))), .val (.int v5_s0), .val (.ref b7), .val (.ref b18), .unset, .unset, .unset, .unset, .unset, .unset, .unset] [(.ref b31)])) t
    refine XS.astore X33.here hx rfl (hb hby at_68) rfl rfl (l' := #[.val (.int i0), .val (.int i1), .val (.int i2), .val (.int i3), .val (.int i4), .val (.int (i0 &&& (3 : Int32))), .val (.int (i1 &&& (3 : Int32))), .val (.int v5_s0), .val (.ref b7), .val (.ref b18), .val (.ref b31), .unset, .unset, .unset, .unset, .unset, .unset]) rfl ?_
    show Steps p.tables e below (T33.setTop (mkF m 70 #[.val (.int i0), .val (.int i1), .val (.int i2), .val (.int i3), .val (.int i4), .val (.int (i0 &&& (3 : Int32))), .val (.int (i1 &&& (3 : Int32))), .val (.int v5_s0), .val (.ref b7), .val (.ref b18), .val (.ref b31), .unset, .unset, .unset, .unset, .unset, .unset] [])) t
    exact k)
  obtain ⟨T46, h46, X46, e46, E46, A46, D46, -, st46⟩ := newO X33 hx hZ hown (hw _ (List.mem_of_getElem? (i := 27) rfl)) (hw _ (List.mem_of_getElem? (i := 28) rfl)) (hw _ (List.mem_of_getElem? (i := 29) rfl)) rfl (g := (mkF m 70 #[.val (.int i0), .val (.int i1), .val (.int i2), .val (.int i3), .val (.int i4), .val (.int (i0 &&& (3 : Int32))), .val (.int (i1 &&& (3 : Int32))), .val (.int v5_s0), .val (.ref b7), .val (.ref b18), .val (.ref b31), .unset, .unset, .unset, .unset, .unset, .unset] [])) rfl (hb hby at_70) (by decide) (by decide)
  obtain ⟨b46, g46⟩ : ∃ z, z = T33.heap.size := ⟨_, rfl⟩
  rw [← g46] at A46 D46 st46
  have sz_b46 : T33.heap.size ≤ b46 := Nat.le_of_eq g46.symm
  have ne_z0_DEFAULTCAPACITY_EMPTY_ELEMENTDATA_b46 : z0_DEFAULTCAPACITY_EMPTY_ELEMENTDATA ≠ b46 := Nat.ne_of_lt (Nat.lt_of_lt_of_le F35.lt sz_b46)
  have ne_z0_EMPTY_LIST_b46 : z0_EMPTY_LIST ≠ b46 := Nat.ne_of_lt (Nat.lt_of_lt_of_le F37.lt sz_b46)
  have ne_qe_b46 : qe ≠ b46 := Nat.ne_of_lt (Nat.lt_of_lt_of_le F39.lt sz_b46)
  have ne_b7_b46 : b7 ≠ b46 := Nat.ne_of_lt (Nat.lt_of_lt_of_le F41.lt sz_b46)
  have ne_b18_b46 : b18 ≠ b46 := Nat.ne_of_lt (Nat.lt_of_lt_of_le F43.lt sz_b46)
  have ne_b31_b46 : b31 ≠ b46 := Nat.ne_of_lt (Nat.lt_of_lt_of_le F44.lt sz_b46)
  have g_b46 : n0 ≤ b46 := Nat.le_trans (Nat.le_trans Z0 K33.1) sz_b46
  have o_b46 : h0.size ≤ b46 := Nat.le_trans K33.1 sz_b46
  have K46 : Keep h0 h46 [] := K33.ext E46
  have F46_modCount : Fld Z h46 b46 "java/util/AbstractList" "modCount" "I" (.int (0 : Int32)) := D46 (Or.inl (hw _ (List.mem_of_getElem? (i := 47) rfl))) (ty := .int) (by decide)
  have F46_elementData : Fld Z h46 b46 "java/util/ArrayList" "elementData" "[Ljava/lang/Object;" .null := D46 (Or.inl (hw _ (List.mem_of_getElem? (i := 50) rfl))) (ty := (.array (.object "java/lang/Object"))) (by decide)
  have F46_size : Fld Z h46 b46 "java/util/ArrayList" "size" "I" (.int (0 : Int32)) := D46 (Or.inl (hw _ (List.mem_of_getElem? (i := 59) rfl))) (ty := .int) (by decide)
  have P46 : own_Go p e below S0 (T46.setTop (mkF m 73 #[.val (.int i0), .val (.int i1), .val (.int i2), .val (.int i3), .val (.int i4), .val (.int (i0 &&& (3 : Int32))), .val (.int (i1 &&& (3 : Int32))), .val (.int v5_s0), .val (.ref b7), .val (.ref b18), .val (.ref b31), .unset, .unset, .unset, .unset, .unset, .unset] [(.ref b46)])) := fun t k => P45 t (st46 _ k)
  have F47 : Sta Z h7 "java/util/ArrayList" "DEFAULTCAPACITY_EMPTY_ELEMENTDATA" "[Ljava/lang/Object;" (.ref z0_DEFAULTCAPACITY_EMPTY_ELEMENTDATA) := S_DEFAULTCAPACITY_EMPTY_ELEMENTDATA.ext E7
  have F48 : Sta Z T9.heap "java/util/ArrayList" "DEFAULTCAPACITY_EMPTY_ELEMENTDATA" "[Ljava/lang/Object;" (.ref z0_DEFAULTCAPACITY_EMPTY_ELEMENTDATA) := own_staK F47 Kc9 (allS (own_plE A7) all0)
  have F49 : Sta Z h18 "java/util/ArrayList" "DEFAULTCAPACITY_EMPTY_ELEMENTDATA" "[Ljava/lang/Object;" (.ref z0_DEFAULTCAPACITY_EMPTY_ELEMENTDATA) := F48.ext E18
  have F50 : Sta Z T20.heap "java/util/ArrayList" "DEFAULTCAPACITY_EMPTY_ELEMENTDATA" "[Ljava/lang/Object;" (.ref z0_DEFAULTCAPACITY_EMPTY_ELEMENTDATA) := own_staK F49 Kc20 (allS (own_plE A18) all0)
  have F51 : Sta Z h31 "java/util/ArrayList" "DEFAULTCAPACITY_EMPTY_ELEMENTDATA" "[Ljava/lang/Object;" (.ref z0_DEFAULTCAPACITY_EMPTY_ELEMENTDATA) := F50.ext E31
  have F52 : Sta Z T33.heap "java/util/ArrayList" "DEFAULTCAPACITY_EMPTY_ELEMENTDATA" "[Ljava/lang/Object;" (.ref z0_DEFAULTCAPACITY_EMPTY_ELEMENTDATA) := own_staK F51 Kc33 (allS (own_plE A31) all0)
  have F53 : Sta Z h46 "java/util/ArrayList" "DEFAULTCAPACITY_EMPTY_ELEMENTDATA" "[Ljava/lang/Object;" (.ref z0_DEFAULTCAPACITY_EMPTY_ELEMENTDATA) := F52.ext E46
  have P54 : own_Go p e below S0 (T46.setTop (mkF m 74 #[.val (.int i0), .val (.int i1), .val (.int i2), .val (.int i3), .val (.int i4), .val (.int (i0 &&& (3 : Int32))), .val (.int (i1 &&& (3 : Int32))), .val (.int v5_s0), .val (.ref b7), .val (.ref b18), .val (.ref b31), .unset, .unset, .unset, .unset, .unset, .unset] [(.ref b46), (.ref b46)])) := fun t k => P46 t (by
    show Steps p.tables e below (T46.setTop (mkF m 73 #[.val (.int i0), .val (.int i1), .val (.int i2), .val (.int i3), .val (.int i4), .val (.int (i0 &&& (3 : Int32))), .val (.int (i1 &&& (3 : Int32))), .val (.int v5_s0), .val (.ref b7), .val (.ref b18), .val (.ref b31), .unset, .unset, .unset, .unset, .unset, .unset] [(.ref b46)])) t
    refine XS.dup X46.here hx rfl (hb hby at_73) rfl rfl ?_
    show Steps p.tables e below (T46.setTop (mkF m 74 #[.val (.int i0), .val (.int i1), .val (.int i2), .val (.int i3), .val (.int i4), .val (.int (i0 &&& (3 : Int32))), .val (.int (i1 &&& (3 : Int32))), .val (.int v5_s0), .val (.ref b7), .val (.ref b18), .val (.ref b31), .unset, .unset, .unset, .unset, .unset, .unset] [(.ref b46), (.ref b46)])) t
    exact k)
  obtain ⟨_, _, ⟨T55, L55, k55, n55⟩, -, X55, ⟨Lc55, hQ55, l55, y55, z55⟩, st55⟩ := X46.specialBack hx (y := (⟨"java/util/ArrayList", "<init>", "()V"⟩ : MethodName)) rfl hown (mvT hZ (hw _ (List.mem_of_getElem? (i := 30) rfl))) (mvT hZ (hw _ (List.mem_of_getElem? (i := 31) rfl))) (mvT hZ (hw _ (List.mem_of_getElem? (i := 32) rfl))) (by decide) (backOf (W := 1) (rm5 l Z a0 hw [] b46 (0 : Int32) (.int (0 : Int32)) z0_DEFAULTCAPACITY_EMPTY_ELEMENTDATA h46 n0 (Nat.le_trans Z0 K46.1) F46_size F46_elementData A46 F46_modCount g_b46 F53) hZ (hw _ (List.mem_of_getElem? (i := 32) rfl)) (hw _ (List.mem_of_getElem? (i := 29) rfl)) (by decide) (by decide)) (g := (mkF m 74 #[.val (.int i0), .val (.int i1), .val (.int i2), .val (.int i3), .val (.int i4), .val (.int (i0 &&& (3 : Int32))), .val (.int (i1 &&& (3 : Int32))), .val (.int v5_s0), .val (.ref b7), .val (.ref b18), .val (.ref b31), .unset, .unset, .unset, .unset, .unset, .unset] [(.ref b46), (.ref b46)])) rfl (by rw [hml]; rfl) (Steps.refl _) (a := b46) (argsL := []) (rest := [(.ref b46)]) (lenOf pd_1 rfl) rfl (by show 2 * 0 + _ ≤ _; exact Nat.le_of_eq rfl) (hb hby at_74) (fun _ _ => ⟨rfl, e46, (by decide : 4 + 0 ≤ _), (by decide : 21 + 0 ≤ _)⟩)
  dsimp only [Pt.U, Pt.locs, Pt.cells, Pt.slots] at X55 l55 y55 z55 st55 hQ55
  subst l55 y55 z55
  obtain ⟨rfl, N55q, Kc55, F55_0, F55_1, F55_2⟩ := hQ55
  have N55 := Fr.app N33 N55q
  have K55 : Keep h0 T55.heap [] := Keep.trans K46 Kc55 (allS (Or.inr o_b46) all0)
  have P55 : own_Go p e below S0 (T55.setTop (mkF m 77 #[.val (.int i0), .val (.int i1), .val (.int i2), .val (.int i3), .val (.int i4), .val (.int (i0 &&& (3 : Int32))), .val (.int (i1 &&& (3 : Int32))), .val (.int v5_s0), .val (.ref b7), .val (.ref b18), .val (.ref b31), .unset, .unset, .unset, .unset, .unset, .unset] [(.ref b46)])) := fun t k => P54 t (st55.trans k)
  have P56 : own_Go p e below S0 (T55.setTop (mkF m 79 #[.val (.int i0), .val (.int i1), .val (.int i2), .val (.int i3), .val (.int i4), .val (.int (i0 &&& (3 : Int32))), .val (.int (i1 &&& (3 : Int32))), .val (.int v5_s0), .val (.ref b7), .val (.ref b18), .val (.ref b31), .val (.ref b46), .unset, .unset, .unset, .unset, .unset] [])) := fun t k => P55 t (by
    show Steps p.tables e below (T55.setTop (mkF m 77 #[.val (.int i0), .val (.int i1), .val (.int i2), .val (.int i3), .val (.int i4), .val (.int (i0 &&& (3 : Int32))), .val (.int (i1 &&& (3 : Int32))), .val (.int v5_s0), .val (.ref b7), .val (.ref b18), .val (.ref b31), .unset, .unset, .unset, .unset, .unset, .unset] [(.ref b46)])) t
    refine XS.astore X55.here hx rfl (hb hby at_77) rfl rfl (l' := #[.val (.int i0), .val (.int i1), .val (.int i2), .val (.int i3), .val (.int i4), .val (.int (i0 &&& (3 : Int32))), .val (.int (i1 &&& (3 : Int32))), .val (.int v5_s0), .val (.ref b7), .val (.ref b18), .val (.ref b31), .val (.ref b46), .unset, .unset, .unset, .unset, .unset]) rfl ?_
    show Steps p.tables e below (T55.setTop (mkF m 79 #[.val (.int i0), .val (.int i1), .val (.int i2), .val (.int i3), .val (.int i4), .val (.int (i0 &&& (3 : Int32))), .val (.int (i1 &&& (3 : Int32))), .val (.int v5_s0), .val (.ref b7), .val (.ref b18), .val (.ref b31), .val (.ref b46), .unset, .unset, .unset, .unset, .unset] [])) t
    exact k)
  obtain ⟨n57, hn57⟩ : ∃ z : Int32, z = (i0 &&& (3 : Int32)) := ⟨_, rfl⟩
  have P57 : own_Go p e below S0 (T55.setTop (mkF m 79 #[.val (.int i0), .val (.int i1), .val (.int i2), .val (.int i3), .val (.int i4), .val (.int n57), .val (.int (i1 &&& (3 : Int32))), .val (.int v5_s0), .val (.ref b7), .val (.ref b18), .val (.ref b31), .val (.ref b46), .unset, .unset, .unset, .unset, .unset] [])) := by rw [hn57]; exact P56
  rcases (by rw [hn57]; exact own_and3 _ : n57 = (0 : Int32) ∨ n57 = (1 : Int32) ∨ n57 = (2 : Int32) ∨ n57 = (3 : Int32)) with c58 | c58 | c58 | c58
  · skip
    subst c58
    have F59 : Arv Z h46 z0_DEFAULTCAPACITY_EMPTY_ELEMENTDATA qk0 (.object "java/lang/Object") (0 : Int32) [] .null := F35.ext E46
    have F60 : Arv Z T55.heap z0_DEFAULTCAPACITY_EMPTY_ELEMENTDATA qk0 (.object "java/lang/Object") (0 : Int32) [] .null := F59.keep Kc55 (ninS ne_z0_DEFAULTCAPACITY_EMPTY_ELEMENTDATA_b46 nin0)
    have F61 : Fld Z h46 z0_EMPTY_LIST "java/util/ImmutableCollections$ListN" "elements" "[Ljava/lang/Object;" (.ref qe) := F37.ext E46
    have F62 : Fld Z T55.heap z0_EMPTY_LIST "java/util/ImmutableCollections$ListN" "elements" "[Ljava/lang/Object;" (.ref qe) := F61.keep Kc55 (ninS ne_z0_EMPTY_LIST_b46 nin0)
    have F63 : Arv Z h46 qe qke (.object "java/lang/Object") (0 : Int32) [] .null := F39.ext E46
    have F64 : Arv Z T55.heap qe qke (.object "java/lang/Object") (0 : Int32) [] .null := F63.keep Kc55 (ninS ne_qe_b46 nin0)
    have F65 : Exa Z h46 b7 "com/example/penelope/penelope/program/Move" := F41.ext E46
    have F66 : Exa Z T55.heap b7 "com/example/penelope/penelope/program/Move" := F65.keep Kc55
    have F67 : Exa Z h46 b18 "com/example/penelope/penelope/program/Move" := F43.ext E46
    have F68 : Exa Z T55.heap b18 "com/example/penelope/penelope/program/Move" := F67.keep Kc55
    have F69 : Exa Z h46 b31 "com/example/penelope/penelope/program/Move" := F44.ext E46
    have F70 : Exa Z T55.heap b31 "com/example/penelope/penelope/program/Move" := F69.keep Kc55
    have F71 : Exa Z T55.heap b46 "java/util/ArrayList" := A46.keep Kc55
    have P72 : own_Go p e below S0 (T55.setTop (mkF m 120 #[.val (.int i0), .val (.int i1), .val (.int i2), .val (.int i3), .val (.int i4), .val (.int (0 : Int32)), .val (.int (i1 &&& (3 : Int32))), .val (.int v5_s0), .val (.ref b7), .val (.ref b18), .val (.ref b31), .val (.ref b46), .unset, .unset, .unset, .unset, .unset] [])) := fun t k => P57 t (by
      show Steps p.tables e below (T55.setTop (mkF m 79 #[.val (.int i0), .val (.int i1), .val (.int i2), .val (.int i3), .val (.int i4), .val (.int (0 : Int32)), .val (.int (i1 &&& (3 : Int32))), .val (.int v5_s0), .val (.ref b7), .val (.ref b18), .val (.ref b31), .val (.ref b46), .unset, .unset, .unset, .unset, .unset] [])) t
      refine XS.iload X55.here hx rfl (hb hby at_79) rfl ?_
      refine XS.ifYes X55.here hx rfl (pc0 := 81) (pc' := 92) rfl (hb hby at_81) rfl ((if0 _ _).trans (flt (by decide)).2.2.2) (by decide) (by decide) ?_
      refine XS.iload X55.here hx rfl (hb hby at_92) rfl ?_
      refine XS.iconst X55.here hx rfl (hb hby at_94) ?_
      refine XS.icmpYes X55.here hx rfl (pc0 := 95) (pc' := 106) rfl (hb hby at_95) rfl (flt (by decide)).2.2.2 (by decide) (by decide) ?_
      refine XS.iload X55.here hx rfl (hb hby at_106) rfl ?_
      show Steps p.tables e below (T55.setTop (mkF m 108 #[.val (.int i0), .val (.int i1), .val (.int i2), .val (.int i3), .val (.int i4), .val (.int (0 : Int32)), .val (.int (i1 &&& (3 : Int32))), .val (.int v5_s0), .val (.ref b7), .val (.ref b18), .val (.ref b31), .val (.ref b46), .unset, .unset, .unset, .unset, .unset] [(.int (0 : Int32))])) t
      refine XS.iconst X55.here hx rfl (hb hby at_108) ?_
      refine XS.icmpYes X55.here hx rfl (pc0 := 109) (pc' := 120) rfl (hb hby at_109) rfl (flt (by decide)).2.2.2 (by decide) (by decide) ?_
      show Steps p.tables e below (T55.setTop (mkF m 120 #[.val (.int i0), .val (.int i1), .val (.int i2), .val (.int i3), .val (.int i4), .val (.int (0 : Int32)), .val (.int (i1 &&& (3 : Int32))), .val (.int v5_s0), .val (.ref b7), .val (.ref b18), .val (.ref b31), .val (.ref b46), .unset, .unset, .unset, .unset, .unset] [])) t
      exact k)
    obtain ⟨T73, h73, X73, e73, E73, A73, D73, -, st73⟩ := newO X55 hx hZ hown (hw _ (List.mem_of_getElem? (i := 27) rfl)) (hw _ (List.mem_of_getElem? (i := 28) rfl)) (hw _ (List.mem_of_getElem? (i := 29) rfl)) rfl (g := (mkF m 120 #[.val (.int i0), .val (.int i1), .val (.int i2), .val (.int i3), .val (.int i4), .val (.int (0 : Int32)), .val (.int (i1 &&& (3 : Int32))), .val (.int v5_s0), .val (.ref b7), .val (.ref b18), .val (.ref b31), .val (.ref b46), .unset, .unset, .unset, .unset, .unset] [])) rfl (hb hby at_120) (by decide) (by decide)
    obtain ⟨b73, g73⟩ : ∃ z, z = T55.heap.size := ⟨_, rfl⟩
    rw [← g73] at A73 D73 st73
    have sz_b73 : T55.heap.size ≤ b73 := Nat.le_of_eq g73.symm
    have ne_z0_DEFAULTCAPACITY_EMPTY_ELEMENTDATA_b73 : z0_DEFAULTCAPACITY_EMPTY_ELEMENTDATA ≠ b73 := Nat.ne_of_lt (Nat.lt_of_lt_of_le F60.lt sz_b73)
    have ne_z0_EMPTY_LIST_b73 : z0_EMPTY_LIST ≠ b73 := Nat.ne_of_lt (Nat.lt_of_lt_of_le F62.lt sz_b73)
    have ne_qe_b73 : qe ≠ b73 := Nat.ne_of_lt (Nat.lt_of_lt_of_le F64.lt sz_b73)
    have ne_b7_b73 : b7 ≠ b73 := Nat.ne_of_lt (Nat.lt_of_lt_of_le F66.lt sz_b73)
    have ne_b18_b73 : b18 ≠ b73 := Nat.ne_of_lt (Nat.lt_of_lt_of_le F68.lt sz_b73)
    have ne_b31_b73 : b31 ≠ b73 := Nat.ne_of_lt (Nat.lt_of_lt_of_le F70.lt sz_b73)
    have ne_b46_b73 : b46 ≠ b73 := Nat.ne_of_lt (Nat.lt_of_lt_of_le F71.lt sz_b73)
    have g_b73 : n0 ≤ b73 := Nat.le_trans (Nat.le_trans Z0 K55.1) sz_b73
    have o_b73 : h0.size ≤ b73 := Nat.le_trans K55.1 sz_b73
    have K73 : Keep h0 h73 [] := K55.ext E73
    have F73_modCount : Fld Z h73 b73 "java/util/AbstractList" "modCount" "I" (.int (0 : Int32)) := D73 (Or.inl (hw _ (List.mem_of_getElem? (i := 47) rfl))) (ty := .int) (by decide)
    have F73_elementData : Fld Z h73 b73 "java/util/ArrayList" "elementData" "[Ljava/lang/Object;" .null := D73 (Or.inl (hw _ (List.mem_of_getElem? (i := 50) rfl))) (ty := (.array (.object "java/lang/Object"))) (by decide)
    have F73_size : Fld Z h73 b73 "java/util/ArrayList" "size" "I" (.int (0 : Int32)) := D73 (Or.inl (hw _ (List.mem_of_getElem? (i := 59) rfl))) (ty := .int) (by decide)
    have P73 : own_Go p e below S0 (T73.setTop (mkF m 123 #[.val (.int i0), .val (.int i1), .val (.int i2), .val (.int i3), .val (.int i4), .val (.int (0 : Int32)), .val (.int (i1 &&& (3 : Int32))), .val (.int v5_s0), .val (.ref b7), .val (.ref b18), .val (.ref b31), .val (.ref b46), .unset, .unset, .unset, .unset, .unset] [(.ref b73)])) := fun t k => P72 t (st73 _ k)
    have F74 : Sta Z T55.heap "java/util/ArrayList" "DEFAULTCAPACITY_EMPTY_ELEMENTDATA" "[Ljava/lang/Object;" (.ref z0_DEFAULTCAPACITY_EMPTY_ELEMENTDATA) := own_staK F53 Kc55 (allS (own_plE A46) all0)
    have F75 : Sta Z h73 "java/util/ArrayList" "DEFAULTCAPACITY_EMPTY_ELEMENTDATA" "[Ljava/lang/Object;" (.ref z0_DEFAULTCAPACITY_EMPTY_ELEMENTDATA) := F74.ext E73
    have P76 : own_Go p e below S0 (T73.setTop (mkF m 124 #[.val (.int i0), .val (.int i1), .val (.int i2), .val (.int i3), .val (.int i4), .val (.int (0 : Int32)), .val (.int (i1 &&& (3 : Int32))), .val (.int v5_s0), .val (.ref b7), .val (.ref b18), .val (.ref b31), .val (.ref b46), .unset, .unset, .unset, .unset, .unset] [(.ref b73), (.ref b73)])) := fun t k => P73 t (by
      show Steps p.tables e below (T73.setTop (mkF m 123 #[.val (.int i0), .val (.int i1), .val (.int i2), .val (.int i3), .val (.int i4), .val (.int (0 : Int32)), .val (.int (i1 &&& (3 : Int32))), .val (.int v5_s0), .val (.ref b7), .val (.ref b18), .val (.ref b31), .val (.ref b46), .unset, .unset, .unset, .unset, .unset] [(.ref b73)])) t
      refine XS.dup X73.here hx rfl (hb hby at_123) rfl rfl ?_
      show Steps p.tables e below (T73.setTop (mkF m 124 #[.val (.int i0), .val (.int i1), .val (.int i2), .val (.int i3), .val (.int i4), .val (.int (0 : Int32)), .val (.int (i1 &&& (3 : Int32))), .val (.int v5_s0), .val (.ref b7), .val (.ref b18), .val (.ref b31), .val (.ref b46), .unset, .unset, .unset, .unset, .unset] [(.ref b73), (.ref b73)])) t
      exact k)
    obtain ⟨_, _, ⟨T77, L77, k77, n77⟩, -, X77, ⟨Lc77, hQ77, l77, y77, z77⟩, st77⟩ := X73.specialBack hx (y := (⟨"java/util/ArrayList", "<init>", "()V"⟩ : MethodName)) rfl hown (mvT hZ (hw _ (List.mem_of_getElem? (i := 30) rfl))) (mvT hZ (hw _ (List.mem_of_getElem? (i := 31) rfl))) (mvT hZ (hw _ (List.mem_of_getElem? (i := 32) rfl))) (by decide) (backOf (W := 1) (rm5 l Z a0 hw [] b73 (0 : Int32) (.int (0 : Int32)) z0_DEFAULTCAPACITY_EMPTY_ELEMENTDATA h73 n0 (Nat.le_trans Z0 K73.1) F73_size F73_elementData A73 F73_modCount g_b73 F75) hZ (hw _ (List.mem_of_getElem? (i := 32) rfl)) (hw _ (List.mem_of_getElem? (i := 29) rfl)) (by decide) (by decide)) (g := (mkF m 124 #[.val (.int i0), .val (.int i1), .val (.int i2), .val (.int i3), .val (.int i4), .val (.int (0 : Int32)), .val (.int (i1 &&& (3 : Int32))), .val (.int v5_s0), .val (.ref b7), .val (.ref b18), .val (.ref b31), .val (.ref b46), .unset, .unset, .unset, .unset, .unset] [(.ref b73), (.ref b73)])) rfl (by rw [hml]; rfl) (Steps.refl _) (a := b73) (argsL := []) (rest := [(.ref b73)]) (lenOf pd_1 rfl) rfl (by show 2 * 0 + _ ≤ _; exact Nat.le_of_eq rfl) (hb hby at_124) (fun _ _ => ⟨rfl, e73, (by decide : 5 + 0 ≤ _), (by decide : 24 + 0 ≤ _)⟩)
    dsimp only [Pt.U, Pt.locs, Pt.cells, Pt.slots] at X77 l77 y77 z77 st77 hQ77
    subst l77 y77 z77
    obtain ⟨rfl, N77q, Kc77, F77_0, F77_1, F77_2⟩ := hQ77
    have N77 := Fr.app N55 N77q
    have K77 : Keep h0 T77.heap [] := Keep.trans K73 Kc77 (allS (Or.inr o_b73) all0)
    have P77 : own_Go p e below S0 (T77.setTop (mkF m 127 #[.val (.int i0), .val (.int i1), .val (.int i2), .val (.int i3), .val (.int i4), .val (.int (0 : Int32)), .val (.int (i1 &&& (3 : Int32))), .val (.int v5_s0), .val (.ref b7), .val (.ref b18), .val (.ref b31), .val (.ref b46), .unset, .unset, .unset, .unset, .unset] [(.ref b73)])) := fun t k => P76 t (st77.trans k)
    have F78 : Sta Z T77.heap "java/util/ArrayList" "DEFAULTCAPACITY_EMPTY_ELEMENTDATA" "[Ljava/lang/Object;" (.ref z0_DEFAULTCAPACITY_EMPTY_ELEMENTDATA) := own_staK F75 Kc77 (allS (own_plE A73) all0)
    have F79 : Arv Z h73 z0_DEFAULTCAPACITY_EMPTY_ELEMENTDATA qk0 (.object "java/lang/Object") (0 : Int32) [] .null := F60.ext E73
    have F80 : Arv Z T77.heap z0_DEFAULTCAPACITY_EMPTY_ELEMENTDATA qk0 (.object "java/lang/Object") (0 : Int32) [] .null := F79.keep Kc77 (ninS ne_z0_DEFAULTCAPACITY_EMPTY_ELEMENTDATA_b73 nin0)
    have F81 : Sta Z h7 "java/util/ImmutableCollections" "EMPTY_LIST" "Ljava/util/ImmutableCollections$ListN;" (.ref z0_EMPTY_LIST) := S_EMPTY_LIST.ext E7
    have F82 : Sta Z T9.heap "java/util/ImmutableCollections" "EMPTY_LIST" "Ljava/util/ImmutableCollections$ListN;" (.ref z0_EMPTY_LIST) := own_staK F81 Kc9 (allS (own_plE A7) all0)
    have F83 : Sta Z h18 "java/util/ImmutableCollections" "EMPTY_LIST" "Ljava/util/ImmutableCollections$ListN;" (.ref z0_EMPTY_LIST) := F82.ext E18
    have F84 : Sta Z T20.heap "java/util/ImmutableCollections" "EMPTY_LIST" "Ljava/util/ImmutableCollections$ListN;" (.ref z0_EMPTY_LIST) := own_staK F83 Kc20 (allS (own_plE A18) all0)
    have F85 : Sta Z h31 "java/util/ImmutableCollections" "EMPTY_LIST" "Ljava/util/ImmutableCollections$ListN;" (.ref z0_EMPTY_LIST) := F84.ext E31
    have F86 : Sta Z T33.heap "java/util/ImmutableCollections" "EMPTY_LIST" "Ljava/util/ImmutableCollections$ListN;" (.ref z0_EMPTY_LIST) := own_staK F85 Kc33 (allS (own_plE A31) all0)
    have F87 : Sta Z h46 "java/util/ImmutableCollections" "EMPTY_LIST" "Ljava/util/ImmutableCollections$ListN;" (.ref z0_EMPTY_LIST) := F86.ext E46
    have F88 : Sta Z T55.heap "java/util/ImmutableCollections" "EMPTY_LIST" "Ljava/util/ImmutableCollections$ListN;" (.ref z0_EMPTY_LIST) := own_staK F87 Kc55 (allS (own_plE A46) all0)
    have F89 : Sta Z h73 "java/util/ImmutableCollections" "EMPTY_LIST" "Ljava/util/ImmutableCollections$ListN;" (.ref z0_EMPTY_LIST) := F88.ext E73
    have F90 : Sta Z T77.heap "java/util/ImmutableCollections" "EMPTY_LIST" "Ljava/util/ImmutableCollections$ListN;" (.ref z0_EMPTY_LIST) := own_staK F89 Kc77 (allS (own_plE A73) all0)
    have F91 : Fld Z h73 z0_EMPTY_LIST "java/util/ImmutableCollections$ListN" "elements" "[Ljava/lang/Object;" (.ref qe) := F62.ext E73
    have F92 : Fld Z T77.heap z0_EMPTY_LIST "java/util/ImmutableCollections$ListN" "elements" "[Ljava/lang/Object;" (.ref qe) := F91.keep Kc77 (ninS ne_z0_EMPTY_LIST_b73 nin0)
    have F93 : Arv Z h73 qe qke (.object "java/lang/Object") (0 : Int32) [] .null := F64.ext E73
    have F94 : Arv Z T77.heap qe qke (.object "java/lang/Object") (0 : Int32) [] .null := F93.keep Kc77 (ninS ne_qe_b73 nin0)
    have F95 : Exa Z h7 z0_EMPTY_LIST "java/util/ImmutableCollections$ListN" := E_z0_EMPTY_LIST.ext E7
    have F96 : Exa Z T9.heap z0_EMPTY_LIST "java/util/ImmutableCollections$ListN" := F95.keep Kc9
    have F97 : Exa Z h18 z0_EMPTY_LIST "java/util/ImmutableCollections$ListN" := F96.ext E18
    have F98 : Exa Z T20.heap z0_EMPTY_LIST "java/util/ImmutableCollections$ListN" := F97.keep Kc20
    have F99 : Exa Z h31 z0_EMPTY_LIST "java/util/ImmutableCollections$ListN" := F98.ext E31
    have F100 : Exa Z T33.heap z0_EMPTY_LIST "java/util/ImmutableCollections$ListN" := F99.keep Kc33
    have F101 : Exa Z h46 z0_EMPTY_LIST "java/util/ImmutableCollections$ListN" := F100.ext E46
    have F102 : Exa Z T55.heap z0_EMPTY_LIST "java/util/ImmutableCollections$ListN" := F101.keep Kc55
    have F103 : Exa Z h73 z0_EMPTY_LIST "java/util/ImmutableCollections$ListN" := F102.ext E73
    have F104 : Exa Z T77.heap z0_EMPTY_LIST "java/util/ImmutableCollections$ListN" := F103.keep Kc77
    have F105 : Exa Z h73 b46 "java/util/ArrayList" := F71.ext E73
    have F106 : Exa Z T77.heap b46 "java/util/ArrayList" := F105.keep Kc77
    have F107 : Fld Z h73 b46 "java/util/ArrayList" "elementData" "[Ljava/lang/Object;" (.ref z0_DEFAULTCAPACITY_EMPTY_ELEMENTDATA) := F55_0.ext E73
    have F108 : Fld Z T77.heap b46 "java/util/ArrayList" "elementData" "[Ljava/lang/Object;" (.ref z0_DEFAULTCAPACITY_EMPTY_ELEMENTDATA) := F107.keep Kc77 (ninS ne_b46_b73 nin0)
    have F109 : Fld Z h73 b46 "java/util/ArrayList" "size" "I" (.int (0 : Int32)) := F55_1.ext E73
    have F110 : Fld Z T77.heap b46 "java/util/ArrayList" "size" "I" (.int (0 : Int32)) := F109.keep Kc77 (ninS ne_b46_b73 nin0)
    have F111 : Fld Z h73 b46 "java/util/AbstractList" "modCount" "I" (.int (0 : Int32)) := F55_2.ext E73
    have F112 : Fld Z T77.heap b46 "java/util/AbstractList" "modCount" "I" (.int (0 : Int32)) := F111.keep Kc77 (ninS ne_b46_b73 nin0)
    have P113 : own_Go p e below S0 (T77.setTop (mkF m 131 #[.val (.int i0), .val (.int i1), .val (.int i2), .val (.int i3), .val (.int i4), .val (.int (0 : Int32)), .val (.int (i1 &&& (3 : Int32))), .val (.int v5_s0), .val (.ref b7), .val (.ref b18), .val (.ref b31), .val (.ref b46), .val (.ref b73), .unset, .unset, .unset, .unset] [(.int (i1 &&& (3 : Int32)))])) := fun t k => P77 t (by
      show Steps p.tables e below (T77.setTop (mkF m 127 #[.val (.int i0), .val (.int i1), .val (.int i2), .val (.int i3), .val (.int i4), .val (.int (0 : Int32)), .val (.int (i1 &&& (3 : Int32))), .val (.int v5_s0), .val (.ref b7), .val (.ref b18), .val (.ref b31), .val (.ref b46), .unset, .unset, .unset, .unset, .unset] [(.ref b73)])) t
      refine XS.astore X77.here hx rfl (hb hby at_127) rfl rfl (l' := #[.val (.int i0), .val (.int i1), .val (.int i2), .val (.int i3), .val (.int i4), .val (.int (0 : Int32)), .val (.int (i1 &&& (3 : Int32))), .val (.int v5_s0), .val (.ref b7), .val (.ref b18), .val (.ref b31), .val (.ref b46), .val (.ref b73), .unset, .unset, .unset, .unset]) rfl ?_
      refine XS.iload X77.here hx rfl (hb hby at_129) rfl ?_
      show Steps p.tables e below (T77.setTop (mkF m 131 #[.val (.int i0), .val (.int i1), .val (.int i2), .val (.int i3), .val (.int i4), .val (.int (0 : Int32)), .val (.int (i1 &&& (3 : Int32))), .val (.int v5_s0), .val (.ref b7), .val (.ref b18), .val (.ref b31), .val (.ref b46), .val (.ref b73), .unset, .unset, .unset, .unset] [(.int (i1 &&& (3 : Int32)))])) t
      exact k)
    obtain ⟨T203, lo203, h203, X203, e203, N203, K203, F204, F205, F206, F207, F208, F209, F210, F211, F212, F213, P203⟩ : ∃ (T203 : State) (lo203 : List Loc) (h203 : Heap), (Stand p l e room_1 s m #[(.int i0), (.int i1), (.int i2), (.int i3), (.int i4)] below meth c T203 lo203 6 34) ∧ (T203.heap = h203) ∧ (Fr n0 lo203) ∧ (Keep h0 h203 []) ∧ (Sta Z h203 "java/util/ArrayList" "DEFAULTCAPACITY_EMPTY_ELEMENTDATA" "[Ljava/lang/Object;" (.ref z0_DEFAULTCAPACITY_EMPTY_ELEMENTDATA)) ∧ (Arv Z h203 z0_DEFAULTCAPACITY_EMPTY_ELEMENTDATA qk0 (.object "java/lang/Object") (0 : Int32) [] .null) ∧ (Sta Z h203 "java/util/ImmutableCollections" "EMPTY_LIST" "Ljava/util/ImmutableCollections$ListN;" (.ref z0_EMPTY_LIST)) ∧ (Fld Z h203 z0_EMPTY_LIST "java/util/ImmutableCollections$ListN" "elements" "[Ljava/lang/Object;" (.ref qe)) ∧ (Arv Z h203 qe qke (.object "java/lang/Object") (0 : Int32) [] .null) ∧ (Exa Z h203 z0_EMPTY_LIST "java/util/ImmutableCollections$ListN") ∧ (Exa Z h203 b46 "java/util/ArrayList") ∧ (Fld Z h203 b46 "java/util/ArrayList" "elementData" "[Ljava/lang/Object;" (.ref z0_DEFAULTCAPACITY_EMPTY_ELEMENTDATA)) ∧ (Fld Z h203 b46 "java/util/ArrayList" "size" "I" (.int (0 : Int32))) ∧ (Fld Z h203 b46 "java/util/AbstractList" "modCount" "I" (.int (0 : Int32))) ∧ (own_Go p e below S0 (T203.setTop (mkF m 170 #[.val (.int i0), .val (.int i1), .val (.int i2), .val (.int i3), .val (.int i4), .val (.int (0 : Int32)), .val (.int (i1 &&& (3 : Int32))), .val (.int v5_s0), .val (.ref b7), .val (.ref b18), .val (.ref b31), .val (.ref b46), .val (.ref b73), .unset, .unset, .unset, .unset] []))) := by
      by_cases c114 : (0 : Int32) < (i1 &&& (3 : Int32))
      · skip
        have F115 : Exa Z T77.heap b73 "java/util/ArrayList" := A73.keep Kc77
        have F116 : Exa Z h73 b31 "com/example/penelope/penelope/program/Move" := F70.ext E73
        have F117 : Exa Z T77.heap b31 "com/example/penelope/penelope/program/Move" := F116.keep Kc77
        have F118 : Exa Z h73 b7 "com/example/penelope/penelope/program/Move" := F66.ext E73
        have F119 : Exa Z T77.heap b7 "com/example/penelope/penelope/program/Move" := F118.keep Kc77
        have F120 : Exa Z h73 b18 "com/example/penelope/penelope/program/Move" := F68.ext E73
        have F121 : Exa Z T77.heap b18 "com/example/penelope/penelope/program/Move" := F120.keep Kc77
        have P122 : own_Go p e below S0 (T77.setTop (mkF m 138 #[.val (.int i0), .val (.int i1), .val (.int i2), .val (.int i3), .val (.int i4), .val (.int (0 : Int32)), .val (.int (i1 &&& (3 : Int32))), .val (.int v5_s0), .val (.ref b7), .val (.ref b18), .val (.ref b31), .val (.ref b46), .val (.ref b73), .unset, .unset, .unset, .unset] [(.ref b31), (.ref b73)])) := fun t k => P113 t (by
          show Steps p.tables e below (T77.setTop (mkF m 131 #[.val (.int i0), .val (.int i1), .val (.int i2), .val (.int i3), .val (.int i4), .val (.int (0 : Int32)), .val (.int (i1 &&& (3 : Int32))), .val (.int v5_s0), .val (.ref b7), .val (.ref b18), .val (.ref b31), .val (.ref b46), .val (.ref b73), .unset, .unset, .unset, .unset] [(.int (i1 &&& (3 : Int32)))])) t
          refine XS.ifNo X77.here hx rfl (hb hby at_131) rfl ((if0 _ _).trans (tlt c114).2.2.2) ?_
          refine XS.aload X77.here hx rfl (hb hby at_134) rfl rfl ?_
          refine XS.aload X77.here hx rfl (hb hby at_136) rfl rfl ?_
          show Steps p.tables e below (T77.setTop (mkF m 138 #[.val (.int i0), .val (.int i1), .val (.int i2), .val (.int i3), .val (.int i4), .val (.int (0 : Int32)), .val (.int (i1 &&& (3 : Int32))), .val (.int v5_s0), .val (.ref b7), .val (.ref b18), .val (.ref b31), .val (.ref b46), .val (.ref b73), .unset, .unset, .unset, .unset] [(.ref b31), (.ref b73)])) t
          exact k)
        obtain ⟨cq123, kq123, q123a, q123b, q123c⟩ := isOf hZ rfl F115
        obtain ⟨_, _, ⟨T123, L123, k123, n123⟩, -, X123, ⟨Lc123, hQ123, l123, y123, z123⟩, st123⟩ := X77.virtualBack hx (y := (⟨"java/util/ArrayList", "add", "(Ljava/lang/Object;)Z"⟩ : MethodName)) (z := (⟨"java/util/ArrayList", "add", "(Ljava/lang/Object;)Z"⟩ : MethodName)) hown (mvT hZ (hw _ (List.mem_of_getElem? (i := 51) rfl))) (mvT hZ (hw _ (List.mem_of_getElem? (i := 52) rfl))) (notFace_of_selects (args := #[]) (mvT hZ (hw _ (List.mem_of_getElem? (i := 54) rfl)))) (mvT hZ (hw _ (List.mem_of_getElem? (i := 54) rfl))) (mvT hZ (hw _ (List.mem_of_getElem? (i := 53) rfl))) (by decide) (backOf (W := 0) (rm8e l Z a0 hw [] b73 b31 z0_DEFAULTCAPACITY_EMPTY_ELEMENTDATA qk0 (0 : Int32) T77.heap n0 (Nat.le_trans Z0 K77.1) F77_0 F77_1 F78 F80 F117 F77_2 F115 g_b73 ne_z0_DEFAULTCAPACITY_EMPTY_ELEMENTDATA_b73) hZ (hw _ (List.mem_of_getElem? (i := 55) rfl)) (hw _ (List.mem_of_getElem? (i := 29) rfl)) (by decide) (by decide)) q123a q123c (g := (mkF m 138 #[.val (.int i0), .val (.int i1), .val (.int i2), .val (.int i3), .val (.int i4), .val (.int (0 : Int32)), .val (.int (i1 &&& (3 : Int32))), .val (.int v5_s0), .val (.ref b7), .val (.ref b18), .val (.ref b31), .val (.ref b46), .val (.ref b73), .unset, .unset, .unset, .unset] [(.ref b31), (.ref b73)])) rfl (by rw [hml]; rfl) (Steps.refl _) (argsL := [(.ref b31)]) (rest := []) (lenOf pd_12 rfl) rfl (by show 2 * 0 + _ ≤ _; exact Nat.le_of_eq rfl) (hb hby at_138) (fun _ _ => ⟨rfl, rfl, (by decide : 5 + 1 ≤ _), (by decide : 24 + 10 ≤ _)⟩)
        dsimp only [Pt.U, Pt.locs, Pt.cells, Pt.slots] at X123 l123 y123 z123 st123 hQ123
        subst l123 y123 z123
        obtain ⟨b9_4_3_15_123, k9_4_3_15_123, rfl, N123q, Kc123, sz_b9_4_3_15_123, F123_0, F123_1, F123_2, F123_3, F123_4⟩ := hQ123
        have N123 := Fr.app N77 N123q
        have ne_z0_DEFAULTCAPACITY_EMPTY_ELEMENTDATA_b9_4_3_15_123 : z0_DEFAULTCAPACITY_EMPTY_ELEMENTDATA ≠ b9_4_3_15_123 := Nat.ne_of_lt (Nat.lt_of_lt_of_le F80.lt sz_b9_4_3_15_123)
        have ne_z0_EMPTY_LIST_b9_4_3_15_123 : z0_EMPTY_LIST ≠ b9_4_3_15_123 := Nat.ne_of_lt (Nat.lt_of_lt_of_le F92.lt sz_b9_4_3_15_123)
        have ne_qe_b9_4_3_15_123 : qe ≠ b9_4_3_15_123 := Nat.ne_of_lt (Nat.lt_of_lt_of_le F94.lt sz_b9_4_3_15_123)
        have ne_b7_b9_4_3_15_123 : b7 ≠ b9_4_3_15_123 := Nat.ne_of_lt (Nat.lt_of_lt_of_le F119.lt sz_b9_4_3_15_123)
        have ne_b18_b9_4_3_15_123 : b18 ≠ b9_4_3_15_123 := Nat.ne_of_lt (Nat.lt_of_lt_of_le F121.lt sz_b9_4_3_15_123)
        have ne_b31_b9_4_3_15_123 : b31 ≠ b9_4_3_15_123 := Nat.ne_of_lt (Nat.lt_of_lt_of_le F117.lt sz_b9_4_3_15_123)
        have ne_b46_b9_4_3_15_123 : b46 ≠ b9_4_3_15_123 := Nat.ne_of_lt (Nat.lt_of_lt_of_le F106.lt sz_b9_4_3_15_123)
        have ne_b73_b9_4_3_15_123 : b73 ≠ b9_4_3_15_123 := Nat.ne_of_lt (Nat.lt_of_lt_of_le F115.lt sz_b9_4_3_15_123)
        have g_b9_4_3_15_123 : n0 ≤ b9_4_3_15_123 := Nat.le_trans (Nat.le_trans Z0 K77.1) sz_b9_4_3_15_123
        have o_b9_4_3_15_123 : h0.size ≤ b9_4_3_15_123 := Nat.le_trans K77.1 sz_b9_4_3_15_123
        have K123 : Keep h0 T123.heap [] := Keep.trans K77 Kc123 (allS (Or.inr o_b73) all0)
        have P123 : own_Go p e below S0 (T123.setTop (mkF m 141 #[.val (.int i0), .val (.int i1), .val (.int i2), .val (.int i3), .val (.int i4), .val (.int (0 : Int32)), .val (.int (i1 &&& (3 : Int32))), .val (.int v5_s0), .val (.ref b7), .val (.ref b18), .val (.ref b31), .val (.ref b46), .val (.ref b73), .unset, .unset, .unset, .unset] [(.int (1 : Int32))])) := fun t k => P122 t (st123.trans k)
        have P124 : own_Go p e below S0 (T123.setTop (mkF m 145 #[.val (.int i0), .val (.int i1), .val (.int i2), .val (.int i3), .val (.int i4), .val (.int (0 : Int32)), .val (.int (i1 &&& (3 : Int32))), .val (.int v5_s0), .val (.ref b7), .val (.ref b18), .val (.ref b31), .val (.ref b46), .val (.ref b73), .unset, .unset, .unset, .unset] [(.int (1 : Int32)), (.int (i1 &&& (3 : Int32)))])) := fun t k => P123 t (by
          show Steps p.tables e below (T123.setTop (mkF m 141 #[.val (.int i0), .val (.int i1), .val (.int i2), .val (.int i3), .val (.int i4), .val (.int (0 : Int32)), .val (.int (i1 &&& (3 : Int32))), .val (.int v5_s0), .val (.ref b7), .val (.ref b18), .val (.ref b31), .val (.ref b46), .val (.ref b73), .unset, .unset, .unset, .unset] [(.int (1 : Int32))])) t
          refine XS.pop X123.here hx rfl (hb hby at_141) rfl rfl ?_
          refine XS.iload X123.here hx rfl (hb hby at_142) rfl ?_
          refine XS.iconst X123.here hx rfl (hb hby at_144) ?_
          show Steps p.tables e below (T123.setTop (mkF m 145 #[.val (.int i0), .val (.int i1), .val (.int i2), .val (.int i3), .val (.int i4), .val (.int (0 : Int32)), .val (.int (i1 &&& (3 : Int32))), .val (.int v5_s0), .val (.ref b7), .val (.ref b18), .val (.ref b31), .val (.ref b46), .val (.ref b73), .unset, .unset, .unset, .unset] [(.int (1 : Int32)), (.int (i1 &&& (3 : Int32)))])) t
          exact k)
        by_cases c125 : (1 : Int32) < (i1 &&& (3 : Int32))
        · skip
          have F126 : Exa Z T123.heap b73 "java/util/ArrayList" := F115.keep Kc123
          have F127 : Exa Z T123.heap b31 "com/example/penelope/penelope/program/Move" := F117.keep Kc123
          have P128 : own_Go p e below S0 (T123.setTop (mkF m 152 #[.val (.int i0), .val (.int i1), .val (.int i2), .val (.int i3), .val (.int i4), .val (.int (0 : Int32)), .val (.int (i1 &&& (3 : Int32))), .val (.int v5_s0), .val (.ref b7), .val (.ref b18), .val (.ref b31), .val (.ref b46), .val (.ref b73), .unset, .unset, .unset, .unset] [(.ref b31), (.ref b73)])) := fun t k => P124 t (by
            show Steps p.tables e below (T123.setTop (mkF m 145 #[.val (.int i0), .val (.int i1), .val (.int i2), .val (.int i3), .val (.int i4), .val (.int (0 : Int32)), .val (.int (i1 &&& (3 : Int32))), .val (.int v5_s0), .val (.ref b7), .val (.ref b18), .val (.ref b31), .val (.ref b46), .val (.ref b73), .unset, .unset, .unset, .unset] [(.int (1 : Int32)), (.int (i1 &&& (3 : Int32)))])) t
            refine XS.icmpNo X123.here hx rfl (hb hby at_145) rfl (tlt c125).2.2.2 ?_
            refine XS.aload X123.here hx rfl (hb hby at_148) rfl rfl ?_
            refine XS.aload X123.here hx rfl (hb hby at_150) rfl rfl ?_
            show Steps p.tables e below (T123.setTop (mkF m 152 #[.val (.int i0), .val (.int i1), .val (.int i2), .val (.int i3), .val (.int i4), .val (.int (0 : Int32)), .val (.int (i1 &&& (3 : Int32))), .val (.int v5_s0), .val (.ref b7), .val (.ref b18), .val (.ref b31), .val (.ref b46), .val (.ref b73), .unset, .unset, .unset, .unset] [(.ref b31), (.ref b73)])) t
            exact k)
          obtain ⟨cq129, kq129, q129a, q129b, q129c⟩ := isOf hZ rfl F126
          obtain ⟨_, _, ⟨T129, L129, k129, n129⟩, -, X129, ⟨Lc129, hQ129, l129, y129, z129⟩, st129⟩ := X123.virtualBack hx (y := (⟨"java/util/ArrayList", "add", "(Ljava/lang/Object;)Z"⟩ : MethodName)) (z := (⟨"java/util/ArrayList", "add", "(Ljava/lang/Object;)Z"⟩ : MethodName)) hown (mvT hZ (hw _ (List.mem_of_getElem? (i := 51) rfl))) (mvT hZ (hw _ (List.mem_of_getElem? (i := 52) rfl))) (notFace_of_selects (args := #[]) (mvT hZ (hw _ (List.mem_of_getElem? (i := 54) rfl)))) (mvT hZ (hw _ (List.mem_of_getElem? (i := 54) rfl))) (mvT hZ (hw _ (List.mem_of_getElem? (i := 53) rfl))) (by decide) (backOf (W := 0) (rm8n1 l Z a0 hw [] b73 b31 b9_4_3_15_123 k9_4_3_15_123 b31 ((0 : Int32) + (1 : Int32)) T123.heap n0 (Nat.le_trans Z0 K123.1) F123_0 F123_1 F123_3 F123_4 F127 F123_2 F126 g_b73 (Ne.symm ne_b73_b9_4_3_15_123) g_b9_4_3_15_123) hZ (hw _ (List.mem_of_getElem? (i := 55) rfl)) (hw _ (List.mem_of_getElem? (i := 29) rfl)) (by decide) (by decide)) q129a q129c (g := (mkF m 152 #[.val (.int i0), .val (.int i1), .val (.int i2), .val (.int i3), .val (.int i4), .val (.int (0 : Int32)), .val (.int (i1 &&& (3 : Int32))), .val (.int v5_s0), .val (.ref b7), .val (.ref b18), .val (.ref b31), .val (.ref b46), .val (.ref b73), .unset, .unset, .unset, .unset] [(.ref b31), (.ref b73)])) rfl (by rw [hml]; rfl) (Steps.refl _) (argsL := [(.ref b31)]) (rest := []) (lenOf pd_12 rfl) rfl (by show 2 * 0 + _ ≤ _; exact Nat.le_of_eq rfl) (hb hby at_152) (fun _ _ => ⟨rfl, rfl, (by decide : 6 + 0 ≤ _), (by decide : 34 + 0 ≤ _)⟩)
          dsimp only [Pt.U, Pt.locs, Pt.cells, Pt.slots] at X129 l129 y129 z129 st129 hQ129
          subst l129 y129 z129
          obtain ⟨rfl, N129q, Kc129, F129_0, F129_1, F129_2, F129_3⟩ := hQ129
          have N129 := Fr.app N123 N129q
          have K129 : Keep h0 T129.heap [] := Keep.trans K123 Kc129 (allS (Or.inr o_b73) (allS (Or.inr o_b9_4_3_15_123) all0))
          have P129 : own_Go p e below S0 (T129.setTop (mkF m 155 #[.val (.int i0), .val (.int i1), .val (.int i2), .val (.int i3), .val (.int i4), .val (.int (0 : Int32)), .val (.int (i1 &&& (3 : Int32))), .val (.int v5_s0), .val (.ref b7), .val (.ref b18), .val (.ref b31), .val (.ref b46), .val (.ref b73), .unset, .unset, .unset, .unset] [(.int (1 : Int32))])) := fun t k => P128 t (st129.trans k)
          have P130 : own_Go p e below S0 (T129.setTop (mkF m 159 #[.val (.int i0), .val (.int i1), .val (.int i2), .val (.int i3), .val (.int i4), .val (.int (0 : Int32)), .val (.int (i1 &&& (3 : Int32))), .val (.int v5_s0), .val (.ref b7), .val (.ref b18), .val (.ref b31), .val (.ref b46), .val (.ref b73), .unset, .unset, .unset, .unset] [(.int (2 : Int32)), (.int (i1 &&& (3 : Int32)))])) := fun t k => P129 t (by
            show Steps p.tables e below (T129.setTop (mkF m 155 #[.val (.int i0), .val (.int i1), .val (.int i2), .val (.int i3), .val (.int i4), .val (.int (0 : Int32)), .val (.int (i1 &&& (3 : Int32))), .val (.int v5_s0), .val (.ref b7), .val (.ref b18), .val (.ref b31), .val (.ref b46), .val (.ref b73), .unset, .unset, .unset, .unset] [(.int (1 : Int32))])) t
            refine XS.pop X129.here hx rfl (hb hby at_155) rfl rfl ?_
            refine XS.iload X129.here hx rfl (hb hby at_156) rfl ?_
            refine XS.iconst X129.here hx rfl (hb hby at_158) ?_
            show Steps p.tables e below (T129.setTop (mkF m 159 #[.val (.int i0), .val (.int i1), .val (.int i2), .val (.int i3), .val (.int i4), .val (.int (0 : Int32)), .val (.int (i1 &&& (3 : Int32))), .val (.int v5_s0), .val (.ref b7), .val (.ref b18), .val (.ref b31), .val (.ref b46), .val (.ref b73), .unset, .unset, .unset, .unset] [(.int (2 : Int32)), (.int (i1 &&& (3 : Int32)))])) t
            exact k)
          by_cases c131 : (2 : Int32) < (i1 &&& (3 : Int32))
          · skip
            have F132 : Exa Z T129.heap b73 "java/util/ArrayList" := F126.keep Kc129
            have F133 : Exa Z T129.heap b31 "com/example/penelope/penelope/program/Move" := F127.keep Kc129
            have P134 : own_Go p e below S0 (T129.setTop (mkF m 166 #[.val (.int i0), .val (.int i1), .val (.int i2), .val (.int i3), .val (.int i4), .val (.int (0 : Int32)), .val (.int (i1 &&& (3 : Int32))), .val (.int v5_s0), .val (.ref b7), .val (.ref b18), .val (.ref b31), .val (.ref b46), .val (.ref b73), .unset, .unset, .unset, .unset] [(.ref b31), (.ref b73)])) := fun t k => P130 t (by
              show Steps p.tables e below (T129.setTop (mkF m 159 #[.val (.int i0), .val (.int i1), .val (.int i2), .val (.int i3), .val (.int i4), .val (.int (0 : Int32)), .val (.int (i1 &&& (3 : Int32))), .val (.int v5_s0), .val (.ref b7), .val (.ref b18), .val (.ref b31), .val (.ref b46), .val (.ref b73), .unset, .unset, .unset, .unset] [(.int (2 : Int32)), (.int (i1 &&& (3 : Int32)))])) t
              refine XS.icmpNo X129.here hx rfl (hb hby at_159) rfl (tlt c131).2.2.2 ?_
              refine XS.aload X129.here hx rfl (hb hby at_162) rfl rfl ?_
              refine XS.aload X129.here hx rfl (hb hby at_164) rfl rfl ?_
              show Steps p.tables e below (T129.setTop (mkF m 166 #[.val (.int i0), .val (.int i1), .val (.int i2), .val (.int i3), .val (.int i4), .val (.int (0 : Int32)), .val (.int (i1 &&& (3 : Int32))), .val (.int v5_s0), .val (.ref b7), .val (.ref b18), .val (.ref b31), .val (.ref b46), .val (.ref b73), .unset, .unset, .unset, .unset] [(.ref b31), (.ref b73)])) t
              exact k)
            obtain ⟨cq135, kq135, q135a, q135b, q135c⟩ := isOf hZ rfl F132
            obtain ⟨_, _, ⟨T135, L135, k135, n135⟩, -, X135, ⟨Lc135, hQ135, l135, y135, z135⟩, st135⟩ := X129.virtualBack hx (y := (⟨"java/util/ArrayList", "add", "(Ljava/lang/Object;)Z"⟩ : MethodName)) (z := (⟨"java/util/ArrayList", "add", "(Ljava/lang/Object;)Z"⟩ : MethodName)) hown (mvT hZ (hw _ (List.mem_of_getElem? (i := 51) rfl))) (mvT hZ (hw _ (List.mem_of_getElem? (i := 52) rfl))) (notFace_of_selects (args := #[]) (mvT hZ (hw _ (List.mem_of_getElem? (i := 54) rfl)))) (mvT hZ (hw _ (List.mem_of_getElem? (i := 54) rfl))) (mvT hZ (hw _ (List.mem_of_getElem? (i := 53) rfl))) (by decide) (backOf (W := 0) (rm8n2 l Z a0 hw [] b73 b31 b9_4_3_15_123 k9_4_3_15_123 b31 b31 (((0 : Int32) + (1 : Int32)) + (1 : Int32)) T129.heap n0 (Nat.le_trans Z0 K129.1) F129_3 F129_0 F129_1 F123_4 F133 F129_2 F132 g_b73 (Ne.symm ne_b73_b9_4_3_15_123) g_b9_4_3_15_123) hZ (hw _ (List.mem_of_getElem? (i := 55) rfl)) (hw _ (List.mem_of_getElem? (i := 29) rfl)) (by decide) (by decide)) q135a q135c (g := (mkF m 166 #[.val (.int i0), .val (.int i1), .val (.int i2), .val (.int i3), .val (.int i4), .val (.int (0 : Int32)), .val (.int (i1 &&& (3 : Int32))), .val (.int v5_s0), .val (.ref b7), .val (.ref b18), .val (.ref b31), .val (.ref b46), .val (.ref b73), .unset, .unset, .unset, .unset] [(.ref b31), (.ref b73)])) rfl (by rw [hml]; rfl) (Steps.refl _) (argsL := [(.ref b31)]) (rest := []) (lenOf pd_12 rfl) rfl (by show 2 * 0 + _ ≤ _; exact Nat.le_of_eq rfl) (hb hby at_166) (fun _ _ => ⟨rfl, rfl, (by decide : 6 + 0 ≤ _), (by decide : 34 + 0 ≤ _)⟩)
            dsimp only [Pt.U, Pt.locs, Pt.cells, Pt.slots] at X135 l135 y135 z135 st135 hQ135
            subst l135 y135 z135
            obtain ⟨rfl, N135q, Kc135, F135_0, F135_1, F135_2, F135_3⟩ := hQ135
            have N135 := Fr.app N129 N135q
            have K135 : Keep h0 T135.heap [] := Keep.trans K129 Kc135 (allS (Or.inr o_b73) (allS (Or.inr o_b9_4_3_15_123) all0))
            have P135 : own_Go p e below S0 (T135.setTop (mkF m 169 #[.val (.int i0), .val (.int i1), .val (.int i2), .val (.int i3), .val (.int i4), .val (.int (0 : Int32)), .val (.int (i1 &&& (3 : Int32))), .val (.int v5_s0), .val (.ref b7), .val (.ref b18), .val (.ref b31), .val (.ref b46), .val (.ref b73), .unset, .unset, .unset, .unset] [(.int (1 : Int32))])) := fun t k => P134 t (st135.trans k)
            have P136 : own_Go p e below S0 (T135.setTop (mkF m 170 #[.val (.int i0), .val (.int i1), .val (.int i2), .val (.int i3), .val (.int i4), .val (.int (0 : Int32)), .val (.int (i1 &&& (3 : Int32))), .val (.int v5_s0), .val (.ref b7), .val (.ref b18), .val (.ref b31), .val (.ref b46), .val (.ref b73), .unset, .unset, .unset, .unset] [])) := fun t k => P135 t (by
              show Steps p.tables e below (T135.setTop (mkF m 169 #[.val (.int i0), .val (.int i1), .val (.int i2), .val (.int i3), .val (.int i4), .val (.int (0 : Int32)), .val (.int (i1 &&& (3 : Int32))), .val (.int v5_s0), .val (.ref b7), .val (.ref b18), .val (.ref b31), .val (.ref b46), .val (.ref b73), .unset, .unset, .unset, .unset] [(.int (1 : Int32))])) t
              refine XS.pop X135.here hx rfl (hb hby at_169) rfl rfl ?_
              show Steps p.tables e below (T135.setTop (mkF m 170 #[.val (.int i0), .val (.int i1), .val (.int i2), .val (.int i3), .val (.int i4), .val (.int (0 : Int32)), .val (.int (i1 &&& (3 : Int32))), .val (.int v5_s0), .val (.ref b7), .val (.ref b18), .val (.ref b31), .val (.ref b46), .val (.ref b73), .unset, .unset, .unset, .unset] [])) t
              exact k)
            have F137 : Sta Z T123.heap "java/util/ArrayList" "DEFAULTCAPACITY_EMPTY_ELEMENTDATA" "[Ljava/lang/Object;" (.ref z0_DEFAULTCAPACITY_EMPTY_ELEMENTDATA) := own_staK F78 Kc123 (allS (own_plE F115) all0)
            have F138 : Sta Z T129.heap "java/util/ArrayList" "DEFAULTCAPACITY_EMPTY_ELEMENTDATA" "[Ljava/lang/Object;" (.ref z0_DEFAULTCAPACITY_EMPTY_ELEMENTDATA) := own_staK F137 Kc129 (allS (own_plE F126) (allS (own_plA F123_3) all0))
            have F139 : Sta Z T135.heap "java/util/ArrayList" "DEFAULTCAPACITY_EMPTY_ELEMENTDATA" "[Ljava/lang/Object;" (.ref z0_DEFAULTCAPACITY_EMPTY_ELEMENTDATA) := own_staK F138 Kc135 (allS (own_plE F132) (allS (own_plA F129_1) all0))
            have F140 : Arv Z T123.heap z0_DEFAULTCAPACITY_EMPTY_ELEMENTDATA qk0 (.object "java/lang/Object") (0 : Int32) [] .null := F80.keep Kc123 (ninS ne_z0_DEFAULTCAPACITY_EMPTY_ELEMENTDATA_b73 nin0)
            have F141 : Arv Z T129.heap z0_DEFAULTCAPACITY_EMPTY_ELEMENTDATA qk0 (.object "java/lang/Object") (0 : Int32) [] .null := F140.keep Kc129 (ninS ne_z0_DEFAULTCAPACITY_EMPTY_ELEMENTDATA_b73 (ninS ne_z0_DEFAULTCAPACITY_EMPTY_ELEMENTDATA_b9_4_3_15_123 nin0))
            have F142 : Arv Z T135.heap z0_DEFAULTCAPACITY_EMPTY_ELEMENTDATA qk0 (.object "java/lang/Object") (0 : Int32) [] .null := F141.keep Kc135 (ninS ne_z0_DEFAULTCAPACITY_EMPTY_ELEMENTDATA_b73 (ninS ne_z0_DEFAULTCAPACITY_EMPTY_ELEMENTDATA_b9_4_3_15_123 nin0))
            have F143 : Sta Z T123.heap "java/util/ImmutableCollections" "EMPTY_LIST" "Ljava/util/ImmutableCollections$ListN;" (.ref z0_EMPTY_LIST) := own_staK F90 Kc123 (allS (own_plE F115) all0)
            have F144 : Sta Z T129.heap "java/util/ImmutableCollections" "EMPTY_LIST" "Ljava/util/ImmutableCollections$ListN;" (.ref z0_EMPTY_LIST) := own_staK F143 Kc129 (allS (own_plE F126) (allS (own_plA F123_3) all0))
            have F145 : Sta Z T135.heap "java/util/ImmutableCollections" "EMPTY_LIST" "Ljava/util/ImmutableCollections$ListN;" (.ref z0_EMPTY_LIST) := own_staK F144 Kc135 (allS (own_plE F132) (allS (own_plA F129_1) all0))
            have F146 : Fld Z T123.heap z0_EMPTY_LIST "java/util/ImmutableCollections$ListN" "elements" "[Ljava/lang/Object;" (.ref qe) := F92.keep Kc123 (ninS ne_z0_EMPTY_LIST_b73 nin0)
            have F147 : Fld Z T129.heap z0_EMPTY_LIST "java/util/ImmutableCollections$ListN" "elements" "[Ljava/lang/Object;" (.ref qe) := F146.keep Kc129 (ninS ne_z0_EMPTY_LIST_b73 (ninS ne_z0_EMPTY_LIST_b9_4_3_15_123 nin0))
            have F148 : Fld Z T135.heap z0_EMPTY_LIST "java/util/ImmutableCollections$ListN" "elements" "[Ljava/lang/Object;" (.ref qe) := F147.keep Kc135 (ninS ne_z0_EMPTY_LIST_b73 (ninS ne_z0_EMPTY_LIST_b9_4_3_15_123 nin0))
            have F149 : Arv Z T123.heap qe qke (.object "java/lang/Object") (0 : Int32) [] .null := F94.keep Kc123 (ninS ne_qe_b73 nin0)
            have F150 : Arv Z T129.heap qe qke (.object "java/lang/Object") (0 : Int32) [] .null := F149.keep Kc129 (ninS ne_qe_b73 (ninS ne_qe_b9_4_3_15_123 nin0))
            have F151 : Arv Z T135.heap qe qke (.object "java/lang/Object") (0 : Int32) [] .null := F150.keep Kc135 (ninS ne_qe_b73 (ninS ne_qe_b9_4_3_15_123 nin0))
            have F152 : Exa Z T123.heap z0_EMPTY_LIST "java/util/ImmutableCollections$ListN" := F104.keep Kc123
            have F153 : Exa Z T129.heap z0_EMPTY_LIST "java/util/ImmutableCollections$ListN" := F152.keep Kc129
            have F154 : Exa Z T135.heap z0_EMPTY_LIST "java/util/ImmutableCollections$ListN" := F153.keep Kc135
            have F155 : Exa Z T123.heap b46 "java/util/ArrayList" := F106.keep Kc123
            have F156 : Exa Z T129.heap b46 "java/util/ArrayList" := F155.keep Kc129
            have F157 : Exa Z T135.heap b46 "java/util/ArrayList" := F156.keep Kc135
            have F158 : Fld Z T123.heap b46 "java/util/ArrayList" "elementData" "[Ljava/lang/Object;" (.ref z0_DEFAULTCAPACITY_EMPTY_ELEMENTDATA) := F108.keep Kc123 (ninS ne_b46_b73 nin0)
            have F159 : Fld Z T129.heap b46 "java/util/ArrayList" "elementData" "[Ljava/lang/Object;" (.ref z0_DEFAULTCAPACITY_EMPTY_ELEMENTDATA) := F158.keep Kc129 (ninS ne_b46_b73 (ninS ne_b46_b9_4_3_15_123 nin0))
            have F160 : Fld Z T135.heap b46 "java/util/ArrayList" "elementData" "[Ljava/lang/Object;" (.ref z0_DEFAULTCAPACITY_EMPTY_ELEMENTDATA) := F159.keep Kc135 (ninS ne_b46_b73 (ninS ne_b46_b9_4_3_15_123 nin0))
            have F161 : Fld Z T123.heap b46 "java/util/ArrayList" "size" "I" (.int (0 : Int32)) := F110.keep Kc123 (ninS ne_b46_b73 nin0)
            have F162 : Fld Z T129.heap b46 "java/util/ArrayList" "size" "I" (.int (0 : Int32)) := F161.keep Kc129 (ninS ne_b46_b73 (ninS ne_b46_b9_4_3_15_123 nin0))
            have F163 : Fld Z T135.heap b46 "java/util/ArrayList" "size" "I" (.int (0 : Int32)) := F162.keep Kc135 (ninS ne_b46_b73 (ninS ne_b46_b9_4_3_15_123 nin0))
            have F164 : Fld Z T123.heap b46 "java/util/AbstractList" "modCount" "I" (.int (0 : Int32)) := F112.keep Kc123 (ninS ne_b46_b73 nin0)
            have F165 : Fld Z T129.heap b46 "java/util/AbstractList" "modCount" "I" (.int (0 : Int32)) := F164.keep Kc129 (ninS ne_b46_b73 (ninS ne_b46_b9_4_3_15_123 nin0))
            have F166 : Fld Z T135.heap b46 "java/util/AbstractList" "modCount" "I" (.int (0 : Int32)) := F165.keep Kc135 (ninS ne_b46_b73 (ninS ne_b46_b9_4_3_15_123 nin0))
            exact ⟨T135, _, T135.heap, X135, rfl, N135, K135, F139, F142, F145, F148, F151, F154, F157, F160, F163, F166, P136⟩
          · skip
            have P167 : own_Go p e below S0 (T129.setTop (mkF m 170 #[.val (.int i0), .val (.int i1), .val (.int i2), .val (.int i3), .val (.int i4), .val (.int (0 : Int32)), .val (.int (i1 &&& (3 : Int32))), .val (.int v5_s0), .val (.ref b7), .val (.ref b18), .val (.ref b31), .val (.ref b46), .val (.ref b73), .unset, .unset, .unset, .unset] [])) := fun t k => P130 t (by
              show Steps p.tables e below (T129.setTop (mkF m 159 #[.val (.int i0), .val (.int i1), .val (.int i2), .val (.int i3), .val (.int i4), .val (.int (0 : Int32)), .val (.int (i1 &&& (3 : Int32))), .val (.int v5_s0), .val (.ref b7), .val (.ref b18), .val (.ref b31), .val (.ref b46), .val (.ref b73), .unset, .unset, .unset, .unset] [(.int (2 : Int32)), (.int (i1 &&& (3 : Int32)))])) t
              refine XS.icmpYes X129.here hx rfl (pc0 := 159) (pc' := 170) rfl (hb hby at_159) rfl (flt c131).2.2.2 (by decide) (by decide) ?_
              show Steps p.tables e below (T129.setTop (mkF m 170 #[.val (.int i0), .val (.int i1), .val (.int i2), .val (.int i3), .val (.int i4), .val (.int (0 : Int32)), .val (.int (i1 &&& (3 : Int32))), .val (.int v5_s0), .val (.ref b7), .val (.ref b18), .val (.ref b31), .val (.ref b46), .val (.ref b73), .unset, .unset, .unset, .unset] [])) t
              exact k)
            have F168 : Sta Z T123.heap "java/util/ArrayList" "DEFAULTCAPACITY_EMPTY_ELEMENTDATA" "[Ljava/lang/Object;" (.ref z0_DEFAULTCAPACITY_EMPTY_ELEMENTDATA) := own_staK F78 Kc123 (allS (own_plE F115) all0)
            have F169 : Sta Z T129.heap "java/util/ArrayList" "DEFAULTCAPACITY_EMPTY_ELEMENTDATA" "[Ljava/lang/Object;" (.ref z0_DEFAULTCAPACITY_EMPTY_ELEMENTDATA) := own_staK F168 Kc129 (allS (own_plE F126) (allS (own_plA F123_3) all0))
            have F170 : Arv Z T123.heap z0_DEFAULTCAPACITY_EMPTY_ELEMENTDATA qk0 (.object "java/lang/Object") (0 : Int32) [] .null := F80.keep Kc123 (ninS ne_z0_DEFAULTCAPACITY_EMPTY_ELEMENTDATA_b73 nin0)
            have F171 : Arv Z T129.heap z0_DEFAULTCAPACITY_EMPTY_ELEMENTDATA qk0 (.object "java/lang/Object") (0 : Int32) [] .null := F170.keep Kc129 (ninS ne_z0_DEFAULTCAPACITY_EMPTY_ELEMENTDATA_b73 (ninS ne_z0_DEFAULTCAPACITY_EMPTY_ELEMENTDATA_b9_4_3_15_123 nin0))
            have F172 : Sta Z T123.heap "java/util/ImmutableCollections" "EMPTY_LIST" "Ljava/util/ImmutableCollections$ListN;" (.ref z0_EMPTY_LIST) := own_staK F90 Kc123 (allS (own_plE F115) all0)
            have F173 : Sta Z T129.heap "java/util/ImmutableCollections" "EMPTY_LIST" "Ljava/util/ImmutableCollections$ListN;" (.ref z0_EMPTY_LIST) := own_staK F172 Kc129 (allS (own_plE F126) (allS (own_plA F123_3) all0))
            have F174 : Fld Z T123.heap z0_EMPTY_LIST "java/util/ImmutableCollections$ListN" "elements" "[Ljava/lang/Object;" (.ref qe) := F92.keep Kc123 (ninS ne_z0_EMPTY_LIST_b73 nin0)
            have F175 : Fld Z T129.heap z0_EMPTY_LIST "java/util/ImmutableCollections$ListN" "elements" "[Ljava/lang/Object;" (.ref qe) := F174.keep Kc129 (ninS ne_z0_EMPTY_LIST_b73 (ninS ne_z0_EMPTY_LIST_b9_4_3_15_123 nin0))
            have F176 : Arv Z T123.heap qe qke (.object "java/lang/Object") (0 : Int32) [] .null := F94.keep Kc123 (ninS ne_qe_b73 nin0)
            have F177 : Arv Z T129.heap qe qke (.object "java/lang/Object") (0 : Int32) [] .null := F176.keep Kc129 (ninS ne_qe_b73 (ninS ne_qe_b9_4_3_15_123 nin0))
            have F178 : Exa Z T123.heap z0_EMPTY_LIST "java/util/ImmutableCollections$ListN" := F104.keep Kc123
            have F179 : Exa Z T129.heap z0_EMPTY_LIST "java/util/ImmutableCollections$ListN" := F178.keep Kc129
            have F180 : Exa Z T123.heap b46 "java/util/ArrayList" := F106.keep Kc123
            have F181 : Exa Z T129.heap b46 "java/util/ArrayList" := F180.keep Kc129
            have F182 : Fld Z T123.heap b46 "java/util/ArrayList" "elementData" "[Ljava/lang/Object;" (.ref z0_DEFAULTCAPACITY_EMPTY_ELEMENTDATA) := F108.keep Kc123 (ninS ne_b46_b73 nin0)
            have F183 : Fld Z T129.heap b46 "java/util/ArrayList" "elementData" "[Ljava/lang/Object;" (.ref z0_DEFAULTCAPACITY_EMPTY_ELEMENTDATA) := F182.keep Kc129 (ninS ne_b46_b73 (ninS ne_b46_b9_4_3_15_123 nin0))
            have F184 : Fld Z T123.heap b46 "java/util/ArrayList" "size" "I" (.int (0 : Int32)) := F110.keep Kc123 (ninS ne_b46_b73 nin0)
            have F185 : Fld Z T129.heap b46 "java/util/ArrayList" "size" "I" (.int (0 : Int32)) := F184.keep Kc129 (ninS ne_b46_b73 (ninS ne_b46_b9_4_3_15_123 nin0))
            have F186 : Fld Z T123.heap b46 "java/util/AbstractList" "modCount" "I" (.int (0 : Int32)) := F112.keep Kc123 (ninS ne_b46_b73 nin0)
            have F187 : Fld Z T129.heap b46 "java/util/AbstractList" "modCount" "I" (.int (0 : Int32)) := F186.keep Kc129 (ninS ne_b46_b73 (ninS ne_b46_b9_4_3_15_123 nin0))
            exact ⟨T129, _, T129.heap, X129, rfl, N129, K129, F169, F171, F173, F175, F177, F179, F181, F183, F185, F187, P167⟩
        · skip
          have c188 : ¬ ((2 : Int32) < (i1 &&& (3 : Int32))) := own_n12 c125
          have P189 : own_Go p e below S0 (T123.setTop (mkF m 170 #[.val (.int i0), .val (.int i1), .val (.int i2), .val (.int i3), .val (.int i4), .val (.int (0 : Int32)), .val (.int (i1 &&& (3 : Int32))), .val (.int v5_s0), .val (.ref b7), .val (.ref b18), .val (.ref b31), .val (.ref b46), .val (.ref b73), .unset, .unset, .unset, .unset] [])) := fun t k => P124 t (by
            show Steps p.tables e below (T123.setTop (mkF m 145 #[.val (.int i0), .val (.int i1), .val (.int i2), .val (.int i3), .val (.int i4), .val (.int (0 : Int32)), .val (.int (i1 &&& (3 : Int32))), .val (.int v5_s0), .val (.ref b7), .val (.ref b18), .val (.ref b31), .val (.ref b46), .val (.ref b73), .unset, .unset, .unset, .unset] [(.int (1 : Int32)), (.int (i1 &&& (3 : Int32)))])) t
            refine XS.icmpYes X123.here hx rfl (pc0 := 145) (pc' := 156) rfl (hb hby at_145) rfl (flt c125).2.2.2 (by decide) (by decide) ?_
            refine XS.iload X123.here hx rfl (hb hby at_156) rfl ?_
            refine XS.iconst X123.here hx rfl (hb hby at_158) ?_
            refine XS.icmpYes X123.here hx rfl (pc0 := 159) (pc' := 170) rfl (hb hby at_159) rfl (flt c188).2.2.2 (by decide) (by decide) ?_
            show Steps p.tables e below (T123.setTop (mkF m 170 #[.val (.int i0), .val (.int i1), .val (.int i2), .val (.int i3), .val (.int i4), .val (.int (0 : Int32)), .val (.int (i1 &&& (3 : Int32))), .val (.int v5_s0), .val (.ref b7), .val (.ref b18), .val (.ref b31), .val (.ref b46), .val (.ref b73), .unset, .unset, .unset, .unset] [])) t
            exact k)
          have F190 : Sta Z T123.heap "java/util/ArrayList" "DEFAULTCAPACITY_EMPTY_ELEMENTDATA" "[Ljava/lang/Object;" (.ref z0_DEFAULTCAPACITY_EMPTY_ELEMENTDATA) := own_staK F78 Kc123 (allS (own_plE F115) all0)
          have F191 : Arv Z T123.heap z0_DEFAULTCAPACITY_EMPTY_ELEMENTDATA qk0 (.object "java/lang/Object") (0 : Int32) [] .null := F80.keep Kc123 (ninS ne_z0_DEFAULTCAPACITY_EMPTY_ELEMENTDATA_b73 nin0)
          have F192 : Sta Z T123.heap "java/util/ImmutableCollections" "EMPTY_LIST" "Ljava/util/ImmutableCollections$ListN;" (.ref z0_EMPTY_LIST) := own_staK F90 Kc123 (allS (own_plE F115) all0)
          have F193 : Fld Z T123.heap z0_EMPTY_LIST "java/util/ImmutableCollections$ListN" "elements" "[Ljava/lang/Object;" (.ref qe) := F92.keep Kc123 (ninS ne_z0_EMPTY_LIST_b73 nin0)
          have F194 : Arv Z T123.heap qe qke (.object "java/lang/Object") (0 : Int32) [] .null := F94.keep Kc123 (ninS ne_qe_b73 nin0)
          have F195 : Exa Z T123.heap z0_EMPTY_LIST "java/util/ImmutableCollections$ListN" := F104.keep Kc123
          have F196 : Exa Z T123.heap b46 "java/util/ArrayList" := F106.keep Kc123
          have F197 : Fld Z T123.heap b46 "java/util/ArrayList" "elementData" "[Ljava/lang/Object;" (.ref z0_DEFAULTCAPACITY_EMPTY_ELEMENTDATA) := F108.keep Kc123 (ninS ne_b46_b73 nin0)
          have F198 : Fld Z T123.heap b46 "java/util/ArrayList" "size" "I" (.int (0 : Int32)) := F110.keep Kc123 (ninS ne_b46_b73 nin0)
          have F199 : Fld Z T123.heap b46 "java/util/AbstractList" "modCount" "I" (.int (0 : Int32)) := F112.keep Kc123 (ninS ne_b46_b73 nin0)
          exact ⟨T123, _, T123.heap, X123, rfl, N123, K123, F190, F191, F192, F193, F194, F195, F196, F197, F198, F199, P189⟩
      · skip
        have c200 : ¬ ((1 : Int32) < (i1 &&& (3 : Int32))) := own_n01 c114
        have c201 : ¬ ((2 : Int32) < (i1 &&& (3 : Int32))) := own_n12 c200
        have P202 : own_Go p e below S0 (T77.setTop (mkF m 170 #[.val (.int i0), .val (.int i1), .val (.int i2), .val (.int i3), .val (.int i4), .val (.int (0 : Int32)), .val (.int (i1 &&& (3 : Int32))), .val (.int v5_s0), .val (.ref b7), .val (.ref b18), .val (.ref b31), .val (.ref b46), .val (.ref b73), .unset, .unset, .unset, .unset] [])) := fun t k => P113 t (by
          show Steps p.tables e below (T77.setTop (mkF m 131 #[.val (.int i0), .val (.int i1), .val (.int i2), .val (.int i3), .val (.int i4), .val (.int (0 : Int32)), .val (.int (i1 &&& (3 : Int32))), .val (.int v5_s0), .val (.ref b7), .val (.ref b18), .val (.ref b31), .val (.ref b46), .val (.ref b73), .unset, .unset, .unset, .unset] [(.int (i1 &&& (3 : Int32)))])) t
          refine XS.ifYes X77.here hx rfl (pc0 := 131) (pc' := 142) rfl (hb hby at_131) rfl ((if0 _ _).trans (flt c114).2.2.2) (by decide) (by decide) ?_
          refine XS.iload X77.here hx rfl (hb hby at_142) rfl ?_
          refine XS.iconst X77.here hx rfl (hb hby at_144) ?_
          refine XS.icmpYes X77.here hx rfl (pc0 := 145) (pc' := 156) rfl (hb hby at_145) rfl (flt c200).2.2.2 (by decide) (by decide) ?_
          refine XS.iload X77.here hx rfl (hb hby at_156) rfl ?_
          refine XS.iconst X77.here hx rfl (hb hby at_158) ?_
          show Steps p.tables e below (T77.setTop (mkF m 159 #[.val (.int i0), .val (.int i1), .val (.int i2), .val (.int i3), .val (.int i4), .val (.int (0 : Int32)), .val (.int (i1 &&& (3 : Int32))), .val (.int v5_s0), .val (.ref b7), .val (.ref b18), .val (.ref b31), .val (.ref b46), .val (.ref b73), .unset, .unset, .unset, .unset] [(.int (2 : Int32)), (.int (i1 &&& (3 : Int32)))])) t
          refine XS.icmpYes X77.here hx rfl (pc0 := 159) (pc' := 170) rfl (hb hby at_159) rfl (flt c201).2.2.2 (by decide) (by decide) ?_
          show Steps p.tables e below (T77.setTop (mkF m 170 #[.val (.int i0), .val (.int i1), .val (.int i2), .val (.int i3), .val (.int i4), .val (.int (0 : Int32)), .val (.int (i1 &&& (3 : Int32))), .val (.int v5_s0), .val (.ref b7), .val (.ref b18), .val (.ref b31), .val (.ref b46), .val (.ref b73), .unset, .unset, .unset, .unset] [])) t
          exact k)
        exact ⟨T77, _, T77.heap, (X77.more (by decide) (by decide)), rfl, N77, K77, F78, F80, F90, F92, F94, F104, F106, F108, F110, F112, P202⟩
    obtain ⟨T214, h214, X214, e214, E214, A214, D214, -, st214⟩ := newO X203 hx hZ hown (hw _ (List.mem_of_getElem? (i := 82) rfl)) (hw _ (List.mem_of_getElem? (i := 83) rfl)) (hw _ (List.mem_of_getElem? (i := 84) rfl)) e203 (g := (mkF m 170 #[.val (.int i0), .val (.int i1), .val (.int i2), .val (.int i3), .val (.int i4), .val (.int (0 : Int32)), .val (.int (i1 &&& (3 : Int32))), .val (.int v5_s0), .val (.ref b7), .val (.ref b18), .val (.ref b31), .val (.ref b46), .val (.ref b73), .unset, .unset, .unset, .unset] [])) rfl (hb hby at_170) (by decide) (by decide)
    obtain ⟨b214, g214⟩ : ∃ z, z = h203.size := ⟨_, rfl⟩
    rw [← g214] at A214 D214 st214
    have sz_b214 : h203.size ≤ b214 := Nat.le_of_eq g214.symm
    have ne_z0_DEFAULTCAPACITY_EMPTY_ELEMENTDATA_b214 : z0_DEFAULTCAPACITY_EMPTY_ELEMENTDATA ≠ b214 := Nat.ne_of_lt (Nat.lt_of_lt_of_le F205.lt sz_b214)
    have ne_z0_EMPTY_LIST_b214 : z0_EMPTY_LIST ≠ b214 := Nat.ne_of_lt (Nat.lt_of_lt_of_le F207.lt sz_b214)
    have ne_qe_b214 : qe ≠ b214 := Nat.ne_of_lt (Nat.lt_of_lt_of_le F208.lt sz_b214)
    have ne_b46_b214 : b46 ≠ b214 := Nat.ne_of_lt (Nat.lt_of_lt_of_le F210.lt sz_b214)
    have g_b214 : n0 ≤ b214 := Nat.le_trans (Nat.le_trans Z0 K203.1) sz_b214
    have o_b214 : h0.size ≤ b214 := Nat.le_trans K203.1 sz_b214
    have K214 : Keep h0 h214 [] := K203.ext E214
    have F214_moves : Fld Z h214 b214 "com/example/penelope/penelope/program/Expansion" "moves" "Ljava/util/List;" .null := D214 (Or.inr (hw _ (List.mem_of_getElem? (i := 99) rfl))) (ty := (.object "java/util/List")) (by decide)
    have F214_movesAfterClaim : Fld Z h214 b214 "com/example/penelope/penelope/program/Expansion" "movesAfterClaim" "Ljava/util/List;" .null := D214 (Or.inr (hw _ (List.mem_of_getElem? (i := 101) rfl))) (ty := (.object "java/util/List")) (by decide)
    have F214_faultAfterClaim : Fld Z h214 b214 "com/example/penelope/penelope/program/Expansion" "faultAfterClaim" "Lcom/example/penelope/penelope/program/Fault;" .null := D214 (Or.inr (hw _ (List.mem_of_getElem? (i := 103) rfl))) (ty := (.object "com/example/penelope/penelope/program/Fault")) (by decide)
    have F214_transientState : Fld Z h214 b214 "com/example/penelope/penelope/program/Expansion" "transientState" "Z" (.int (0 : Int32)) := D214 (Or.inr (hw _ (List.mem_of_getElem? (i := 105) rfl))) (ty := .boolean) (by decide)
    have P214 : own_Go p e below S0 (T214.setTop (mkF m 173 #[.val (.int i0), .val (.int i1), .val (.int i2), .val (.int i3), .val (.int i4), .val (.int (0 : Int32)), .val (.int (i1 &&& (3 : Int32))), .val (.int v5_s0), .val (.ref b7), .val (.ref b18), .val (.ref b31), .val (.ref b46), .val (.ref b73), .unset, .unset, .unset, .unset] [(.ref b214)])) := fun t k => P203 t (st214 _ k)
    have F215 : Sta Z h214 "java/util/ImmutableCollections" "EMPTY_LIST" "Ljava/util/ImmutableCollections$ListN;" (.ref z0_EMPTY_LIST) := F206.ext E214
    have P216 : own_Go p e below S0 (T214.setTop (mkF m 178 #[.val (.int i0), .val (.int i1), .val (.int i2), .val (.int i3), .val (.int i4), .val (.int (0 : Int32)), .val (.int (i1 &&& (3 : Int32))), .val (.int v5_s0), .val (.ref b7), .val (.ref b18), .val (.ref b31), .val (.ref b46), .val (.ref b73), .unset, .unset, .unset, .unset] [(.int v5_s0), (.ref b46), (.ref b214), (.ref b214)])) := fun t k => P214 t (by
      show Steps p.tables e below (T214.setTop (mkF m 173 #[.val (.int i0), .val (.int i1), .val (.int i2), .val (.int i3), .val (.int i4), .val (.int (0 : Int32)), .val (.int (i1 &&& (3 : Int32))), .val (.int v5_s0), .val (.ref b7), .val (.ref b18), .val (.ref b31), .val (.ref b46), .val (.ref b73), .unset, .unset, .unset, .unset] [(.ref b214)])) t
      refine XS.dup X214.here hx rfl (hb hby at_173) rfl rfl ?_
      refine XS.aload X214.here hx rfl (hb hby at_174) rfl rfl ?_
      refine XS.iload X214.here hx rfl (hb hby at_176) rfl ?_
      show Steps p.tables e below (T214.setTop (mkF m 178 #[.val (.int i0), .val (.int i1), .val (.int i2), .val (.int i3), .val (.int i4), .val (.int (0 : Int32)), .val (.int (i1 &&& (3 : Int32))), .val (.int v5_s0), .val (.ref b7), .val (.ref b18), .val (.ref b31), .val (.ref b46), .val (.ref b73), .unset, .unset, .unset, .unset] [(.int v5_s0), (.ref b46), (.ref b214), (.ref b214)])) t
      exact k)
    obtain ⟨_, _, ⟨T217, L217, k217, n217⟩, -, X217, ⟨Lc217, hQ217, l217, y217, z217⟩, st217⟩ := X214.specialBack hx (y := (⟨"com/example/penelope/penelope/program/Expansion", "<init>", "(Ljava/util/List;Z)V"⟩ : MethodName)) rfl hown (mvT hZ (hw _ (List.mem_of_getElem? (i := 85) rfl))) (mvT hZ (hw _ (List.mem_of_getElem? (i := 86) rfl))) (mvT hZ (hw _ (List.mem_of_getElem? (i := 87) rfl))) (by decide) (backOf (W := 1) (rm13 l Z a0 hw [] b214 b46 v5_s0 z0_EMPTY_LIST .null .null .null (.int (0 : Int32)) h214 n0 (Nat.le_trans Z0 K214.1) F215 A214 F214_moves g_b214 F214_movesAfterClaim F214_faultAfterClaim F214_transientState) hZ (hw _ (List.mem_of_getElem? (i := 87) rfl)) (hw _ (List.mem_of_getElem? (i := 84) rfl)) (by decide) (by decide)) (g := (mkF m 178 #[.val (.int i0), .val (.int i1), .val (.int i2), .val (.int i3), .val (.int i4), .val (.int (0 : Int32)), .val (.int (i1 &&& (3 : Int32))), .val (.int v5_s0), .val (.ref b7), .val (.ref b18), .val (.ref b31), .val (.ref b46), .val (.ref b73), .unset, .unset, .unset, .unset] [(.int v5_s0), (.ref b46), (.ref b214), (.ref b214)])) rfl (by rw [hml]; rfl) (Steps.refl _) (a := b214) (argsL := [(.ref b46), (.int v5_s0)]) (rest := [(.ref b214)]) (lenOf pd_13 rfl) rfl (by show 2 * 0 + _ ≤ _; exact Nat.le_of_eq rfl) (hb hby at_178) (fun _ _ => ⟨rfl, e214, (by decide : 7 + 0 ≤ _), (by decide : 38 + 0 ≤ _)⟩)
    dsimp only [Pt.U, Pt.locs, Pt.cells, Pt.slots] at X217 l217 y217 z217 st217 hQ217
    subst l217 y217 z217
    obtain ⟨rfl, N217q, Kc217, F217_0, F217_1, F217_2, F217_3⟩ := hQ217
    have N217 := Fr.app N203 N217q
    have K217 : Keep h0 T217.heap [] := Keep.trans K214 Kc217 (allS (Or.inr o_b214) all0)
    have P217 : own_Go p e below S0 (T217.setTop (mkF m 181 #[.val (.int i0), .val (.int i1), .val (.int i2), .val (.int i3), .val (.int i4), .val (.int (0 : Int32)), .val (.int (i1 &&& (3 : Int32))), .val (.int v5_s0), .val (.ref b7), .val (.ref b18), .val (.ref b31), .val (.ref b46), .val (.ref b73), .unset, .unset, .unset, .unset] [(.ref b214)])) := fun t k => P216 t (st217.trans k)
    have F218 : Exa Z T217.heap b214 "com/example/penelope/penelope/program/Expansion" := A214.keep Kc217
    have P219 : own_Go p e below S0 (T217.setTop (mkF m 185 #[.val (.int i0), .val (.int i1), .val (.int i2), .val (.int i3), .val (.int i4), .val (.int (0 : Int32)), .val (.int (i1 &&& (3 : Int32))), .val (.int v5_s0), .val (.ref b7), .val (.ref b18), .val (.ref b31), .val (.ref b46), .val (.ref b73), .val (.ref b214), .unset, .unset, .unset] [(.ref b214)])) := fun t k => P217 t (by
      show Steps p.tables e below (T217.setTop (mkF m 181 #[.val (.int i0), .val (.int i1), .val (.int i2), .val (.int i3), .val (.int i4), .val (.int (0 : Int32)), .val (.int (i1 &&& (3 : Int32))), .val (.int v5_s0), .val (.ref b7), .val (.ref b18), .val (.ref b31), .val (.ref b46), .val (.ref b73), .unset, .unset, .unset, .unset] [(.ref b214)])) t
      refine XS.astore X217.here hx rfl (hb hby at_181) rfl rfl (l' := #[.val (.int i0), .val (.int i1), .val (.int i2), .val (.int i3), .val (.int i4), .val (.int (0 : Int32)), .val (.int (i1 &&& (3 : Int32))), .val (.int v5_s0), .val (.ref b7), .val (.ref b18), .val (.ref b31), .val (.ref b46), .val (.ref b73), .val (.ref b214), .unset, .unset, .unset]) rfl ?_
      refine XS.aload X217.here hx rfl (hb hby at_183) rfl rfl ?_
      show Steps p.tables e below (T217.setTop (mkF m 185 #[.val (.int i0), .val (.int i1), .val (.int i2), .val (.int i3), .val (.int i4), .val (.int (0 : Int32)), .val (.int (i1 &&& (3 : Int32))), .val (.int v5_s0), .val (.ref b7), .val (.ref b18), .val (.ref b31), .val (.ref b46), .val (.ref b73), .val (.ref b214), .unset, .unset, .unset] [(.ref b214)])) t
      exact k)
    obtain ⟨cq220, kq220, q220a, q220b, q220c⟩ := isOf hZ rfl F218
    obtain ⟨_, _, ⟨T220, L220, k220, n220⟩, -, X220, ⟨Lc220, hQ220, l220, y220, z220⟩, st220⟩ := X217.virtualBack hx (y := (⟨"com/example/penelope/penelope/program/Expansion", "movesAfterClaim", "()Ljava/util/List;"⟩ : MethodName)) (z := (⟨"com/example/penelope/penelope/program/Expansion", "movesAfterClaim", "()Ljava/util/List;"⟩ : MethodName)) hown (mvT hZ (hw _ (List.mem_of_getElem? (i := 106) rfl))) (mvT hZ (hw _ (List.mem_of_getElem? (i := 107) rfl))) (notFace_of_selects (args := #[]) (mvT hZ (hw _ (List.mem_of_getElem? (i := 109) rfl)))) (mvT hZ (hw _ (List.mem_of_getElem? (i := 109) rfl))) (mvT hZ (hw _ (List.mem_of_getElem? (i := 108) rfl))) (by decide) (backOf (W := 0) (rm16 l Z a0 hw [] b214 z0_EMPTY_LIST T217.heap n0 (Nat.le_trans Z0 K217.1) F217_2 F217_1) hZ (hw _ (List.mem_of_getElem? (i := 110) rfl)) (hw _ (List.mem_of_getElem? (i := 84) rfl)) (by decide) (by decide)) q220a q220c (g := (mkF m 185 #[.val (.int i0), .val (.int i1), .val (.int i2), .val (.int i3), .val (.int i4), .val (.int (0 : Int32)), .val (.int (i1 &&& (3 : Int32))), .val (.int v5_s0), .val (.ref b7), .val (.ref b18), .val (.ref b31), .val (.ref b46), .val (.ref b73), .val (.ref b214), .unset, .unset, .unset] [(.ref b214)])) rfl (by rw [hml]; rfl) (Steps.refl _) (argsL := []) (rest := []) (lenOf pd_6 rfl) rfl (by show 2 * 0 + _ ≤ _; exact Nat.le_of_eq rfl) (hb hby at_185) (fun _ _ => ⟨rfl, rfl, (by decide : 7 + 0 ≤ _), (by decide : 38 + 0 ≤ _)⟩)
    dsimp only [Pt.U, Pt.locs, Pt.cells, Pt.slots] at X220 l220 y220 z220 st220 hQ220
    subst l220 y220 z220
    obtain ⟨rfl, N220q, e220⟩ := hQ220
    have N220 := Fr.app N217 N220q
    have P220 : own_Go p e below S0 (T220.setTop (mkF m 188 #[.val (.int i0), .val (.int i1), .val (.int i2), .val (.int i3), .val (.int i4), .val (.int (0 : Int32)), .val (.int (i1 &&& (3 : Int32))), .val (.int v5_s0), .val (.ref b7), .val (.ref b18), .val (.ref b31), .val (.ref b46), .val (.ref b73), .val (.ref b214), .unset, .unset, .unset] [(.ref z0_EMPTY_LIST)])) := fun t k => P219 t (st220.trans k)
    have F221 : Exa Z h214 z0_EMPTY_LIST "java/util/ImmutableCollections$ListN" := F209.ext E214
    have F222 : Exa Z T217.heap z0_EMPTY_LIST "java/util/ImmutableCollections$ListN" := F221.keep Kc217
    have F223 : Fld Z h214 z0_EMPTY_LIST "java/util/ImmutableCollections$ListN" "elements" "[Ljava/lang/Object;" (.ref qe) := F207.ext E214
    have F224 : Fld Z T217.heap z0_EMPTY_LIST "java/util/ImmutableCollections$ListN" "elements" "[Ljava/lang/Object;" (.ref qe) := F223.keep Kc217 (ninS ne_z0_EMPTY_LIST_b214 nin0)
    have F225 : Arv Z h214 qe qke (.object "java/lang/Object") (0 : Int32) [] .null := F208.ext E214
    have F226 : Arv Z T217.heap qe qke (.object "java/lang/Object") (0 : Int32) [] .null := F225.keep Kc217 (ninS ne_qe_b214 nin0)
    have P227 : own_Go p e below S0 (T220.setTop (mkF m 192 #[.val (.int i0), .val (.int i1), .val (.int i2), .val (.int i3), .val (.int i4), .val (.int (0 : Int32)), .val (.int (i1 &&& (3 : Int32))), .val (.int v5_s0), .val (.ref b7), .val (.ref b18), .val (.ref b31), .val (.ref b46), .val (.ref b73), .val (.ref b214), .val (.ref z0_EMPTY_LIST), .unset, .unset] [(.ref z0_EMPTY_LIST)])) := fun t k => P220 t (by
      show Steps p.tables e below (T220.setTop (mkF m 188 #[.val (.int i0), .val (.int i1), .val (.int i2), .val (.int i3), .val (.int i4), .val (.int (0 : Int32)), .val (.int (i1 &&& (3 : Int32))), .val (.int v5_s0), .val (.ref b7), .val (.ref b18), .val (.ref b31), .val (.ref b46), .val (.ref b73), .val (.ref b214), .unset, .unset, .unset] [(.ref z0_EMPTY_LIST)])) t
      refine XS.astore X220.here hx rfl (hb hby at_188) rfl rfl (l' := #[.val (.int i0), .val (.int i1), .val (.int i2), .val (.int i3), .val (.int i4), .val (.int (0 : Int32)), .val (.int (i1 &&& (3 : Int32))), .val (.int v5_s0), .val (.ref b7), .val (.ref b18), .val (.ref b31), .val (.ref b46), .val (.ref b73), .val (.ref b214), .val (.ref z0_EMPTY_LIST), .unset, .unset]) rfl ?_
      refine XS.aload X220.here hx rfl (hb hby at_190) rfl rfl ?_
      show Steps p.tables e below (T220.setTop (mkF m 192 #[.val (.int i0), .val (.int i1), .val (.int i2), .val (.int i3), .val (.int i4), .val (.int (0 : Int32)), .val (.int (i1 &&& (3 : Int32))), .val (.int v5_s0), .val (.ref b7), .val (.ref b18), .val (.ref b31), .val (.ref b46), .val (.ref b73), .val (.ref b214), .val (.ref z0_EMPTY_LIST), .unset, .unset] [(.ref z0_EMPTY_LIST)])) t
      exact k)
    obtain ⟨cq228, kq228, q228a, q228b, q228c⟩ := isOf hZ e220 F222
    obtain ⟨_, _, ⟨T228, L228, k228, n228⟩, -, X228, ⟨Lc228, hQ228, l228, y228, z228⟩, st228⟩ := X220.interfaceBack hx (xi := (⟨"java/util/List", "size", "()I"⟩ : MethodName)) (y := (⟨"java/util/ImmutableCollections$ListN", "size", "()I"⟩ : MethodName)) hown (mvT hZ (hw _ (List.mem_of_getElem? (i := 111) rfl))) (mvT hZ (hw _ (List.mem_of_getElem? (i := 112) rfl))) (mvT hZ (hw _ (List.mem_of_getElem? (i := 113) rfl))) (mvT hZ (hw _ (List.mem_of_getElem? (i := 114) rfl))) (mvT hZ (hw _ (List.mem_of_getElem? (i := 115) rfl))) (mvT hZ (hw _ (List.mem_of_getElem? (i := 116) rfl))) (mvT hZ (hw _ (List.mem_of_getElem? (i := 117) rfl))) (mvT hZ (hw _ (List.mem_of_getElem? (i := 118) rfl))) (by decide) (backOf (W := 0) (rm17 l Z a0 hw [] z0_EMPTY_LIST qe qke T217.heap n0 (Nat.le_trans Z0 K217.1) F224 F226) hZ (hw _ (List.mem_of_getElem? (i := 120) rfl)) (hw _ (List.mem_of_getElem? (i := 119) rfl)) (by decide) (by decide)) q228a q228b q228c (g := (mkF m 192 #[.val (.int i0), .val (.int i1), .val (.int i2), .val (.int i3), .val (.int i4), .val (.int (0 : Int32)), .val (.int (i1 &&& (3 : Int32))), .val (.int v5_s0), .val (.ref b7), .val (.ref b18), .val (.ref b31), .val (.ref b46), .val (.ref b73), .val (.ref b214), .val (.ref z0_EMPTY_LIST), .unset, .unset] [(.ref z0_EMPTY_LIST)])) rfl (by rw [hml]; rfl) (Steps.refl _) (argsL := []) (rest := []) (lenOf pd_14 rfl) rfl (by show 2 * 0 + _ ≤ _; exact Nat.le_of_eq rfl) (hb hby at_192) (fun _ _ => ⟨rfl, e220, (by decide : 7 + 0 ≤ _), (by decide : 38 + 0 ≤ _)⟩)
    dsimp only [Pt.U, Pt.locs, Pt.cells, Pt.slots] at X228 l228 y228 z228 st228 hQ228
    subst l228 y228 z228
    obtain ⟨rfl, N228q, e228⟩ := hQ228
    have N228 := Fr.app N220 N228q
    have P228 : own_Go p e below S0 (T228.setTop (mkF m 197 #[.val (.int i0), .val (.int i1), .val (.int i2), .val (.int i3), .val (.int i4), .val (.int (0 : Int32)), .val (.int (i1 &&& (3 : Int32))), .val (.int v5_s0), .val (.ref b7), .val (.ref b18), .val (.ref b31), .val (.ref b46), .val (.ref b73), .val (.ref b214), .val (.ref z0_EMPTY_LIST), .unset, .unset] [(.int (0 : Int32))])) := fun t k => P227 t (st228.trans k)
    have F229 : Arv Z h214 z0_DEFAULTCAPACITY_EMPTY_ELEMENTDATA qk0 (.object "java/lang/Object") (0 : Int32) [] .null := F205.ext E214
    have F230 : Arv Z T217.heap z0_DEFAULTCAPACITY_EMPTY_ELEMENTDATA qk0 (.object "java/lang/Object") (0 : Int32) [] .null := F229.keep Kc217 (ninS ne_z0_DEFAULTCAPACITY_EMPTY_ELEMENTDATA_b214 nin0)
    have F231 : Exa Z h214 b46 "java/util/ArrayList" := F210.ext E214
    have F232 : Exa Z T217.heap b46 "java/util/ArrayList" := F231.keep Kc217
    have P233 : own_Go p e below S0 (T228.setTop (mkF m 206 #[.val (.int i0), .val (.int i1), .val (.int i2), .val (.int i3), .val (.int i4), .val (.int (0 : Int32)), .val (.int (i1 &&& (3 : Int32))), .val (.int v5_s0), .val (.ref b7), .val (.ref b18), .val (.ref b31), .val (.ref b46), .val (.ref b73), .val (.ref b214), .val (.ref z0_EMPTY_LIST), .unset, .unset] [(.ref b214), (.ref b73)])) := fun t k => P228 t (by
      show Steps p.tables e below (T228.setTop (mkF m 197 #[.val (.int i0), .val (.int i1), .val (.int i2), .val (.int i3), .val (.int i4), .val (.int (0 : Int32)), .val (.int (i1 &&& (3 : Int32))), .val (.int v5_s0), .val (.ref b7), .val (.ref b18), .val (.ref b31), .val (.ref b46), .val (.ref b73), .val (.ref b214), .val (.ref z0_EMPTY_LIST), .unset, .unset] [(.int (0 : Int32))])) t
      refine XS.ifYes X228.here hx rfl (pc0 := 197) (pc' := 202) rfl (hb hby at_197) rfl ((if0 _ _).trans (teq (by decide)).1) (by decide) (by decide) ?_
      refine XS.aload X228.here hx rfl (hb hby at_202) rfl rfl ?_
      refine XS.aload X228.here hx rfl (hb hby at_204) rfl rfl ?_
      show Steps p.tables e below (T228.setTop (mkF m 206 #[.val (.int i0), .val (.int i1), .val (.int i2), .val (.int i3), .val (.int i4), .val (.int (0 : Int32)), .val (.int (i1 &&& (3 : Int32))), .val (.int v5_s0), .val (.ref b7), .val (.ref b18), .val (.ref b31), .val (.ref b46), .val (.ref b73), .val (.ref b214), .val (.ref z0_EMPTY_LIST), .unset, .unset] [(.ref b214), (.ref b73)])) t
      exact k)
    obtain ⟨_, _, ⟨T234, L234, k234, n234⟩, -, X234, ⟨Lc234, hQ234, l234, y234, z234⟩, st234⟩ := Jvm.LawKit.callS X228 hx (y := (⟨"com/example/penelope/penelope/program/Expansion", "underClaim", "(Ljava/util/List;Lcom/example/penelope/penelope/program/Expansion;)Lcom/example/penelope/penelope/program/Expansion;"⟩ : MethodName)) hown (mvT hZ (hw _ (List.mem_of_getElem? (i := 123) rfl))) (mvT hZ (hw _ (List.mem_of_getElem? (i := 124) rfl))) (mvT hZ (hw _ (List.mem_of_getElem? (i := 84) rfl))) (mvT hZ (hw _ (List.mem_of_getElem? (i := 125) rfl))) (by decide) (backOf (W := 0) (rm18 l Z a0 hw [] b73 b214 b46 (nar .boolean v5_s0) T217.heap n0 (Nat.le_trans Z0 K217.1) F217_0 F217_3) hZ (hw _ (List.mem_of_getElem? (i := 125) rfl)) (hw _ (List.mem_of_getElem? (i := 84) rfl)) (by decide) (by decide)) (g := (mkF m 206 #[.val (.int i0), .val (.int i1), .val (.int i2), .val (.int i3), .val (.int i4), .val (.int (0 : Int32)), .val (.int (i1 &&& (3 : Int32))), .val (.int v5_s0), .val (.ref b7), .val (.ref b18), .val (.ref b31), .val (.ref b46), .val (.ref b73), .val (.ref b214), .val (.ref z0_EMPTY_LIST), .unset, .unset] [(.ref b214), (.ref b73)])) rfl (by rw [hml]; rfl) (argsL := [(.ref b73), (.ref b214)]) (rest := []) (lenOf pd_15 rfl) rfl (by show 2 * 0 + _ ≤ _; exact Nat.le_of_eq rfl) (hb hby at_206) (fun _ _ => ⟨rfl, e228, (by decide : 7 + 1 ≤ _), (by decide : 38 + 4 ≤ _)⟩)
    dsimp only [Pt.U, Pt.locs, Pt.cells, Pt.slots] at X234 l234 y234 z234 st234 hQ234
    subst l234 y234 z234
    obtain ⟨b1_234, rfl, N234q, Kc234, sz_b1_234, F234_0, F234_1, F234_2, F234_3, F234_4⟩ := hQ234
    have N234 := Fr.app N228 N234q
    have ne_z0_DEFAULTCAPACITY_EMPTY_ELEMENTDATA_b1_234 : z0_DEFAULTCAPACITY_EMPTY_ELEMENTDATA ≠ b1_234 := Nat.ne_of_lt (Nat.lt_of_lt_of_le F230.lt sz_b1_234)
    have ne_z0_EMPTY_LIST_b1_234 : z0_EMPTY_LIST ≠ b1_234 := Nat.ne_of_lt (Nat.lt_of_lt_of_le F224.lt sz_b1_234)
    have ne_qe_b1_234 : qe ≠ b1_234 := Nat.ne_of_lt (Nat.lt_of_lt_of_le F226.lt sz_b1_234)
    have ne_b46_b1_234 : b46 ≠ b1_234 := Nat.ne_of_lt (Nat.lt_of_lt_of_le F232.lt sz_b1_234)
    have ne_b214_b1_234 : b214 ≠ b1_234 := Nat.ne_of_lt (Nat.lt_of_lt_of_le F218.lt sz_b1_234)
    have g_b1_234 : n0 ≤ b1_234 := Nat.le_trans (Nat.le_trans Z0 K217.1) sz_b1_234
    have o_b1_234 : h0.size ≤ b1_234 := Nat.le_trans K217.1 sz_b1_234
    have K234 : Keep h0 T234.heap [] := Keep.trans K217 Kc234 all0
    have P234 : own_Go p e below S0 (T234.setTop (mkF m 209 #[.val (.int i0), .val (.int i1), .val (.int i2), .val (.int i3), .val (.int i4), .val (.int (0 : Int32)), .val (.int (i1 &&& (3 : Int32))), .val (.int v5_s0), .val (.ref b7), .val (.ref b18), .val (.ref b31), .val (.ref b46), .val (.ref b73), .val (.ref b214), .val (.ref z0_EMPTY_LIST), .unset, .unset] [(.ref b1_234)])) := fun t k => P233 t (st234 _ k)
    have P235 : own_Go p e below S0 (T234.setTop (mkF m 213 #[.val (.int i0), .val (.int i1), .val (.int i2), .val (.int i3), .val (.int i4), .val (.int (0 : Int32)), .val (.int (i1 &&& (3 : Int32))), .val (.int v5_s0), .val (.ref b7), .val (.ref b18), .val (.ref b31), .val (.ref b46), .val (.ref b73), .val (.ref b214), .val (.ref z0_EMPTY_LIST), .val (.ref b1_234), .unset] [(.ref b1_234)])) := fun t k => P234 t (by
      show Steps p.tables e below (T234.setTop (mkF m 209 #[.val (.int i0), .val (.int i1), .val (.int i2), .val (.int i3), .val (.int i4), .val (.int (0 : Int32)), .val (.int (i1 &&& (3 : Int32))), .val (.int v5_s0), .val (.ref b7), .val (.ref b18), .val (.ref b31), .val (.ref b46), .val (.ref b73), .val (.ref b214), .val (.ref z0_EMPTY_LIST), .unset, .unset] [(.ref b1_234)])) t
      refine XS.astore X234.here hx rfl (hb hby at_209) rfl rfl (l' := #[.val (.int i0), .val (.int i1), .val (.int i2), .val (.int i3), .val (.int i4), .val (.int (0 : Int32)), .val (.int (i1 &&& (3 : Int32))), .val (.int v5_s0), .val (.ref b7), .val (.ref b18), .val (.ref b31), .val (.ref b46), .val (.ref b73), .val (.ref b214), .val (.ref z0_EMPTY_LIST), .val (.ref b1_234), .unset]) rfl ?_
      refine XS.aload X234.here hx rfl (hb hby at_211) rfl rfl ?_
      show Steps p.tables e below (T234.setTop (mkF m 213 #[.val (.int i0), .val (.int i1), .val (.int i2), .val (.int i3), .val (.int i4), .val (.int (0 : Int32)), .val (.int (i1 &&& (3 : Int32))), .val (.int v5_s0), .val (.ref b7), .val (.ref b18), .val (.ref b31), .val (.ref b46), .val (.ref b73), .val (.ref b214), .val (.ref z0_EMPTY_LIST), .val (.ref b1_234), .unset] [(.ref b1_234)])) t
      exact k)
    obtain ⟨cq236, kq236, q236a, q236b, q236c⟩ := isOf hZ rfl F234_0
    obtain ⟨_, _, ⟨T236, L236, k236, n236⟩, -, X236, ⟨Lc236, hQ236, l236, y236, z236⟩, st236⟩ := X234.virtualBack hx (y := (⟨"com/example/penelope/penelope/program/Expansion", "movesAfterClaim", "()Ljava/util/List;"⟩ : MethodName)) (z := (⟨"com/example/penelope/penelope/program/Expansion", "movesAfterClaim", "()Ljava/util/List;"⟩ : MethodName)) hown (mvT hZ (hw _ (List.mem_of_getElem? (i := 106) rfl))) (mvT hZ (hw _ (List.mem_of_getElem? (i := 107) rfl))) (notFace_of_selects (args := #[]) (mvT hZ (hw _ (List.mem_of_getElem? (i := 109) rfl)))) (mvT hZ (hw _ (List.mem_of_getElem? (i := 109) rfl))) (mvT hZ (hw _ (List.mem_of_getElem? (i := 108) rfl))) (by decide) (backOf (W := 0) (rm16 l Z a0 hw [] b1_234 b46 T234.heap n0 (Nat.le_trans Z0 K234.1) F234_3 F234_2) hZ (hw _ (List.mem_of_getElem? (i := 110) rfl)) (hw _ (List.mem_of_getElem? (i := 84) rfl)) (by decide) (by decide)) q236a q236c (g := (mkF m 213 #[.val (.int i0), .val (.int i1), .val (.int i2), .val (.int i3), .val (.int i4), .val (.int (0 : Int32)), .val (.int (i1 &&& (3 : Int32))), .val (.int v5_s0), .val (.ref b7), .val (.ref b18), .val (.ref b31), .val (.ref b46), .val (.ref b73), .val (.ref b214), .val (.ref z0_EMPTY_LIST), .val (.ref b1_234), .unset] [(.ref b1_234)])) rfl (by rw [hml]; rfl) (Steps.refl _) (argsL := []) (rest := []) (lenOf pd_6 rfl) rfl (by show 2 * 0 + _ ≤ _; exact Nat.le_of_eq rfl) (hb hby at_213) (fun _ _ => ⟨rfl, rfl, (by decide : 8 + 0 ≤ _), (by decide : 42 + 0 ≤ _)⟩)
    dsimp only [Pt.U, Pt.locs, Pt.cells, Pt.slots] at X236 l236 y236 z236 st236 hQ236
    subst l236 y236 z236
    obtain ⟨rfl, N236q, e236⟩ := hQ236
    have N236 := Fr.app N234 N236q
    have P236 : own_Go p e below S0 (T236.setTop (mkF m 216 #[.val (.int i0), .val (.int i1), .val (.int i2), .val (.int i3), .val (.int i4), .val (.int (0 : Int32)), .val (.int (i1 &&& (3 : Int32))), .val (.int v5_s0), .val (.ref b7), .val (.ref b18), .val (.ref b31), .val (.ref b46), .val (.ref b73), .val (.ref b214), .val (.ref z0_EMPTY_LIST), .val (.ref b1_234), .unset] [(.ref b46)])) := fun t k => P235 t (st236.trans k)
    have F237 : Exa Z T234.heap b46 "java/util/ArrayList" := F232.keep Kc234
    have F238 : Fld Z h214 b46 "java/util/ArrayList" "size" "I" (.int (0 : Int32)) := F212.ext E214
    have F239 : Fld Z T217.heap b46 "java/util/ArrayList" "size" "I" (.int (0 : Int32)) := F238.keep Kc217 (ninS ne_b46_b214 nin0)
    have F240 : Fld Z T234.heap b46 "java/util/ArrayList" "size" "I" (.int (0 : Int32)) := F239.keep Kc234 nin0
    have P241 : own_Go p e below S0 (T236.setTop (mkF m 220 #[.val (.int i0), .val (.int i1), .val (.int i2), .val (.int i3), .val (.int i4), .val (.int (0 : Int32)), .val (.int (i1 &&& (3 : Int32))), .val (.int v5_s0), .val (.ref b7), .val (.ref b18), .val (.ref b31), .val (.ref b46), .val (.ref b73), .val (.ref b214), .val (.ref z0_EMPTY_LIST), .val (.ref b1_234), .val (.ref b46)] [(.ref b46)])) := fun t k => P236 t (by
      show Steps p.tables e below (T236.setTop (mkF m 216 #[.val (.int i0), .val (.int i1), .val (.int i2), .val (.int i3), .val (.int i4), .val (.int (0 : Int32)), .val (.int (i1 &&& (3 : Int32))), .val (.int v5_s0), .val (.ref b7), .val (.ref b18), .val (.ref b31), .val (.ref b46), .val (.ref b73), .val (.ref b214), .val (.ref z0_EMPTY_LIST), .val (.ref b1_234), .unset] [(.ref b46)])) t
      refine XS.astore X236.here hx rfl (hb hby at_216) rfl rfl (l' := #[.val (.int i0), .val (.int i1), .val (.int i2), .val (.int i3), .val (.int i4), .val (.int (0 : Int32)), .val (.int (i1 &&& (3 : Int32))), .val (.int v5_s0), .val (.ref b7), .val (.ref b18), .val (.ref b31), .val (.ref b46), .val (.ref b73), .val (.ref b214), .val (.ref z0_EMPTY_LIST), .val (.ref b1_234), .val (.ref b46)]) rfl ?_
      refine XS.aload X236.here hx rfl (hb hby at_218) rfl rfl ?_
      show Steps p.tables e below (T236.setTop (mkF m 220 #[.val (.int i0), .val (.int i1), .val (.int i2), .val (.int i3), .val (.int i4), .val (.int (0 : Int32)), .val (.int (i1 &&& (3 : Int32))), .val (.int v5_s0), .val (.ref b7), .val (.ref b18), .val (.ref b31), .val (.ref b46), .val (.ref b73), .val (.ref b214), .val (.ref z0_EMPTY_LIST), .val (.ref b1_234), .val (.ref b46)] [(.ref b46)])) t
      exact k)
    obtain ⟨cq242, kq242, q242a, q242b, q242c⟩ := isOf hZ e236 F237
    obtain ⟨_, _, ⟨T242, L242, k242, n242⟩, -, X242, ⟨Lc242, hQ242, l242, y242, z242⟩, st242⟩ := X236.interfaceBack hx (xi := (⟨"java/util/List", "size", "()I"⟩ : MethodName)) (y := (⟨"java/util/ArrayList", "size", "()I"⟩ : MethodName)) hown (mvT hZ (hw _ (List.mem_of_getElem? (i := 111) rfl))) (mvT hZ (hw _ (List.mem_of_getElem? (i := 112) rfl))) (mvT hZ (hw _ (List.mem_of_getElem? (i := 113) rfl))) (mvT hZ (hw _ (List.mem_of_getElem? (i := 127) rfl))) (mvT hZ (hw _ (List.mem_of_getElem? (i := 128) rfl))) (mvT hZ (hw _ (List.mem_of_getElem? (i := 129) rfl))) (mvT hZ (hw _ (List.mem_of_getElem? (i := 130) rfl))) (mvT hZ (hw _ (List.mem_of_getElem? (i := 131) rfl))) (by decide) (backOf (W := 0) (rm19 l Z a0 hw [] b46 (0 : Int32) T234.heap n0 (Nat.le_trans Z0 K234.1) F240) hZ (hw _ (List.mem_of_getElem? (i := 132) rfl)) (hw _ (List.mem_of_getElem? (i := 29) rfl)) (by decide) (by decide)) q242a q242b q242c (g := (mkF m 220 #[.val (.int i0), .val (.int i1), .val (.int i2), .val (.int i3), .val (.int i4), .val (.int (0 : Int32)), .val (.int (i1 &&& (3 : Int32))), .val (.int v5_s0), .val (.ref b7), .val (.ref b18), .val (.ref b31), .val (.ref b46), .val (.ref b73), .val (.ref b214), .val (.ref z0_EMPTY_LIST), .val (.ref b1_234), .val (.ref b46)] [(.ref b46)])) rfl (by rw [hml]; rfl) (Steps.refl _) (argsL := []) (rest := []) (lenOf pd_14 rfl) rfl (by show 2 * 0 + _ ≤ _; exact Nat.le_of_eq rfl) (hb hby at_220) (fun _ _ => ⟨rfl, e236, (by decide : 8 + 0 ≤ _), (by decide : 42 + 0 ≤ _)⟩)
    dsimp only [Pt.U, Pt.locs, Pt.cells, Pt.slots] at X242 l242 y242 z242 st242 hQ242
    subst l242 y242 z242
    obtain ⟨rfl, N242q, e242⟩ := hQ242
    have N242 := Fr.app N236 N242q
    have P242 : own_Go p e below S0 (T242.setTop (mkF m 225 #[.val (.int i0), .val (.int i1), .val (.int i2), .val (.int i3), .val (.int i4), .val (.int (0 : Int32)), .val (.int (i1 &&& (3 : Int32))), .val (.int v5_s0), .val (.ref b7), .val (.ref b18), .val (.ref b31), .val (.ref b46), .val (.ref b73), .val (.ref b214), .val (.ref z0_EMPTY_LIST), .val (.ref b1_234), .val (.ref b46)] [(.int (0 : Int32))])) := fun t k => P241 t (st242.trans k)
    have P243 : own_Go p e below S0 (T242.setTop (mkF m 295 #[.val (.int i0), .val (.int i1), .val (.int i2), .val (.int i3), .val (.int i4), .val (.int (0 : Int32)), .val (.int (i1 &&& (3 : Int32))), .val (.int v5_s0), .val (.ref b7), .val (.ref b18), .val (.ref b31), .val (.ref b46), .val (.ref b73), .val (.ref b214), .val (.ref z0_EMPTY_LIST), .val (.ref b1_234), .val (.ref b46)] [(.int (1 : Int32))])) := fun t k => P242 t (by
      show Steps p.tables e below (T242.setTop (mkF m 225 #[.val (.int i0), .val (.int i1), .val (.int i2), .val (.int i3), .val (.int i4), .val (.int (0 : Int32)), .val (.int (i1 &&& (3 : Int32))), .val (.int v5_s0), .val (.ref b7), .val (.ref b18), .val (.ref b31), .val (.ref b46), .val (.ref b73), .val (.ref b214), .val (.ref z0_EMPTY_LIST), .val (.ref b1_234), .val (.ref b46)] [(.int (0 : Int32))])) t
      refine XS.iload X242.here hx rfl (hb hby at_225) rfl ?_
      refine XS.icmpYes X242.here hx rfl (pc0 := 227) (pc' := 232) rfl (hb hby at_227) rfl (teq (by decide)).1 (by decide) (by decide) ?_
      refine XS.iload X242.here hx rfl (hb hby at_232) rfl ?_
      refine XS.ifYes X242.here hx rfl (pc0 := 234) (pc' := 252) rfl (hb hby at_234) rfl ((if0 _ _).trans (flt (by decide)).2.2.2) (by decide) (by decide) ?_
      refine XS.iload X242.here hx rfl (hb hby at_252) rfl ?_
      refine XS.iconst X242.here hx rfl (hb hby at_254) ?_
      show Steps p.tables e below (T242.setTop (mkF m 255 #[.val (.int i0), .val (.int i1), .val (.int i2), .val (.int i3), .val (.int i4), .val (.int (0 : Int32)), .val (.int (i1 &&& (3 : Int32))), .val (.int v5_s0), .val (.ref b7), .val (.ref b18), .val (.ref b31), .val (.ref b46), .val (.ref b73), .val (.ref b214), .val (.ref z0_EMPTY_LIST), .val (.ref b1_234), .val (.ref b46)] [(.int (1 : Int32)), (.int (0 : Int32))])) t
      refine XS.icmpYes X242.here hx rfl (pc0 := 255) (pc' := 273) rfl (hb hby at_255) rfl (flt (by decide)).2.2.2 (by decide) (by decide) ?_
      refine XS.iload X242.here hx rfl (hb hby at_273) rfl ?_
      refine XS.iconst X242.here hx rfl (hb hby at_275) ?_
      refine XS.icmpYes X242.here hx rfl (pc0 := 276) (pc' := 294) rfl (hb hby at_276) rfl (flt (by decide)).2.2.2 (by decide) (by decide) ?_
      refine XS.iconst X242.here hx rfl (hb hby at_294) ?_
      show Steps p.tables e below (T242.setTop (mkF m 295 #[.val (.int i0), .val (.int i1), .val (.int i2), .val (.int i3), .val (.int i4), .val (.int (0 : Int32)), .val (.int (i1 &&& (3 : Int32))), .val (.int v5_s0), .val (.ref b7), .val (.ref b18), .val (.ref b31), .val (.ref b46), .val (.ref b73), .val (.ref b214), .val (.ref z0_EMPTY_LIST), .val (.ref b1_234), .val (.ref b46)] [(.int (1 : Int32))])) t
      exact k)
    have F244 : Fld Z h214 b46 "java/util/ArrayList" "elementData" "[Ljava/lang/Object;" (.ref z0_DEFAULTCAPACITY_EMPTY_ELEMENTDATA) := F211.ext E214
    have F245 : Fld Z T217.heap b46 "java/util/ArrayList" "elementData" "[Ljava/lang/Object;" (.ref z0_DEFAULTCAPACITY_EMPTY_ELEMENTDATA) := F244.keep Kc217 (ninS ne_b46_b214 nin0)
    have F246 : Fld Z T234.heap b46 "java/util/ArrayList" "elementData" "[Ljava/lang/Object;" (.ref z0_DEFAULTCAPACITY_EMPTY_ELEMENTDATA) := F245.keep Kc234 nin0
    have F247 : Fld Z h214 b46 "java/util/AbstractList" "modCount" "I" (.int (0 : Int32)) := F213.ext E214
    have F248 : Fld Z T217.heap b46 "java/util/AbstractList" "modCount" "I" (.int (0 : Int32)) := F247.keep Kc217 (ninS ne_b46_b214 nin0)
    have F249 : Fld Z T234.heap b46 "java/util/AbstractList" "modCount" "I" (.int (0 : Int32)) := F248.keep Kc234 nin0
    have F250 : Exa Z T234.heap b214 "com/example/penelope/penelope/program/Expansion" := F218.keep Kc234
    have F251 : Fld Z T234.heap b214 "com/example/penelope/penelope/program/Expansion" "moves" "Ljava/util/List;" (.ref b46) := F217_0.keep Kc234 nin0
    have F252 : Fld Z T234.heap b214 "com/example/penelope/penelope/program/Expansion" "movesAfterClaim" "Ljava/util/List;" (.ref z0_EMPTY_LIST) := F217_1.keep Kc234 nin0
    have F253 : Fld Z T234.heap b214 "com/example/penelope/penelope/program/Expansion" "faultAfterClaim" "Lcom/example/penelope/penelope/program/Fault;" .null := F217_2.keep Kc234 nin0
    have F254 : Fld Z T234.heap b214 "com/example/penelope/penelope/program/Expansion" "transientState" "Z" (.int (nar .boolean v5_s0)) := F217_3.keep Kc234 nin0
    obtain ⟨fs, hr, hrun, hended, hW, hsame⟩ := X242.leave (v := some (.int (1 : Int32))) (fun h => by rw [Bd.returns] at h; cases h)
    refine ⟨_, _, own_from hS0 (P243 _ ?_), hrun, hended, _, _, rfl, ?_, ⟨_, rfl⟩, hW, hsame.mono (by decide) (by decide)⟩
    · show Steps p.tables e below (T242.setTop (mkF m 295 #[.val (.int i0), .val (.int i1), .val (.int i2), .val (.int i3), .val (.int i4), .val (.int (0 : Int32)), .val (.int (i1 &&& (3 : Int32))), .val (.int v5_s0), .val (.ref b7), .val (.ref b18), .val (.ref b31), .val (.ref b46), .val (.ref b73), .val (.ref b214), .val (.ref z0_EMPTY_LIST), .val (.ref b1_234), .val (.ref b46)] [(.int (1 : Int32))])) _
      exact retN X242 hx (t := .boolean) Bd.returns (by simp) (hb hby at_295) hr
    · show Q0 Z i0 i1 i2 i3 i4 z0_DEFAULTCAPACITY_EMPTY_ELEMENTDATA qk0 z0_EMPTY_LIST qe qke h0 n0 _ T242.heap _
      rw [e242]
      exact ⟨rfl, N242⟩
  · skip
    subst c58
    have F255 : Exa Z T55.heap b46 "java/util/ArrayList" := A46.keep Kc55
    have F256 : Sta Z T55.heap "java/util/ArrayList" "DEFAULTCAPACITY_EMPTY_ELEMENTDATA" "[Ljava/lang/Object;" (.ref z0_DEFAULTCAPACITY_EMPTY_ELEMENTDATA) := own_staK F53 Kc55 (allS (own_plE A46) all0)
    have F257 : Arv Z h46 z0_DEFAULTCAPACITY_EMPTY_ELEMENTDATA qk0 (.object "java/lang/Object") (0 : Int32) [] .null := F35.ext E46
    have F258 : Arv Z T55.heap z0_DEFAULTCAPACITY_EMPTY_ELEMENTDATA qk0 (.object "java/lang/Object") (0 : Int32) [] .null := F257.keep Kc55 (ninS ne_z0_DEFAULTCAPACITY_EMPTY_ELEMENTDATA_b46 nin0)
    have F259 : Exa Z h46 b7 "com/example/penelope/penelope/program/Move" := F41.ext E46
    have F260 : Exa Z T55.heap b7 "com/example/penelope/penelope/program/Move" := F259.keep Kc55
    have F261 : Fld Z h46 z0_EMPTY_LIST "java/util/ImmutableCollections$ListN" "elements" "[Ljava/lang/Object;" (.ref qe) := F37.ext E46
    have F262 : Fld Z T55.heap z0_EMPTY_LIST "java/util/ImmutableCollections$ListN" "elements" "[Ljava/lang/Object;" (.ref qe) := F261.keep Kc55 (ninS ne_z0_EMPTY_LIST_b46 nin0)
    have F263 : Arv Z h46 qe qke (.object "java/lang/Object") (0 : Int32) [] .null := F39.ext E46
    have F264 : Arv Z T55.heap qe qke (.object "java/lang/Object") (0 : Int32) [] .null := F263.keep Kc55 (ninS ne_qe_b46 nin0)
    have F265 : Exa Z h46 b18 "com/example/penelope/penelope/program/Move" := F43.ext E46
    have F266 : Exa Z T55.heap b18 "com/example/penelope/penelope/program/Move" := F265.keep Kc55
    have F267 : Exa Z h46 b31 "com/example/penelope/penelope/program/Move" := F44.ext E46
    have F268 : Exa Z T55.heap b31 "com/example/penelope/penelope/program/Move" := F267.keep Kc55
    have P269 : own_Go p e below S0 (T55.setTop (mkF m 88 #[.val (.int i0), .val (.int i1), .val (.int i2), .val (.int i3), .val (.int i4), .val (.int (1 : Int32)), .val (.int (i1 &&& (3 : Int32))), .val (.int v5_s0), .val (.ref b7), .val (.ref b18), .val (.ref b31), .val (.ref b46), .unset, .unset, .unset, .unset, .unset] [(.ref b7), (.ref b46)])) := fun t k => P57 t (by
      show Steps p.tables e below (T55.setTop (mkF m 79 #[.val (.int i0), .val (.int i1), .val (.int i2), .val (.int i3), .val (.int i4), .val (.int (1 : Int32)), .val (.int (i1 &&& (3 : Int32))), .val (.int v5_s0), .val (.ref b7), .val (.ref b18), .val (.ref b31), .val (.ref b46), .unset, .unset, .unset, .unset, .unset] [])) t
      refine XS.iload X55.here hx rfl (hb hby at_79) rfl ?_
      refine XS.ifNo X55.here hx rfl (hb hby at_81) rfl ((if0 _ _).trans (tlt (by decide)).2.2.2) ?_
      refine XS.aload X55.here hx rfl (hb hby at_84) rfl rfl ?_
      refine XS.aload X55.here hx rfl (hb hby at_86) rfl rfl ?_
      show Steps p.tables e below (T55.setTop (mkF m 88 #[.val (.int i0), .val (.int i1), .val (.int i2), .val (.int i3), .val (.int i4), .val (.int (1 : Int32)), .val (.int (i1 &&& (3 : Int32))), .val (.int v5_s0), .val (.ref b7), .val (.ref b18), .val (.ref b31), .val (.ref b46), .unset, .unset, .unset, .unset, .unset] [(.ref b7), (.ref b46)])) t
      exact k)
    obtain ⟨cq270, kq270, q270a, q270b, q270c⟩ := isOf hZ rfl F255
    obtain ⟨_, _, ⟨T270, L270, k270, n270⟩, -, X270, ⟨Lc270, hQ270, l270, y270, z270⟩, st270⟩ := X55.virtualBack hx (y := (⟨"java/util/ArrayList", "add", "(Ljava/lang/Object;)Z"⟩ : MethodName)) (z := (⟨"java/util/ArrayList", "add", "(Ljava/lang/Object;)Z"⟩ : MethodName)) hown (mvT hZ (hw _ (List.mem_of_getElem? (i := 51) rfl))) (mvT hZ (hw _ (List.mem_of_getElem? (i := 52) rfl))) (notFace_of_selects (args := #[]) (mvT hZ (hw _ (List.mem_of_getElem? (i := 54) rfl)))) (mvT hZ (hw _ (List.mem_of_getElem? (i := 54) rfl))) (mvT hZ (hw _ (List.mem_of_getElem? (i := 53) rfl))) (by decide) (backOf (W := 0) (rm8e l Z a0 hw [] b46 b7 z0_DEFAULTCAPACITY_EMPTY_ELEMENTDATA qk0 (0 : Int32) T55.heap n0 (Nat.le_trans Z0 K55.1) F55_0 F55_1 F256 F258 F260 F55_2 F255 g_b46 ne_z0_DEFAULTCAPACITY_EMPTY_ELEMENTDATA_b46) hZ (hw _ (List.mem_of_getElem? (i := 55) rfl)) (hw _ (List.mem_of_getElem? (i := 29) rfl)) (by decide) (by decide)) q270a q270c (g := (mkF m 88 #[.val (.int i0), .val (.int i1), .val (.int i2), .val (.int i3), .val (.int i4), .val (.int (1 : Int32)), .val (.int (i1 &&& (3 : Int32))), .val (.int v5_s0), .val (.ref b7), .val (.ref b18), .val (.ref b31), .val (.ref b46), .unset, .unset, .unset, .unset, .unset] [(.ref b7), (.ref b46)])) rfl (by rw [hml]; rfl) (Steps.refl _) (argsL := [(.ref b7)]) (rest := []) (lenOf pd_12 rfl) rfl (by show 2 * 0 + _ ≤ _; exact Nat.le_of_eq rfl) (hb hby at_88) (fun _ _ => ⟨rfl, rfl, (by decide : 4 + 1 ≤ _), (by decide : 21 + 10 ≤ _)⟩)
    dsimp only [Pt.U, Pt.locs, Pt.cells, Pt.slots] at X270 l270 y270 z270 st270 hQ270
    subst l270 y270 z270
    obtain ⟨b9_4_3_15_270, k9_4_3_15_270, rfl, N270q, Kc270, sz_b9_4_3_15_270, F270_0, F270_1, F270_2, F270_3, F270_4⟩ := hQ270
    have N270 := Fr.app N55 N270q
    have ne_z0_DEFAULTCAPACITY_EMPTY_ELEMENTDATA_b9_4_3_15_270 : z0_DEFAULTCAPACITY_EMPTY_ELEMENTDATA ≠ b9_4_3_15_270 := Nat.ne_of_lt (Nat.lt_of_lt_of_le F258.lt sz_b9_4_3_15_270)
    have ne_z0_EMPTY_LIST_b9_4_3_15_270 : z0_EMPTY_LIST ≠ b9_4_3_15_270 := Nat.ne_of_lt (Nat.lt_of_lt_of_le F262.lt sz_b9_4_3_15_270)
    have ne_qe_b9_4_3_15_270 : qe ≠ b9_4_3_15_270 := Nat.ne_of_lt (Nat.lt_of_lt_of_le F264.lt sz_b9_4_3_15_270)
    have ne_b7_b9_4_3_15_270 : b7 ≠ b9_4_3_15_270 := Nat.ne_of_lt (Nat.lt_of_lt_of_le F260.lt sz_b9_4_3_15_270)
    have ne_b18_b9_4_3_15_270 : b18 ≠ b9_4_3_15_270 := Nat.ne_of_lt (Nat.lt_of_lt_of_le F266.lt sz_b9_4_3_15_270)
    have ne_b31_b9_4_3_15_270 : b31 ≠ b9_4_3_15_270 := Nat.ne_of_lt (Nat.lt_of_lt_of_le F268.lt sz_b9_4_3_15_270)
    have ne_b46_b9_4_3_15_270 : b46 ≠ b9_4_3_15_270 := Nat.ne_of_lt (Nat.lt_of_lt_of_le F255.lt sz_b9_4_3_15_270)
    have g_b9_4_3_15_270 : n0 ≤ b9_4_3_15_270 := Nat.le_trans (Nat.le_trans Z0 K55.1) sz_b9_4_3_15_270
    have o_b9_4_3_15_270 : h0.size ≤ b9_4_3_15_270 := Nat.le_trans K55.1 sz_b9_4_3_15_270
    have K270 : Keep h0 T270.heap [] := Keep.trans K55 Kc270 (allS (Or.inr o_b46) all0)
    have P270 : own_Go p e below S0 (T270.setTop (mkF m 91 #[.val (.int i0), .val (.int i1), .val (.int i2), .val (.int i3), .val (.int i4), .val (.int (1 : Int32)), .val (.int (i1 &&& (3 : Int32))), .val (.int v5_s0), .val (.ref b7), .val (.ref b18), .val (.ref b31), .val (.ref b46), .unset, .unset, .unset, .unset, .unset] [(.int (1 : Int32))])) := fun t k => P269 t (st270.trans k)
    have F271 : Arv Z T270.heap z0_DEFAULTCAPACITY_EMPTY_ELEMENTDATA qk0 (.object "java/lang/Object") (0 : Int32) [] .null := F258.keep Kc270 (ninS ne_z0_DEFAULTCAPACITY_EMPTY_ELEMENTDATA_b46 nin0)
    have F272 : Fld Z T270.heap z0_EMPTY_LIST "java/util/ImmutableCollections$ListN" "elements" "[Ljava/lang/Object;" (.ref qe) := F262.keep Kc270 (ninS ne_z0_EMPTY_LIST_b46 nin0)
    have F273 : Arv Z T270.heap qe qke (.object "java/lang/Object") (0 : Int32) [] .null := F264.keep Kc270 (ninS ne_qe_b46 nin0)
    have F274 : Exa Z T270.heap b7 "com/example/penelope/penelope/program/Move" := F260.keep Kc270
    have F275 : Exa Z T270.heap b18 "com/example/penelope/penelope/program/Move" := F266.keep Kc270
    have F276 : Exa Z T270.heap b31 "com/example/penelope/penelope/program/Move" := F268.keep Kc270
    have F277 : Exa Z T270.heap b46 "java/util/ArrayList" := F255.keep Kc270
    have P278 : own_Go p e below S0 (T270.setTop (mkF m 120 #[.val (.int i0), .val (.int i1), .val (.int i2), .val (.int i3), .val (.int i4), .val (.int (1 : Int32)), .val (.int (i1 &&& (3 : Int32))), .val (.int v5_s0), .val (.ref b7), .val (.ref b18), .val (.ref b31), .val (.ref b46), .unset, .unset, .unset, .unset, .unset] [])) := fun t k => P270 t (by
      show Steps p.tables e below (T270.setTop (mkF m 91 #[.val (.int i0), .val (.int i1), .val (.int i2), .val (.int i3), .val (.int i4), .val (.int (1 : Int32)), .val (.int (i1 &&& (3 : Int32))), .val (.int v5_s0), .val (.ref b7), .val (.ref b18), .val (.ref b31), .val (.ref b46), .unset, .unset, .unset, .unset, .unset] [(.int (1 : Int32))])) t
      refine XS.pop X270.here hx rfl (hb hby at_91) rfl rfl ?_
      refine XS.iload X270.here hx rfl (hb hby at_92) rfl ?_
      refine XS.iconst X270.here hx rfl (hb hby at_94) ?_
      refine XS.icmpYes X270.here hx rfl (pc0 := 95) (pc' := 106) rfl (hb hby at_95) rfl (flt (by decide)).2.2.2 (by decide) (by decide) ?_
      refine XS.iload X270.here hx rfl (hb hby at_106) rfl ?_
      refine XS.iconst X270.here hx rfl (hb hby at_108) ?_
      show Steps p.tables e below (T270.setTop (mkF m 109 #[.val (.int i0), .val (.int i1), .val (.int i2), .val (.int i3), .val (.int i4), .val (.int (1 : Int32)), .val (.int (i1 &&& (3 : Int32))), .val (.int v5_s0), .val (.ref b7), .val (.ref b18), .val (.ref b31), .val (.ref b46), .unset, .unset, .unset, .unset, .unset] [(.int (2 : Int32)), (.int (1 : Int32))])) t
      refine XS.icmpYes X270.here hx rfl (pc0 := 109) (pc' := 120) rfl (hb hby at_109) rfl (flt (by decide)).2.2.2 (by decide) (by decide) ?_
      show Steps p.tables e below (T270.setTop (mkF m 120 #[.val (.int i0), .val (.int i1), .val (.int i2), .val (.int i3), .val (.int i4), .val (.int (1 : Int32)), .val (.int (i1 &&& (3 : Int32))), .val (.int v5_s0), .val (.ref b7), .val (.ref b18), .val (.ref b31), .val (.ref b46), .unset, .unset, .unset, .unset, .unset] [])) t
      exact k)
    obtain ⟨T279, h279, X279, e279, E279, A279, D279, -, st279⟩ := newO X270 hx hZ hown (hw _ (List.mem_of_getElem? (i := 27) rfl)) (hw _ (List.mem_of_getElem? (i := 28) rfl)) (hw _ (List.mem_of_getElem? (i := 29) rfl)) rfl (g := (mkF m 120 #[.val (.int i0), .val (.int i1), .val (.int i2), .val (.int i3), .val (.int i4), .val (.int (1 : Int32)), .val (.int (i1 &&& (3 : Int32))), .val (.int v5_s0), .val (.ref b7), .val (.ref b18), .val (.ref b31), .val (.ref b46), .unset, .unset, .unset, .unset, .unset] [])) rfl (hb hby at_120) (by decide) (by decide)
    obtain ⟨b279, g279⟩ : ∃ z, z = T270.heap.size := ⟨_, rfl⟩
    rw [← g279] at A279 D279 st279
    have sz_b279 : T270.heap.size ≤ b279 := Nat.le_of_eq g279.symm
    have ne_z0_DEFAULTCAPACITY_EMPTY_ELEMENTDATA_b279 : z0_DEFAULTCAPACITY_EMPTY_ELEMENTDATA ≠ b279 := Nat.ne_of_lt (Nat.lt_of_lt_of_le F271.lt sz_b279)
    have ne_z0_EMPTY_LIST_b279 : z0_EMPTY_LIST ≠ b279 := Nat.ne_of_lt (Nat.lt_of_lt_of_le F272.lt sz_b279)
    have ne_qe_b279 : qe ≠ b279 := Nat.ne_of_lt (Nat.lt_of_lt_of_le F273.lt sz_b279)
    have ne_b7_b279 : b7 ≠ b279 := Nat.ne_of_lt (Nat.lt_of_lt_of_le F274.lt sz_b279)
    have ne_b18_b279 : b18 ≠ b279 := Nat.ne_of_lt (Nat.lt_of_lt_of_le F275.lt sz_b279)
    have ne_b31_b279 : b31 ≠ b279 := Nat.ne_of_lt (Nat.lt_of_lt_of_le F276.lt sz_b279)
    have ne_b46_b279 : b46 ≠ b279 := Nat.ne_of_lt (Nat.lt_of_lt_of_le F277.lt sz_b279)
    have ne_b9_4_3_15_270_b279 : b9_4_3_15_270 ≠ b279 := Nat.ne_of_lt (Nat.lt_of_lt_of_le F270_3.lt sz_b279)
    have g_b279 : n0 ≤ b279 := Nat.le_trans (Nat.le_trans Z0 K270.1) sz_b279
    have o_b279 : h0.size ≤ b279 := Nat.le_trans K270.1 sz_b279
    have K279 : Keep h0 h279 [] := K270.ext E279
    have F279_modCount : Fld Z h279 b279 "java/util/AbstractList" "modCount" "I" (.int (0 : Int32)) := D279 (Or.inl (hw _ (List.mem_of_getElem? (i := 47) rfl))) (ty := .int) (by decide)
    have F279_elementData : Fld Z h279 b279 "java/util/ArrayList" "elementData" "[Ljava/lang/Object;" .null := D279 (Or.inl (hw _ (List.mem_of_getElem? (i := 50) rfl))) (ty := (.array (.object "java/lang/Object"))) (by decide)
    have F279_size : Fld Z h279 b279 "java/util/ArrayList" "size" "I" (.int (0 : Int32)) := D279 (Or.inl (hw _ (List.mem_of_getElem? (i := 59) rfl))) (ty := .int) (by decide)
    have P279 : own_Go p e below S0 (T279.setTop (mkF m 123 #[.val (.int i0), .val (.int i1), .val (.int i2), .val (.int i3), .val (.int i4), .val (.int (1 : Int32)), .val (.int (i1 &&& (3 : Int32))), .val (.int v5_s0), .val (.ref b7), .val (.ref b18), .val (.ref b31), .val (.ref b46), .unset, .unset, .unset, .unset, .unset] [(.ref b279)])) := fun t k => P278 t (st279 _ k)
    have F280 : Sta Z T270.heap "java/util/ArrayList" "DEFAULTCAPACITY_EMPTY_ELEMENTDATA" "[Ljava/lang/Object;" (.ref z0_DEFAULTCAPACITY_EMPTY_ELEMENTDATA) := own_staK F256 Kc270 (allS (own_plE F255) all0)
    have F281 : Sta Z h279 "java/util/ArrayList" "DEFAULTCAPACITY_EMPTY_ELEMENTDATA" "[Ljava/lang/Object;" (.ref z0_DEFAULTCAPACITY_EMPTY_ELEMENTDATA) := F280.ext E279
    have P282 : own_Go p e below S0 (T279.setTop (mkF m 124 #[.val (.int i0), .val (.int i1), .val (.int i2), .val (.int i3), .val (.int i4), .val (.int (1 : Int32)), .val (.int (i1 &&& (3 : Int32))), .val (.int v5_s0), .val (.ref b7), .val (.ref b18), .val (.ref b31), .val (.ref b46), .unset, .unset, .unset, .unset, .unset] [(.ref b279), (.ref b279)])) := fun t k => P279 t (by
      show Steps p.tables e below (T279.setTop (mkF m 123 #[.val (.int i0), .val (.int i1), .val (.int i2), .val (.int i3), .val (.int i4), .val (.int (1 : Int32)), .val (.int (i1 &&& (3 : Int32))), .val (.int v5_s0), .val (.ref b7), .val (.ref b18), .val (.ref b31), .val (.ref b46), .unset, .unset, .unset, .unset, .unset] [(.ref b279)])) t
      refine XS.dup X279.here hx rfl (hb hby at_123) rfl rfl ?_
      show Steps p.tables e below (T279.setTop (mkF m 124 #[.val (.int i0), .val (.int i1), .val (.int i2), .val (.int i3), .val (.int i4), .val (.int (1 : Int32)), .val (.int (i1 &&& (3 : Int32))), .val (.int v5_s0), .val (.ref b7), .val (.ref b18), .val (.ref b31), .val (.ref b46), .unset, .unset, .unset, .unset, .unset] [(.ref b279), (.ref b279)])) t
      exact k)
    obtain ⟨_, _, ⟨T283, L283, k283, n283⟩, -, X283, ⟨Lc283, hQ283, l283, y283, z283⟩, st283⟩ := X279.specialBack hx (y := (⟨"java/util/ArrayList", "<init>", "()V"⟩ : MethodName)) rfl hown (mvT hZ (hw _ (List.mem_of_getElem? (i := 30) rfl))) (mvT hZ (hw _ (List.mem_of_getElem? (i := 31) rfl))) (mvT hZ (hw _ (List.mem_of_getElem? (i := 32) rfl))) (by decide) (backOf (W := 1) (rm5 l Z a0 hw [] b279 (0 : Int32) (.int (0 : Int32)) z0_DEFAULTCAPACITY_EMPTY_ELEMENTDATA h279 n0 (Nat.le_trans Z0 K279.1) F279_size F279_elementData A279 F279_modCount g_b279 F281) hZ (hw _ (List.mem_of_getElem? (i := 32) rfl)) (hw _ (List.mem_of_getElem? (i := 29) rfl)) (by decide) (by decide)) (g := (mkF m 124 #[.val (.int i0), .val (.int i1), .val (.int i2), .val (.int i3), .val (.int i4), .val (.int (1 : Int32)), .val (.int (i1 &&& (3 : Int32))), .val (.int v5_s0), .val (.ref b7), .val (.ref b18), .val (.ref b31), .val (.ref b46), .unset, .unset, .unset, .unset, .unset] [(.ref b279), (.ref b279)])) rfl (by rw [hml]; rfl) (Steps.refl _) (a := b279) (argsL := []) (rest := [(.ref b279)]) (lenOf pd_1 rfl) rfl (by show 2 * 0 + _ ≤ _; exact Nat.le_of_eq rfl) (hb hby at_124) (fun _ _ => ⟨rfl, e279, (by decide : 6 + 0 ≤ _), (by decide : 34 + 0 ≤ _)⟩)
    dsimp only [Pt.U, Pt.locs, Pt.cells, Pt.slots] at X283 l283 y283 z283 st283 hQ283
    subst l283 y283 z283
    obtain ⟨rfl, N283q, Kc283, F283_0, F283_1, F283_2⟩ := hQ283
    have N283 := Fr.app N270 N283q
    have K283 : Keep h0 T283.heap [] := Keep.trans K279 Kc283 (allS (Or.inr o_b279) all0)
    have P283 : own_Go p e below S0 (T283.setTop (mkF m 127 #[.val (.int i0), .val (.int i1), .val (.int i2), .val (.int i3), .val (.int i4), .val (.int (1 : Int32)), .val (.int (i1 &&& (3 : Int32))), .val (.int v5_s0), .val (.ref b7), .val (.ref b18), .val (.ref b31), .val (.ref b46), .unset, .unset, .unset, .unset, .unset] [(.ref b279)])) := fun t k => P282 t (st283.trans k)
    have F284 : Sta Z T283.heap "java/util/ArrayList" "DEFAULTCAPACITY_EMPTY_ELEMENTDATA" "[Ljava/lang/Object;" (.ref z0_DEFAULTCAPACITY_EMPTY_ELEMENTDATA) := own_staK F281 Kc283 (allS (own_plE A279) all0)
    have F285 : Arv Z h279 z0_DEFAULTCAPACITY_EMPTY_ELEMENTDATA qk0 (.object "java/lang/Object") (0 : Int32) [] .null := F271.ext E279
    have F286 : Arv Z T283.heap z0_DEFAULTCAPACITY_EMPTY_ELEMENTDATA qk0 (.object "java/lang/Object") (0 : Int32) [] .null := F285.keep Kc283 (ninS ne_z0_DEFAULTCAPACITY_EMPTY_ELEMENTDATA_b279 nin0)
    have F287 : Sta Z h7 "java/util/ImmutableCollections" "EMPTY_LIST" "Ljava/util/ImmutableCollections$ListN;" (.ref z0_EMPTY_LIST) := S_EMPTY_LIST.ext E7
    have F288 : Sta Z T9.heap "java/util/ImmutableCollections" "EMPTY_LIST" "Ljava/util/ImmutableCollections$ListN;" (.ref z0_EMPTY_LIST) := own_staK F287 Kc9 (allS (own_plE A7) all0)
    have F289 : Sta Z h18 "java/util/ImmutableCollections" "EMPTY_LIST" "Ljava/util/ImmutableCollections$ListN;" (.ref z0_EMPTY_LIST) := F288.ext E18
    have F290 : Sta Z T20.heap "java/util/ImmutableCollections" "EMPTY_LIST" "Ljava/util/ImmutableCollections$ListN;" (.ref z0_EMPTY_LIST) := own_staK F289 Kc20 (allS (own_plE A18) all0)
    have F291 : Sta Z h31 "java/util/ImmutableCollections" "EMPTY_LIST" "Ljava/util/ImmutableCollections$ListN;" (.ref z0_EMPTY_LIST) := F290.ext E31
    have F292 : Sta Z T33.heap "java/util/ImmutableCollections" "EMPTY_LIST" "Ljava/util/ImmutableCollections$ListN;" (.ref z0_EMPTY_LIST) := own_staK F291 Kc33 (allS (own_plE A31) all0)
    have F293 : Sta Z h46 "java/util/ImmutableCollections" "EMPTY_LIST" "Ljava/util/ImmutableCollections$ListN;" (.ref z0_EMPTY_LIST) := F292.ext E46
    have F294 : Sta Z T55.heap "java/util/ImmutableCollections" "EMPTY_LIST" "Ljava/util/ImmutableCollections$ListN;" (.ref z0_EMPTY_LIST) := own_staK F293 Kc55 (allS (own_plE A46) all0)
    have F295 : Sta Z T270.heap "java/util/ImmutableCollections" "EMPTY_LIST" "Ljava/util/ImmutableCollections$ListN;" (.ref z0_EMPTY_LIST) := own_staK F294 Kc270 (allS (own_plE F255) all0)
    have F296 : Sta Z h279 "java/util/ImmutableCollections" "EMPTY_LIST" "Ljava/util/ImmutableCollections$ListN;" (.ref z0_EMPTY_LIST) := F295.ext E279
    have F297 : Sta Z T283.heap "java/util/ImmutableCollections" "EMPTY_LIST" "Ljava/util/ImmutableCollections$ListN;" (.ref z0_EMPTY_LIST) := own_staK F296 Kc283 (allS (own_plE A279) all0)
    have F298 : Fld Z h279 z0_EMPTY_LIST "java/util/ImmutableCollections$ListN" "elements" "[Ljava/lang/Object;" (.ref qe) := F272.ext E279
    have F299 : Fld Z T283.heap z0_EMPTY_LIST "java/util/ImmutableCollections$ListN" "elements" "[Ljava/lang/Object;" (.ref qe) := F298.keep Kc283 (ninS ne_z0_EMPTY_LIST_b279 nin0)
    have F300 : Arv Z h279 qe qke (.object "java/lang/Object") (0 : Int32) [] .null := F273.ext E279
    have F301 : Arv Z T283.heap qe qke (.object "java/lang/Object") (0 : Int32) [] .null := F300.keep Kc283 (ninS ne_qe_b279 nin0)
    have F302 : Exa Z h7 z0_EMPTY_LIST "java/util/ImmutableCollections$ListN" := E_z0_EMPTY_LIST.ext E7
    have F303 : Exa Z T9.heap z0_EMPTY_LIST "java/util/ImmutableCollections$ListN" := F302.keep Kc9
    have F304 : Exa Z h18 z0_EMPTY_LIST "java/util/ImmutableCollections$ListN" := F303.ext E18
    have F305 : Exa Z T20.heap z0_EMPTY_LIST "java/util/ImmutableCollections$ListN" := F304.keep Kc20
    have F306 : Exa Z h31 z0_EMPTY_LIST "java/util/ImmutableCollections$ListN" := F305.ext E31
    have F307 : Exa Z T33.heap z0_EMPTY_LIST "java/util/ImmutableCollections$ListN" := F306.keep Kc33
    have F308 : Exa Z h46 z0_EMPTY_LIST "java/util/ImmutableCollections$ListN" := F307.ext E46
    have F309 : Exa Z T55.heap z0_EMPTY_LIST "java/util/ImmutableCollections$ListN" := F308.keep Kc55
    have F310 : Exa Z T270.heap z0_EMPTY_LIST "java/util/ImmutableCollections$ListN" := F309.keep Kc270
    have F311 : Exa Z h279 z0_EMPTY_LIST "java/util/ImmutableCollections$ListN" := F310.ext E279
    have F312 : Exa Z T283.heap z0_EMPTY_LIST "java/util/ImmutableCollections$ListN" := F311.keep Kc283
    have F313 : Exa Z h279 b46 "java/util/ArrayList" := F277.ext E279
    have F314 : Exa Z T283.heap b46 "java/util/ArrayList" := F313.keep Kc283
    have F315 : Fld Z h279 b46 "java/util/ArrayList" "elementData" "[Ljava/lang/Object;" (.ref b9_4_3_15_270) := F270_0.ext E279
    have F316 : Fld Z T283.heap b46 "java/util/ArrayList" "elementData" "[Ljava/lang/Object;" (.ref b9_4_3_15_270) := F315.keep Kc283 (ninS ne_b46_b279 nin0)
    have F317 : Fld Z h279 b46 "java/util/ArrayList" "size" "I" (.int (1 : Int32)) := F270_1.ext E279
    have F318 : Fld Z T283.heap b46 "java/util/ArrayList" "size" "I" (.int (1 : Int32)) := F317.keep Kc283 (ninS ne_b46_b279 nin0)
    have F319 : Fld Z h279 b46 "java/util/AbstractList" "modCount" "I" (.int ((0 : Int32) + (1 : Int32))) := F270_2.ext E279
    have F320 : Fld Z T283.heap b46 "java/util/AbstractList" "modCount" "I" (.int ((0 : Int32) + (1 : Int32))) := F319.keep Kc283 (ninS ne_b46_b279 nin0)
    have F321 : Arv Z h279 b9_4_3_15_270 k9_4_3_15_270 (.object "java/lang/Object") (10 : Int32) [(.ref b7), .null, .null, .null, .null, .null, .null, .null, .null, .null] .null := F270_3.ext E279
    have F322 : Arv Z T283.heap b9_4_3_15_270 k9_4_3_15_270 (.object "java/lang/Object") (10 : Int32) [(.ref b7), .null, .null, .null, .null, .null, .null, .null, .null, .null] .null := F321.keep Kc283 (ninS ne_b9_4_3_15_270_b279 nin0)
    have P323 : own_Go p e below S0 (T283.setTop (mkF m 131 #[.val (.int i0), .val (.int i1), .val (.int i2), .val (.int i3), .val (.int i4), .val (.int (1 : Int32)), .val (.int (i1 &&& (3 : Int32))), .val (.int v5_s0), .val (.ref b7), .val (.ref b18), .val (.ref b31), .val (.ref b46), .val (.ref b279), .unset, .unset, .unset, .unset] [(.int (i1 &&& (3 : Int32)))])) := fun t k => P283 t (by
      show Steps p.tables e below (T283.setTop (mkF m 127 #[.val (.int i0), .val (.int i1), .val (.int i2), .val (.int i3), .val (.int i4), .val (.int (1 : Int32)), .val (.int (i1 &&& (3 : Int32))), .val (.int v5_s0), .val (.ref b7), .val (.ref b18), .val (.ref b31), .val (.ref b46), .unset, .unset, .unset, .unset, .unset] [(.ref b279)])) t
      refine XS.astore X283.here hx rfl (hb hby at_127) rfl rfl (l' := #[.val (.int i0), .val (.int i1), .val (.int i2), .val (.int i3), .val (.int i4), .val (.int (1 : Int32)), .val (.int (i1 &&& (3 : Int32))), .val (.int v5_s0), .val (.ref b7), .val (.ref b18), .val (.ref b31), .val (.ref b46), .val (.ref b279), .unset, .unset, .unset, .unset]) rfl ?_
      refine XS.iload X283.here hx rfl (hb hby at_129) rfl ?_
      show Steps p.tables e below (T283.setTop (mkF m 131 #[.val (.int i0), .val (.int i1), .val (.int i2), .val (.int i3), .val (.int i4), .val (.int (1 : Int32)), .val (.int (i1 &&& (3 : Int32))), .val (.int v5_s0), .val (.ref b7), .val (.ref b18), .val (.ref b31), .val (.ref b46), .val (.ref b279), .unset, .unset, .unset, .unset] [(.int (i1 &&& (3 : Int32)))])) t
      exact k)
    obtain ⟨T419, lo419, h419, X419, e419, N419, K419, F420, F421, F422, F423, F424, F425, F426, F427, F428, F429, F430, F431, P419⟩ : ∃ (T419 : State) (lo419 : List Loc) (h419 : Heap), (Stand p l e room_1 s m #[(.int i0), (.int i1), (.int i2), (.int i3), (.int i4)] below meth c T419 lo419 7 44) ∧ (T419.heap = h419) ∧ (Fr n0 lo419) ∧ (Keep h0 h419 []) ∧ (Sta Z h419 "java/util/ArrayList" "DEFAULTCAPACITY_EMPTY_ELEMENTDATA" "[Ljava/lang/Object;" (.ref z0_DEFAULTCAPACITY_EMPTY_ELEMENTDATA)) ∧ (Arv Z h419 z0_DEFAULTCAPACITY_EMPTY_ELEMENTDATA qk0 (.object "java/lang/Object") (0 : Int32) [] .null) ∧ (Sta Z h419 "java/util/ImmutableCollections" "EMPTY_LIST" "Ljava/util/ImmutableCollections$ListN;" (.ref z0_EMPTY_LIST)) ∧ (Fld Z h419 z0_EMPTY_LIST "java/util/ImmutableCollections$ListN" "elements" "[Ljava/lang/Object;" (.ref qe)) ∧ (Arv Z h419 qe qke (.object "java/lang/Object") (0 : Int32) [] .null) ∧ (Exa Z h419 z0_EMPTY_LIST "java/util/ImmutableCollections$ListN") ∧ (Exa Z h419 b46 "java/util/ArrayList") ∧ (Fld Z h419 b46 "java/util/ArrayList" "elementData" "[Ljava/lang/Object;" (.ref b9_4_3_15_270)) ∧ (Fld Z h419 b46 "java/util/ArrayList" "size" "I" (.int (1 : Int32))) ∧ (Fld Z h419 b46 "java/util/AbstractList" "modCount" "I" (.int ((0 : Int32) + (1 : Int32)))) ∧ (Arv Z h419 b9_4_3_15_270 k9_4_3_15_270 (.object "java/lang/Object") (10 : Int32) [(.ref b7), .null, .null, .null, .null, .null, .null, .null, .null, .null] .null) ∧ (Ovr Z k9_4_3_15_270 "java/lang/Object") ∧ (own_Go p e below S0 (T419.setTop (mkF m 170 #[.val (.int i0), .val (.int i1), .val (.int i2), .val (.int i3), .val (.int i4), .val (.int (1 : Int32)), .val (.int (i1 &&& (3 : Int32))), .val (.int v5_s0), .val (.ref b7), .val (.ref b18), .val (.ref b31), .val (.ref b46), .val (.ref b279), .unset, .unset, .unset, .unset] []))) := by
      by_cases c324 : (0 : Int32) < (i1 &&& (3 : Int32))
      · skip
        have F325 : Exa Z T283.heap b279 "java/util/ArrayList" := A279.keep Kc283
        have F326 : Exa Z h279 b31 "com/example/penelope/penelope/program/Move" := F276.ext E279
        have F327 : Exa Z T283.heap b31 "com/example/penelope/penelope/program/Move" := F326.keep Kc283
        have F328 : Exa Z h279 b7 "com/example/penelope/penelope/program/Move" := F274.ext E279
        have F329 : Exa Z T283.heap b7 "com/example/penelope/penelope/program/Move" := F328.keep Kc283
        have F330 : Exa Z h279 b18 "com/example/penelope/penelope/program/Move" := F275.ext E279
        have F331 : Exa Z T283.heap b18 "com/example/penelope/penelope/program/Move" := F330.keep Kc283
        have P332 : own_Go p e below S0 (T283.setTop (mkF m 138 #[.val (.int i0), .val (.int i1), .val (.int i2), .val (.int i3), .val (.int i4), .val (.int (1 : Int32)), .val (.int (i1 &&& (3 : Int32))), .val (.int v5_s0), .val (.ref b7), .val (.ref b18), .val (.ref b31), .val (.ref b46), .val (.ref b279), .unset, .unset, .unset, .unset] [(.ref b31), (.ref b279)])) := fun t k => P323 t (by
          show Steps p.tables e below (T283.setTop (mkF m 131 #[.val (.int i0), .val (.int i1), .val (.int i2), .val (.int i3), .val (.int i4), .val (.int (1 : Int32)), .val (.int (i1 &&& (3 : Int32))), .val (.int v5_s0), .val (.ref b7), .val (.ref b18), .val (.ref b31), .val (.ref b46), .val (.ref b279), .unset, .unset, .unset, .unset] [(.int (i1 &&& (3 : Int32)))])) t
          refine XS.ifNo X283.here hx rfl (hb hby at_131) rfl ((if0 _ _).trans (tlt c324).2.2.2) ?_
          refine XS.aload X283.here hx rfl (hb hby at_134) rfl rfl ?_
          refine XS.aload X283.here hx rfl (hb hby at_136) rfl rfl ?_
          show Steps p.tables e below (T283.setTop (mkF m 138 #[.val (.int i0), .val (.int i1), .val (.int i2), .val (.int i3), .val (.int i4), .val (.int (1 : Int32)), .val (.int (i1 &&& (3 : Int32))), .val (.int v5_s0), .val (.ref b7), .val (.ref b18), .val (.ref b31), .val (.ref b46), .val (.ref b279), .unset, .unset, .unset, .unset] [(.ref b31), (.ref b279)])) t
          exact k)
        obtain ⟨cq333, kq333, q333a, q333b, q333c⟩ := isOf hZ rfl F325
        obtain ⟨_, _, ⟨T333, L333, k333, n333⟩, -, X333, ⟨Lc333, hQ333, l333, y333, z333⟩, st333⟩ := X283.virtualBack hx (y := (⟨"java/util/ArrayList", "add", "(Ljava/lang/Object;)Z"⟩ : MethodName)) (z := (⟨"java/util/ArrayList", "add", "(Ljava/lang/Object;)Z"⟩ : MethodName)) hown (mvT hZ (hw _ (List.mem_of_getElem? (i := 51) rfl))) (mvT hZ (hw _ (List.mem_of_getElem? (i := 52) rfl))) (notFace_of_selects (args := #[]) (mvT hZ (hw _ (List.mem_of_getElem? (i := 54) rfl)))) (mvT hZ (hw _ (List.mem_of_getElem? (i := 54) rfl))) (mvT hZ (hw _ (List.mem_of_getElem? (i := 53) rfl))) (by decide) (backOf (W := 0) (rm8e l Z a0 hw [] b279 b31 z0_DEFAULTCAPACITY_EMPTY_ELEMENTDATA qk0 (0 : Int32) T283.heap n0 (Nat.le_trans Z0 K283.1) F283_0 F283_1 F284 F286 F327 F283_2 F325 g_b279 ne_z0_DEFAULTCAPACITY_EMPTY_ELEMENTDATA_b279) hZ (hw _ (List.mem_of_getElem? (i := 55) rfl)) (hw _ (List.mem_of_getElem? (i := 29) rfl)) (by decide) (by decide)) q333a q333c (g := (mkF m 138 #[.val (.int i0), .val (.int i1), .val (.int i2), .val (.int i3), .val (.int i4), .val (.int (1 : Int32)), .val (.int (i1 &&& (3 : Int32))), .val (.int v5_s0), .val (.ref b7), .val (.ref b18), .val (.ref b31), .val (.ref b46), .val (.ref b279), .unset, .unset, .unset, .unset] [(.ref b31), (.ref b279)])) rfl (by rw [hml]; rfl) (Steps.refl _) (argsL := [(.ref b31)]) (rest := []) (lenOf pd_12 rfl) rfl (by show 2 * 0 + _ ≤ _; exact Nat.le_of_eq rfl) (hb hby at_138) (fun _ _ => ⟨rfl, rfl, (by decide : 6 + 1 ≤ _), (by decide : 34 + 10 ≤ _)⟩)
        dsimp only [Pt.U, Pt.locs, Pt.cells, Pt.slots] at X333 l333 y333 z333 st333 hQ333
        subst l333 y333 z333
        obtain ⟨b9_4_3_15_333, k9_4_3_15_333, rfl, N333q, Kc333, sz_b9_4_3_15_333, F333_0, F333_1, F333_2, F333_3, F333_4⟩ := hQ333
        have N333 := Fr.app N283 N333q
        have ne_z0_DEFAULTCAPACITY_EMPTY_ELEMENTDATA_b9_4_3_15_333 : z0_DEFAULTCAPACITY_EMPTY_ELEMENTDATA ≠ b9_4_3_15_333 := Nat.ne_of_lt (Nat.lt_of_lt_of_le F286.lt sz_b9_4_3_15_333)
        have ne_z0_EMPTY_LIST_b9_4_3_15_333 : z0_EMPTY_LIST ≠ b9_4_3_15_333 := Nat.ne_of_lt (Nat.lt_of_lt_of_le F299.lt sz_b9_4_3_15_333)
        have ne_qe_b9_4_3_15_333 : qe ≠ b9_4_3_15_333 := Nat.ne_of_lt (Nat.lt_of_lt_of_le F301.lt sz_b9_4_3_15_333)
        have ne_b7_b9_4_3_15_333 : b7 ≠ b9_4_3_15_333 := Nat.ne_of_lt (Nat.lt_of_lt_of_le F329.lt sz_b9_4_3_15_333)
        have ne_b18_b9_4_3_15_333 : b18 ≠ b9_4_3_15_333 := Nat.ne_of_lt (Nat.lt_of_lt_of_le F331.lt sz_b9_4_3_15_333)
        have ne_b31_b9_4_3_15_333 : b31 ≠ b9_4_3_15_333 := Nat.ne_of_lt (Nat.lt_of_lt_of_le F327.lt sz_b9_4_3_15_333)
        have ne_b46_b9_4_3_15_333 : b46 ≠ b9_4_3_15_333 := Nat.ne_of_lt (Nat.lt_of_lt_of_le F314.lt sz_b9_4_3_15_333)
        have ne_b9_4_3_15_270_b9_4_3_15_333 : b9_4_3_15_270 ≠ b9_4_3_15_333 := Nat.ne_of_lt (Nat.lt_of_lt_of_le F322.lt sz_b9_4_3_15_333)
        have ne_b279_b9_4_3_15_333 : b279 ≠ b9_4_3_15_333 := Nat.ne_of_lt (Nat.lt_of_lt_of_le F325.lt sz_b9_4_3_15_333)
        have g_b9_4_3_15_333 : n0 ≤ b9_4_3_15_333 := Nat.le_trans (Nat.le_trans Z0 K283.1) sz_b9_4_3_15_333
        have o_b9_4_3_15_333 : h0.size ≤ b9_4_3_15_333 := Nat.le_trans K283.1 sz_b9_4_3_15_333
        have K333 : Keep h0 T333.heap [] := Keep.trans K283 Kc333 (allS (Or.inr o_b279) all0)
        have P333 : own_Go p e below S0 (T333.setTop (mkF m 141 #[.val (.int i0), .val (.int i1), .val (.int i2), .val (.int i3), .val (.int i4), .val (.int (1 : Int32)), .val (.int (i1 &&& (3 : Int32))), .val (.int v5_s0), .val (.ref b7), .val (.ref b18), .val (.ref b31), .val (.ref b46), .val (.ref b279), .unset, .unset, .unset, .unset] [(.int (1 : Int32))])) := fun t k => P332 t (st333.trans k)
        have P334 : own_Go p e below S0 (T333.setTop (mkF m 145 #[.val (.int i0), .val (.int i1), .val (.int i2), .val (.int i3), .val (.int i4), .val (.int (1 : Int32)), .val (.int (i1 &&& (3 : Int32))), .val (.int v5_s0), .val (.ref b7), .val (.ref b18), .val (.ref b31), .val (.ref b46), .val (.ref b279), .unset, .unset, .unset, .unset] [(.int (1 : Int32)), (.int (i1 &&& (3 : Int32)))])) := fun t k => P333 t (by
          show Steps p.tables e below (T333.setTop (mkF m 141 #[.val (.int i0), .val (.int i1), .val (.int i2), .val (.int i3), .val (.int i4), .val (.int (1 : Int32)), .val (.int (i1 &&& (3 : Int32))), .val (.int v5_s0), .val (.ref b7), .val (.ref b18), .val (.ref b31), .val (.ref b46), .val (.ref b279), .unset, .unset, .unset, .unset] [(.int (1 : Int32))])) t
          refine XS.pop X333.here hx rfl (hb hby at_141) rfl rfl ?_
          refine XS.iload X333.here hx rfl (hb hby at_142) rfl ?_
          refine XS.iconst X333.here hx rfl (hb hby at_144) ?_
          show Steps p.tables e below (T333.setTop (mkF m 145 #[.val (.int i0), .val (.int i1), .val (.int i2), .val (.int i3), .val (.int i4), .val (.int (1 : Int32)), .val (.int (i1 &&& (3 : Int32))), .val (.int v5_s0), .val (.ref b7), .val (.ref b18), .val (.ref b31), .val (.ref b46), .val (.ref b279), .unset, .unset, .unset, .unset] [(.int (1 : Int32)), (.int (i1 &&& (3 : Int32)))])) t
          exact k)
        by_cases c335 : (1 : Int32) < (i1 &&& (3 : Int32))
        · skip
          have F336 : Exa Z T333.heap b279 "java/util/ArrayList" := F325.keep Kc333
          have F337 : Exa Z T333.heap b31 "com/example/penelope/penelope/program/Move" := F327.keep Kc333
          have P338 : own_Go p e below S0 (T333.setTop (mkF m 152 #[.val (.int i0), .val (.int i1), .val (.int i2), .val (.int i3), .val (.int i4), .val (.int (1 : Int32)), .val (.int (i1 &&& (3 : Int32))), .val (.int v5_s0), .val (.ref b7), .val (.ref b18), .val (.ref b31), .val (.ref b46), .val (.ref b279), .unset, .unset, .unset, .unset] [(.ref b31), (.ref b279)])) := fun t k => P334 t (by
            show Steps p.tables e below (T333.setTop (mkF m 145 #[.val (.int i0), .val (.int i1), .val (.int i2), .val (.int i3), .val (.int i4), .val (.int (1 : Int32)), .val (.int (i1 &&& (3 : Int32))), .val (.int v5_s0), .val (.ref b7), .val (.ref b18), .val (.ref b31), .val (.ref b46), .val (.ref b279), .unset, .unset, .unset, .unset] [(.int (1 : Int32)), (.int (i1 &&& (3 : Int32)))])) t
            refine XS.icmpNo X333.here hx rfl (hb hby at_145) rfl (tlt c335).2.2.2 ?_
            refine XS.aload X333.here hx rfl (hb hby at_148) rfl rfl ?_
            refine XS.aload X333.here hx rfl (hb hby at_150) rfl rfl ?_
            show Steps p.tables e below (T333.setTop (mkF m 152 #[.val (.int i0), .val (.int i1), .val (.int i2), .val (.int i3), .val (.int i4), .val (.int (1 : Int32)), .val (.int (i1 &&& (3 : Int32))), .val (.int v5_s0), .val (.ref b7), .val (.ref b18), .val (.ref b31), .val (.ref b46), .val (.ref b279), .unset, .unset, .unset, .unset] [(.ref b31), (.ref b279)])) t
            exact k)
          obtain ⟨cq339, kq339, q339a, q339b, q339c⟩ := isOf hZ rfl F336
          obtain ⟨_, _, ⟨T339, L339, k339, n339⟩, -, X339, ⟨Lc339, hQ339, l339, y339, z339⟩, st339⟩ := X333.virtualBack hx (y := (⟨"java/util/ArrayList", "add", "(Ljava/lang/Object;)Z"⟩ : MethodName)) (z := (⟨"java/util/ArrayList", "add", "(Ljava/lang/Object;)Z"⟩ : MethodName)) hown (mvT hZ (hw _ (List.mem_of_getElem? (i := 51) rfl))) (mvT hZ (hw _ (List.mem_of_getElem? (i := 52) rfl))) (notFace_of_selects (args := #[]) (mvT hZ (hw _ (List.mem_of_getElem? (i := 54) rfl)))) (mvT hZ (hw _ (List.mem_of_getElem? (i := 54) rfl))) (mvT hZ (hw _ (List.mem_of_getElem? (i := 53) rfl))) (by decide) (backOf (W := 0) (rm8n1 l Z a0 hw [] b279 b31 b9_4_3_15_333 k9_4_3_15_333 b31 ((0 : Int32) + (1 : Int32)) T333.heap n0 (Nat.le_trans Z0 K333.1) F333_0 F333_1 F333_3 F333_4 F337 F333_2 F336 g_b279 (Ne.symm ne_b279_b9_4_3_15_333) g_b9_4_3_15_333) hZ (hw _ (List.mem_of_getElem? (i := 55) rfl)) (hw _ (List.mem_of_getElem? (i := 29) rfl)) (by decide) (by decide)) q339a q339c (g := (mkF m 152 #[.val (.int i0), .val (.int i1), .val (.int i2), .val (.int i3), .val (.int i4), .val (.int (1 : Int32)), .val (.int (i1 &&& (3 : Int32))), .val (.int v5_s0), .val (.ref b7), .val (.ref b18), .val (.ref b31), .val (.ref b46), .val (.ref b279), .unset, .unset, .unset, .unset] [(.ref b31), (.ref b279)])) rfl (by rw [hml]; rfl) (Steps.refl _) (argsL := [(.ref b31)]) (rest := []) (lenOf pd_12 rfl) rfl (by show 2 * 0 + _ ≤ _; exact Nat.le_of_eq rfl) (hb hby at_152) (fun _ _ => ⟨rfl, rfl, (by decide : 7 + 0 ≤ _), (by decide : 44 + 0 ≤ _)⟩)
          dsimp only [Pt.U, Pt.locs, Pt.cells, Pt.slots] at X339 l339 y339 z339 st339 hQ339
          subst l339 y339 z339
          obtain ⟨rfl, N339q, Kc339, F339_0, F339_1, F339_2, F339_3⟩ := hQ339
          have N339 := Fr.app N333 N339q
          have K339 : Keep h0 T339.heap [] := Keep.trans K333 Kc339 (allS (Or.inr o_b279) (allS (Or.inr o_b9_4_3_15_333) all0))
          have P339 : own_Go p e below S0 (T339.setTop (mkF m 155 #[.val (.int i0), .val (.int i1), .val (.int i2), .val (.int i3), .val (.int i4), .val (.int (1 : Int32)), .val (.int (i1 &&& (3 : Int32))), .val (.int v5_s0), .val (.ref b7), .val (.ref b18), .val (.ref b31), .val (.ref b46), .val (.ref b279), .unset, .unset, .unset, .unset] [(.int (1 : Int32))])) := fun t k => P338 t (st339.trans k)
          have P340 : own_Go p e below S0 (T339.setTop (mkF m 159 #[.val (.int i0), .val (.int i1), .val (.int i2), .val (.int i3), .val (.int i4), .val (.int (1 : Int32)), .val (.int (i1 &&& (3 : Int32))), .val (.int v5_s0), .val (.ref b7), .val (.ref b18), .val (.ref b31), .val (.ref b46), .val (.ref b279), .unset, .unset, .unset, .unset] [(.int (2 : Int32)), (.int (i1 &&& (3 : Int32)))])) := fun t k => P339 t (by
            show Steps p.tables e below (T339.setTop (mkF m 155 #[.val (.int i0), .val (.int i1), .val (.int i2), .val (.int i3), .val (.int i4), .val (.int (1 : Int32)), .val (.int (i1 &&& (3 : Int32))), .val (.int v5_s0), .val (.ref b7), .val (.ref b18), .val (.ref b31), .val (.ref b46), .val (.ref b279), .unset, .unset, .unset, .unset] [(.int (1 : Int32))])) t
            refine XS.pop X339.here hx rfl (hb hby at_155) rfl rfl ?_
            refine XS.iload X339.here hx rfl (hb hby at_156) rfl ?_
            refine XS.iconst X339.here hx rfl (hb hby at_158) ?_
            show Steps p.tables e below (T339.setTop (mkF m 159 #[.val (.int i0), .val (.int i1), .val (.int i2), .val (.int i3), .val (.int i4), .val (.int (1 : Int32)), .val (.int (i1 &&& (3 : Int32))), .val (.int v5_s0), .val (.ref b7), .val (.ref b18), .val (.ref b31), .val (.ref b46), .val (.ref b279), .unset, .unset, .unset, .unset] [(.int (2 : Int32)), (.int (i1 &&& (3 : Int32)))])) t
            exact k)
          by_cases c341 : (2 : Int32) < (i1 &&& (3 : Int32))
          · skip
            have F342 : Exa Z T339.heap b279 "java/util/ArrayList" := F336.keep Kc339
            have F343 : Exa Z T339.heap b31 "com/example/penelope/penelope/program/Move" := F337.keep Kc339
            have P344 : own_Go p e below S0 (T339.setTop (mkF m 166 #[.val (.int i0), .val (.int i1), .val (.int i2), .val (.int i3), .val (.int i4), .val (.int (1 : Int32)), .val (.int (i1 &&& (3 : Int32))), .val (.int v5_s0), .val (.ref b7), .val (.ref b18), .val (.ref b31), .val (.ref b46), .val (.ref b279), .unset, .unset, .unset, .unset] [(.ref b31), (.ref b279)])) := fun t k => P340 t (by
              show Steps p.tables e below (T339.setTop (mkF m 159 #[.val (.int i0), .val (.int i1), .val (.int i2), .val (.int i3), .val (.int i4), .val (.int (1 : Int32)), .val (.int (i1 &&& (3 : Int32))), .val (.int v5_s0), .val (.ref b7), .val (.ref b18), .val (.ref b31), .val (.ref b46), .val (.ref b279), .unset, .unset, .unset, .unset] [(.int (2 : Int32)), (.int (i1 &&& (3 : Int32)))])) t
              refine XS.icmpNo X339.here hx rfl (hb hby at_159) rfl (tlt c341).2.2.2 ?_
              refine XS.aload X339.here hx rfl (hb hby at_162) rfl rfl ?_
              refine XS.aload X339.here hx rfl (hb hby at_164) rfl rfl ?_
              show Steps p.tables e below (T339.setTop (mkF m 166 #[.val (.int i0), .val (.int i1), .val (.int i2), .val (.int i3), .val (.int i4), .val (.int (1 : Int32)), .val (.int (i1 &&& (3 : Int32))), .val (.int v5_s0), .val (.ref b7), .val (.ref b18), .val (.ref b31), .val (.ref b46), .val (.ref b279), .unset, .unset, .unset, .unset] [(.ref b31), (.ref b279)])) t
              exact k)
            obtain ⟨cq345, kq345, q345a, q345b, q345c⟩ := isOf hZ rfl F342
            obtain ⟨_, _, ⟨T345, L345, k345, n345⟩, -, X345, ⟨Lc345, hQ345, l345, y345, z345⟩, st345⟩ := X339.virtualBack hx (y := (⟨"java/util/ArrayList", "add", "(Ljava/lang/Object;)Z"⟩ : MethodName)) (z := (⟨"java/util/ArrayList", "add", "(Ljava/lang/Object;)Z"⟩ : MethodName)) hown (mvT hZ (hw _ (List.mem_of_getElem? (i := 51) rfl))) (mvT hZ (hw _ (List.mem_of_getElem? (i := 52) rfl))) (notFace_of_selects (args := #[]) (mvT hZ (hw _ (List.mem_of_getElem? (i := 54) rfl)))) (mvT hZ (hw _ (List.mem_of_getElem? (i := 54) rfl))) (mvT hZ (hw _ (List.mem_of_getElem? (i := 53) rfl))) (by decide) (backOf (W := 0) (rm8n2 l Z a0 hw [] b279 b31 b9_4_3_15_333 k9_4_3_15_333 b31 b31 (((0 : Int32) + (1 : Int32)) + (1 : Int32)) T339.heap n0 (Nat.le_trans Z0 K339.1) F339_3 F339_0 F339_1 F333_4 F343 F339_2 F342 g_b279 (Ne.symm ne_b279_b9_4_3_15_333) g_b9_4_3_15_333) hZ (hw _ (List.mem_of_getElem? (i := 55) rfl)) (hw _ (List.mem_of_getElem? (i := 29) rfl)) (by decide) (by decide)) q345a q345c (g := (mkF m 166 #[.val (.int i0), .val (.int i1), .val (.int i2), .val (.int i3), .val (.int i4), .val (.int (1 : Int32)), .val (.int (i1 &&& (3 : Int32))), .val (.int v5_s0), .val (.ref b7), .val (.ref b18), .val (.ref b31), .val (.ref b46), .val (.ref b279), .unset, .unset, .unset, .unset] [(.ref b31), (.ref b279)])) rfl (by rw [hml]; rfl) (Steps.refl _) (argsL := [(.ref b31)]) (rest := []) (lenOf pd_12 rfl) rfl (by show 2 * 0 + _ ≤ _; exact Nat.le_of_eq rfl) (hb hby at_166) (fun _ _ => ⟨rfl, rfl, (by decide : 7 + 0 ≤ _), (by decide : 44 + 0 ≤ _)⟩)
            dsimp only [Pt.U, Pt.locs, Pt.cells, Pt.slots] at X345 l345 y345 z345 st345 hQ345
            subst l345 y345 z345
            obtain ⟨rfl, N345q, Kc345, F345_0, F345_1, F345_2, F345_3⟩ := hQ345
            have N345 := Fr.app N339 N345q
            have K345 : Keep h0 T345.heap [] := Keep.trans K339 Kc345 (allS (Or.inr o_b279) (allS (Or.inr o_b9_4_3_15_333) all0))
            have P345 : own_Go p e below S0 (T345.setTop (mkF m 169 #[.val (.int i0), .val (.int i1), .val (.int i2), .val (.int i3), .val (.int i4), .val (.int (1 : Int32)), .val (.int (i1 &&& (3 : Int32))), .val (.int v5_s0), .val (.ref b7), .val (.ref b18), .val (.ref b31), .val (.ref b46), .val (.ref b279), .unset, .unset, .unset, .unset] [(.int (1 : Int32))])) := fun t k => P344 t (st345.trans k)
            have P346 : own_Go p e below S0 (T345.setTop (mkF m 170 #[.val (.int i0), .val (.int i1), .val (.int i2), .val (.int i3), .val (.int i4), .val (.int (1 : Int32)), .val (.int (i1 &&& (3 : Int32))), .val (.int v5_s0), .val (.ref b7), .val (.ref b18), .val (.ref b31), .val (.ref b46), .val (.ref b279), .unset, .unset, .unset, .unset] [])) := fun t k => P345 t (by
              show Steps p.tables e below (T345.setTop (mkF m 169 #[.val (.int i0), .val (.int i1), .val (.int i2), .val (.int i3), .val (.int i4), .val (.int (1 : Int32)), .val (.int (i1 &&& (3 : Int32))), .val (.int v5_s0), .val (.ref b7), .val (.ref b18), .val (.ref b31), .val (.ref b46), .val (.ref b279), .unset, .unset, .unset, .unset] [(.int (1 : Int32))])) t
              refine XS.pop X345.here hx rfl (hb hby at_169) rfl rfl ?_
              show Steps p.tables e below (T345.setTop (mkF m 170 #[.val (.int i0), .val (.int i1), .val (.int i2), .val (.int i3), .val (.int i4), .val (.int (1 : Int32)), .val (.int (i1 &&& (3 : Int32))), .val (.int v5_s0), .val (.ref b7), .val (.ref b18), .val (.ref b31), .val (.ref b46), .val (.ref b279), .unset, .unset, .unset, .unset] [])) t
              exact k)
            have F347 : Sta Z T333.heap "java/util/ArrayList" "DEFAULTCAPACITY_EMPTY_ELEMENTDATA" "[Ljava/lang/Object;" (.ref z0_DEFAULTCAPACITY_EMPTY_ELEMENTDATA) := own_staK F284 Kc333 (allS (own_plE F325) all0)
            have F348 : Sta Z T339.heap "java/util/ArrayList" "DEFAULTCAPACITY_EMPTY_ELEMENTDATA" "[Ljava/lang/Object;" (.ref z0_DEFAULTCAPACITY_EMPTY_ELEMENTDATA) := own_staK F347 Kc339 (allS (own_plE F336) (allS (own_plA F333_3) all0))
            have F349 : Sta Z T345.heap "java/util/ArrayList" "DEFAULTCAPACITY_EMPTY_ELEMENTDATA" "[Ljava/lang/Object;" (.ref z0_DEFAULTCAPACITY_EMPTY_ELEMENTDATA) := own_staK F348 Kc345 (allS (own_plE F342) (allS (own_plA F339_1) all0))
            have F350 : Arv Z T333.heap z0_DEFAULTCAPACITY_EMPTY_ELEMENTDATA qk0 (.object "java/lang/Object") (0 : Int32) [] .null := F286.keep Kc333 (ninS ne_z0_DEFAULTCAPACITY_EMPTY_ELEMENTDATA_b279 nin0)
            have F351 : Arv Z T339.heap z0_DEFAULTCAPACITY_EMPTY_ELEMENTDATA qk0 (.object "java/lang/Object") (0 : Int32) [] .null := F350.keep Kc339 (ninS ne_z0_DEFAULTCAPACITY_EMPTY_ELEMENTDATA_b279 (ninS ne_z0_DEFAULTCAPACITY_EMPTY_ELEMENTDATA_b9_4_3_15_333 nin0))
            have F352 : Arv Z T345.heap z0_DEFAULTCAPACITY_EMPTY_ELEMENTDATA qk0 (.object "java/lang/Object") (0 : Int32) [] .null := F351.keep Kc345 (ninS ne_z0_DEFAULTCAPACITY_EMPTY_ELEMENTDATA_b279 (ninS ne_z0_DEFAULTCAPACITY_EMPTY_ELEMENTDATA_b9_4_3_15_333 nin0))
            have F353 : Sta Z T333.heap "java/util/ImmutableCollections" "EMPTY_LIST" "Ljava/util/ImmutableCollections$ListN;" (.ref z0_EMPTY_LIST) := own_staK F297 Kc333 (allS (own_plE F325) all0)
            have F354 : Sta Z T339.heap "java/util/ImmutableCollections" "EMPTY_LIST" "Ljava/util/ImmutableCollections$ListN;" (.ref z0_EMPTY_LIST) := own_staK F353 Kc339 (allS (own_plE F336) (allS (own_plA F333_3) all0))
            have F355 : Sta Z T345.heap "java/util/ImmutableCollections" "EMPTY_LIST" "Ljava/util/ImmutableCollections$ListN;" (.ref z0_EMPTY_LIST) := own_staK F354 Kc345 (allS (own_plE F342) (allS (own_plA F339_1) all0))
            have F356 : Fld Z T333.heap z0_EMPTY_LIST "java/util/ImmutableCollections$ListN" "elements" "[Ljava/lang/Object;" (.ref qe) := F299.keep Kc333 (ninS ne_z0_EMPTY_LIST_b279 nin0)
            have F357 : Fld Z T339.heap z0_EMPTY_LIST "java/util/ImmutableCollections$ListN" "elements" "[Ljava/lang/Object;" (.ref qe) := F356.keep Kc339 (ninS ne_z0_EMPTY_LIST_b279 (ninS ne_z0_EMPTY_LIST_b9_4_3_15_333 nin0))
            have F358 : Fld Z T345.heap z0_EMPTY_LIST "java/util/ImmutableCollections$ListN" "elements" "[Ljava/lang/Object;" (.ref qe) := F357.keep Kc345 (ninS ne_z0_EMPTY_LIST_b279 (ninS ne_z0_EMPTY_LIST_b9_4_3_15_333 nin0))
            have F359 : Arv Z T333.heap qe qke (.object "java/lang/Object") (0 : Int32) [] .null := F301.keep Kc333 (ninS ne_qe_b279 nin0)
            have F360 : Arv Z T339.heap qe qke (.object "java/lang/Object") (0 : Int32) [] .null := F359.keep Kc339 (ninS ne_qe_b279 (ninS ne_qe_b9_4_3_15_333 nin0))
            have F361 : Arv Z T345.heap qe qke (.object "java/lang/Object") (0 : Int32) [] .null := F360.keep Kc345 (ninS ne_qe_b279 (ninS ne_qe_b9_4_3_15_333 nin0))
            have F362 : Exa Z T333.heap z0_EMPTY_LIST "java/util/ImmutableCollections$ListN" := F312.keep Kc333
            have F363 : Exa Z T339.heap z0_EMPTY_LIST "java/util/ImmutableCollections$ListN" := F362.keep Kc339
            have F364 : Exa Z T345.heap z0_EMPTY_LIST "java/util/ImmutableCollections$ListN" := F363.keep Kc345
            have F365 : Exa Z T333.heap b46 "java/util/ArrayList" := F314.keep Kc333
            have F366 : Exa Z T339.heap b46 "java/util/ArrayList" := F365.keep Kc339
            have F367 : Exa Z T345.heap b46 "java/util/ArrayList" := F366.keep Kc345
            have F368 : Fld Z T333.heap b46 "java/util/ArrayList" "elementData" "[Ljava/lang/Object;" (.ref b9_4_3_15_270) := F316.keep Kc333 (ninS ne_b46_b279 nin0)
            have F369 : Fld Z T339.heap b46 "java/util/ArrayList" "elementData" "[Ljava/lang/Object;" (.ref b9_4_3_15_270) := F368.keep Kc339 (ninS ne_b46_b279 (ninS ne_b46_b9_4_3_15_333 nin0))
            have F370 : Fld Z T345.heap b46 "java/util/ArrayList" "elementData" "[Ljava/lang/Object;" (.ref b9_4_3_15_270) := F369.keep Kc345 (ninS ne_b46_b279 (ninS ne_b46_b9_4_3_15_333 nin0))
            have F371 : Fld Z T333.heap b46 "java/util/ArrayList" "size" "I" (.int (1 : Int32)) := F318.keep Kc333 (ninS ne_b46_b279 nin0)
            have F372 : Fld Z T339.heap b46 "java/util/ArrayList" "size" "I" (.int (1 : Int32)) := F371.keep Kc339 (ninS ne_b46_b279 (ninS ne_b46_b9_4_3_15_333 nin0))
            have F373 : Fld Z T345.heap b46 "java/util/ArrayList" "size" "I" (.int (1 : Int32)) := F372.keep Kc345 (ninS ne_b46_b279 (ninS ne_b46_b9_4_3_15_333 nin0))
            have F374 : Fld Z T333.heap b46 "java/util/AbstractList" "modCount" "I" (.int ((0 : Int32) + (1 : Int32))) := F320.keep Kc333 (ninS ne_b46_b279 nin0)
            have F375 : Fld Z T339.heap b46 "java/util/AbstractList" "modCount" "I" (.int ((0 : Int32) + (1 : Int32))) := F374.keep Kc339 (ninS ne_b46_b279 (ninS ne_b46_b9_4_3_15_333 nin0))
            have F376 : Fld Z T345.heap b46 "java/util/AbstractList" "modCount" "I" (.int ((0 : Int32) + (1 : Int32))) := F375.keep Kc345 (ninS ne_b46_b279 (ninS ne_b46_b9_4_3_15_333 nin0))
            have F377 : Arv Z T333.heap b9_4_3_15_270 k9_4_3_15_270 (.object "java/lang/Object") (10 : Int32) [(.ref b7), .null, .null, .null, .null, .null, .null, .null, .null, .null] .null := F322.keep Kc333 (ninS ne_b9_4_3_15_270_b279 nin0)
            have F378 : Arv Z T339.heap b9_4_3_15_270 k9_4_3_15_270 (.object "java/lang/Object") (10 : Int32) [(.ref b7), .null, .null, .null, .null, .null, .null, .null, .null, .null] .null := F377.keep Kc339 (ninS ne_b9_4_3_15_270_b279 (ninS ne_b9_4_3_15_270_b9_4_3_15_333 nin0))
            have F379 : Arv Z T345.heap b9_4_3_15_270 k9_4_3_15_270 (.object "java/lang/Object") (10 : Int32) [(.ref b7), .null, .null, .null, .null, .null, .null, .null, .null, .null] .null := F378.keep Kc345 (ninS ne_b9_4_3_15_270_b279 (ninS ne_b9_4_3_15_270_b9_4_3_15_333 nin0))
            exact ⟨T345, _, T345.heap, X345, rfl, N345, K345, F349, F352, F355, F358, F361, F364, F367, F370, F373, F376, F379, F270_4, P346⟩
          · skip
            have P380 : own_Go p e below S0 (T339.setTop (mkF m 170 #[.val (.int i0), .val (.int i1), .val (.int i2), .val (.int i3), .val (.int i4), .val (.int (1 : Int32)), .val (.int (i1 &&& (3 : Int32))), .val (.int v5_s0), .val (.ref b7), .val (.ref b18), .val (.ref b31), .val (.ref b46), .val (.ref b279), .unset, .unset, .unset, .unset] [])) := fun t k => P340 t (by
              show Steps p.tables e below (T339.setTop (mkF m 159 #[.val (.int i0), .val (.int i1), .val (.int i2), .val (.int i3), .val (.int i4), .val (.int (1 : Int32)), .val (.int (i1 &&& (3 : Int32))), .val (.int v5_s0), .val (.ref b7), .val (.ref b18), .val (.ref b31), .val (.ref b46), .val (.ref b279), .unset, .unset, .unset, .unset] [(.int (2 : Int32)), (.int (i1 &&& (3 : Int32)))])) t
              refine XS.icmpYes X339.here hx rfl (pc0 := 159) (pc' := 170) rfl (hb hby at_159) rfl (flt c341).2.2.2 (by decide) (by decide) ?_
              show Steps p.tables e below (T339.setTop (mkF m 170 #[.val (.int i0), .val (.int i1), .val (.int i2), .val (.int i3), .val (.int i4), .val (.int (1 : Int32)), .val (.int (i1 &&& (3 : Int32))), .val (.int v5_s0), .val (.ref b7), .val (.ref b18), .val (.ref b31), .val (.ref b46), .val (.ref b279), .unset, .unset, .unset, .unset] [])) t
              exact k)
            have F381 : Sta Z T333.heap "java/util/ArrayList" "DEFAULTCAPACITY_EMPTY_ELEMENTDATA" "[Ljava/lang/Object;" (.ref z0_DEFAULTCAPACITY_EMPTY_ELEMENTDATA) := own_staK F284 Kc333 (allS (own_plE F325) all0)
            have F382 : Sta Z T339.heap "java/util/ArrayList" "DEFAULTCAPACITY_EMPTY_ELEMENTDATA" "[Ljava/lang/Object;" (.ref z0_DEFAULTCAPACITY_EMPTY_ELEMENTDATA) := own_staK F381 Kc339 (allS (own_plE F336) (allS (own_plA F333_3) all0))
            have F383 : Arv Z T333.heap z0_DEFAULTCAPACITY_EMPTY_ELEMENTDATA qk0 (.object "java/lang/Object") (0 : Int32) [] .null := F286.keep Kc333 (ninS ne_z0_DEFAULTCAPACITY_EMPTY_ELEMENTDATA_b279 nin0)
            have F384 : Arv Z T339.heap z0_DEFAULTCAPACITY_EMPTY_ELEMENTDATA qk0 (.object "java/lang/Object") (0 : Int32) [] .null := F383.keep Kc339 (ninS ne_z0_DEFAULTCAPACITY_EMPTY_ELEMENTDATA_b279 (ninS ne_z0_DEFAULTCAPACITY_EMPTY_ELEMENTDATA_b9_4_3_15_333 nin0))
            have F385 : Sta Z T333.heap "java/util/ImmutableCollections" "EMPTY_LIST" "Ljava/util/ImmutableCollections$ListN;" (.ref z0_EMPTY_LIST) := own_staK F297 Kc333 (allS (own_plE F325) all0)
            have F386 : Sta Z T339.heap "java/util/ImmutableCollections" "EMPTY_LIST" "Ljava/util/ImmutableCollections$ListN;" (.ref z0_EMPTY_LIST) := own_staK F385 Kc339 (allS (own_plE F336) (allS (own_plA F333_3) all0))
            have F387 : Fld Z T333.heap z0_EMPTY_LIST "java/util/ImmutableCollections$ListN" "elements" "[Ljava/lang/Object;" (.ref qe) := F299.keep Kc333 (ninS ne_z0_EMPTY_LIST_b279 nin0)
            have F388 : Fld Z T339.heap z0_EMPTY_LIST "java/util/ImmutableCollections$ListN" "elements" "[Ljava/lang/Object;" (.ref qe) := F387.keep Kc339 (ninS ne_z0_EMPTY_LIST_b279 (ninS ne_z0_EMPTY_LIST_b9_4_3_15_333 nin0))
            have F389 : Arv Z T333.heap qe qke (.object "java/lang/Object") (0 : Int32) [] .null := F301.keep Kc333 (ninS ne_qe_b279 nin0)
            have F390 : Arv Z T339.heap qe qke (.object "java/lang/Object") (0 : Int32) [] .null := F389.keep Kc339 (ninS ne_qe_b279 (ninS ne_qe_b9_4_3_15_333 nin0))
            have F391 : Exa Z T333.heap z0_EMPTY_LIST "java/util/ImmutableCollections$ListN" := F312.keep Kc333
            have F392 : Exa Z T339.heap z0_EMPTY_LIST "java/util/ImmutableCollections$ListN" := F391.keep Kc339
            have F393 : Exa Z T333.heap b46 "java/util/ArrayList" := F314.keep Kc333
            have F394 : Exa Z T339.heap b46 "java/util/ArrayList" := F393.keep Kc339
            have F395 : Fld Z T333.heap b46 "java/util/ArrayList" "elementData" "[Ljava/lang/Object;" (.ref b9_4_3_15_270) := F316.keep Kc333 (ninS ne_b46_b279 nin0)
            have F396 : Fld Z T339.heap b46 "java/util/ArrayList" "elementData" "[Ljava/lang/Object;" (.ref b9_4_3_15_270) := F395.keep Kc339 (ninS ne_b46_b279 (ninS ne_b46_b9_4_3_15_333 nin0))
            have F397 : Fld Z T333.heap b46 "java/util/ArrayList" "size" "I" (.int (1 : Int32)) := F318.keep Kc333 (ninS ne_b46_b279 nin0)
            have F398 : Fld Z T339.heap b46 "java/util/ArrayList" "size" "I" (.int (1 : Int32)) := F397.keep Kc339 (ninS ne_b46_b279 (ninS ne_b46_b9_4_3_15_333 nin0))
            have F399 : Fld Z T333.heap b46 "java/util/AbstractList" "modCount" "I" (.int ((0 : Int32) + (1 : Int32))) := F320.keep Kc333 (ninS ne_b46_b279 nin0)
            have F400 : Fld Z T339.heap b46 "java/util/AbstractList" "modCount" "I" (.int ((0 : Int32) + (1 : Int32))) := F399.keep Kc339 (ninS ne_b46_b279 (ninS ne_b46_b9_4_3_15_333 nin0))
            have F401 : Arv Z T333.heap b9_4_3_15_270 k9_4_3_15_270 (.object "java/lang/Object") (10 : Int32) [(.ref b7), .null, .null, .null, .null, .null, .null, .null, .null, .null] .null := F322.keep Kc333 (ninS ne_b9_4_3_15_270_b279 nin0)
            have F402 : Arv Z T339.heap b9_4_3_15_270 k9_4_3_15_270 (.object "java/lang/Object") (10 : Int32) [(.ref b7), .null, .null, .null, .null, .null, .null, .null, .null, .null] .null := F401.keep Kc339 (ninS ne_b9_4_3_15_270_b279 (ninS ne_b9_4_3_15_270_b9_4_3_15_333 nin0))
            exact ⟨T339, _, T339.heap, X339, rfl, N339, K339, F382, F384, F386, F388, F390, F392, F394, F396, F398, F400, F402, F270_4, P380⟩
        · skip
          have c403 : ¬ ((2 : Int32) < (i1 &&& (3 : Int32))) := own_n12 c335
          have P404 : own_Go p e below S0 (T333.setTop (mkF m 170 #[.val (.int i0), .val (.int i1), .val (.int i2), .val (.int i3), .val (.int i4), .val (.int (1 : Int32)), .val (.int (i1 &&& (3 : Int32))), .val (.int v5_s0), .val (.ref b7), .val (.ref b18), .val (.ref b31), .val (.ref b46), .val (.ref b279), .unset, .unset, .unset, .unset] [])) := fun t k => P334 t (by
            show Steps p.tables e below (T333.setTop (mkF m 145 #[.val (.int i0), .val (.int i1), .val (.int i2), .val (.int i3), .val (.int i4), .val (.int (1 : Int32)), .val (.int (i1 &&& (3 : Int32))), .val (.int v5_s0), .val (.ref b7), .val (.ref b18), .val (.ref b31), .val (.ref b46), .val (.ref b279), .unset, .unset, .unset, .unset] [(.int (1 : Int32)), (.int (i1 &&& (3 : Int32)))])) t
            refine XS.icmpYes X333.here hx rfl (pc0 := 145) (pc' := 156) rfl (hb hby at_145) rfl (flt c335).2.2.2 (by decide) (by decide) ?_
            refine XS.iload X333.here hx rfl (hb hby at_156) rfl ?_
            refine XS.iconst X333.here hx rfl (hb hby at_158) ?_
            refine XS.icmpYes X333.here hx rfl (pc0 := 159) (pc' := 170) rfl (hb hby at_159) rfl (flt c403).2.2.2 (by decide) (by decide) ?_
            show Steps p.tables e below (T333.setTop (mkF m 170 #[.val (.int i0), .val (.int i1), .val (.int i2), .val (.int i3), .val (.int i4), .val (.int (1 : Int32)), .val (.int (i1 &&& (3 : Int32))), .val (.int v5_s0), .val (.ref b7), .val (.ref b18), .val (.ref b31), .val (.ref b46), .val (.ref b279), .unset, .unset, .unset, .unset] [])) t
            exact k)
          have F405 : Sta Z T333.heap "java/util/ArrayList" "DEFAULTCAPACITY_EMPTY_ELEMENTDATA" "[Ljava/lang/Object;" (.ref z0_DEFAULTCAPACITY_EMPTY_ELEMENTDATA) := own_staK F284 Kc333 (allS (own_plE F325) all0)
          have F406 : Arv Z T333.heap z0_DEFAULTCAPACITY_EMPTY_ELEMENTDATA qk0 (.object "java/lang/Object") (0 : Int32) [] .null := F286.keep Kc333 (ninS ne_z0_DEFAULTCAPACITY_EMPTY_ELEMENTDATA_b279 nin0)
          have F407 : Sta Z T333.heap "java/util/ImmutableCollections" "EMPTY_LIST" "Ljava/util/ImmutableCollections$ListN;" (.ref z0_EMPTY_LIST) := own_staK F297 Kc333 (allS (own_plE F325) all0)
          have F408 : Fld Z T333.heap z0_EMPTY_LIST "java/util/ImmutableCollections$ListN" "elements" "[Ljava/lang/Object;" (.ref qe) := F299.keep Kc333 (ninS ne_z0_EMPTY_LIST_b279 nin0)
          have F409 : Arv Z T333.heap qe qke (.object "java/lang/Object") (0 : Int32) [] .null := F301.keep Kc333 (ninS ne_qe_b279 nin0)
          have F410 : Exa Z T333.heap z0_EMPTY_LIST "java/util/ImmutableCollections$ListN" := F312.keep Kc333
          have F411 : Exa Z T333.heap b46 "java/util/ArrayList" := F314.keep Kc333
          have F412 : Fld Z T333.heap b46 "java/util/ArrayList" "elementData" "[Ljava/lang/Object;" (.ref b9_4_3_15_270) := F316.keep Kc333 (ninS ne_b46_b279 nin0)
          have F413 : Fld Z T333.heap b46 "java/util/ArrayList" "size" "I" (.int (1 : Int32)) := F318.keep Kc333 (ninS ne_b46_b279 nin0)
          have F414 : Fld Z T333.heap b46 "java/util/AbstractList" "modCount" "I" (.int ((0 : Int32) + (1 : Int32))) := F320.keep Kc333 (ninS ne_b46_b279 nin0)
          have F415 : Arv Z T333.heap b9_4_3_15_270 k9_4_3_15_270 (.object "java/lang/Object") (10 : Int32) [(.ref b7), .null, .null, .null, .null, .null, .null, .null, .null, .null] .null := F322.keep Kc333 (ninS ne_b9_4_3_15_270_b279 nin0)
          exact ⟨T333, _, T333.heap, X333, rfl, N333, K333, F405, F406, F407, F408, F409, F410, F411, F412, F413, F414, F415, F270_4, P404⟩
      · skip
        have c416 : ¬ ((1 : Int32) < (i1 &&& (3 : Int32))) := own_n01 c324
        have c417 : ¬ ((2 : Int32) < (i1 &&& (3 : Int32))) := own_n12 c416
        have P418 : own_Go p e below S0 (T283.setTop (mkF m 170 #[.val (.int i0), .val (.int i1), .val (.int i2), .val (.int i3), .val (.int i4), .val (.int (1 : Int32)), .val (.int (i1 &&& (3 : Int32))), .val (.int v5_s0), .val (.ref b7), .val (.ref b18), .val (.ref b31), .val (.ref b46), .val (.ref b279), .unset, .unset, .unset, .unset] [])) := fun t k => P323 t (by
          show Steps p.tables e below (T283.setTop (mkF m 131 #[.val (.int i0), .val (.int i1), .val (.int i2), .val (.int i3), .val (.int i4), .val (.int (1 : Int32)), .val (.int (i1 &&& (3 : Int32))), .val (.int v5_s0), .val (.ref b7), .val (.ref b18), .val (.ref b31), .val (.ref b46), .val (.ref b279), .unset, .unset, .unset, .unset] [(.int (i1 &&& (3 : Int32)))])) t
          refine XS.ifYes X283.here hx rfl (pc0 := 131) (pc' := 142) rfl (hb hby at_131) rfl ((if0 _ _).trans (flt c324).2.2.2) (by decide) (by decide) ?_
          refine XS.iload X283.here hx rfl (hb hby at_142) rfl ?_
          refine XS.iconst X283.here hx rfl (hb hby at_144) ?_
          refine XS.icmpYes X283.here hx rfl (pc0 := 145) (pc' := 156) rfl (hb hby at_145) rfl (flt c416).2.2.2 (by decide) (by decide) ?_
          refine XS.iload X283.here hx rfl (hb hby at_156) rfl ?_
          refine XS.iconst X283.here hx rfl (hb hby at_158) ?_
          show Steps p.tables e below (T283.setTop (mkF m 159 #[.val (.int i0), .val (.int i1), .val (.int i2), .val (.int i3), .val (.int i4), .val (.int (1 : Int32)), .val (.int (i1 &&& (3 : Int32))), .val (.int v5_s0), .val (.ref b7), .val (.ref b18), .val (.ref b31), .val (.ref b46), .val (.ref b279), .unset, .unset, .unset, .unset] [(.int (2 : Int32)), (.int (i1 &&& (3 : Int32)))])) t
          refine XS.icmpYes X283.here hx rfl (pc0 := 159) (pc' := 170) rfl (hb hby at_159) rfl (flt c417).2.2.2 (by decide) (by decide) ?_
          show Steps p.tables e below (T283.setTop (mkF m 170 #[.val (.int i0), .val (.int i1), .val (.int i2), .val (.int i3), .val (.int i4), .val (.int (1 : Int32)), .val (.int (i1 &&& (3 : Int32))), .val (.int v5_s0), .val (.ref b7), .val (.ref b18), .val (.ref b31), .val (.ref b46), .val (.ref b279), .unset, .unset, .unset, .unset] [])) t
          exact k)
        exact ⟨T283, _, T283.heap, (X283.more (by decide) (by decide)), rfl, N283, K283, F284, F286, F297, F299, F301, F312, F314, F316, F318, F320, F322, F270_4, P418⟩
    obtain ⟨T432, h432, X432, e432, E432, A432, D432, -, st432⟩ := newO X419 hx hZ hown (hw _ (List.mem_of_getElem? (i := 82) rfl)) (hw _ (List.mem_of_getElem? (i := 83) rfl)) (hw _ (List.mem_of_getElem? (i := 84) rfl)) e419 (g := (mkF m 170 #[.val (.int i0), .val (.int i1), .val (.int i2), .val (.int i3), .val (.int i4), .val (.int (1 : Int32)), .val (.int (i1 &&& (3 : Int32))), .val (.int v5_s0), .val (.ref b7), .val (.ref b18), .val (.ref b31), .val (.ref b46), .val (.ref b279), .unset, .unset, .unset, .unset] [])) rfl (hb hby at_170) (by decide) (by decide)
    obtain ⟨b432, g432⟩ : ∃ z, z = h419.size := ⟨_, rfl⟩
    rw [← g432] at A432 D432 st432
    have sz_b432 : h419.size ≤ b432 := Nat.le_of_eq g432.symm
    have ne_z0_DEFAULTCAPACITY_EMPTY_ELEMENTDATA_b432 : z0_DEFAULTCAPACITY_EMPTY_ELEMENTDATA ≠ b432 := Nat.ne_of_lt (Nat.lt_of_lt_of_le F421.lt sz_b432)
    have ne_z0_EMPTY_LIST_b432 : z0_EMPTY_LIST ≠ b432 := Nat.ne_of_lt (Nat.lt_of_lt_of_le F423.lt sz_b432)
    have ne_qe_b432 : qe ≠ b432 := Nat.ne_of_lt (Nat.lt_of_lt_of_le F424.lt sz_b432)
    have ne_b46_b432 : b46 ≠ b432 := Nat.ne_of_lt (Nat.lt_of_lt_of_le F426.lt sz_b432)
    have ne_b9_4_3_15_270_b432 : b9_4_3_15_270 ≠ b432 := Nat.ne_of_lt (Nat.lt_of_lt_of_le F430.lt sz_b432)
    have g_b432 : n0 ≤ b432 := Nat.le_trans (Nat.le_trans Z0 K419.1) sz_b432
    have o_b432 : h0.size ≤ b432 := Nat.le_trans K419.1 sz_b432
    have K432 : Keep h0 h432 [] := K419.ext E432
    have F432_moves : Fld Z h432 b432 "com/example/penelope/penelope/program/Expansion" "moves" "Ljava/util/List;" .null := D432 (Or.inr (hw _ (List.mem_of_getElem? (i := 99) rfl))) (ty := (.object "java/util/List")) (by decide)
    have F432_movesAfterClaim : Fld Z h432 b432 "com/example/penelope/penelope/program/Expansion" "movesAfterClaim" "Ljava/util/List;" .null := D432 (Or.inr (hw _ (List.mem_of_getElem? (i := 101) rfl))) (ty := (.object "java/util/List")) (by decide)
    have F432_faultAfterClaim : Fld Z h432 b432 "com/example/penelope/penelope/program/Expansion" "faultAfterClaim" "Lcom/example/penelope/penelope/program/Fault;" .null := D432 (Or.inr (hw _ (List.mem_of_getElem? (i := 103) rfl))) (ty := (.object "com/example/penelope/penelope/program/Fault")) (by decide)
    have F432_transientState : Fld Z h432 b432 "com/example/penelope/penelope/program/Expansion" "transientState" "Z" (.int (0 : Int32)) := D432 (Or.inr (hw _ (List.mem_of_getElem? (i := 105) rfl))) (ty := .boolean) (by decide)
    have P432 : own_Go p e below S0 (T432.setTop (mkF m 173 #[.val (.int i0), .val (.int i1), .val (.int i2), .val (.int i3), .val (.int i4), .val (.int (1 : Int32)), .val (.int (i1 &&& (3 : Int32))), .val (.int v5_s0), .val (.ref b7), .val (.ref b18), .val (.ref b31), .val (.ref b46), .val (.ref b279), .unset, .unset, .unset, .unset] [(.ref b432)])) := fun t k => P419 t (st432 _ k)
    have F433 : Sta Z h432 "java/util/ImmutableCollections" "EMPTY_LIST" "Ljava/util/ImmutableCollections$ListN;" (.ref z0_EMPTY_LIST) := F422.ext E432
    have P434 : own_Go p e below S0 (T432.setTop (mkF m 178 #[.val (.int i0), .val (.int i1), .val (.int i2), .val (.int i3), .val (.int i4), .val (.int (1 : Int32)), .val (.int (i1 &&& (3 : Int32))), .val (.int v5_s0), .val (.ref b7), .val (.ref b18), .val (.ref b31), .val (.ref b46), .val (.ref b279), .unset, .unset, .unset, .unset] [(.int v5_s0), (.ref b46), (.ref b432), (.ref b432)])) := fun t k => P432 t (by
      show Steps p.tables e below (T432.setTop (mkF m 173 #[.val (.int i0), .val (.int i1), .val (.int i2), .val (.int i3), .val (.int i4), .val (.int (1 : Int32)), .val (.int (i1 &&& (3 : Int32))), .val (.int v5_s0), .val (.ref b7), .val (.ref b18), .val (.ref b31), .val (.ref b46), .val (.ref b279), .unset, .unset, .unset, .unset] [(.ref b432)])) t
      refine XS.dup X432.here hx rfl (hb hby at_173) rfl rfl ?_
      refine XS.aload X432.here hx rfl (hb hby at_174) rfl rfl ?_
      refine XS.iload X432.here hx rfl (hb hby at_176) rfl ?_
      show Steps p.tables e below (T432.setTop (mkF m 178 #[.val (.int i0), .val (.int i1), .val (.int i2), .val (.int i3), .val (.int i4), .val (.int (1 : Int32)), .val (.int (i1 &&& (3 : Int32))), .val (.int v5_s0), .val (.ref b7), .val (.ref b18), .val (.ref b31), .val (.ref b46), .val (.ref b279), .unset, .unset, .unset, .unset] [(.int v5_s0), (.ref b46), (.ref b432), (.ref b432)])) t
      exact k)
    obtain ⟨_, _, ⟨T435, L435, k435, n435⟩, -, X435, ⟨Lc435, hQ435, l435, y435, z435⟩, st435⟩ := X432.specialBack hx (y := (⟨"com/example/penelope/penelope/program/Expansion", "<init>", "(Ljava/util/List;Z)V"⟩ : MethodName)) rfl hown (mvT hZ (hw _ (List.mem_of_getElem? (i := 85) rfl))) (mvT hZ (hw _ (List.mem_of_getElem? (i := 86) rfl))) (mvT hZ (hw _ (List.mem_of_getElem? (i := 87) rfl))) (by decide) (backOf (W := 1) (rm13 l Z a0 hw [] b432 b46 v5_s0 z0_EMPTY_LIST .null .null .null (.int (0 : Int32)) h432 n0 (Nat.le_trans Z0 K432.1) F433 A432 F432_moves g_b432 F432_movesAfterClaim F432_faultAfterClaim F432_transientState) hZ (hw _ (List.mem_of_getElem? (i := 87) rfl)) (hw _ (List.mem_of_getElem? (i := 84) rfl)) (by decide) (by decide)) (g := (mkF m 178 #[.val (.int i0), .val (.int i1), .val (.int i2), .val (.int i3), .val (.int i4), .val (.int (1 : Int32)), .val (.int (i1 &&& (3 : Int32))), .val (.int v5_s0), .val (.ref b7), .val (.ref b18), .val (.ref b31), .val (.ref b46), .val (.ref b279), .unset, .unset, .unset, .unset] [(.int v5_s0), (.ref b46), (.ref b432), (.ref b432)])) rfl (by rw [hml]; rfl) (Steps.refl _) (a := b432) (argsL := [(.ref b46), (.int v5_s0)]) (rest := [(.ref b432)]) (lenOf pd_13 rfl) rfl (by show 2 * 0 + _ ≤ _; exact Nat.le_of_eq rfl) (hb hby at_178) (fun _ _ => ⟨rfl, e432, (by decide : 8 + 0 ≤ _), (by decide : 48 + 0 ≤ _)⟩)
    dsimp only [Pt.U, Pt.locs, Pt.cells, Pt.slots] at X435 l435 y435 z435 st435 hQ435
    subst l435 y435 z435
    obtain ⟨rfl, N435q, Kc435, F435_0, F435_1, F435_2, F435_3⟩ := hQ435
    have N435 := Fr.app N419 N435q
    have K435 : Keep h0 T435.heap [] := Keep.trans K432 Kc435 (allS (Or.inr o_b432) all0)
    have P435 : own_Go p e below S0 (T435.setTop (mkF m 181 #[.val (.int i0), .val (.int i1), .val (.int i2), .val (.int i3), .val (.int i4), .val (.int (1 : Int32)), .val (.int (i1 &&& (3 : Int32))), .val (.int v5_s0), .val (.ref b7), .val (.ref b18), .val (.ref b31), .val (.ref b46), .val (.ref b279), .unset, .unset, .unset, .unset] [(.ref b432)])) := fun t k => P434 t (st435.trans k)
    have F436 : Exa Z T435.heap b432 "com/example/penelope/penelope/program/Expansion" := A432.keep Kc435
    have P437 : own_Go p e below S0 (T435.setTop (mkF m 185 #[.val (.int i0), .val (.int i1), .val (.int i2), .val (.int i3), .val (.int i4), .val (.int (1 : Int32)), .val (.int (i1 &&& (3 : Int32))), .val (.int v5_s0), .val (.ref b7), .val (.ref b18), .val (.ref b31), .val (.ref b46), .val (.ref b279), .val (.ref b432), .unset, .unset, .unset] [(.ref b432)])) := fun t k => P435 t (by
      show Steps p.tables e below (T435.setTop (mkF m 181 #[.val (.int i0), .val (.int i1), .val (.int i2), .val (.int i3), .val (.int i4), .val (.int (1 : Int32)), .val (.int (i1 &&& (3 : Int32))), .val (.int v5_s0), .val (.ref b7), .val (.ref b18), .val (.ref b31), .val (.ref b46), .val (.ref b279), .unset, .unset, .unset, .unset] [(.ref b432)])) t
      refine XS.astore X435.here hx rfl (hb hby at_181) rfl rfl (l' := #[.val (.int i0), .val (.int i1), .val (.int i2), .val (.int i3), .val (.int i4), .val (.int (1 : Int32)), .val (.int (i1 &&& (3 : Int32))), .val (.int v5_s0), .val (.ref b7), .val (.ref b18), .val (.ref b31), .val (.ref b46), .val (.ref b279), .val (.ref b432), .unset, .unset, .unset]) rfl ?_
      refine XS.aload X435.here hx rfl (hb hby at_183) rfl rfl ?_
      show Steps p.tables e below (T435.setTop (mkF m 185 #[.val (.int i0), .val (.int i1), .val (.int i2), .val (.int i3), .val (.int i4), .val (.int (1 : Int32)), .val (.int (i1 &&& (3 : Int32))), .val (.int v5_s0), .val (.ref b7), .val (.ref b18), .val (.ref b31), .val (.ref b46), .val (.ref b279), .val (.ref b432), .unset, .unset, .unset] [(.ref b432)])) t
      exact k)
    obtain ⟨cq438, kq438, q438a, q438b, q438c⟩ := isOf hZ rfl F436
    obtain ⟨_, _, ⟨T438, L438, k438, n438⟩, -, X438, ⟨Lc438, hQ438, l438, y438, z438⟩, st438⟩ := X435.virtualBack hx (y := (⟨"com/example/penelope/penelope/program/Expansion", "movesAfterClaim", "()Ljava/util/List;"⟩ : MethodName)) (z := (⟨"com/example/penelope/penelope/program/Expansion", "movesAfterClaim", "()Ljava/util/List;"⟩ : MethodName)) hown (mvT hZ (hw _ (List.mem_of_getElem? (i := 106) rfl))) (mvT hZ (hw _ (List.mem_of_getElem? (i := 107) rfl))) (notFace_of_selects (args := #[]) (mvT hZ (hw _ (List.mem_of_getElem? (i := 109) rfl)))) (mvT hZ (hw _ (List.mem_of_getElem? (i := 109) rfl))) (mvT hZ (hw _ (List.mem_of_getElem? (i := 108) rfl))) (by decide) (backOf (W := 0) (rm16 l Z a0 hw [] b432 z0_EMPTY_LIST T435.heap n0 (Nat.le_trans Z0 K435.1) F435_2 F435_1) hZ (hw _ (List.mem_of_getElem? (i := 110) rfl)) (hw _ (List.mem_of_getElem? (i := 84) rfl)) (by decide) (by decide)) q438a q438c (g := (mkF m 185 #[.val (.int i0), .val (.int i1), .val (.int i2), .val (.int i3), .val (.int i4), .val (.int (1 : Int32)), .val (.int (i1 &&& (3 : Int32))), .val (.int v5_s0), .val (.ref b7), .val (.ref b18), .val (.ref b31), .val (.ref b46), .val (.ref b279), .val (.ref b432), .unset, .unset, .unset] [(.ref b432)])) rfl (by rw [hml]; rfl) (Steps.refl _) (argsL := []) (rest := []) (lenOf pd_6 rfl) rfl (by show 2 * 0 + _ ≤ _; exact Nat.le_of_eq rfl) (hb hby at_185) (fun _ _ => ⟨rfl, rfl, (by decide : 8 + 0 ≤ _), (by decide : 48 + 0 ≤ _)⟩)
    dsimp only [Pt.U, Pt.locs, Pt.cells, Pt.slots] at X438 l438 y438 z438 st438 hQ438
    subst l438 y438 z438
    obtain ⟨rfl, N438q, e438⟩ := hQ438
    have N438 := Fr.app N435 N438q
    have P438 : own_Go p e below S0 (T438.setTop (mkF m 188 #[.val (.int i0), .val (.int i1), .val (.int i2), .val (.int i3), .val (.int i4), .val (.int (1 : Int32)), .val (.int (i1 &&& (3 : Int32))), .val (.int v5_s0), .val (.ref b7), .val (.ref b18), .val (.ref b31), .val (.ref b46), .val (.ref b279), .val (.ref b432), .unset, .unset, .unset] [(.ref z0_EMPTY_LIST)])) := fun t k => P437 t (st438.trans k)
    have F439 : Exa Z h432 z0_EMPTY_LIST "java/util/ImmutableCollections$ListN" := F425.ext E432
    have F440 : Exa Z T435.heap z0_EMPTY_LIST "java/util/ImmutableCollections$ListN" := F439.keep Kc435
    have F441 : Fld Z h432 z0_EMPTY_LIST "java/util/ImmutableCollections$ListN" "elements" "[Ljava/lang/Object;" (.ref qe) := F423.ext E432
    have F442 : Fld Z T435.heap z0_EMPTY_LIST "java/util/ImmutableCollections$ListN" "elements" "[Ljava/lang/Object;" (.ref qe) := F441.keep Kc435 (ninS ne_z0_EMPTY_LIST_b432 nin0)
    have F443 : Arv Z h432 qe qke (.object "java/lang/Object") (0 : Int32) [] .null := F424.ext E432
    have F444 : Arv Z T435.heap qe qke (.object "java/lang/Object") (0 : Int32) [] .null := F443.keep Kc435 (ninS ne_qe_b432 nin0)
    have P445 : own_Go p e below S0 (T438.setTop (mkF m 192 #[.val (.int i0), .val (.int i1), .val (.int i2), .val (.int i3), .val (.int i4), .val (.int (1 : Int32)), .val (.int (i1 &&& (3 : Int32))), .val (.int v5_s0), .val (.ref b7), .val (.ref b18), .val (.ref b31), .val (.ref b46), .val (.ref b279), .val (.ref b432), .val (.ref z0_EMPTY_LIST), .unset, .unset] [(.ref z0_EMPTY_LIST)])) := fun t k => P438 t (by
      show Steps p.tables e below (T438.setTop (mkF m 188 #[.val (.int i0), .val (.int i1), .val (.int i2), .val (.int i3), .val (.int i4), .val (.int (1 : Int32)), .val (.int (i1 &&& (3 : Int32))), .val (.int v5_s0), .val (.ref b7), .val (.ref b18), .val (.ref b31), .val (.ref b46), .val (.ref b279), .val (.ref b432), .unset, .unset, .unset] [(.ref z0_EMPTY_LIST)])) t
      refine XS.astore X438.here hx rfl (hb hby at_188) rfl rfl (l' := #[.val (.int i0), .val (.int i1), .val (.int i2), .val (.int i3), .val (.int i4), .val (.int (1 : Int32)), .val (.int (i1 &&& (3 : Int32))), .val (.int v5_s0), .val (.ref b7), .val (.ref b18), .val (.ref b31), .val (.ref b46), .val (.ref b279), .val (.ref b432), .val (.ref z0_EMPTY_LIST), .unset, .unset]) rfl ?_
      refine XS.aload X438.here hx rfl (hb hby at_190) rfl rfl ?_
      show Steps p.tables e below (T438.setTop (mkF m 192 #[.val (.int i0), .val (.int i1), .val (.int i2), .val (.int i3), .val (.int i4), .val (.int (1 : Int32)), .val (.int (i1 &&& (3 : Int32))), .val (.int v5_s0), .val (.ref b7), .val (.ref b18), .val (.ref b31), .val (.ref b46), .val (.ref b279), .val (.ref b432), .val (.ref z0_EMPTY_LIST), .unset, .unset] [(.ref z0_EMPTY_LIST)])) t
      exact k)
    obtain ⟨cq446, kq446, q446a, q446b, q446c⟩ := isOf hZ e438 F440
    obtain ⟨_, _, ⟨T446, L446, k446, n446⟩, -, X446, ⟨Lc446, hQ446, l446, y446, z446⟩, st446⟩ := X438.interfaceBack hx (xi := (⟨"java/util/List", "size", "()I"⟩ : MethodName)) (y := (⟨"java/util/ImmutableCollections$ListN", "size", "()I"⟩ : MethodName)) hown (mvT hZ (hw _ (List.mem_of_getElem? (i := 111) rfl))) (mvT hZ (hw _ (List.mem_of_getElem? (i := 112) rfl))) (mvT hZ (hw _ (List.mem_of_getElem? (i := 113) rfl))) (mvT hZ (hw _ (List.mem_of_getElem? (i := 114) rfl))) (mvT hZ (hw _ (List.mem_of_getElem? (i := 115) rfl))) (mvT hZ (hw _ (List.mem_of_getElem? (i := 116) rfl))) (mvT hZ (hw _ (List.mem_of_getElem? (i := 117) rfl))) (mvT hZ (hw _ (List.mem_of_getElem? (i := 118) rfl))) (by decide) (backOf (W := 0) (rm17 l Z a0 hw [] z0_EMPTY_LIST qe qke T435.heap n0 (Nat.le_trans Z0 K435.1) F442 F444) hZ (hw _ (List.mem_of_getElem? (i := 120) rfl)) (hw _ (List.mem_of_getElem? (i := 119) rfl)) (by decide) (by decide)) q446a q446b q446c (g := (mkF m 192 #[.val (.int i0), .val (.int i1), .val (.int i2), .val (.int i3), .val (.int i4), .val (.int (1 : Int32)), .val (.int (i1 &&& (3 : Int32))), .val (.int v5_s0), .val (.ref b7), .val (.ref b18), .val (.ref b31), .val (.ref b46), .val (.ref b279), .val (.ref b432), .val (.ref z0_EMPTY_LIST), .unset, .unset] [(.ref z0_EMPTY_LIST)])) rfl (by rw [hml]; rfl) (Steps.refl _) (argsL := []) (rest := []) (lenOf pd_14 rfl) rfl (by show 2 * 0 + _ ≤ _; exact Nat.le_of_eq rfl) (hb hby at_192) (fun _ _ => ⟨rfl, e438, (by decide : 8 + 0 ≤ _), (by decide : 48 + 0 ≤ _)⟩)
    dsimp only [Pt.U, Pt.locs, Pt.cells, Pt.slots] at X446 l446 y446 z446 st446 hQ446
    subst l446 y446 z446
    obtain ⟨rfl, N446q, e446⟩ := hQ446
    have N446 := Fr.app N438 N446q
    have P446 : own_Go p e below S0 (T446.setTop (mkF m 197 #[.val (.int i0), .val (.int i1), .val (.int i2), .val (.int i3), .val (.int i4), .val (.int (1 : Int32)), .val (.int (i1 &&& (3 : Int32))), .val (.int v5_s0), .val (.ref b7), .val (.ref b18), .val (.ref b31), .val (.ref b46), .val (.ref b279), .val (.ref b432), .val (.ref z0_EMPTY_LIST), .unset, .unset] [(.int (0 : Int32))])) := fun t k => P445 t (st446.trans k)
    have F447 : Arv Z h432 z0_DEFAULTCAPACITY_EMPTY_ELEMENTDATA qk0 (.object "java/lang/Object") (0 : Int32) [] .null := F421.ext E432
    have F448 : Arv Z T435.heap z0_DEFAULTCAPACITY_EMPTY_ELEMENTDATA qk0 (.object "java/lang/Object") (0 : Int32) [] .null := F447.keep Kc435 (ninS ne_z0_DEFAULTCAPACITY_EMPTY_ELEMENTDATA_b432 nin0)
    have F449 : Exa Z h432 b46 "java/util/ArrayList" := F426.ext E432
    have F450 : Exa Z T435.heap b46 "java/util/ArrayList" := F449.keep Kc435
    have F451 : Arv Z h432 b9_4_3_15_270 k9_4_3_15_270 (.object "java/lang/Object") (10 : Int32) [(.ref b7), .null, .null, .null, .null, .null, .null, .null, .null, .null] .null := F430.ext E432
    have F452 : Arv Z T435.heap b9_4_3_15_270 k9_4_3_15_270 (.object "java/lang/Object") (10 : Int32) [(.ref b7), .null, .null, .null, .null, .null, .null, .null, .null, .null] .null := F451.keep Kc435 (ninS ne_b9_4_3_15_270_b432 nin0)
    have P453 : own_Go p e below S0 (T446.setTop (mkF m 206 #[.val (.int i0), .val (.int i1), .val (.int i2), .val (.int i3), .val (.int i4), .val (.int (1 : Int32)), .val (.int (i1 &&& (3 : Int32))), .val (.int v5_s0), .val (.ref b7), .val (.ref b18), .val (.ref b31), .val (.ref b46), .val (.ref b279), .val (.ref b432), .val (.ref z0_EMPTY_LIST), .unset, .unset] [(.ref b432), (.ref b279)])) := fun t k => P446 t (by
      show Steps p.tables e below (T446.setTop (mkF m 197 #[.val (.int i0), .val (.int i1), .val (.int i2), .val (.int i3), .val (.int i4), .val (.int (1 : Int32)), .val (.int (i1 &&& (3 : Int32))), .val (.int v5_s0), .val (.ref b7), .val (.ref b18), .val (.ref b31), .val (.ref b46), .val (.ref b279), .val (.ref b432), .val (.ref z0_EMPTY_LIST), .unset, .unset] [(.int (0 : Int32))])) t
      refine XS.ifYes X446.here hx rfl (pc0 := 197) (pc' := 202) rfl (hb hby at_197) rfl ((if0 _ _).trans (teq (by decide)).1) (by decide) (by decide) ?_
      refine XS.aload X446.here hx rfl (hb hby at_202) rfl rfl ?_
      refine XS.aload X446.here hx rfl (hb hby at_204) rfl rfl ?_
      show Steps p.tables e below (T446.setTop (mkF m 206 #[.val (.int i0), .val (.int i1), .val (.int i2), .val (.int i3), .val (.int i4), .val (.int (1 : Int32)), .val (.int (i1 &&& (3 : Int32))), .val (.int v5_s0), .val (.ref b7), .val (.ref b18), .val (.ref b31), .val (.ref b46), .val (.ref b279), .val (.ref b432), .val (.ref z0_EMPTY_LIST), .unset, .unset] [(.ref b432), (.ref b279)])) t
      exact k)
    obtain ⟨_, _, ⟨T454, L454, k454, n454⟩, -, X454, ⟨Lc454, hQ454, l454, y454, z454⟩, st454⟩ := Jvm.LawKit.callS X446 hx (y := (⟨"com/example/penelope/penelope/program/Expansion", "underClaim", "(Ljava/util/List;Lcom/example/penelope/penelope/program/Expansion;)Lcom/example/penelope/penelope/program/Expansion;"⟩ : MethodName)) hown (mvT hZ (hw _ (List.mem_of_getElem? (i := 123) rfl))) (mvT hZ (hw _ (List.mem_of_getElem? (i := 124) rfl))) (mvT hZ (hw _ (List.mem_of_getElem? (i := 84) rfl))) (mvT hZ (hw _ (List.mem_of_getElem? (i := 125) rfl))) (by decide) (backOf (W := 0) (rm18 l Z a0 hw [] b279 b432 b46 (nar .boolean v5_s0) T435.heap n0 (Nat.le_trans Z0 K435.1) F435_0 F435_3) hZ (hw _ (List.mem_of_getElem? (i := 125) rfl)) (hw _ (List.mem_of_getElem? (i := 84) rfl)) (by decide) (by decide)) (g := (mkF m 206 #[.val (.int i0), .val (.int i1), .val (.int i2), .val (.int i3), .val (.int i4), .val (.int (1 : Int32)), .val (.int (i1 &&& (3 : Int32))), .val (.int v5_s0), .val (.ref b7), .val (.ref b18), .val (.ref b31), .val (.ref b46), .val (.ref b279), .val (.ref b432), .val (.ref z0_EMPTY_LIST), .unset, .unset] [(.ref b432), (.ref b279)])) rfl (by rw [hml]; rfl) (argsL := [(.ref b279), (.ref b432)]) (rest := []) (lenOf pd_15 rfl) rfl (by show 2 * 0 + _ ≤ _; exact Nat.le_of_eq rfl) (hb hby at_206) (fun _ _ => ⟨rfl, e446, (by decide : 8 + 1 ≤ _), (by decide : 48 + 4 ≤ _)⟩)
    dsimp only [Pt.U, Pt.locs, Pt.cells, Pt.slots] at X454 l454 y454 z454 st454 hQ454
    subst l454 y454 z454
    obtain ⟨b1_454, rfl, N454q, Kc454, sz_b1_454, F454_0, F454_1, F454_2, F454_3, F454_4⟩ := hQ454
    have N454 := Fr.app N446 N454q
    have ne_z0_DEFAULTCAPACITY_EMPTY_ELEMENTDATA_b1_454 : z0_DEFAULTCAPACITY_EMPTY_ELEMENTDATA ≠ b1_454 := Nat.ne_of_lt (Nat.lt_of_lt_of_le F448.lt sz_b1_454)
    have ne_z0_EMPTY_LIST_b1_454 : z0_EMPTY_LIST ≠ b1_454 := Nat.ne_of_lt (Nat.lt_of_lt_of_le F442.lt sz_b1_454)
    have ne_qe_b1_454 : qe ≠ b1_454 := Nat.ne_of_lt (Nat.lt_of_lt_of_le F444.lt sz_b1_454)
    have ne_b46_b1_454 : b46 ≠ b1_454 := Nat.ne_of_lt (Nat.lt_of_lt_of_le F450.lt sz_b1_454)
    have ne_b9_4_3_15_270_b1_454 : b9_4_3_15_270 ≠ b1_454 := Nat.ne_of_lt (Nat.lt_of_lt_of_le F452.lt sz_b1_454)
    have ne_b432_b1_454 : b432 ≠ b1_454 := Nat.ne_of_lt (Nat.lt_of_lt_of_le F436.lt sz_b1_454)
    have g_b1_454 : n0 ≤ b1_454 := Nat.le_trans (Nat.le_trans Z0 K435.1) sz_b1_454
    have o_b1_454 : h0.size ≤ b1_454 := Nat.le_trans K435.1 sz_b1_454
    have K454 : Keep h0 T454.heap [] := Keep.trans K435 Kc454 all0
    have P454 : own_Go p e below S0 (T454.setTop (mkF m 209 #[.val (.int i0), .val (.int i1), .val (.int i2), .val (.int i3), .val (.int i4), .val (.int (1 : Int32)), .val (.int (i1 &&& (3 : Int32))), .val (.int v5_s0), .val (.ref b7), .val (.ref b18), .val (.ref b31), .val (.ref b46), .val (.ref b279), .val (.ref b432), .val (.ref z0_EMPTY_LIST), .unset, .unset] [(.ref b1_454)])) := fun t k => P453 t (st454 _ k)
    have P455 : own_Go p e below S0 (T454.setTop (mkF m 213 #[.val (.int i0), .val (.int i1), .val (.int i2), .val (.int i3), .val (.int i4), .val (.int (1 : Int32)), .val (.int (i1 &&& (3 : Int32))), .val (.int v5_s0), .val (.ref b7), .val (.ref b18), .val (.ref b31), .val (.ref b46), .val (.ref b279), .val (.ref b432), .val (.ref z0_EMPTY_LIST), .val (.ref b1_454), .unset] [(.ref b1_454)])) := fun t k => P454 t (by
      show Steps p.tables e below (T454.setTop (mkF m 209 #[.val (.int i0), .val (.int i1), .val (.int i2), .val (.int i3), .val (.int i4), .val (.int (1 : Int32)), .val (.int (i1 &&& (3 : Int32))), .val (.int v5_s0), .val (.ref b7), .val (.ref b18), .val (.ref b31), .val (.ref b46), .val (.ref b279), .val (.ref b432), .val (.ref z0_EMPTY_LIST), .unset, .unset] [(.ref b1_454)])) t
      refine XS.astore X454.here hx rfl (hb hby at_209) rfl rfl (l' := #[.val (.int i0), .val (.int i1), .val (.int i2), .val (.int i3), .val (.int i4), .val (.int (1 : Int32)), .val (.int (i1 &&& (3 : Int32))), .val (.int v5_s0), .val (.ref b7), .val (.ref b18), .val (.ref b31), .val (.ref b46), .val (.ref b279), .val (.ref b432), .val (.ref z0_EMPTY_LIST), .val (.ref b1_454), .unset]) rfl ?_
      refine XS.aload X454.here hx rfl (hb hby at_211) rfl rfl ?_
      show Steps p.tables e below (T454.setTop (mkF m 213 #[.val (.int i0), .val (.int i1), .val (.int i2), .val (.int i3), .val (.int i4), .val (.int (1 : Int32)), .val (.int (i1 &&& (3 : Int32))), .val (.int v5_s0), .val (.ref b7), .val (.ref b18), .val (.ref b31), .val (.ref b46), .val (.ref b279), .val (.ref b432), .val (.ref z0_EMPTY_LIST), .val (.ref b1_454), .unset] [(.ref b1_454)])) t
      exact k)
    obtain ⟨cq456, kq456, q456a, q456b, q456c⟩ := isOf hZ rfl F454_0
    obtain ⟨_, _, ⟨T456, L456, k456, n456⟩, -, X456, ⟨Lc456, hQ456, l456, y456, z456⟩, st456⟩ := X454.virtualBack hx (y := (⟨"com/example/penelope/penelope/program/Expansion", "movesAfterClaim", "()Ljava/util/List;"⟩ : MethodName)) (z := (⟨"com/example/penelope/penelope/program/Expansion", "movesAfterClaim", "()Ljava/util/List;"⟩ : MethodName)) hown (mvT hZ (hw _ (List.mem_of_getElem? (i := 106) rfl))) (mvT hZ (hw _ (List.mem_of_getElem? (i := 107) rfl))) (notFace_of_selects (args := #[]) (mvT hZ (hw _ (List.mem_of_getElem? (i := 109) rfl)))) (mvT hZ (hw _ (List.mem_of_getElem? (i := 109) rfl))) (mvT hZ (hw _ (List.mem_of_getElem? (i := 108) rfl))) (by decide) (backOf (W := 0) (rm16 l Z a0 hw [] b1_454 b46 T454.heap n0 (Nat.le_trans Z0 K454.1) F454_3 F454_2) hZ (hw _ (List.mem_of_getElem? (i := 110) rfl)) (hw _ (List.mem_of_getElem? (i := 84) rfl)) (by decide) (by decide)) q456a q456c (g := (mkF m 213 #[.val (.int i0), .val (.int i1), .val (.int i2), .val (.int i3), .val (.int i4), .val (.int (1 : Int32)), .val (.int (i1 &&& (3 : Int32))), .val (.int v5_s0), .val (.ref b7), .val (.ref b18), .val (.ref b31), .val (.ref b46), .val (.ref b279), .val (.ref b432), .val (.ref z0_EMPTY_LIST), .val (.ref b1_454), .unset] [(.ref b1_454)])) rfl (by rw [hml]; rfl) (Steps.refl _) (argsL := []) (rest := []) (lenOf pd_6 rfl) rfl (by show 2 * 0 + _ ≤ _; exact Nat.le_of_eq rfl) (hb hby at_213) (fun _ _ => ⟨rfl, rfl, (by decide : 9 + 0 ≤ _), (by decide : 52 + 0 ≤ _)⟩)
    dsimp only [Pt.U, Pt.locs, Pt.cells, Pt.slots] at X456 l456 y456 z456 st456 hQ456
    subst l456 y456 z456
    obtain ⟨rfl, N456q, e456⟩ := hQ456
    have N456 := Fr.app N454 N456q
    have P456 : own_Go p e below S0 (T456.setTop (mkF m 216 #[.val (.int i0), .val (.int i1), .val (.int i2), .val (.int i3), .val (.int i4), .val (.int (1 : Int32)), .val (.int (i1 &&& (3 : Int32))), .val (.int v5_s0), .val (.ref b7), .val (.ref b18), .val (.ref b31), .val (.ref b46), .val (.ref b279), .val (.ref b432), .val (.ref z0_EMPTY_LIST), .val (.ref b1_454), .unset] [(.ref b46)])) := fun t k => P455 t (st456.trans k)
    have F457 : Exa Z T454.heap b46 "java/util/ArrayList" := F450.keep Kc454
    have F458 : Fld Z h432 b46 "java/util/ArrayList" "size" "I" (.int (1 : Int32)) := F428.ext E432
    have F459 : Fld Z T435.heap b46 "java/util/ArrayList" "size" "I" (.int (1 : Int32)) := F458.keep Kc435 (ninS ne_b46_b432 nin0)
    have F460 : Fld Z T454.heap b46 "java/util/ArrayList" "size" "I" (.int (1 : Int32)) := F459.keep Kc454 nin0
    have P461 : own_Go p e below S0 (T456.setTop (mkF m 220 #[.val (.int i0), .val (.int i1), .val (.int i2), .val (.int i3), .val (.int i4), .val (.int (1 : Int32)), .val (.int (i1 &&& (3 : Int32))), .val (.int v5_s0), .val (.ref b7), .val (.ref b18), .val (.ref b31), .val (.ref b46), .val (.ref b279), .val (.ref b432), .val (.ref z0_EMPTY_LIST), .val (.ref b1_454), .val (.ref b46)] [(.ref b46)])) := fun t k => P456 t (by
      show Steps p.tables e below (T456.setTop (mkF m 216 #[.val (.int i0), .val (.int i1), .val (.int i2), .val (.int i3), .val (.int i4), .val (.int (1 : Int32)), .val (.int (i1 &&& (3 : Int32))), .val (.int v5_s0), .val (.ref b7), .val (.ref b18), .val (.ref b31), .val (.ref b46), .val (.ref b279), .val (.ref b432), .val (.ref z0_EMPTY_LIST), .val (.ref b1_454), .unset] [(.ref b46)])) t
      refine XS.astore X456.here hx rfl (hb hby at_216) rfl rfl (l' := #[.val (.int i0), .val (.int i1), .val (.int i2), .val (.int i3), .val (.int i4), .val (.int (1 : Int32)), .val (.int (i1 &&& (3 : Int32))), .val (.int v5_s0), .val (.ref b7), .val (.ref b18), .val (.ref b31), .val (.ref b46), .val (.ref b279), .val (.ref b432), .val (.ref z0_EMPTY_LIST), .val (.ref b1_454), .val (.ref b46)]) rfl ?_
      refine XS.aload X456.here hx rfl (hb hby at_218) rfl rfl ?_
      show Steps p.tables e below (T456.setTop (mkF m 220 #[.val (.int i0), .val (.int i1), .val (.int i2), .val (.int i3), .val (.int i4), .val (.int (1 : Int32)), .val (.int (i1 &&& (3 : Int32))), .val (.int v5_s0), .val (.ref b7), .val (.ref b18), .val (.ref b31), .val (.ref b46), .val (.ref b279), .val (.ref b432), .val (.ref z0_EMPTY_LIST), .val (.ref b1_454), .val (.ref b46)] [(.ref b46)])) t
      exact k)
    obtain ⟨cq462, kq462, q462a, q462b, q462c⟩ := isOf hZ e456 F457
    obtain ⟨_, _, ⟨T462, L462, k462, n462⟩, -, X462, ⟨Lc462, hQ462, l462, y462, z462⟩, st462⟩ := X456.interfaceBack hx (xi := (⟨"java/util/List", "size", "()I"⟩ : MethodName)) (y := (⟨"java/util/ArrayList", "size", "()I"⟩ : MethodName)) hown (mvT hZ (hw _ (List.mem_of_getElem? (i := 111) rfl))) (mvT hZ (hw _ (List.mem_of_getElem? (i := 112) rfl))) (mvT hZ (hw _ (List.mem_of_getElem? (i := 113) rfl))) (mvT hZ (hw _ (List.mem_of_getElem? (i := 127) rfl))) (mvT hZ (hw _ (List.mem_of_getElem? (i := 128) rfl))) (mvT hZ (hw _ (List.mem_of_getElem? (i := 129) rfl))) (mvT hZ (hw _ (List.mem_of_getElem? (i := 130) rfl))) (mvT hZ (hw _ (List.mem_of_getElem? (i := 131) rfl))) (by decide) (backOf (W := 0) (rm19 l Z a0 hw [] b46 (1 : Int32) T454.heap n0 (Nat.le_trans Z0 K454.1) F460) hZ (hw _ (List.mem_of_getElem? (i := 132) rfl)) (hw _ (List.mem_of_getElem? (i := 29) rfl)) (by decide) (by decide)) q462a q462b q462c (g := (mkF m 220 #[.val (.int i0), .val (.int i1), .val (.int i2), .val (.int i3), .val (.int i4), .val (.int (1 : Int32)), .val (.int (i1 &&& (3 : Int32))), .val (.int v5_s0), .val (.ref b7), .val (.ref b18), .val (.ref b31), .val (.ref b46), .val (.ref b279), .val (.ref b432), .val (.ref z0_EMPTY_LIST), .val (.ref b1_454), .val (.ref b46)] [(.ref b46)])) rfl (by rw [hml]; rfl) (Steps.refl _) (argsL := []) (rest := []) (lenOf pd_14 rfl) rfl (by show 2 * 0 + _ ≤ _; exact Nat.le_of_eq rfl) (hb hby at_220) (fun _ _ => ⟨rfl, e456, (by decide : 9 + 0 ≤ _), (by decide : 52 + 0 ≤ _)⟩)
    dsimp only [Pt.U, Pt.locs, Pt.cells, Pt.slots] at X462 l462 y462 z462 st462 hQ462
    subst l462 y462 z462
    obtain ⟨rfl, N462q, e462⟩ := hQ462
    have N462 := Fr.app N456 N462q
    have P462 : own_Go p e below S0 (T462.setTop (mkF m 225 #[.val (.int i0), .val (.int i1), .val (.int i2), .val (.int i3), .val (.int i4), .val (.int (1 : Int32)), .val (.int (i1 &&& (3 : Int32))), .val (.int v5_s0), .val (.ref b7), .val (.ref b18), .val (.ref b31), .val (.ref b46), .val (.ref b279), .val (.ref b432), .val (.ref z0_EMPTY_LIST), .val (.ref b1_454), .val (.ref b46)] [(.int (1 : Int32))])) := fun t k => P461 t (st462.trans k)
    have F463 : Fld Z h432 b46 "java/util/ArrayList" "elementData" "[Ljava/lang/Object;" (.ref b9_4_3_15_270) := F427.ext E432
    have F464 : Fld Z T435.heap b46 "java/util/ArrayList" "elementData" "[Ljava/lang/Object;" (.ref b9_4_3_15_270) := F463.keep Kc435 (ninS ne_b46_b432 nin0)
    have F465 : Fld Z T454.heap b46 "java/util/ArrayList" "elementData" "[Ljava/lang/Object;" (.ref b9_4_3_15_270) := F464.keep Kc454 nin0
    have F466 : Arv Z T454.heap b9_4_3_15_270 k9_4_3_15_270 (.object "java/lang/Object") (10 : Int32) [(.ref b7), .null, .null, .null, .null, .null, .null, .null, .null, .null] .null := F452.keep Kc454 nin0
    have P467 : own_Go p e below S0 (T462.setTop (mkF m 240 #[.val (.int i0), .val (.int i1), .val (.int i2), .val (.int i3), .val (.int i4), .val (.int (1 : Int32)), .val (.int (i1 &&& (3 : Int32))), .val (.int v5_s0), .val (.ref b7), .val (.ref b18), .val (.ref b31), .val (.ref b46), .val (.ref b279), .val (.ref b432), .val (.ref z0_EMPTY_LIST), .val (.ref b1_454), .val (.ref b46)] [(.int (0 : Int32)), (.ref b46)])) := fun t k => P462 t (by
      show Steps p.tables e below (T462.setTop (mkF m 225 #[.val (.int i0), .val (.int i1), .val (.int i2), .val (.int i3), .val (.int i4), .val (.int (1 : Int32)), .val (.int (i1 &&& (3 : Int32))), .val (.int v5_s0), .val (.ref b7), .val (.ref b18), .val (.ref b31), .val (.ref b46), .val (.ref b279), .val (.ref b432), .val (.ref z0_EMPTY_LIST), .val (.ref b1_454), .val (.ref b46)] [(.int (1 : Int32))])) t
      refine XS.iload X462.here hx rfl (hb hby at_225) rfl ?_
      refine XS.icmpYes X462.here hx rfl (pc0 := 227) (pc' := 232) rfl (hb hby at_227) rfl (teq (by decide)).1 (by decide) (by decide) ?_
      refine XS.iload X462.here hx rfl (hb hby at_232) rfl ?_
      refine XS.ifNo X462.here hx rfl (hb hby at_234) rfl ((if0 _ _).trans (tlt (by decide)).2.2.2) ?_
      refine XS.aload X462.here hx rfl (hb hby at_237) rfl rfl ?_
      refine XS.iconst X462.here hx rfl (hb hby at_239) ?_
      show Steps p.tables e below (T462.setTop (mkF m 240 #[.val (.int i0), .val (.int i1), .val (.int i2), .val (.int i3), .val (.int i4), .val (.int (1 : Int32)), .val (.int (i1 &&& (3 : Int32))), .val (.int v5_s0), .val (.ref b7), .val (.ref b18), .val (.ref b31), .val (.ref b46), .val (.ref b279), .val (.ref b432), .val (.ref z0_EMPTY_LIST), .val (.ref b1_454), .val (.ref b46)] [(.int (0 : Int32)), (.ref b46)])) t
      exact k)
    obtain ⟨cq468, kq468, q468a, q468b, q468c⟩ := isOf hZ e462 F457
    obtain ⟨_, _, ⟨T468, L468, k468, n468⟩, -, X468, ⟨Lc468, hQ468, l468, y468, z468⟩, st468⟩ := X462.interfaceBack hx (xi := (⟨"java/util/List", "get", "(I)Ljava/lang/Object;"⟩ : MethodName)) (y := (⟨"java/util/ArrayList", "get", "(I)Ljava/lang/Object;"⟩ : MethodName)) hown (mvT hZ (hw _ (List.mem_of_getElem? (i := 133) rfl))) (mvT hZ (hw _ (List.mem_of_getElem? (i := 134) rfl))) (mvT hZ (hw _ (List.mem_of_getElem? (i := 135) rfl))) (mvT hZ (hw _ (List.mem_of_getElem? (i := 136) rfl))) (mvT hZ (hw _ (List.mem_of_getElem? (i := 137) rfl))) (mvT hZ (hw _ (List.mem_of_getElem? (i := 138) rfl))) (mvT hZ (hw _ (List.mem_of_getElem? (i := 139) rfl))) (mvT hZ (hw _ (List.mem_of_getElem? (i := 131) rfl))) (by decide) (backOf (W := 0) (rm20_1_0 l Z a0 hw [] b46 b9_4_3_15_270 k9_4_3_15_270 b7 T454.heap n0 (Nat.le_trans Z0 K454.1) F460 F465 F466 F457) hZ (hw _ (List.mem_of_getElem? (i := 140) rfl)) (hw _ (List.mem_of_getElem? (i := 29) rfl)) (by decide) (by decide)) q468a q468b q468c (g := (mkF m 240 #[.val (.int i0), .val (.int i1), .val (.int i2), .val (.int i3), .val (.int i4), .val (.int (1 : Int32)), .val (.int (i1 &&& (3 : Int32))), .val (.int v5_s0), .val (.ref b7), .val (.ref b18), .val (.ref b31), .val (.ref b46), .val (.ref b279), .val (.ref b432), .val (.ref z0_EMPTY_LIST), .val (.ref b1_454), .val (.ref b46)] [(.int (0 : Int32)), (.ref b46)])) rfl (by rw [hml]; rfl) (Steps.refl _) (argsL := [(.int (0 : Int32))]) (rest := []) (lenOf pd_9 rfl) rfl (by show 2 * 0 + _ ≤ _; exact Nat.le_of_eq rfl) (hb hby at_240) (fun _ _ => ⟨rfl, e462, (by decide : 9 + 0 ≤ _), (by decide : 52 + 0 ≤ _)⟩)
    dsimp only [Pt.U, Pt.locs, Pt.cells, Pt.slots] at X468 l468 y468 z468 st468 hQ468
    subst l468 y468 z468
    obtain ⟨rfl, N468q, e468⟩ := hQ468
    have N468 := Fr.app N462 N468q
    have P468 : own_Go p e below S0 (T468.setTop (mkF m 245 #[.val (.int i0), .val (.int i1), .val (.int i2), .val (.int i3), .val (.int i4), .val (.int (1 : Int32)), .val (.int (i1 &&& (3 : Int32))), .val (.int v5_s0), .val (.ref b7), .val (.ref b18), .val (.ref b31), .val (.ref b46), .val (.ref b279), .val (.ref b432), .val (.ref z0_EMPTY_LIST), .val (.ref b1_454), .val (.ref b46)] [(.ref b7)])) := fun t k => P467 t (st468.trans k)
    have P469 : own_Go p e below S0 (T468.setTop (mkF m 295 #[.val (.int i0), .val (.int i1), .val (.int i2), .val (.int i3), .val (.int i4), .val (.int (1 : Int32)), .val (.int (i1 &&& (3 : Int32))), .val (.int v5_s0), .val (.ref b7), .val (.ref b18), .val (.ref b31), .val (.ref b46), .val (.ref b279), .val (.ref b432), .val (.ref z0_EMPTY_LIST), .val (.ref b1_454), .val (.ref b46)] [(.int (1 : Int32))])) := fun t k => P468 t (by
      show Steps p.tables e below (T468.setTop (mkF m 245 #[.val (.int i0), .val (.int i1), .val (.int i2), .val (.int i3), .val (.int i4), .val (.int (1 : Int32)), .val (.int (i1 &&& (3 : Int32))), .val (.int v5_s0), .val (.ref b7), .val (.ref b18), .val (.ref b31), .val (.ref b46), .val (.ref b279), .val (.ref b432), .val (.ref z0_EMPTY_LIST), .val (.ref b1_454), .val (.ref b46)] [(.ref b7)])) t
      refine XS.aload X468.here hx rfl (hb hby at_245) rfl rfl ?_
      refine Jvm.RoadKit.acmp (g := (mkF m 247 #[.val (.int i0), .val (.int i1), .val (.int i2), .val (.int i3), .val (.int i4), .val (.int (1 : Int32)), .val (.int (i1 &&& (3 : Int32))), .val (.int v5_s0), .val (.ref b7), .val (.ref b18), .val (.ref b31), .val (.ref b46), .val (.ref b279), .val (.ref b432), .val (.ref z0_EMPTY_LIST), .val (.ref b1_454), .val (.ref b46)] [(.ref b7), (.ref b7)])) X468 hx rfl rfl rfl (pc0 := 247) (pc' := 252) (same := true) rfl (hb hby at_247) rfl (decide_eq_true rfl) (by decide) (by decide) ?_
      refine XS.iload X468.here hx rfl (hb hby at_252) rfl ?_
      refine XS.iconst X468.here hx rfl (hb hby at_254) ?_
      refine XS.icmpYes X468.here hx rfl (pc0 := 255) (pc' := 273) rfl (hb hby at_255) rfl (flt (by decide)).2.2.2 (by decide) (by decide) ?_
      refine XS.iload X468.here hx rfl (hb hby at_273) rfl ?_
      show Steps p.tables e below (T468.setTop (mkF m 275 #[.val (.int i0), .val (.int i1), .val (.int i2), .val (.int i3), .val (.int i4), .val (.int (1 : Int32)), .val (.int (i1 &&& (3 : Int32))), .val (.int v5_s0), .val (.ref b7), .val (.ref b18), .val (.ref b31), .val (.ref b46), .val (.ref b279), .val (.ref b432), .val (.ref z0_EMPTY_LIST), .val (.ref b1_454), .val (.ref b46)] [(.int (1 : Int32))])) t
      refine XS.iconst X468.here hx rfl (hb hby at_275) ?_
      refine XS.icmpYes X468.here hx rfl (pc0 := 276) (pc' := 294) rfl (hb hby at_276) rfl (flt (by decide)).2.2.2 (by decide) (by decide) ?_
      refine XS.iconst X468.here hx rfl (hb hby at_294) ?_
      show Steps p.tables e below (T468.setTop (mkF m 295 #[.val (.int i0), .val (.int i1), .val (.int i2), .val (.int i3), .val (.int i4), .val (.int (1 : Int32)), .val (.int (i1 &&& (3 : Int32))), .val (.int v5_s0), .val (.ref b7), .val (.ref b18), .val (.ref b31), .val (.ref b46), .val (.ref b279), .val (.ref b432), .val (.ref z0_EMPTY_LIST), .val (.ref b1_454), .val (.ref b46)] [(.int (1 : Int32))])) t
      exact k)
    have F470 : Fld Z h432 b46 "java/util/AbstractList" "modCount" "I" (.int ((0 : Int32) + (1 : Int32))) := F429.ext E432
    have F471 : Fld Z T435.heap b46 "java/util/AbstractList" "modCount" "I" (.int ((0 : Int32) + (1 : Int32))) := F470.keep Kc435 (ninS ne_b46_b432 nin0)
    have F472 : Fld Z T454.heap b46 "java/util/AbstractList" "modCount" "I" (.int ((0 : Int32) + (1 : Int32))) := F471.keep Kc454 nin0
    have F473 : Exa Z T454.heap b432 "com/example/penelope/penelope/program/Expansion" := F436.keep Kc454
    have F474 : Fld Z T454.heap b432 "com/example/penelope/penelope/program/Expansion" "moves" "Ljava/util/List;" (.ref b46) := F435_0.keep Kc454 nin0
    have F475 : Fld Z T454.heap b432 "com/example/penelope/penelope/program/Expansion" "movesAfterClaim" "Ljava/util/List;" (.ref z0_EMPTY_LIST) := F435_1.keep Kc454 nin0
    have F476 : Fld Z T454.heap b432 "com/example/penelope/penelope/program/Expansion" "faultAfterClaim" "Lcom/example/penelope/penelope/program/Fault;" .null := F435_2.keep Kc454 nin0
    have F477 : Fld Z T454.heap b432 "com/example/penelope/penelope/program/Expansion" "transientState" "Z" (.int (nar .boolean v5_s0)) := F435_3.keep Kc454 nin0
    obtain ⟨fs, hr, hrun, hended, hW, hsame⟩ := X468.leave (v := some (.int (1 : Int32))) (fun h => by rw [Bd.returns] at h; cases h)
    refine ⟨_, _, own_from hS0 (P469 _ ?_), hrun, hended, _, _, rfl, ?_, ⟨_, rfl⟩, hW, hsame.mono (by decide) (by decide)⟩
    · show Steps p.tables e below (T468.setTop (mkF m 295 #[.val (.int i0), .val (.int i1), .val (.int i2), .val (.int i3), .val (.int i4), .val (.int (1 : Int32)), .val (.int (i1 &&& (3 : Int32))), .val (.int v5_s0), .val (.ref b7), .val (.ref b18), .val (.ref b31), .val (.ref b46), .val (.ref b279), .val (.ref b432), .val (.ref z0_EMPTY_LIST), .val (.ref b1_454), .val (.ref b46)] [(.int (1 : Int32))])) _
      exact retN X468 hx (t := .boolean) Bd.returns (by simp) (hb hby at_295) hr
    · show Q0 Z i0 i1 i2 i3 i4 z0_DEFAULTCAPACITY_EMPTY_ELEMENTDATA qk0 z0_EMPTY_LIST qe qke h0 n0 _ T468.heap _
      rw [e468]
      exact ⟨rfl, N468⟩
  · skip
    subst c58
    have F478 : Exa Z T55.heap b46 "java/util/ArrayList" := A46.keep Kc55
    have F479 : Sta Z T55.heap "java/util/ArrayList" "DEFAULTCAPACITY_EMPTY_ELEMENTDATA" "[Ljava/lang/Object;" (.ref z0_DEFAULTCAPACITY_EMPTY_ELEMENTDATA) := own_staK F53 Kc55 (allS (own_plE A46) all0)
    have F480 : Arv Z h46 z0_DEFAULTCAPACITY_EMPTY_ELEMENTDATA qk0 (.object "java/lang/Object") (0 : Int32) [] .null := F35.ext E46
    have F481 : Arv Z T55.heap z0_DEFAULTCAPACITY_EMPTY_ELEMENTDATA qk0 (.object "java/lang/Object") (0 : Int32) [] .null := F480.keep Kc55 (ninS ne_z0_DEFAULTCAPACITY_EMPTY_ELEMENTDATA_b46 nin0)
    have F482 : Exa Z h46 b7 "com/example/penelope/penelope/program/Move" := F41.ext E46
    have F483 : Exa Z T55.heap b7 "com/example/penelope/penelope/program/Move" := F482.keep Kc55
    have F484 : Fld Z h46 z0_EMPTY_LIST "java/util/ImmutableCollections$ListN" "elements" "[Ljava/lang/Object;" (.ref qe) := F37.ext E46
    have F485 : Fld Z T55.heap z0_EMPTY_LIST "java/util/ImmutableCollections$ListN" "elements" "[Ljava/lang/Object;" (.ref qe) := F484.keep Kc55 (ninS ne_z0_EMPTY_LIST_b46 nin0)
    have F486 : Arv Z h46 qe qke (.object "java/lang/Object") (0 : Int32) [] .null := F39.ext E46
    have F487 : Arv Z T55.heap qe qke (.object "java/lang/Object") (0 : Int32) [] .null := F486.keep Kc55 (ninS ne_qe_b46 nin0)
    have F488 : Exa Z h46 b18 "com/example/penelope/penelope/program/Move" := F43.ext E46
    have F489 : Exa Z T55.heap b18 "com/example/penelope/penelope/program/Move" := F488.keep Kc55
    have F490 : Exa Z h46 b31 "com/example/penelope/penelope/program/Move" := F44.ext E46
    have F491 : Exa Z T55.heap b31 "com/example/penelope/penelope/program/Move" := F490.keep Kc55
    have P492 : own_Go p e below S0 (T55.setTop (mkF m 88 #[.val (.int i0), .val (.int i1), .val (.int i2), .val (.int i3), .val (.int i4), .val (.int (2 : Int32)), .val (.int (i1 &&& (3 : Int32))), .val (.int v5_s0), .val (.ref b7), .val (.ref b18), .val (.ref b31), .val (.ref b46), .unset, .unset, .unset, .unset, .unset] [(.ref b7), (.ref b46)])) := fun t k => P57 t (by
      show Steps p.tables e below (T55.setTop (mkF m 79 #[.val (.int i0), .val (.int i1), .val (.int i2), .val (.int i3), .val (.int i4), .val (.int (2 : Int32)), .val (.int (i1 &&& (3 : Int32))), .val (.int v5_s0), .val (.ref b7), .val (.ref b18), .val (.ref b31), .val (.ref b46), .unset, .unset, .unset, .unset, .unset] [])) t
      refine XS.iload X55.here hx rfl (hb hby at_79) rfl ?_
      refine XS.ifNo X55.here hx rfl (hb hby at_81) rfl ((if0 _ _).trans (tlt (by decide)).2.2.2) ?_
      refine XS.aload X55.here hx rfl (hb hby at_84) rfl rfl ?_
      refine XS.aload X55.here hx rfl (hb hby at_86) rfl rfl ?_
      show Steps p.tables e below (T55.setTop (mkF m 88 #[.val (.int i0), .val (.int i1), .val (.int i2), .val (.int i3), .val (.int i4), .val (.int (2 : Int32)), .val (.int (i1 &&& (3 : Int32))), .val (.int v5_s0), .val (.ref b7), .val (.ref b18), .val (.ref b31), .val (.ref b46), .unset, .unset, .unset, .unset, .unset] [(.ref b7), (.ref b46)])) t
      exact k)
    obtain ⟨cq493, kq493, q493a, q493b, q493c⟩ := isOf hZ rfl F478
    obtain ⟨_, _, ⟨T493, L493, k493, n493⟩, -, X493, ⟨Lc493, hQ493, l493, y493, z493⟩, st493⟩ := X55.virtualBack hx (y := (⟨"java/util/ArrayList", "add", "(Ljava/lang/Object;)Z"⟩ : MethodName)) (z := (⟨"java/util/ArrayList", "add", "(Ljava/lang/Object;)Z"⟩ : MethodName)) hown (mvT hZ (hw _ (List.mem_of_getElem? (i := 51) rfl))) (mvT hZ (hw _ (List.mem_of_getElem? (i := 52) rfl))) (notFace_of_selects (args := #[]) (mvT hZ (hw _ (List.mem_of_getElem? (i := 54) rfl)))) (mvT hZ (hw _ (List.mem_of_getElem? (i := 54) rfl))) (mvT hZ (hw _ (List.mem_of_getElem? (i := 53) rfl))) (by decide) (backOf (W := 0) (rm8e l Z a0 hw [] b46 b7 z0_DEFAULTCAPACITY_EMPTY_ELEMENTDATA qk0 (0 : Int32) T55.heap n0 (Nat.le_trans Z0 K55.1) F55_0 F55_1 F479 F481 F483 F55_2 F478 g_b46 ne_z0_DEFAULTCAPACITY_EMPTY_ELEMENTDATA_b46) hZ (hw _ (List.mem_of_getElem? (i := 55) rfl)) (hw _ (List.mem_of_getElem? (i := 29) rfl)) (by decide) (by decide)) q493a q493c (g := (mkF m 88 #[.val (.int i0), .val (.int i1), .val (.int i2), .val (.int i3), .val (.int i4), .val (.int (2 : Int32)), .val (.int (i1 &&& (3 : Int32))), .val (.int v5_s0), .val (.ref b7), .val (.ref b18), .val (.ref b31), .val (.ref b46), .unset, .unset, .unset, .unset, .unset] [(.ref b7), (.ref b46)])) rfl (by rw [hml]; rfl) (Steps.refl _) (argsL := [(.ref b7)]) (rest := []) (lenOf pd_12 rfl) rfl (by show 2 * 0 + _ ≤ _; exact Nat.le_of_eq rfl) (hb hby at_88) (fun _ _ => ⟨rfl, rfl, (by decide : 4 + 1 ≤ _), (by decide : 21 + 10 ≤ _)⟩)
    dsimp only [Pt.U, Pt.locs, Pt.cells, Pt.slots] at X493 l493 y493 z493 st493 hQ493
    subst l493 y493 z493
    obtain ⟨b9_4_3_15_493, k9_4_3_15_493, rfl, N493q, Kc493, sz_b9_4_3_15_493, F493_0, F493_1, F493_2, F493_3, F493_4⟩ := hQ493
    have N493 := Fr.app N55 N493q
    have ne_z0_DEFAULTCAPACITY_EMPTY_ELEMENTDATA_b9_4_3_15_493 : z0_DEFAULTCAPACITY_EMPTY_ELEMENTDATA ≠ b9_4_3_15_493 := Nat.ne_of_lt (Nat.lt_of_lt_of_le F481.lt sz_b9_4_3_15_493)
    have ne_z0_EMPTY_LIST_b9_4_3_15_493 : z0_EMPTY_LIST ≠ b9_4_3_15_493 := Nat.ne_of_lt (Nat.lt_of_lt_of_le F485.lt sz_b9_4_3_15_493)
    have ne_qe_b9_4_3_15_493 : qe ≠ b9_4_3_15_493 := Nat.ne_of_lt (Nat.lt_of_lt_of_le F487.lt sz_b9_4_3_15_493)
    have ne_b7_b9_4_3_15_493 : b7 ≠ b9_4_3_15_493 := Nat.ne_of_lt (Nat.lt_of_lt_of_le F483.lt sz_b9_4_3_15_493)
    have ne_b18_b9_4_3_15_493 : b18 ≠ b9_4_3_15_493 := Nat.ne_of_lt (Nat.lt_of_lt_of_le F489.lt sz_b9_4_3_15_493)
    have ne_b31_b9_4_3_15_493 : b31 ≠ b9_4_3_15_493 := Nat.ne_of_lt (Nat.lt_of_lt_of_le F491.lt sz_b9_4_3_15_493)
    have ne_b46_b9_4_3_15_493 : b46 ≠ b9_4_3_15_493 := Nat.ne_of_lt (Nat.lt_of_lt_of_le F478.lt sz_b9_4_3_15_493)
    have g_b9_4_3_15_493 : n0 ≤ b9_4_3_15_493 := Nat.le_trans (Nat.le_trans Z0 K55.1) sz_b9_4_3_15_493
    have o_b9_4_3_15_493 : h0.size ≤ b9_4_3_15_493 := Nat.le_trans K55.1 sz_b9_4_3_15_493
    have K493 : Keep h0 T493.heap [] := Keep.trans K55 Kc493 (allS (Or.inr o_b46) all0)
    have P493 : own_Go p e below S0 (T493.setTop (mkF m 91 #[.val (.int i0), .val (.int i1), .val (.int i2), .val (.int i3), .val (.int i4), .val (.int (2 : Int32)), .val (.int (i1 &&& (3 : Int32))), .val (.int v5_s0), .val (.ref b7), .val (.ref b18), .val (.ref b31), .val (.ref b46), .unset, .unset, .unset, .unset, .unset] [(.int (1 : Int32))])) := fun t k => P492 t (st493.trans k)
    have F494 : Exa Z T493.heap b46 "java/util/ArrayList" := F478.keep Kc493
    have F495 : Exa Z T493.heap b18 "com/example/penelope/penelope/program/Move" := F489.keep Kc493
    have P496 : own_Go p e below S0 (T493.setTop (mkF m 102 #[.val (.int i0), .val (.int i1), .val (.int i2), .val (.int i3), .val (.int i4), .val (.int (2 : Int32)), .val (.int (i1 &&& (3 : Int32))), .val (.int v5_s0), .val (.ref b7), .val (.ref b18), .val (.ref b31), .val (.ref b46), .unset, .unset, .unset, .unset, .unset] [(.ref b18), (.ref b46)])) := fun t k => P493 t (by
      show Steps p.tables e below (T493.setTop (mkF m 91 #[.val (.int i0), .val (.int i1), .val (.int i2), .val (.int i3), .val (.int i4), .val (.int (2 : Int32)), .val (.int (i1 &&& (3 : Int32))), .val (.int v5_s0), .val (.ref b7), .val (.ref b18), .val (.ref b31), .val (.ref b46), .unset, .unset, .unset, .unset, .unset] [(.int (1 : Int32))])) t
      refine XS.pop X493.here hx rfl (hb hby at_91) rfl rfl ?_
      refine XS.iload X493.here hx rfl (hb hby at_92) rfl ?_
      refine XS.iconst X493.here hx rfl (hb hby at_94) ?_
      refine XS.icmpNo X493.here hx rfl (hb hby at_95) rfl (tlt (by decide)).2.2.2 ?_
      refine XS.aload X493.here hx rfl (hb hby at_98) rfl rfl ?_
      refine XS.aload X493.here hx rfl (hb hby at_100) rfl rfl ?_
      show Steps p.tables e below (T493.setTop (mkF m 102 #[.val (.int i0), .val (.int i1), .val (.int i2), .val (.int i3), .val (.int i4), .val (.int (2 : Int32)), .val (.int (i1 &&& (3 : Int32))), .val (.int v5_s0), .val (.ref b7), .val (.ref b18), .val (.ref b31), .val (.ref b46), .unset, .unset, .unset, .unset, .unset] [(.ref b18), (.ref b46)])) t
      exact k)
    obtain ⟨cq497, kq497, q497a, q497b, q497c⟩ := isOf hZ rfl F494
    obtain ⟨_, _, ⟨T497, L497, k497, n497⟩, -, X497, ⟨Lc497, hQ497, l497, y497, z497⟩, st497⟩ := X493.virtualBack hx (y := (⟨"java/util/ArrayList", "add", "(Ljava/lang/Object;)Z"⟩ : MethodName)) (z := (⟨"java/util/ArrayList", "add", "(Ljava/lang/Object;)Z"⟩ : MethodName)) hown (mvT hZ (hw _ (List.mem_of_getElem? (i := 51) rfl))) (mvT hZ (hw _ (List.mem_of_getElem? (i := 52) rfl))) (notFace_of_selects (args := #[]) (mvT hZ (hw _ (List.mem_of_getElem? (i := 54) rfl)))) (mvT hZ (hw _ (List.mem_of_getElem? (i := 54) rfl))) (mvT hZ (hw _ (List.mem_of_getElem? (i := 53) rfl))) (by decide) (backOf (W := 0) (rm8n1 l Z a0 hw [] b46 b18 b9_4_3_15_493 k9_4_3_15_493 b7 ((0 : Int32) + (1 : Int32)) T493.heap n0 (Nat.le_trans Z0 K493.1) F493_0 F493_1 F493_3 F493_4 F495 F493_2 F494 g_b46 (Ne.symm ne_b46_b9_4_3_15_493) g_b9_4_3_15_493) hZ (hw _ (List.mem_of_getElem? (i := 55) rfl)) (hw _ (List.mem_of_getElem? (i := 29) rfl)) (by decide) (by decide)) q497a q497c (g := (mkF m 102 #[.val (.int i0), .val (.int i1), .val (.int i2), .val (.int i3), .val (.int i4), .val (.int (2 : Int32)), .val (.int (i1 &&& (3 : Int32))), .val (.int v5_s0), .val (.ref b7), .val (.ref b18), .val (.ref b31), .val (.ref b46), .unset, .unset, .unset, .unset, .unset] [(.ref b18), (.ref b46)])) rfl (by rw [hml]; rfl) (Steps.refl _) (argsL := [(.ref b18)]) (rest := []) (lenOf pd_12 rfl) rfl (by show 2 * 0 + _ ≤ _; exact Nat.le_of_eq rfl) (hb hby at_102) (fun _ _ => ⟨rfl, rfl, (by decide : 5 + 0 ≤ _), (by decide : 31 + 0 ≤ _)⟩)
    dsimp only [Pt.U, Pt.locs, Pt.cells, Pt.slots] at X497 l497 y497 z497 st497 hQ497
    subst l497 y497 z497
    obtain ⟨rfl, N497q, Kc497, F497_0, F497_1, F497_2, F497_3⟩ := hQ497
    have N497 := Fr.app N493 N497q
    have K497 : Keep h0 T497.heap [] := Keep.trans K493 Kc497 (allS (Or.inr o_b46) (allS (Or.inr o_b9_4_3_15_493) all0))
    have P497 : own_Go p e below S0 (T497.setTop (mkF m 105 #[.val (.int i0), .val (.int i1), .val (.int i2), .val (.int i3), .val (.int i4), .val (.int (2 : Int32)), .val (.int (i1 &&& (3 : Int32))), .val (.int v5_s0), .val (.ref b7), .val (.ref b18), .val (.ref b31), .val (.ref b46), .unset, .unset, .unset, .unset, .unset] [(.int (1 : Int32))])) := fun t k => P496 t (st497.trans k)
    have F498 : Arv Z T493.heap z0_DEFAULTCAPACITY_EMPTY_ELEMENTDATA qk0 (.object "java/lang/Object") (0 : Int32) [] .null := F481.keep Kc493 (ninS ne_z0_DEFAULTCAPACITY_EMPTY_ELEMENTDATA_b46 nin0)
    have F499 : Arv Z T497.heap z0_DEFAULTCAPACITY_EMPTY_ELEMENTDATA qk0 (.object "java/lang/Object") (0 : Int32) [] .null := F498.keep Kc497 (ninS ne_z0_DEFAULTCAPACITY_EMPTY_ELEMENTDATA_b46 (ninS ne_z0_DEFAULTCAPACITY_EMPTY_ELEMENTDATA_b9_4_3_15_493 nin0))
    have F500 : Fld Z T493.heap z0_EMPTY_LIST "java/util/ImmutableCollections$ListN" "elements" "[Ljava/lang/Object;" (.ref qe) := F485.keep Kc493 (ninS ne_z0_EMPTY_LIST_b46 nin0)
    have F501 : Fld Z T497.heap z0_EMPTY_LIST "java/util/ImmutableCollections$ListN" "elements" "[Ljava/lang/Object;" (.ref qe) := F500.keep Kc497 (ninS ne_z0_EMPTY_LIST_b46 (ninS ne_z0_EMPTY_LIST_b9_4_3_15_493 nin0))
    have F502 : Arv Z T493.heap qe qke (.object "java/lang/Object") (0 : Int32) [] .null := F487.keep Kc493 (ninS ne_qe_b46 nin0)
    have F503 : Arv Z T497.heap qe qke (.object "java/lang/Object") (0 : Int32) [] .null := F502.keep Kc497 (ninS ne_qe_b46 (ninS ne_qe_b9_4_3_15_493 nin0))
    have F504 : Exa Z T493.heap b7 "com/example/penelope/penelope/program/Move" := F483.keep Kc493
    have F505 : Exa Z T497.heap b7 "com/example/penelope/penelope/program/Move" := F504.keep Kc497
    have F506 : Exa Z T497.heap b18 "com/example/penelope/penelope/program/Move" := F495.keep Kc497
    have F507 : Exa Z T493.heap b31 "com/example/penelope/penelope/program/Move" := F491.keep Kc493
    have F508 : Exa Z T497.heap b31 "com/example/penelope/penelope/program/Move" := F507.keep Kc497
    have F509 : Exa Z T497.heap b46 "java/util/ArrayList" := F494.keep Kc497
    have P510 : own_Go p e below S0 (T497.setTop (mkF m 120 #[.val (.int i0), .val (.int i1), .val (.int i2), .val (.int i3), .val (.int i4), .val (.int (2 : Int32)), .val (.int (i1 &&& (3 : Int32))), .val (.int v5_s0), .val (.ref b7), .val (.ref b18), .val (.ref b31), .val (.ref b46), .unset, .unset, .unset, .unset, .unset] [])) := fun t k => P497 t (by
      show Steps p.tables e below (T497.setTop (mkF m 105 #[.val (.int i0), .val (.int i1), .val (.int i2), .val (.int i3), .val (.int i4), .val (.int (2 : Int32)), .val (.int (i1 &&& (3 : Int32))), .val (.int v5_s0), .val (.ref b7), .val (.ref b18), .val (.ref b31), .val (.ref b46), .unset, .unset, .unset, .unset, .unset] [(.int (1 : Int32))])) t
      refine XS.pop X497.here hx rfl (hb hby at_105) rfl rfl ?_
      refine XS.iload X497.here hx rfl (hb hby at_106) rfl ?_
      refine XS.iconst X497.here hx rfl (hb hby at_108) ?_
      refine XS.icmpYes X497.here hx rfl (pc0 := 109) (pc' := 120) rfl (hb hby at_109) rfl (flt (by decide)).2.2.2 (by decide) (by decide) ?_
      show Steps p.tables e below (T497.setTop (mkF m 120 #[.val (.int i0), .val (.int i1), .val (.int i2), .val (.int i3), .val (.int i4), .val (.int (2 : Int32)), .val (.int (i1 &&& (3 : Int32))), .val (.int v5_s0), .val (.ref b7), .val (.ref b18), .val (.ref b31), .val (.ref b46), .unset, .unset, .unset, .unset, .unset] [])) t
      exact k)
    obtain ⟨T511, h511, X511, e511, E511, A511, D511, -, st511⟩ := newO X497 hx hZ hown (hw _ (List.mem_of_getElem? (i := 27) rfl)) (hw _ (List.mem_of_getElem? (i := 28) rfl)) (hw _ (List.mem_of_getElem? (i := 29) rfl)) rfl (g := (mkF m 120 #[.val (.int i0), .val (.int i1), .val (.int i2), .val (.int i3), .val (.int i4), .val (.int (2 : Int32)), .val (.int (i1 &&& (3 : Int32))), .val (.int v5_s0), .val (.ref b7), .val (.ref b18), .val (.ref b31), .val (.ref b46), .unset, .unset, .unset, .unset, .unset] [])) rfl (hb hby at_120) (by decide) (by decide)
    obtain ⟨b511, g511⟩ : ∃ z, z = T497.heap.size := ⟨_, rfl⟩
    rw [← g511] at A511 D511 st511
    have sz_b511 : T497.heap.size ≤ b511 := Nat.le_of_eq g511.symm
    have ne_z0_DEFAULTCAPACITY_EMPTY_ELEMENTDATA_b511 : z0_DEFAULTCAPACITY_EMPTY_ELEMENTDATA ≠ b511 := Nat.ne_of_lt (Nat.lt_of_lt_of_le F499.lt sz_b511)
    have ne_z0_EMPTY_LIST_b511 : z0_EMPTY_LIST ≠ b511 := Nat.ne_of_lt (Nat.lt_of_lt_of_le F501.lt sz_b511)
    have ne_qe_b511 : qe ≠ b511 := Nat.ne_of_lt (Nat.lt_of_lt_of_le F503.lt sz_b511)
    have ne_b7_b511 : b7 ≠ b511 := Nat.ne_of_lt (Nat.lt_of_lt_of_le F505.lt sz_b511)
    have ne_b18_b511 : b18 ≠ b511 := Nat.ne_of_lt (Nat.lt_of_lt_of_le F506.lt sz_b511)
    have ne_b31_b511 : b31 ≠ b511 := Nat.ne_of_lt (Nat.lt_of_lt_of_le F508.lt sz_b511)
    have ne_b46_b511 : b46 ≠ b511 := Nat.ne_of_lt (Nat.lt_of_lt_of_le F509.lt sz_b511)
    have ne_b9_4_3_15_493_b511 : b9_4_3_15_493 ≠ b511 := Nat.ne_of_lt (Nat.lt_of_lt_of_le F497_1.lt sz_b511)
    have g_b511 : n0 ≤ b511 := Nat.le_trans (Nat.le_trans Z0 K497.1) sz_b511
    have o_b511 : h0.size ≤ b511 := Nat.le_trans K497.1 sz_b511
    have K511 : Keep h0 h511 [] := K497.ext E511
    have F511_modCount : Fld Z h511 b511 "java/util/AbstractList" "modCount" "I" (.int (0 : Int32)) := D511 (Or.inl (hw _ (List.mem_of_getElem? (i := 47) rfl))) (ty := .int) (by decide)
    have F511_elementData : Fld Z h511 b511 "java/util/ArrayList" "elementData" "[Ljava/lang/Object;" .null := D511 (Or.inl (hw _ (List.mem_of_getElem? (i := 50) rfl))) (ty := (.array (.object "java/lang/Object"))) (by decide)
    have F511_size : Fld Z h511 b511 "java/util/ArrayList" "size" "I" (.int (0 : Int32)) := D511 (Or.inl (hw _ (List.mem_of_getElem? (i := 59) rfl))) (ty := .int) (by decide)
    have P511 : own_Go p e below S0 (T511.setTop (mkF m 123 #[.val (.int i0), .val (.int i1), .val (.int i2), .val (.int i3), .val (.int i4), .val (.int (2 : Int32)), .val (.int (i1 &&& (3 : Int32))), .val (.int v5_s0), .val (.ref b7), .val (.ref b18), .val (.ref b31), .val (.ref b46), .unset, .unset, .unset, .unset, .unset] [(.ref b511)])) := fun t k => P510 t (st511 _ k)
    have F512 : Sta Z T493.heap "java/util/ArrayList" "DEFAULTCAPACITY_EMPTY_ELEMENTDATA" "[Ljava/lang/Object;" (.ref z0_DEFAULTCAPACITY_EMPTY_ELEMENTDATA) := own_staK F479 Kc493 (allS (own_plE F478) all0)
    have F513 : Sta Z T497.heap "java/util/ArrayList" "DEFAULTCAPACITY_EMPTY_ELEMENTDATA" "[Ljava/lang/Object;" (.ref z0_DEFAULTCAPACITY_EMPTY_ELEMENTDATA) := own_staK F512 Kc497 (allS (own_plE F494) (allS (own_plA F493_3) all0))
    have F514 : Sta Z h511 "java/util/ArrayList" "DEFAULTCAPACITY_EMPTY_ELEMENTDATA" "[Ljava/lang/Object;" (.ref z0_DEFAULTCAPACITY_EMPTY_ELEMENTDATA) := F513.ext E511
    have P515 : own_Go p e below S0 (T511.setTop (mkF m 124 #[.val (.int i0), .val (.int i1), .val (.int i2), .val (.int i3), .val (.int i4), .val (.int (2 : Int32)), .val (.int (i1 &&& (3 : Int32))), .val (.int v5_s0), .val (.ref b7), .val (.ref b18), .val (.ref b31), .val (.ref b46), .unset, .unset, .unset, .unset, .unset] [(.ref b511), (.ref b511)])) := fun t k => P511 t (by
      show Steps p.tables e below (T511.setTop (mkF m 123 #[.val (.int i0), .val (.int i1), .val (.int i2), .val (.int i3), .val (.int i4), .val (.int (2 : Int32)), .val (.int (i1 &&& (3 : Int32))), .val (.int v5_s0), .val (.ref b7), .val (.ref b18), .val (.ref b31), .val (.ref b46), .unset, .unset, .unset, .unset, .unset] [(.ref b511)])) t
      refine XS.dup X511.here hx rfl (hb hby at_123) rfl rfl ?_
      show Steps p.tables e below (T511.setTop (mkF m 124 #[.val (.int i0), .val (.int i1), .val (.int i2), .val (.int i3), .val (.int i4), .val (.int (2 : Int32)), .val (.int (i1 &&& (3 : Int32))), .val (.int v5_s0), .val (.ref b7), .val (.ref b18), .val (.ref b31), .val (.ref b46), .unset, .unset, .unset, .unset, .unset] [(.ref b511), (.ref b511)])) t
      exact k)
    obtain ⟨_, _, ⟨T516, L516, k516, n516⟩, -, X516, ⟨Lc516, hQ516, l516, y516, z516⟩, st516⟩ := X511.specialBack hx (y := (⟨"java/util/ArrayList", "<init>", "()V"⟩ : MethodName)) rfl hown (mvT hZ (hw _ (List.mem_of_getElem? (i := 30) rfl))) (mvT hZ (hw _ (List.mem_of_getElem? (i := 31) rfl))) (mvT hZ (hw _ (List.mem_of_getElem? (i := 32) rfl))) (by decide) (backOf (W := 1) (rm5 l Z a0 hw [] b511 (0 : Int32) (.int (0 : Int32)) z0_DEFAULTCAPACITY_EMPTY_ELEMENTDATA h511 n0 (Nat.le_trans Z0 K511.1) F511_size F511_elementData A511 F511_modCount g_b511 F514) hZ (hw _ (List.mem_of_getElem? (i := 32) rfl)) (hw _ (List.mem_of_getElem? (i := 29) rfl)) (by decide) (by decide)) (g := (mkF m 124 #[.val (.int i0), .val (.int i1), .val (.int i2), .val (.int i3), .val (.int i4), .val (.int (2 : Int32)), .val (.int (i1 &&& (3 : Int32))), .val (.int v5_s0), .val (.ref b7), .val (.ref b18), .val (.ref b31), .val (.ref b46), .unset, .unset, .unset, .unset, .unset] [(.ref b511), (.ref b511)])) rfl (by rw [hml]; rfl) (Steps.refl _) (a := b511) (argsL := []) (rest := [(.ref b511)]) (lenOf pd_1 rfl) rfl (by show 2 * 0 + _ ≤ _; exact Nat.le_of_eq rfl) (hb hby at_124) (fun _ _ => ⟨rfl, e511, (by decide : 6 + 0 ≤ _), (by decide : 34 + 0 ≤ _)⟩)
    dsimp only [Pt.U, Pt.locs, Pt.cells, Pt.slots] at X516 l516 y516 z516 st516 hQ516
    subst l516 y516 z516
    obtain ⟨rfl, N516q, Kc516, F516_0, F516_1, F516_2⟩ := hQ516
    have N516 := Fr.app N497 N516q
    have K516 : Keep h0 T516.heap [] := Keep.trans K511 Kc516 (allS (Or.inr o_b511) all0)
    have P516 : own_Go p e below S0 (T516.setTop (mkF m 127 #[.val (.int i0), .val (.int i1), .val (.int i2), .val (.int i3), .val (.int i4), .val (.int (2 : Int32)), .val (.int (i1 &&& (3 : Int32))), .val (.int v5_s0), .val (.ref b7), .val (.ref b18), .val (.ref b31), .val (.ref b46), .unset, .unset, .unset, .unset, .unset] [(.ref b511)])) := fun t k => P515 t (st516.trans k)
    have F517 : Sta Z T516.heap "java/util/ArrayList" "DEFAULTCAPACITY_EMPTY_ELEMENTDATA" "[Ljava/lang/Object;" (.ref z0_DEFAULTCAPACITY_EMPTY_ELEMENTDATA) := own_staK F514 Kc516 (allS (own_plE A511) all0)
    have F518 : Arv Z h511 z0_DEFAULTCAPACITY_EMPTY_ELEMENTDATA qk0 (.object "java/lang/Object") (0 : Int32) [] .null := F499.ext E511
    have F519 : Arv Z T516.heap z0_DEFAULTCAPACITY_EMPTY_ELEMENTDATA qk0 (.object "java/lang/Object") (0 : Int32) [] .null := F518.keep Kc516 (ninS ne_z0_DEFAULTCAPACITY_EMPTY_ELEMENTDATA_b511 nin0)
    have F520 : Sta Z h7 "java/util/ImmutableCollections" "EMPTY_LIST" "Ljava/util/ImmutableCollections$ListN;" (.ref z0_EMPTY_LIST) := S_EMPTY_LIST.ext E7
    have F521 : Sta Z T9.heap "java/util/ImmutableCollections" "EMPTY_LIST" "Ljava/util/ImmutableCollections$ListN;" (.ref z0_EMPTY_LIST) := own_staK F520 Kc9 (allS (own_plE A7) all0)
    have F522 : Sta Z h18 "java/util/ImmutableCollections" "EMPTY_LIST" "Ljava/util/ImmutableCollections$ListN;" (.ref z0_EMPTY_LIST) := F521.ext E18
    have F523 : Sta Z T20.heap "java/util/ImmutableCollections" "EMPTY_LIST" "Ljava/util/ImmutableCollections$ListN;" (.ref z0_EMPTY_LIST) := own_staK F522 Kc20 (allS (own_plE A18) all0)
    have F524 : Sta Z h31 "java/util/ImmutableCollections" "EMPTY_LIST" "Ljava/util/ImmutableCollections$ListN;" (.ref z0_EMPTY_LIST) := F523.ext E31
    have F525 : Sta Z T33.heap "java/util/ImmutableCollections" "EMPTY_LIST" "Ljava/util/ImmutableCollections$ListN;" (.ref z0_EMPTY_LIST) := own_staK F524 Kc33 (allS (own_plE A31) all0)
    have F526 : Sta Z h46 "java/util/ImmutableCollections" "EMPTY_LIST" "Ljava/util/ImmutableCollections$ListN;" (.ref z0_EMPTY_LIST) := F525.ext E46
    have F527 : Sta Z T55.heap "java/util/ImmutableCollections" "EMPTY_LIST" "Ljava/util/ImmutableCollections$ListN;" (.ref z0_EMPTY_LIST) := own_staK F526 Kc55 (allS (own_plE A46) all0)
    have F528 : Sta Z T493.heap "java/util/ImmutableCollections" "EMPTY_LIST" "Ljava/util/ImmutableCollections$ListN;" (.ref z0_EMPTY_LIST) := own_staK F527 Kc493 (allS (own_plE F478) all0)
    have F529 : Sta Z T497.heap "java/util/ImmutableCollections" "EMPTY_LIST" "Ljava/util/ImmutableCollections$ListN;" (.ref z0_EMPTY_LIST) := own_staK F528 Kc497 (allS (own_plE F494) (allS (own_plA F493_3) all0))
    have F530 : Sta Z h511 "java/util/ImmutableCollections" "EMPTY_LIST" "Ljava/util/ImmutableCollections$ListN;" (.ref z0_EMPTY_LIST) := F529.ext E511
    have F531 : Sta Z T516.heap "java/util/ImmutableCollections" "EMPTY_LIST" "Ljava/util/ImmutableCollections$ListN;" (.ref z0_EMPTY_LIST) := own_staK F530 Kc516 (allS (own_plE A511) all0)
    have F532 : Fld Z h511 z0_EMPTY_LIST "java/util/ImmutableCollections$ListN" "elements" "[Ljava/lang/Object;" (.ref qe) := F501.ext E511
    have F533 : Fld Z T516.heap z0_EMPTY_LIST "java/util/ImmutableCollections$ListN" "elements" "[Ljava/lang/Object;" (.ref qe) := F532.keep Kc516 (ninS ne_z0_EMPTY_LIST_b511 nin0)
    have F534 : Arv Z h511 qe qke (.object "java/lang/Object") (0 : Int32) [] .null := F503.ext E511
    have F535 : Arv Z T516.heap qe qke (.object "java/lang/Object") (0 : Int32) [] .null := F534.keep Kc516 (ninS ne_qe_b511 nin0)
    have F536 : Exa Z h7 z0_EMPTY_LIST "java/util/ImmutableCollections$ListN" := E_z0_EMPTY_LIST.ext E7
    have F537 : Exa Z T9.heap z0_EMPTY_LIST "java/util/ImmutableCollections$ListN" := F536.keep Kc9
    have F538 : Exa Z h18 z0_EMPTY_LIST "java/util/ImmutableCollections$ListN" := F537.ext E18
    have F539 : Exa Z T20.heap z0_EMPTY_LIST "java/util/ImmutableCollections$ListN" := F538.keep Kc20
    have F540 : Exa Z h31 z0_EMPTY_LIST "java/util/ImmutableCollections$ListN" := F539.ext E31
    have F541 : Exa Z T33.heap z0_EMPTY_LIST "java/util/ImmutableCollections$ListN" := F540.keep Kc33
    have F542 : Exa Z h46 z0_EMPTY_LIST "java/util/ImmutableCollections$ListN" := F541.ext E46
    have F543 : Exa Z T55.heap z0_EMPTY_LIST "java/util/ImmutableCollections$ListN" := F542.keep Kc55
    have F544 : Exa Z T493.heap z0_EMPTY_LIST "java/util/ImmutableCollections$ListN" := F543.keep Kc493
    have F545 : Exa Z T497.heap z0_EMPTY_LIST "java/util/ImmutableCollections$ListN" := F544.keep Kc497
    have F546 : Exa Z h511 z0_EMPTY_LIST "java/util/ImmutableCollections$ListN" := F545.ext E511
    have F547 : Exa Z T516.heap z0_EMPTY_LIST "java/util/ImmutableCollections$ListN" := F546.keep Kc516
    have F548 : Exa Z h511 b46 "java/util/ArrayList" := F509.ext E511
    have F549 : Exa Z T516.heap b46 "java/util/ArrayList" := F548.keep Kc516
    have F550 : Fld Z h511 b46 "java/util/ArrayList" "size" "I" (.int (2 : Int32)) := F497_0.ext E511
    have F551 : Fld Z T516.heap b46 "java/util/ArrayList" "size" "I" (.int (2 : Int32)) := F550.keep Kc516 (ninS ne_b46_b511 nin0)
    have F552 : Arv Z h511 b9_4_3_15_493 k9_4_3_15_493 (.object "java/lang/Object") (10 : Int32) [(.ref b7), (.ref b18), .null, .null, .null, .null, .null, .null, .null, .null] .null := F497_1.ext E511
    have F553 : Arv Z T516.heap b9_4_3_15_493 k9_4_3_15_493 (.object "java/lang/Object") (10 : Int32) [(.ref b7), (.ref b18), .null, .null, .null, .null, .null, .null, .null, .null] .null := F552.keep Kc516 (ninS ne_b9_4_3_15_493_b511 nin0)
    have F554 : Fld Z h511 b46 "java/util/AbstractList" "modCount" "I" (.int (((0 : Int32) + (1 : Int32)) + (1 : Int32))) := F497_2.ext E511
    have F555 : Fld Z T516.heap b46 "java/util/AbstractList" "modCount" "I" (.int (((0 : Int32) + (1 : Int32)) + (1 : Int32))) := F554.keep Kc516 (ninS ne_b46_b511 nin0)
    have F556 : Fld Z h511 b46 "java/util/ArrayList" "elementData" "[Ljava/lang/Object;" (.ref b9_4_3_15_493) := F497_3.ext E511
    have F557 : Fld Z T516.heap b46 "java/util/ArrayList" "elementData" "[Ljava/lang/Object;" (.ref b9_4_3_15_493) := F556.keep Kc516 (ninS ne_b46_b511 nin0)
    have P558 : own_Go p e below S0 (T516.setTop (mkF m 131 #[.val (.int i0), .val (.int i1), .val (.int i2), .val (.int i3), .val (.int i4), .val (.int (2 : Int32)), .val (.int (i1 &&& (3 : Int32))), .val (.int v5_s0), .val (.ref b7), .val (.ref b18), .val (.ref b31), .val (.ref b46), .val (.ref b511), .unset, .unset, .unset, .unset] [(.int (i1 &&& (3 : Int32)))])) := fun t k => P516 t (by
      show Steps p.tables e below (T516.setTop (mkF m 127 #[.val (.int i0), .val (.int i1), .val (.int i2), .val (.int i3), .val (.int i4), .val (.int (2 : Int32)), .val (.int (i1 &&& (3 : Int32))), .val (.int v5_s0), .val (.ref b7), .val (.ref b18), .val (.ref b31), .val (.ref b46), .unset, .unset, .unset, .unset, .unset] [(.ref b511)])) t
      refine XS.astore X516.here hx rfl (hb hby at_127) rfl rfl (l' := #[.val (.int i0), .val (.int i1), .val (.int i2), .val (.int i3), .val (.int i4), .val (.int (2 : Int32)), .val (.int (i1 &&& (3 : Int32))), .val (.int v5_s0), .val (.ref b7), .val (.ref b18), .val (.ref b31), .val (.ref b46), .val (.ref b511), .unset, .unset, .unset, .unset]) rfl ?_
      refine XS.iload X516.here hx rfl (hb hby at_129) rfl ?_
      show Steps p.tables e below (T516.setTop (mkF m 131 #[.val (.int i0), .val (.int i1), .val (.int i2), .val (.int i3), .val (.int i4), .val (.int (2 : Int32)), .val (.int (i1 &&& (3 : Int32))), .val (.int v5_s0), .val (.ref b7), .val (.ref b18), .val (.ref b31), .val (.ref b46), .val (.ref b511), .unset, .unset, .unset, .unset] [(.int (i1 &&& (3 : Int32)))])) t
      exact k)
    obtain ⟨T654, lo654, h654, X654, e654, N654, K654, F655, F656, F657, F658, F659, F660, F661, F662, F663, F664, F665, F666, P654⟩ : ∃ (T654 : State) (lo654 : List Loc) (h654 : Heap), (Stand p l e room_1 s m #[(.int i0), (.int i1), (.int i2), (.int i3), (.int i4)] below meth c T654 lo654 7 44) ∧ (T654.heap = h654) ∧ (Fr n0 lo654) ∧ (Keep h0 h654 []) ∧ (Sta Z h654 "java/util/ArrayList" "DEFAULTCAPACITY_EMPTY_ELEMENTDATA" "[Ljava/lang/Object;" (.ref z0_DEFAULTCAPACITY_EMPTY_ELEMENTDATA)) ∧ (Arv Z h654 z0_DEFAULTCAPACITY_EMPTY_ELEMENTDATA qk0 (.object "java/lang/Object") (0 : Int32) [] .null) ∧ (Sta Z h654 "java/util/ImmutableCollections" "EMPTY_LIST" "Ljava/util/ImmutableCollections$ListN;" (.ref z0_EMPTY_LIST)) ∧ (Fld Z h654 z0_EMPTY_LIST "java/util/ImmutableCollections$ListN" "elements" "[Ljava/lang/Object;" (.ref qe)) ∧ (Arv Z h654 qe qke (.object "java/lang/Object") (0 : Int32) [] .null) ∧ (Exa Z h654 z0_EMPTY_LIST "java/util/ImmutableCollections$ListN") ∧ (Exa Z h654 b46 "java/util/ArrayList") ∧ (Ovr Z k9_4_3_15_493 "java/lang/Object") ∧ (Fld Z h654 b46 "java/util/ArrayList" "size" "I" (.int (2 : Int32))) ∧ (Arv Z h654 b9_4_3_15_493 k9_4_3_15_493 (.object "java/lang/Object") (10 : Int32) [(.ref b7), (.ref b18), .null, .null, .null, .null, .null, .null, .null, .null] .null) ∧ (Fld Z h654 b46 "java/util/AbstractList" "modCount" "I" (.int (((0 : Int32) + (1 : Int32)) + (1 : Int32)))) ∧ (Fld Z h654 b46 "java/util/ArrayList" "elementData" "[Ljava/lang/Object;" (.ref b9_4_3_15_493)) ∧ (own_Go p e below S0 (T654.setTop (mkF m 170 #[.val (.int i0), .val (.int i1), .val (.int i2), .val (.int i3), .val (.int i4), .val (.int (2 : Int32)), .val (.int (i1 &&& (3 : Int32))), .val (.int v5_s0), .val (.ref b7), .val (.ref b18), .val (.ref b31), .val (.ref b46), .val (.ref b511), .unset, .unset, .unset, .unset] []))) := by
      by_cases c559 : (0 : Int32) < (i1 &&& (3 : Int32))
      · skip
        have F560 : Exa Z T516.heap b511 "java/util/ArrayList" := A511.keep Kc516
        have F561 : Exa Z h511 b31 "com/example/penelope/penelope/program/Move" := F508.ext E511
        have F562 : Exa Z T516.heap b31 "com/example/penelope/penelope/program/Move" := F561.keep Kc516
        have F563 : Exa Z h511 b7 "com/example/penelope/penelope/program/Move" := F505.ext E511
        have F564 : Exa Z T516.heap b7 "com/example/penelope/penelope/program/Move" := F563.keep Kc516
        have F565 : Exa Z h511 b18 "com/example/penelope/penelope/program/Move" := F506.ext E511
        have F566 : Exa Z T516.heap b18 "com/example/penelope/penelope/program/Move" := F565.keep Kc516
        have P567 : own_Go p e below S0 (T516.setTop (mkF m 138 #[.val (.int i0), .val (.int i1), .val (.int i2), .val (.int i3), .val (.int i4), .val (.int (2 : Int32)), .val (.int (i1 &&& (3 : Int32))), .val (.int v5_s0), .val (.ref b7), .val (.ref b18), .val (.ref b31), .val (.ref b46), .val (.ref b511), .unset, .unset, .unset, .unset] [(.ref b31), (.ref b511)])) := fun t k => P558 t (by
          show Steps p.tables e below (T516.setTop (mkF m 131 #[.val (.int i0), .val (.int i1), .val (.int i2), .val (.int i3), .val (.int i4), .val (.int (2 : Int32)), .val (.int (i1 &&& (3 : Int32))), .val (.int v5_s0), .val (.ref b7), .val (.ref b18), .val (.ref b31), .val (.ref b46), .val (.ref b511), .unset, .unset, .unset, .unset] [(.int (i1 &&& (3 : Int32)))])) t
          refine XS.ifNo X516.here hx rfl (hb hby at_131) rfl ((if0 _ _).trans (tlt c559).2.2.2) ?_
          refine XS.aload X516.here hx rfl (hb hby at_134) rfl rfl ?_
          refine XS.aload X516.here hx rfl (hb hby at_136) rfl rfl ?_
          show Steps p.tables e below (T516.setTop (mkF m 138 #[.val (.int i0), .val (.int i1), .val (.int i2), .val (.int i3), .val (.int i4), .val (.int (2 : Int32)), .val (.int (i1 &&& (3 : Int32))), .val (.int v5_s0), .val (.ref b7), .val (.ref b18), .val (.ref b31), .val (.ref b46), .val (.ref b511), .unset, .unset, .unset, .unset] [(.ref b31), (.ref b511)])) t
          exact k)
        obtain ⟨cq568, kq568, q568a, q568b, q568c⟩ := isOf hZ rfl F560
        obtain ⟨_, _, ⟨T568, L568, k568, n568⟩, -, X568, ⟨Lc568, hQ568, l568, y568, z568⟩, st568⟩ := X516.virtualBack hx (y := (⟨"java/util/ArrayList", "add", "(Ljava/lang/Object;)Z"⟩ : MethodName)) (z := (⟨"java/util/ArrayList", "add", "(Ljava/lang/Object;)Z"⟩ : MethodName)) hown (mvT hZ (hw _ (List.mem_of_getElem? (i := 51) rfl))) (mvT hZ (hw _ (List.mem_of_getElem? (i := 52) rfl))) (notFace_of_selects (args := #[]) (mvT hZ (hw _ (List.mem_of_getElem? (i := 54) rfl)))) (mvT hZ (hw _ (List.mem_of_getElem? (i := 54) rfl))) (mvT hZ (hw _ (List.mem_of_getElem? (i := 53) rfl))) (by decide) (backOf (W := 0) (rm8e l Z a0 hw [] b511 b31 z0_DEFAULTCAPACITY_EMPTY_ELEMENTDATA qk0 (0 : Int32) T516.heap n0 (Nat.le_trans Z0 K516.1) F516_0 F516_1 F517 F519 F562 F516_2 F560 g_b511 ne_z0_DEFAULTCAPACITY_EMPTY_ELEMENTDATA_b511) hZ (hw _ (List.mem_of_getElem? (i := 55) rfl)) (hw _ (List.mem_of_getElem? (i := 29) rfl)) (by decide) (by decide)) q568a q568c (g := (mkF m 138 #[.val (.int i0), .val (.int i1), .val (.int i2), .val (.int i3), .val (.int i4), .val (.int (2 : Int32)), .val (.int (i1 &&& (3 : Int32))), .val (.int v5_s0), .val (.ref b7), .val (.ref b18), .val (.ref b31), .val (.ref b46), .val (.ref b511), .unset, .unset, .unset, .unset] [(.ref b31), (.ref b511)])) rfl (by rw [hml]; rfl) (Steps.refl _) (argsL := [(.ref b31)]) (rest := []) (lenOf pd_12 rfl) rfl (by show 2 * 0 + _ ≤ _; exact Nat.le_of_eq rfl) (hb hby at_138) (fun _ _ => ⟨rfl, rfl, (by decide : 6 + 1 ≤ _), (by decide : 34 + 10 ≤ _)⟩)
        dsimp only [Pt.U, Pt.locs, Pt.cells, Pt.slots] at X568 l568 y568 z568 st568 hQ568
        subst l568 y568 z568
        obtain ⟨b9_4_3_15_568, k9_4_3_15_568, rfl, N568q, Kc568, sz_b9_4_3_15_568, F568_0, F568_1, F568_2, F568_3, F568_4⟩ := hQ568
        have N568 := Fr.app N516 N568q
        have ne_z0_DEFAULTCAPACITY_EMPTY_ELEMENTDATA_b9_4_3_15_568 : z0_DEFAULTCAPACITY_EMPTY_ELEMENTDATA ≠ b9_4_3_15_568 := Nat.ne_of_lt (Nat.lt_of_lt_of_le F519.lt sz_b9_4_3_15_568)
        have ne_z0_EMPTY_LIST_b9_4_3_15_568 : z0_EMPTY_LIST ≠ b9_4_3_15_568 := Nat.ne_of_lt (Nat.lt_of_lt_of_le F533.lt sz_b9_4_3_15_568)
        have ne_qe_b9_4_3_15_568 : qe ≠ b9_4_3_15_568 := Nat.ne_of_lt (Nat.lt_of_lt_of_le F535.lt sz_b9_4_3_15_568)
        have ne_b7_b9_4_3_15_568 : b7 ≠ b9_4_3_15_568 := Nat.ne_of_lt (Nat.lt_of_lt_of_le F564.lt sz_b9_4_3_15_568)
        have ne_b18_b9_4_3_15_568 : b18 ≠ b9_4_3_15_568 := Nat.ne_of_lt (Nat.lt_of_lt_of_le F566.lt sz_b9_4_3_15_568)
        have ne_b31_b9_4_3_15_568 : b31 ≠ b9_4_3_15_568 := Nat.ne_of_lt (Nat.lt_of_lt_of_le F562.lt sz_b9_4_3_15_568)
        have ne_b46_b9_4_3_15_568 : b46 ≠ b9_4_3_15_568 := Nat.ne_of_lt (Nat.lt_of_lt_of_le F549.lt sz_b9_4_3_15_568)
        have ne_b9_4_3_15_493_b9_4_3_15_568 : b9_4_3_15_493 ≠ b9_4_3_15_568 := Nat.ne_of_lt (Nat.lt_of_lt_of_le F553.lt sz_b9_4_3_15_568)
        have ne_b511_b9_4_3_15_568 : b511 ≠ b9_4_3_15_568 := Nat.ne_of_lt (Nat.lt_of_lt_of_le F560.lt sz_b9_4_3_15_568)
        have g_b9_4_3_15_568 : n0 ≤ b9_4_3_15_568 := Nat.le_trans (Nat.le_trans Z0 K516.1) sz_b9_4_3_15_568
        have o_b9_4_3_15_568 : h0.size ≤ b9_4_3_15_568 := Nat.le_trans K516.1 sz_b9_4_3_15_568
        have K568 : Keep h0 T568.heap [] := Keep.trans K516 Kc568 (allS (Or.inr o_b511) all0)
        have P568 : own_Go p e below S0 (T568.setTop (mkF m 141 #[.val (.int i0), .val (.int i1), .val (.int i2), .val (.int i3), .val (.int i4), .val (.int (2 : Int32)), .val (.int (i1 &&& (3 : Int32))), .val (.int v5_s0), .val (.ref b7), .val (.ref b18), .val (.ref b31), .val (.ref b46), .val (.ref b511), .unset, .unset, .unset, .unset] [(.int (1 : Int32))])) := fun t k => P567 t (st568.trans k)
        have P569 : own_Go p e below S0 (T568.setTop (mkF m 145 #[.val (.int i0), .val (.int i1), .val (.int i2), .val (.int i3), .val (.int i4), .val (.int (2 : Int32)), .val (.int (i1 &&& (3 : Int32))), .val (.int v5_s0), .val (.ref b7), .val (.ref b18), .val (.ref b31), .val (.ref b46), .val (.ref b511), .unset, .unset, .unset, .unset] [(.int (1 : Int32)), (.int (i1 &&& (3 : Int32)))])) := fun t k => P568 t (by
          show Steps p.tables e below (T568.setTop (mkF m 141 #[.val (.int i0), .val (.int i1), .val (.int i2), .val (.int i3), .val (.int i4), .val (.int (2 : Int32)), .val (.int (i1 &&& (3 : Int32))), .val (.int v5_s0), .val (.ref b7), .val (.ref b18), .val (.ref b31), .val (.ref b46), .val (.ref b511), .unset, .unset, .unset, .unset] [(.int (1 : Int32))])) t
          refine XS.pop X568.here hx rfl (hb hby at_141) rfl rfl ?_
          refine XS.iload X568.here hx rfl (hb hby at_142) rfl ?_
          refine XS.iconst X568.here hx rfl (hb hby at_144) ?_
          show Steps p.tables e below (T568.setTop (mkF m 145 #[.val (.int i0), .val (.int i1), .val (.int i2), .val (.int i3), .val (.int i4), .val (.int (2 : Int32)), .val (.int (i1 &&& (3 : Int32))), .val (.int v5_s0), .val (.ref b7), .val (.ref b18), .val (.ref b31), .val (.ref b46), .val (.ref b511), .unset, .unset, .unset, .unset] [(.int (1 : Int32)), (.int (i1 &&& (3 : Int32)))])) t
          exact k)
        by_cases c570 : (1 : Int32) < (i1 &&& (3 : Int32))
        · skip
          have F571 : Exa Z T568.heap b511 "java/util/ArrayList" := F560.keep Kc568
          have F572 : Exa Z T568.heap b31 "com/example/penelope/penelope/program/Move" := F562.keep Kc568
          have P573 : own_Go p e below S0 (T568.setTop (mkF m 152 #[.val (.int i0), .val (.int i1), .val (.int i2), .val (.int i3), .val (.int i4), .val (.int (2 : Int32)), .val (.int (i1 &&& (3 : Int32))), .val (.int v5_s0), .val (.ref b7), .val (.ref b18), .val (.ref b31), .val (.ref b46), .val (.ref b511), .unset, .unset, .unset, .unset] [(.ref b31), (.ref b511)])) := fun t k => P569 t (by
            show Steps p.tables e below (T568.setTop (mkF m 145 #[.val (.int i0), .val (.int i1), .val (.int i2), .val (.int i3), .val (.int i4), .val (.int (2 : Int32)), .val (.int (i1 &&& (3 : Int32))), .val (.int v5_s0), .val (.ref b7), .val (.ref b18), .val (.ref b31), .val (.ref b46), .val (.ref b511), .unset, .unset, .unset, .unset] [(.int (1 : Int32)), (.int (i1 &&& (3 : Int32)))])) t
            refine XS.icmpNo X568.here hx rfl (hb hby at_145) rfl (tlt c570).2.2.2 ?_
            refine XS.aload X568.here hx rfl (hb hby at_148) rfl rfl ?_
            refine XS.aload X568.here hx rfl (hb hby at_150) rfl rfl ?_
            show Steps p.tables e below (T568.setTop (mkF m 152 #[.val (.int i0), .val (.int i1), .val (.int i2), .val (.int i3), .val (.int i4), .val (.int (2 : Int32)), .val (.int (i1 &&& (3 : Int32))), .val (.int v5_s0), .val (.ref b7), .val (.ref b18), .val (.ref b31), .val (.ref b46), .val (.ref b511), .unset, .unset, .unset, .unset] [(.ref b31), (.ref b511)])) t
            exact k)
          obtain ⟨cq574, kq574, q574a, q574b, q574c⟩ := isOf hZ rfl F571
          obtain ⟨_, _, ⟨T574, L574, k574, n574⟩, -, X574, ⟨Lc574, hQ574, l574, y574, z574⟩, st574⟩ := X568.virtualBack hx (y := (⟨"java/util/ArrayList", "add", "(Ljava/lang/Object;)Z"⟩ : MethodName)) (z := (⟨"java/util/ArrayList", "add", "(Ljava/lang/Object;)Z"⟩ : MethodName)) hown (mvT hZ (hw _ (List.mem_of_getElem? (i := 51) rfl))) (mvT hZ (hw _ (List.mem_of_getElem? (i := 52) rfl))) (notFace_of_selects (args := #[]) (mvT hZ (hw _ (List.mem_of_getElem? (i := 54) rfl)))) (mvT hZ (hw _ (List.mem_of_getElem? (i := 54) rfl))) (mvT hZ (hw _ (List.mem_of_getElem? (i := 53) rfl))) (by decide) (backOf (W := 0) (rm8n1 l Z a0 hw [] b511 b31 b9_4_3_15_568 k9_4_3_15_568 b31 ((0 : Int32) + (1 : Int32)) T568.heap n0 (Nat.le_trans Z0 K568.1) F568_0 F568_1 F568_3 F568_4 F572 F568_2 F571 g_b511 (Ne.symm ne_b511_b9_4_3_15_568) g_b9_4_3_15_568) hZ (hw _ (List.mem_of_getElem? (i := 55) rfl)) (hw _ (List.mem_of_getElem? (i := 29) rfl)) (by decide) (by decide)) q574a q574c (g := (mkF m 152 #[.val (.int i0), .val (.int i1), .val (.int i2), .val (.int i3), .val (.int i4), .val (.int (2 : Int32)), .val (.int (i1 &&& (3 : Int32))), .val (.int v5_s0), .val (.ref b7), .val (.ref b18), .val (.ref b31), .val (.ref b46), .val (.ref b511), .unset, .unset, .unset, .unset] [(.ref b31), (.ref b511)])) rfl (by rw [hml]; rfl) (Steps.refl _) (argsL := [(.ref b31)]) (rest := []) (lenOf pd_12 rfl) rfl (by show 2 * 0 + _ ≤ _; exact Nat.le_of_eq rfl) (hb hby at_152) (fun _ _ => ⟨rfl, rfl, (by decide : 7 + 0 ≤ _), (by decide : 44 + 0 ≤ _)⟩)
          dsimp only [Pt.U, Pt.locs, Pt.cells, Pt.slots] at X574 l574 y574 z574 st574 hQ574
          subst l574 y574 z574
          obtain ⟨rfl, N574q, Kc574, F574_0, F574_1, F574_2, F574_3⟩ := hQ574
          have N574 := Fr.app N568 N574q
          have K574 : Keep h0 T574.heap [] := Keep.trans K568 Kc574 (allS (Or.inr o_b511) (allS (Or.inr o_b9_4_3_15_568) all0))
          have P574 : own_Go p e below S0 (T574.setTop (mkF m 155 #[.val (.int i0), .val (.int i1), .val (.int i2), .val (.int i3), .val (.int i4), .val (.int (2 : Int32)), .val (.int (i1 &&& (3 : Int32))), .val (.int v5_s0), .val (.ref b7), .val (.ref b18), .val (.ref b31), .val (.ref b46), .val (.ref b511), .unset, .unset, .unset, .unset] [(.int (1 : Int32))])) := fun t k => P573 t (st574.trans k)
          have P575 : own_Go p e below S0 (T574.setTop (mkF m 159 #[.val (.int i0), .val (.int i1), .val (.int i2), .val (.int i3), .val (.int i4), .val (.int (2 : Int32)), .val (.int (i1 &&& (3 : Int32))), .val (.int v5_s0), .val (.ref b7), .val (.ref b18), .val (.ref b31), .val (.ref b46), .val (.ref b511), .unset, .unset, .unset, .unset] [(.int (2 : Int32)), (.int (i1 &&& (3 : Int32)))])) := fun t k => P574 t (by
            show Steps p.tables e below (T574.setTop (mkF m 155 #[.val (.int i0), .val (.int i1), .val (.int i2), .val (.int i3), .val (.int i4), .val (.int (2 : Int32)), .val (.int (i1 &&& (3 : Int32))), .val (.int v5_s0), .val (.ref b7), .val (.ref b18), .val (.ref b31), .val (.ref b46), .val (.ref b511), .unset, .unset, .unset, .unset] [(.int (1 : Int32))])) t
            refine XS.pop X574.here hx rfl (hb hby at_155) rfl rfl ?_
            refine XS.iload X574.here hx rfl (hb hby at_156) rfl ?_
            refine XS.iconst X574.here hx rfl (hb hby at_158) ?_
            show Steps p.tables e below (T574.setTop (mkF m 159 #[.val (.int i0), .val (.int i1), .val (.int i2), .val (.int i3), .val (.int i4), .val (.int (2 : Int32)), .val (.int (i1 &&& (3 : Int32))), .val (.int v5_s0), .val (.ref b7), .val (.ref b18), .val (.ref b31), .val (.ref b46), .val (.ref b511), .unset, .unset, .unset, .unset] [(.int (2 : Int32)), (.int (i1 &&& (3 : Int32)))])) t
            exact k)
          by_cases c576 : (2 : Int32) < (i1 &&& (3 : Int32))
          · skip
            have F577 : Exa Z T574.heap b511 "java/util/ArrayList" := F571.keep Kc574
            have F578 : Exa Z T574.heap b31 "com/example/penelope/penelope/program/Move" := F572.keep Kc574
            have P579 : own_Go p e below S0 (T574.setTop (mkF m 166 #[.val (.int i0), .val (.int i1), .val (.int i2), .val (.int i3), .val (.int i4), .val (.int (2 : Int32)), .val (.int (i1 &&& (3 : Int32))), .val (.int v5_s0), .val (.ref b7), .val (.ref b18), .val (.ref b31), .val (.ref b46), .val (.ref b511), .unset, .unset, .unset, .unset] [(.ref b31), (.ref b511)])) := fun t k => P575 t (by
              show Steps p.tables e below (T574.setTop (mkF m 159 #[.val (.int i0), .val (.int i1), .val (.int i2), .val (.int i3), .val (.int i4), .val (.int (2 : Int32)), .val (.int (i1 &&& (3 : Int32))), .val (.int v5_s0), .val (.ref b7), .val (.ref b18), .val (.ref b31), .val (.ref b46), .val (.ref b511), .unset, .unset, .unset, .unset] [(.int (2 : Int32)), (.int (i1 &&& (3 : Int32)))])) t
              refine XS.icmpNo X574.here hx rfl (hb hby at_159) rfl (tlt c576).2.2.2 ?_
              refine XS.aload X574.here hx rfl (hb hby at_162) rfl rfl ?_
              refine XS.aload X574.here hx rfl (hb hby at_164) rfl rfl ?_
              show Steps p.tables e below (T574.setTop (mkF m 166 #[.val (.int i0), .val (.int i1), .val (.int i2), .val (.int i3), .val (.int i4), .val (.int (2 : Int32)), .val (.int (i1 &&& (3 : Int32))), .val (.int v5_s0), .val (.ref b7), .val (.ref b18), .val (.ref b31), .val (.ref b46), .val (.ref b511), .unset, .unset, .unset, .unset] [(.ref b31), (.ref b511)])) t
              exact k)
            obtain ⟨cq580, kq580, q580a, q580b, q580c⟩ := isOf hZ rfl F577
            obtain ⟨_, _, ⟨T580, L580, k580, n580⟩, -, X580, ⟨Lc580, hQ580, l580, y580, z580⟩, st580⟩ := X574.virtualBack hx (y := (⟨"java/util/ArrayList", "add", "(Ljava/lang/Object;)Z"⟩ : MethodName)) (z := (⟨"java/util/ArrayList", "add", "(Ljava/lang/Object;)Z"⟩ : MethodName)) hown (mvT hZ (hw _ (List.mem_of_getElem? (i := 51) rfl))) (mvT hZ (hw _ (List.mem_of_getElem? (i := 52) rfl))) (notFace_of_selects (args := #[]) (mvT hZ (hw _ (List.mem_of_getElem? (i := 54) rfl)))) (mvT hZ (hw _ (List.mem_of_getElem? (i := 54) rfl))) (mvT hZ (hw _ (List.mem_of_getElem? (i := 53) rfl))) (by decide) (backOf (W := 0) (rm8n2 l Z a0 hw [] b511 b31 b9_4_3_15_568 k9_4_3_15_568 b31 b31 (((0 : Int32) + (1 : Int32)) + (1 : Int32)) T574.heap n0 (Nat.le_trans Z0 K574.1) F574_3 F574_0 F574_1 F568_4 F578 F574_2 F577 g_b511 (Ne.symm ne_b511_b9_4_3_15_568) g_b9_4_3_15_568) hZ (hw _ (List.mem_of_getElem? (i := 55) rfl)) (hw _ (List.mem_of_getElem? (i := 29) rfl)) (by decide) (by decide)) q580a q580c (g := (mkF m 166 #[.val (.int i0), .val (.int i1), .val (.int i2), .val (.int i3), .val (.int i4), .val (.int (2 : Int32)), .val (.int (i1 &&& (3 : Int32))), .val (.int v5_s0), .val (.ref b7), .val (.ref b18), .val (.ref b31), .val (.ref b46), .val (.ref b511), .unset, .unset, .unset, .unset] [(.ref b31), (.ref b511)])) rfl (by rw [hml]; rfl) (Steps.refl _) (argsL := [(.ref b31)]) (rest := []) (lenOf pd_12 rfl) rfl (by show 2 * 0 + _ ≤ _; exact Nat.le_of_eq rfl) (hb hby at_166) (fun _ _ => ⟨rfl, rfl, (by decide : 7 + 0 ≤ _), (by decide : 44 + 0 ≤ _)⟩)
            dsimp only [Pt.U, Pt.locs, Pt.cells, Pt.slots] at X580 l580 y580 z580 st580 hQ580
            subst l580 y580 z580
            obtain ⟨rfl, N580q, Kc580, F580_0, F580_1, F580_2, F580_3⟩ := hQ580
            have N580 := Fr.app N574 N580q
            have K580 : Keep h0 T580.heap [] := Keep.trans K574 Kc580 (allS (Or.inr o_b511) (allS (Or.inr o_b9_4_3_15_568) all0))
            have P580 : own_Go p e below S0 (T580.setTop (mkF m 169 #[.val (.int i0), .val (.int i1), .val (.int i2), .val (.int i3), .val (.int i4), .val (.int (2 : Int32)), .val (.int (i1 &&& (3 : Int32))), .val (.int v5_s0), .val (.ref b7), .val (.ref b18), .val (.ref b31), .val (.ref b46), .val (.ref b511), .unset, .unset, .unset, .unset] [(.int (1 : Int32))])) := fun t k => P579 t (st580.trans k)
            have P581 : own_Go p e below S0 (T580.setTop (mkF m 170 #[.val (.int i0), .val (.int i1), .val (.int i2), .val (.int i3), .val (.int i4), .val (.int (2 : Int32)), .val (.int (i1 &&& (3 : Int32))), .val (.int v5_s0), .val (.ref b7), .val (.ref b18), .val (.ref b31), .val (.ref b46), .val (.ref b511), .unset, .unset, .unset, .unset] [])) := fun t k => P580 t (by
              show Steps p.tables e below (T580.setTop (mkF m 169 #[.val (.int i0), .val (.int i1), .val (.int i2), .val (.int i3), .val (.int i4), .val (.int (2 : Int32)), .val (.int (i1 &&& (3 : Int32))), .val (.int v5_s0), .val (.ref b7), .val (.ref b18), .val (.ref b31), .val (.ref b46), .val (.ref b511), .unset, .unset, .unset, .unset] [(.int (1 : Int32))])) t
              refine XS.pop X580.here hx rfl (hb hby at_169) rfl rfl ?_
              show Steps p.tables e below (T580.setTop (mkF m 170 #[.val (.int i0), .val (.int i1), .val (.int i2), .val (.int i3), .val (.int i4), .val (.int (2 : Int32)), .val (.int (i1 &&& (3 : Int32))), .val (.int v5_s0), .val (.ref b7), .val (.ref b18), .val (.ref b31), .val (.ref b46), .val (.ref b511), .unset, .unset, .unset, .unset] [])) t
              exact k)
            have F582 : Sta Z T568.heap "java/util/ArrayList" "DEFAULTCAPACITY_EMPTY_ELEMENTDATA" "[Ljava/lang/Object;" (.ref z0_DEFAULTCAPACITY_EMPTY_ELEMENTDATA) := own_staK F517 Kc568 (allS (own_plE F560) all0)
            have F583 : Sta Z T574.heap "java/util/ArrayList" "DEFAULTCAPACITY_EMPTY_ELEMENTDATA" "[Ljava/lang/Object;" (.ref z0_DEFAULTCAPACITY_EMPTY_ELEMENTDATA) := own_staK F582 Kc574 (allS (own_plE F571) (allS (own_plA F568_3) all0))
            have F584 : Sta Z T580.heap "java/util/ArrayList" "DEFAULTCAPACITY_EMPTY_ELEMENTDATA" "[Ljava/lang/Object;" (.ref z0_DEFAULTCAPACITY_EMPTY_ELEMENTDATA) := own_staK F583 Kc580 (allS (own_plE F577) (allS (own_plA F574_1) all0))
            have F585 : Arv Z T568.heap z0_DEFAULTCAPACITY_EMPTY_ELEMENTDATA qk0 (.object "java/lang/Object") (0 : Int32) [] .null := F519.keep Kc568 (ninS ne_z0_DEFAULTCAPACITY_EMPTY_ELEMENTDATA_b511 nin0)
            have F586 : Arv Z T574.heap z0_DEFAULTCAPACITY_EMPTY_ELEMENTDATA qk0 (.object "java/lang/Object") (0 : Int32) [] .null := F585.keep Kc574 (ninS ne_z0_DEFAULTCAPACITY_EMPTY_ELEMENTDATA_b511 (ninS ne_z0_DEFAULTCAPACITY_EMPTY_ELEMENTDATA_b9_4_3_15_568 nin0))
            have F587 : Arv Z T580.heap z0_DEFAULTCAPACITY_EMPTY_ELEMENTDATA qk0 (.object "java/lang/Object") (0 : Int32) [] .null := F586.keep Kc580 (ninS ne_z0_DEFAULTCAPACITY_EMPTY_ELEMENTDATA_b511 (ninS ne_z0_DEFAULTCAPACITY_EMPTY_ELEMENTDATA_b9_4_3_15_568 nin0))
            have F588 : Sta Z T568.heap "java/util/ImmutableCollections" "EMPTY_LIST" "Ljava/util/ImmutableCollections$ListN;" (.ref z0_EMPTY_LIST) := own_staK F531 Kc568 (allS (own_plE F560) all0)
            have F589 : Sta Z T574.heap "java/util/ImmutableCollections" "EMPTY_LIST" "Ljava/util/ImmutableCollections$ListN;" (.ref z0_EMPTY_LIST) := own_staK F588 Kc574 (allS (own_plE F571) (allS (own_plA F568_3) all0))
            have F590 : Sta Z T580.heap "java/util/ImmutableCollections" "EMPTY_LIST" "Ljava/util/ImmutableCollections$ListN;" (.ref z0_EMPTY_LIST) := own_staK F589 Kc580 (allS (own_plE F577) (allS (own_plA F574_1) all0))
            have F591 : Fld Z T568.heap z0_EMPTY_LIST "java/util/ImmutableCollections$ListN" "elements" "[Ljava/lang/Object;" (.ref qe) := F533.keep Kc568 (ninS ne_z0_EMPTY_LIST_b511 nin0)
            have F592 : Fld Z T574.heap z0_EMPTY_LIST "java/util/ImmutableCollections$ListN" "elements" "[Ljava/lang/Object;" (.ref qe) := F591.keep Kc574 (ninS ne_z0_EMPTY_LIST_b511 (ninS ne_z0_EMPTY_LIST_b9_4_3_15_568 nin0))
            have F593 : Fld Z T580.heap z0_EMPTY_LIST "java/util/ImmutableCollections$ListN" "elements" "[Ljava/lang/Object;" (.ref qe) := F592.keep Kc580 (ninS ne_z0_EMPTY_LIST_b511 (ninS ne_z0_EMPTY_LIST_b9_4_3_15_568 nin0))
            have F594 : Arv Z T568.heap qe qke (.object "java/lang/Object") (0 : Int32) [] .null := F535.keep Kc568 (ninS ne_qe_b511 nin0)
            have F595 : Arv Z T574.heap qe qke (.object "java/lang/Object") (0 : Int32) [] .null := F594.keep Kc574 (ninS ne_qe_b511 (ninS ne_qe_b9_4_3_15_568 nin0))
            have F596 : Arv Z T580.heap qe qke (.object "java/lang/Object") (0 : Int32) [] .null := F595.keep Kc580 (ninS ne_qe_b511 (ninS ne_qe_b9_4_3_15_568 nin0))
            have F597 : Exa Z T568.heap z0_EMPTY_LIST "java/util/ImmutableCollections$ListN" := F547.keep Kc568
            have F598 : Exa Z T574.heap z0_EMPTY_LIST "java/util/ImmutableCollections$ListN" := F597.keep Kc574
            have F599 : Exa Z T580.heap z0_EMPTY_LIST "java/util/ImmutableCollections$ListN" := F598.keep Kc580
            have F600 : Exa Z T568.heap b46 "java/util/ArrayList" := F549.keep Kc568
            have F601 : Exa Z T574.heap b46 "java/util/ArrayList" := F600.keep Kc574
            have F602 : Exa Z T580.heap b46 "java/util/ArrayList" := F601.keep Kc580
            have F603 : Fld Z T568.heap b46 "java/util/ArrayList" "size" "I" (.int (2 : Int32)) := F551.keep Kc568 (ninS ne_b46_b511 nin0)
            have F604 : Fld Z T574.heap b46 "java/util/ArrayList" "size" "I" (.int (2 : Int32)) := F603.keep Kc574 (ninS ne_b46_b511 (ninS ne_b46_b9_4_3_15_568 nin0))
            have F605 : Fld Z T580.heap b46 "java/util/ArrayList" "size" "I" (.int (2 : Int32)) := F604.keep Kc580 (ninS ne_b46_b511 (ninS ne_b46_b9_4_3_15_568 nin0))
            have F606 : Arv Z T568.heap b9_4_3_15_493 k9_4_3_15_493 (.object "java/lang/Object") (10 : Int32) [(.ref b7), (.ref b18), .null, .null, .null, .null, .null, .null, .null, .null] .null := F553.keep Kc568 (ninS ne_b9_4_3_15_493_b511 nin0)
            have F607 : Arv Z T574.heap b9_4_3_15_493 k9_4_3_15_493 (.object "java/lang/Object") (10 : Int32) [(.ref b7), (.ref b18), .null, .null, .null, .null, .null, .null, .null, .null] .null := F606.keep Kc574 (ninS ne_b9_4_3_15_493_b511 (ninS ne_b9_4_3_15_493_b9_4_3_15_568 nin0))
            have F608 : Arv Z T580.heap b9_4_3_15_493 k9_4_3_15_493 (.object "java/lang/Object") (10 : Int32) [(.ref b7), (.ref b18), .null, .null, .null, .null, .null, .null, .null, .null] .null := F607.keep Kc580 (ninS ne_b9_4_3_15_493_b511 (ninS ne_b9_4_3_15_493_b9_4_3_15_568 nin0))
            have F609 : Fld Z T568.heap b46 "java/util/AbstractList" "modCount" "I" (.int (((0 : Int32) + (1 : Int32)) + (1 : Int32))) := F555.keep Kc568 (ninS ne_b46_b511 nin0)
            have F610 : Fld Z T574.heap b46 "java/util/AbstractList" "modCount" "I" (.int (((0 : Int32) + (1 : Int32)) + (1 : Int32))) := F609.keep Kc574 (ninS ne_b46_b511 (ninS ne_b46_b9_4_3_15_568 nin0))
            have F611 : Fld Z T580.heap b46 "java/util/AbstractList" "modCount" "I" (.int (((0 : Int32) + (1 : Int32)) + (1 : Int32))) := F610.keep Kc580 (ninS ne_b46_b511 (ninS ne_b46_b9_4_3_15_568 nin0))
            have F612 : Fld Z T568.heap b46 "java/util/ArrayList" "elementData" "[Ljava/lang/Object;" (.ref b9_4_3_15_493) := F557.keep Kc568 (ninS ne_b46_b511 nin0)
            have F613 : Fld Z T574.heap b46 "java/util/ArrayList" "elementData" "[Ljava/lang/Object;" (.ref b9_4_3_15_493) := F612.keep Kc574 (ninS ne_b46_b511 (ninS ne_b46_b9_4_3_15_568 nin0))
            have F614 : Fld Z T580.heap b46 "java/util/ArrayList" "elementData" "[Ljava/lang/Object;" (.ref b9_4_3_15_493) := F613.keep Kc580 (ninS ne_b46_b511 (ninS ne_b46_b9_4_3_15_568 nin0))
            exact ⟨T580, _, T580.heap, X580, rfl, N580, K580, F584, F587, F590, F593, F596, F599, F602, F493_4, F605, F608, F611, F614, P581⟩
          · skip
            have P615 : own_Go p e below S0 (T574.setTop (mkF m 170 #[.val (.int i0), .val (.int i1), .val (.int i2), .val (.int i3), .val (.int i4), .val (.int (2 : Int32)), .val (.int (i1 &&& (3 : Int32))), .val (.int v5_s0), .val (.ref b7), .val (.ref b18), .val (.ref b31), .val (.ref b46), .val (.ref b511), .unset, .unset, .unset, .unset] [])) := fun t k => P575 t (by
              show Steps p.tables e below (T574.setTop (mkF m 159 #[.val (.int i0), .val (.int i1), .val (.int i2), .val (.int i3), .val (.int i4), .val (.int (2 : Int32)), .val (.int (i1 &&& (3 : Int32))), .val (.int v5_s0), .val (.ref b7), .val (.ref b18), .val (.ref b31), .val (.ref b46), .val (.ref b511), .unset, .unset, .unset, .unset] [(.int (2 : Int32)), (.int (i1 &&& (3 : Int32)))])) t
              refine XS.icmpYes X574.here hx rfl (pc0 := 159) (pc' := 170) rfl (hb hby at_159) rfl (flt c576).2.2.2 (by decide) (by decide) ?_
              show Steps p.tables e below (T574.setTop (mkF m 170 #[.val (.int i0), .val (.int i1), .val (.int i2), .val (.int i3), .val (.int i4), .val (.int (2 : Int32)), .val (.int (i1 &&& (3 : Int32))), .val (.int v5_s0), .val (.ref b7), .val (.ref b18), .val (.ref b31), .val (.ref b46), .val (.ref b511), .unset, .unset, .unset, .unset] [])) t
              exact k)
            have F616 : Sta Z T568.heap "java/util/ArrayList" "DEFAULTCAPACITY_EMPTY_ELEMENTDATA" "[Ljava/lang/Object;" (.ref z0_DEFAULTCAPACITY_EMPTY_ELEMENTDATA) := own_staK F517 Kc568 (allS (own_plE F560) all0)
            have F617 : Sta Z T574.heap "java/util/ArrayList" "DEFAULTCAPACITY_EMPTY_ELEMENTDATA" "[Ljava/lang/Object;" (.ref z0_DEFAULTCAPACITY_EMPTY_ELEMENTDATA) := own_staK F616 Kc574 (allS (own_plE F571) (allS (own_plA F568_3) all0))
            have F618 : Arv Z T568.heap z0_DEFAULTCAPACITY_EMPTY_ELEMENTDATA qk0 (.object "java/lang/Object") (0 : Int32) [] .null := F519.keep Kc568 (ninS ne_z0_DEFAULTCAPACITY_EMPTY_ELEMENTDATA_b511 nin0)
            have F619 : Arv Z T574.heap z0_DEFAULTCAPACITY_EMPTY_ELEMENTDATA qk0 (.object "java/lang/Object") (0 : Int32) [] .null := F618.keep Kc574 (ninS ne_z0_DEFAULTCAPACITY_EMPTY_ELEMENTDATA_b511 (ninS ne_z0_DEFAULTCAPACITY_EMPTY_ELEMENTDATA_b9_4_3_15_568 nin0))
            have F620 : Sta Z T568.heap "java/util/ImmutableCollections" "EMPTY_LIST" "Ljava/util/ImmutableCollections$ListN;" (.ref z0_EMPTY_LIST) := own_staK F531 Kc568 (allS (own_plE F560) all0)
            have F621 : Sta Z T574.heap "java/util/ImmutableCollections" "EMPTY_LIST" "Ljava/util/ImmutableCollections$ListN;" (.ref z0_EMPTY_LIST) := own_staK F620 Kc574 (allS (own_plE F571) (allS (own_plA F568_3) all0))
            have F622 : Fld Z T568.heap z0_EMPTY_LIST "java/util/ImmutableCollections$ListN" "elements" "[Ljava/lang/Object;" (.ref qe) := F533.keep Kc568 (ninS ne_z0_EMPTY_LIST_b511 nin0)
            have F623 : Fld Z T574.heap z0_EMPTY_LIST "java/util/ImmutableCollections$ListN" "elements" "[Ljava/lang/Object;" (.ref qe) := F622.keep Kc574 (ninS ne_z0_EMPTY_LIST_b511 (ninS ne_z0_EMPTY_LIST_b9_4_3_15_568 nin0))
            have F624 : Arv Z T568.heap qe qke (.object "java/lang/Object") (0 : Int32) [] .null := F535.keep Kc568 (ninS ne_qe_b511 nin0)
            have F625 : Arv Z T574.heap qe qke (.object "java/lang/Object") (0 : Int32) [] .null := F624.keep Kc574 (ninS ne_qe_b511 (ninS ne_qe_b9_4_3_15_568 nin0))
            have F626 : Exa Z T568.heap z0_EMPTY_LIST "java/util/ImmutableCollections$ListN" := F547.keep Kc568
            have F627 : Exa Z T574.heap z0_EMPTY_LIST "java/util/ImmutableCollections$ListN" := F626.keep Kc574
            have F628 : Exa Z T568.heap b46 "java/util/ArrayList" := F549.keep Kc568
            have F629 : Exa Z T574.heap b46 "java/util/ArrayList" := F628.keep Kc574
            have F630 : Fld Z T568.heap b46 "java/util/ArrayList" "size" "I" (.int (2 : Int32)) := F551.keep Kc568 (ninS ne_b46_b511 nin0)
            have F631 : Fld Z T574.heap b46 "java/util/ArrayList" "size" "I" (.int (2 : Int32)) := F630.keep Kc574 (ninS ne_b46_b511 (ninS ne_b46_b9_4_3_15_568 nin0))
            have F632 : Arv Z T568.heap b9_4_3_15_493 k9_4_3_15_493 (.object "java/lang/Object") (10 : Int32) [(.ref b7), (.ref b18), .null, .null, .null, .null, .null, .null, .null, .null] .null := F553.keep Kc568 (ninS ne_b9_4_3_15_493_b511 nin0)
            have F633 : Arv Z T574.heap b9_4_3_15_493 k9_4_3_15_493 (.object "java/lang/Object") (10 : Int32) [(.ref b7), (.ref b18), .null, .null, .null, .null, .null, .null, .null, .null] .null := F632.keep Kc574 (ninS ne_b9_4_3_15_493_b511 (ninS ne_b9_4_3_15_493_b9_4_3_15_568 nin0))
            have F634 : Fld Z T568.heap b46 "java/util/AbstractList" "modCount" "I" (.int (((0 : Int32) + (1 : Int32)) + (1 : Int32))) := F555.keep Kc568 (ninS ne_b46_b511 nin0)
            have F635 : Fld Z T574.heap b46 "java/util/AbstractList" "modCount" "I" (.int (((0 : Int32) + (1 : Int32)) + (1 : Int32))) := F634.keep Kc574 (ninS ne_b46_b511 (ninS ne_b46_b9_4_3_15_568 nin0))
            have F636 : Fld Z T568.heap b46 "java/util/ArrayList" "elementData" "[Ljava/lang/Object;" (.ref b9_4_3_15_493) := F557.keep Kc568 (ninS ne_b46_b511 nin0)
            have F637 : Fld Z T574.heap b46 "java/util/ArrayList" "elementData" "[Ljava/lang/Object;" (.ref b9_4_3_15_493) := F636.keep Kc574 (ninS ne_b46_b511 (ninS ne_b46_b9_4_3_15_568 nin0))
            exact ⟨T574, _, T574.heap, X574, rfl, N574, K574, F617, F619, F621, F623, F625, F627, F629, F493_4, F631, F633, F635, F637, P615⟩
        · skip
          have c638 : ¬ ((2 : Int32) < (i1 &&& (3 : Int32))) := own_n12 c570
          have P639 : own_Go p e below S0 (T568.setTop (mkF m 170 #[.val (.int i0), .val (.int i1), .val (.int i2), .val (.int i3), .val (.int i4), .val (.int (2 : Int32)), .val (.int (i1 &&& (3 : Int32))), .val (.int v5_s0), .val (.ref b7), .val (.ref b18), .val (.ref b31), .val (.ref b46), .val (.ref b511), .unset, .unset, .unset, .unset] [])) := fun t k => P569 t (by
            show Steps p.tables e below (T568.setTop (mkF m 145 #[.val (.int i0), .val (.int i1), .val (.int i2), .val (.int i3), .val (.int i4), .val (.int (2 : Int32)), .val (.int (i1 &&& (3 : Int32))), .val (.int v5_s0), .val (.ref b7), .val (.ref b18), .val (.ref b31), .val (.ref b46), .val (.ref b511), .unset, .unset, .unset, .unset] [(.int (1 : Int32)), (.int (i1 &&& (3 : Int32)))])) t
            refine XS.icmpYes X568.here hx rfl (pc0 := 145) (pc' := 156) rfl (hb hby at_145) rfl (flt c570).2.2.2 (by decide) (by decide) ?_
            refine XS.iload X568.here hx rfl (hb hby at_156) rfl ?_
            refine XS.iconst X568.here hx rfl (hb hby at_158) ?_
            refine XS.icmpYes X568.here hx rfl (pc0 := 159) (pc' := 170) rfl (hb hby at_159) rfl (flt c638).2.2.2 (by decide) (by decide) ?_
            show Steps p.tables e below (T568.setTop (mkF m 170 #[.val (.int i0), .val (.int i1), .val (.int i2), .val (.int i3), .val (.int i4), .val (.int (2 : Int32)), .val (.int (i1 &&& (3 : Int32))), .val (.int v5_s0), .val (.ref b7), .val (.ref b18), .val (.ref b31), .val (.ref b46), .val (.ref b511), .unset, .unset, .unset, .unset] [])) t
            exact k)
          have F640 : Sta Z T568.heap "java/util/ArrayList" "DEFAULTCAPACITY_EMPTY_ELEMENTDATA" "[Ljava/lang/Object;" (.ref z0_DEFAULTCAPACITY_EMPTY_ELEMENTDATA) := own_staK F517 Kc568 (allS (own_plE F560) all0)
          have F641 : Arv Z T568.heap z0_DEFAULTCAPACITY_EMPTY_ELEMENTDATA qk0 (.object "java/lang/Object") (0 : Int32) [] .null := F519.keep Kc568 (ninS ne_z0_DEFAULTCAPACITY_EMPTY_ELEMENTDATA_b511 nin0)
          have F642 : Sta Z T568.heap "java/util/ImmutableCollections" "EMPTY_LIST" "Ljava/util/ImmutableCollections$ListN;" (.ref z0_EMPTY_LIST) := own_staK F531 Kc568 (allS (own_plE F560) all0)
          have F643 : Fld Z T568.heap z0_EMPTY_LIST "java/util/ImmutableCollections$ListN" "elements" "[Ljava/lang/Object;" (.ref qe) := F533.keep Kc568 (ninS ne_z0_EMPTY_LIST_b511 nin0)
          have F644 : Arv Z T568.heap qe qke (.object "java/lang/Object") (0 : Int32) [] .null := F535.keep Kc568 (ninS ne_qe_b511 nin0)
          have F645 : Exa Z T568.heap z0_EMPTY_LIST "java/util/ImmutableCollections$ListN" := F547.keep Kc568
          have F646 : Exa Z T568.heap b46 "java/util/ArrayList" := F549.keep Kc568
          have F647 : Fld Z T568.heap b46 "java/util/ArrayList" "size" "I" (.int (2 : Int32)) := F551.keep Kc568 (ninS ne_b46_b511 nin0)
          have F648 : Arv Z T568.heap b9_4_3_15_493 k9_4_3_15_493 (.object "java/lang/Object") (10 : Int32) [(.ref b7), (.ref b18), .null, .null, .null, .null, .null, .null, .null, .null] .null := F553.keep Kc568 (ninS ne_b9_4_3_15_493_b511 nin0)
          have F649 : Fld Z T568.heap b46 "java/util/AbstractList" "modCount" "I" (.int (((0 : Int32) + (1 : Int32)) + (1 : Int32))) := F555.keep Kc568 (ninS ne_b46_b511 nin0)
          have F650 : Fld Z T568.heap b46 "java/util/ArrayList" "elementData" "[Ljava/lang/Object;" (.ref b9_4_3_15_493) := F557.keep Kc568 (ninS ne_b46_b511 nin0)
          exact ⟨T568, _, T568.heap, X568, rfl, N568, K568, F640, F641, F642, F643, F644, F645, F646, F493_4, F647, F648, F649, F650, P639⟩
      · skip
        have c651 : ¬ ((1 : Int32) < (i1 &&& (3 : Int32))) := own_n01 c559
        have c652 : ¬ ((2 : Int32) < (i1 &&& (3 : Int32))) := own_n12 c651
        have P653 : own_Go p e below S0 (T516.setTop (mkF m 170 #[.val (.int i0), .val (.int i1), .val (.int i2), .val (.int i3), .val (.int i4), .val (.int (2 : Int32)), .val (.int (i1 &&& (3 : Int32))), .val (.int v5_s0), .val (.ref b7), .val (.ref b18), .val (.ref b31), .val (.ref b46), .val (.ref b511), .unset, .unset, .unset, .unset] [])) := fun t k => P558 t (by
          show Steps p.tables e below (T516.setTop (mkF m 131 #[.val (.int i0), .val (.int i1), .val (.int i2), .val (.int i3), .val (.int i4), .val (.int (2 : Int32)), .val (.int (i1 &&& (3 : Int32))), .val (.int v5_s0), .val (.ref b7), .val (.ref b18), .val (.ref b31), .val (.ref b46), .val (.ref b511), .unset, .unset, .unset, .unset] [(.int (i1 &&& (3 : Int32)))])) t
          refine XS.ifYes X516.here hx rfl (pc0 := 131) (pc' := 142) rfl (hb hby at_131) rfl ((if0 _ _).trans (flt c559).2.2.2) (by decide) (by decide) ?_
          refine XS.iload X516.here hx rfl (hb hby at_142) rfl ?_
          refine XS.iconst X516.here hx rfl (hb hby at_144) ?_
          refine XS.icmpYes X516.here hx rfl (pc0 := 145) (pc' := 156) rfl (hb hby at_145) rfl (flt c651).2.2.2 (by decide) (by decide) ?_
          refine XS.iload X516.here hx rfl (hb hby at_156) rfl ?_
          refine XS.iconst X516.here hx rfl (hb hby at_158) ?_
          show Steps p.tables e below (T516.setTop (mkF m 159 #[.val (.int i0), .val (.int i1), .val (.int i2), .val (.int i3), .val (.int i4), .val (.int (2 : Int32)), .val (.int (i1 &&& (3 : Int32))), .val (.int v5_s0), .val (.ref b7), .val (.ref b18), .val (.ref b31), .val (.ref b46), .val (.ref b511), .unset, .unset, .unset, .unset] [(.int (2 : Int32)), (.int (i1 &&& (3 : Int32)))])) t
          refine XS.icmpYes X516.here hx rfl (pc0 := 159) (pc' := 170) rfl (hb hby at_159) rfl (flt c652).2.2.2 (by decide) (by decide) ?_
          show Steps p.tables e below (T516.setTop (mkF m 170 #[.val (.int i0), .val (.int i1), .val (.int i2), .val (.int i3), .val (.int i4), .val (.int (2 : Int32)), .val (.int (i1 &&& (3 : Int32))), .val (.int v5_s0), .val (.ref b7), .val (.ref b18), .val (.ref b31), .val (.ref b46), .val (.ref b511), .unset, .unset, .unset, .unset] [])) t
          exact k)
        exact ⟨T516, _, T516.heap, (X516.more (by decide) (by decide)), rfl, N516, K516, F517, F519, F531, F533, F535, F547, F549, F493_4, F551, F553, F555, F557, P653⟩
    obtain ⟨T667, h667, X667, e667, E667, A667, D667, -, st667⟩ := newO X654 hx hZ hown (hw _ (List.mem_of_getElem? (i := 82) rfl)) (hw _ (List.mem_of_getElem? (i := 83) rfl)) (hw _ (List.mem_of_getElem? (i := 84) rfl)) e654 (g := (mkF m 170 #[.val (.int i0), .val (.int i1), .val (.int i2), .val (.int i3), .val (.int i4), .val (.int (2 : Int32)), .val (.int (i1 &&& (3 : Int32))), .val (.int v5_s0), .val (.ref b7), .val (.ref b18), .val (.ref b31), .val (.ref b46), .val (.ref b511), .unset, .unset, .unset, .unset] [])) rfl (hb hby at_170) (by decide) (by decide)
    obtain ⟨b667, g667⟩ : ∃ z, z = h654.size := ⟨_, rfl⟩
    rw [← g667] at A667 D667 st667
    have sz_b667 : h654.size ≤ b667 := Nat.le_of_eq g667.symm
    have ne_z0_DEFAULTCAPACITY_EMPTY_ELEMENTDATA_b667 : z0_DEFAULTCAPACITY_EMPTY_ELEMENTDATA ≠ b667 := Nat.ne_of_lt (Nat.lt_of_lt_of_le F656.lt sz_b667)
    have ne_z0_EMPTY_LIST_b667 : z0_EMPTY_LIST ≠ b667 := Nat.ne_of_lt (Nat.lt_of_lt_of_le F658.lt sz_b667)
    have ne_qe_b667 : qe ≠ b667 := Nat.ne_of_lt (Nat.lt_of_lt_of_le F659.lt sz_b667)
    have ne_b46_b667 : b46 ≠ b667 := Nat.ne_of_lt (Nat.lt_of_lt_of_le F661.lt sz_b667)
    have ne_b9_4_3_15_493_b667 : b9_4_3_15_493 ≠ b667 := Nat.ne_of_lt (Nat.lt_of_lt_of_le F664.lt sz_b667)
    have g_b667 : n0 ≤ b667 := Nat.le_trans (Nat.le_trans Z0 K654.1) sz_b667
    have o_b667 : h0.size ≤ b667 := Nat.le_trans K654.1 sz_b667
    have K667 : Keep h0 h667 [] := K654.ext E667
    have F667_moves : Fld Z h667 b667 "com/example/penelope/penelope/program/Expansion" "moves" "Ljava/util/List;" .null := D667 (Or.inr (hw _ (List.mem_of_getElem? (i := 99) rfl))) (ty := (.object "java/util/List")) (by decide)
    have F667_movesAfterClaim : Fld Z h667 b667 "com/example/penelope/penelope/program/Expansion" "movesAfterClaim" "Ljava/util/List;" .null := D667 (Or.inr (hw _ (List.mem_of_getElem? (i := 101) rfl))) (ty := (.object "java/util/List")) (by decide)
    have F667_faultAfterClaim : Fld Z h667 b667 "com/example/penelope/penelope/program/Expansion" "faultAfterClaim" "Lcom/example/penelope/penelope/program/Fault;" .null := D667 (Or.inr (hw _ (List.mem_of_getElem? (i := 103) rfl))) (ty := (.object "com/example/penelope/penelope/program/Fault")) (by decide)
    have F667_transientState : Fld Z h667 b667 "com/example/penelope/penelope/program/Expansion" "transientState" "Z" (.int (0 : Int32)) := D667 (Or.inr (hw _ (List.mem_of_getElem? (i := 105) rfl))) (ty := .boolean) (by decide)
    have P667 : own_Go p e below S0 (T667.setTop (mkF m 173 #[.val (.int i0), .val (.int i1), .val (.int i2), .val (.int i3), .val (.int i4), .val (.int (2 : Int32)), .val (.int (i1 &&& (3 : Int32))), .val (.int v5_s0), .val (.ref b7), .val (.ref b18), .val (.ref b31), .val (.ref b46), .val (.ref b511), .unset, .unset, .unset, .unset] [(.ref b667)])) := fun t k => P654 t (st667 _ k)
    have F668 : Sta Z h667 "java/util/ImmutableCollections" "EMPTY_LIST" "Ljava/util/ImmutableCollections$ListN;" (.ref z0_EMPTY_LIST) := F657.ext E667
    have P669 : own_Go p e below S0 (T667.setTop (mkF m 178 #[.val (.int i0), .val (.int i1), .val (.int i2), .val (.int i3), .val (.int i4), .val (.int (2 : Int32)), .val (.int (i1 &&& (3 : Int32))), .val (.int v5_s0), .val (.ref b7), .val (.ref b18), .val (.ref b31), .val (.ref b46), .val (.ref b511), .unset, .unset, .unset, .unset] [(.int v5_s0), (.ref b46), (.ref b667), (.ref b667)])) := fun t k => P667 t (by
      show Steps p.tables e below (T667.setTop (mkF m 173 #[.val (.int i0), .val (.int i1), .val (.int i2), .val (.int i3), .val (.int i4), .val (.int (2 : Int32)), .val (.int (i1 &&& (3 : Int32))), .val (.int v5_s0), .val (.ref b7), .val (.ref b18), .val (.ref b31), .val (.ref b46), .val (.ref b511), .unset, .unset, .unset, .unset] [(.ref b667)])) t
      refine XS.dup X667.here hx rfl (hb hby at_173) rfl rfl ?_
      refine XS.aload X667.here hx rfl (hb hby at_174) rfl rfl ?_
      refine XS.iload X667.here hx rfl (hb hby at_176) rfl ?_
      show Steps p.tables e below (T667.setTop (mkF m 178 #[.val (.int i0), .val (.int i1), .val (.int i2), .val (.int i3), .val (.int i4), .val (.int (2 : Int32)), .val (.int (i1 &&& (3 : Int32))), .val (.int v5_s0), .val (.ref b7), .val (.ref b18), .val (.ref b31), .val (.ref b46), .val (.ref b511), .unset, .unset, .unset, .unset] [(.int v5_s0), (.ref b46), (.ref b667), (.ref b667)])) t
      exact k)
    obtain ⟨_, _, ⟨T670, L670, k670, n670⟩, -, X670, ⟨Lc670, hQ670, l670, y670, z670⟩, st670⟩ := X667.specialBack hx (y := (⟨"com/example/penelope/penelope/program/Expansion", "<init>", "(Ljava/util/List;Z)V"⟩ : MethodName)) rfl hown (mvT hZ (hw _ (List.mem_of_getElem? (i := 85) rfl))) (mvT hZ (hw _ (List.mem_of_getElem? (i := 86) rfl))) (mvT hZ (hw _ (List.mem_of_getElem? (i := 87) rfl))) (by decide) (backOf (W := 1) (rm13 l Z a0 hw [] b667 b46 v5_s0 z0_EMPTY_LIST .null .null .null (.int (0 : Int32)) h667 n0 (Nat.le_trans Z0 K667.1) F668 A667 F667_moves g_b667 F667_movesAfterClaim F667_faultAfterClaim F667_transientState) hZ (hw _ (List.mem_of_getElem? (i := 87) rfl)) (hw _ (List.mem_of_getElem? (i := 84) rfl)) (by decide) (by decide)) (g := (mkF m 178 #[.val (.int i0), .val (.int i1), .val (.int i2), .val (.int i3), .val (.int i4), .val (.int (2 : Int32)), .val (.int (i1 &&& (3 : Int32))), .val (.int v5_s0), .val (.ref b7), .val (.ref b18), .val (.ref b31), .val (.ref b46), .val (.ref b511), .unset, .unset, .unset, .unset] [(.int v5_s0), (.ref b46), (.ref b667), (.ref b667)])) rfl (by rw [hml]; rfl) (Steps.refl _) (a := b667) (argsL := [(.ref b46), (.int v5_s0)]) (rest := [(.ref b667)]) (lenOf pd_13 rfl) rfl (by show 2 * 0 + _ ≤ _; exact Nat.le_of_eq rfl) (hb hby at_178) (fun _ _ => ⟨rfl, e667, (by decide : 8 + 0 ≤ _), (by decide : 48 + 0 ≤ _)⟩)
    dsimp only [Pt.U, Pt.locs, Pt.cells, Pt.slots] at X670 l670 y670 z670 st670 hQ670
    subst l670 y670 z670
    obtain ⟨rfl, N670q, Kc670, F670_0, F670_1, F670_2, F670_3⟩ := hQ670
    have N670 := Fr.app N654 N670q
    have K670 : Keep h0 T670.heap [] := Keep.trans K667 Kc670 (allS (Or.inr o_b667) all0)
    have P670 : own_Go p e below S0 (T670.setTop (mkF m 181 #[.val (.int i0), .val (.int i1), .val (.int i2), .val (.int i3), .val (.int i4), .val (.int (2 : Int32)), .val (.int (i1 &&& (3 : Int32))), .val (.int v5_s0), .val (.ref b7), .val (.ref b18), .val (.ref b31), .val (.ref b46), .val (.ref b511), .unset, .unset, .unset, .unset] [(.ref b667)])) := fun t k => P669 t (st670.trans k)
    have F671 : Exa Z T670.heap b667 "com/example/penelope/penelope/program/Expansion" := A667.keep Kc670
    have P672 : own_Go p e below S0 (T670.setTop (mkF m 185 #[.val (.int i0), .val (.int i1), .val (.int i2), .val (.int i3), .val (.int i4), .val (.int (2 : Int32)), .val (.int (i1 &&& (3 : Int32))), .val (.int v5_s0), .val (.ref b7), .val (.ref b18), .val (.ref b31), .val (.ref b46), .val (.ref b511), .val (.ref b667), .unset, .unset, .unset] [(.ref b667)])) := fun t k => P670 t (by
      show Steps p.tables e below (T670.setTop (mkF m 181 #[.val (.int i0), .val (.int i1), .val (.int i2), .val (.int i3), .val (.int i4), .val (.int (2 : Int32)), .val (.int (i1 &&& (3 : Int32))), .val (.int v5_s0), .val (.ref b7), .val (.ref b18), .val (.ref b31), .val (.ref b46), .val (.ref b511), .unset, .unset, .unset, .unset] [(.ref b667)])) t
      refine XS.astore X670.here hx rfl (hb hby at_181) rfl rfl (l' := #[.val (.int i0), .val (.int i1), .val (.int i2), .val (.int i3), .val (.int i4), .val (.int (2 : Int32)), .val (.int (i1 &&& (3 : Int32))), .val (.int v5_s0), .val (.ref b7), .val (.ref b18), .val (.ref b31), .val (.ref b46), .val (.ref b511), .val (.ref b667), .unset, .unset, .unset]) rfl ?_
      refine XS.aload X670.here hx rfl (hb hby at_183) rfl rfl ?_
      show Steps p.tables e below (T670.setTop (mkF m 185 #[.val (.int i0), .val (.int i1), .val (.int i2), .val (.int i3), .val (.int i4), .val (.int (2 : Int32)), .val (.int (i1 &&& (3 : Int32))), .val (.int v5_s0), .val (.ref b7), .val (.ref b18), .val (.ref b31), .val (.ref b46), .val (.ref b511), .val (.ref b667), .unset, .unset, .unset] [(.ref b667)])) t
      exact k)
    obtain ⟨cq673, kq673, q673a, q673b, q673c⟩ := isOf hZ rfl F671
    obtain ⟨_, _, ⟨T673, L673, k673, n673⟩, -, X673, ⟨Lc673, hQ673, l673, y673, z673⟩, st673⟩ := X670.virtualBack hx (y := (⟨"com/example/penelope/penelope/program/Expansion", "movesAfterClaim", "()Ljava/util/List;"⟩ : MethodName)) (z := (⟨"com/example/penelope/penelope/program/Expansion", "movesAfterClaim", "()Ljava/util/List;"⟩ : MethodName)) hown (mvT hZ (hw _ (List.mem_of_getElem? (i := 106) rfl))) (mvT hZ (hw _ (List.mem_of_getElem? (i := 107) rfl))) (notFace_of_selects (args := #[]) (mvT hZ (hw _ (List.mem_of_getElem? (i := 109) rfl)))) (mvT hZ (hw _ (List.mem_of_getElem? (i := 109) rfl))) (mvT hZ (hw _ (List.mem_of_getElem? (i := 108) rfl))) (by decide) (backOf (W := 0) (rm16 l Z a0 hw [] b667 z0_EMPTY_LIST T670.heap n0 (Nat.le_trans Z0 K670.1) F670_2 F670_1) hZ (hw _ (List.mem_of_getElem? (i := 110) rfl)) (hw _ (List.mem_of_getElem? (i := 84) rfl)) (by decide) (by decide)) q673a q673c (g := (mkF m 185 #[.val (.int i0), .val (.int i1), .val (.int i2), .val (.int i3), .val (.int i4), .val (.int (2 : Int32)), .val (.int (i1 &&& (3 : Int32))), .val (.int v5_s0), .val (.ref b7), .val (.ref b18), .val (.ref b31), .val (.ref b46), .val (.ref b511), .val (.ref b667), .unset, .unset, .unset] [(.ref b667)])) rfl (by rw [hml]; rfl) (Steps.refl _) (argsL := []) (rest := []) (lenOf pd_6 rfl) rfl (by show 2 * 0 + _ ≤ _; exact Nat.le_of_eq rfl) (hb hby at_185) (fun _ _ => ⟨rfl, rfl, (by decide : 8 + 0 ≤ _), (by decide : 48 + 0 ≤ _)⟩)
    dsimp only [Pt.U, Pt.locs, Pt.cells, Pt.slots] at X673 l673 y673 z673 st673 hQ673
    subst l673 y673 z673
    obtain ⟨rfl, N673q, e673⟩ := hQ673
    have N673 := Fr.app N670 N673q
    have P673 : own_Go p e below S0 (T673.setTop (mkF m 188 #[.val (.int i0), .val (.int i1), .val (.int i2), .val (.int i3), .val (.int i4), .val (.int (2 : Int32)), .val (.int (i1 &&& (3 : Int32))), .val (.int v5_s0), .val (.ref b7), .val (.ref b18), .val (.ref b31), .val (.ref b46), .val (.ref b511), .val (.ref b667), .unset, .unset, .unset] [(.ref z0_EMPTY_LIST)])) := fun t k => P672 t (st673.trans k)
    have F674 : Exa Z h667 z0_EMPTY_LIST "java/util/ImmutableCollections$ListN" := F660.ext E667
    have F675 : Exa Z T670.heap z0_EMPTY_LIST "java/util/ImmutableCollections$ListN" := F674.keep Kc670
    have F676 : Fld Z h667 z0_EMPTY_LIST "java/util/ImmutableCollections$ListN" "elements" "[Ljava/lang/Object;" (.ref qe) := F658.ext E667
    have F677 : Fld Z T670.heap z0_EMPTY_LIST "java/util/ImmutableCollections$ListN" "elements" "[Ljava/lang/Object;" (.ref qe) := F676.keep Kc670 (ninS ne_z0_EMPTY_LIST_b667 nin0)
    have F678 : Arv Z h667 qe qke (.object "java/lang/Object") (0 : Int32) [] .null := F659.ext E667
    have F679 : Arv Z T670.heap qe qke (.object "java/lang/Object") (0 : Int32) [] .null := F678.keep Kc670 (ninS ne_qe_b667 nin0)
    have P680 : own_Go p e below S0 (T673.setTop (mkF m 192 #[.val (.int i0), .val (.int i1), .val (.int i2), .val (.int i3), .val (.int i4), .val (.int (2 : Int32)), .val (.int (i1 &&& (3 : Int32))), .val (.int v5_s0), .val (.ref b7), .val (.ref b18), .val (.ref b31), .val (.ref b46), .val (.ref b511), .val (.ref b667), .val (.ref z0_EMPTY_LIST), .unset, .unset] [(.ref z0_EMPTY_LIST)])) := fun t k => P673 t (by
      show Steps p.tables e below (T673.setTop (mkF m 188 #[.val (.int i0), .val (.int i1), .val (.int i2), .val (.int i3), .val (.int i4), .val (.int (2 : Int32)), .val (.int (i1 &&& (3 : Int32))), .val (.int v5_s0), .val (.ref b7), .val (.ref b18), .val (.ref b31), .val (.ref b46), .val (.ref b511), .val (.ref b667), .unset, .unset, .unset] [(.ref z0_EMPTY_LIST)])) t
      refine XS.astore X673.here hx rfl (hb hby at_188) rfl rfl (l' := #[.val (.int i0), .val (.int i1), .val (.int i2), .val (.int i3), .val (.int i4), .val (.int (2 : Int32)), .val (.int (i1 &&& (3 : Int32))), .val (.int v5_s0), .val (.ref b7), .val (.ref b18), .val (.ref b31), .val (.ref b46), .val (.ref b511), .val (.ref b667), .val (.ref z0_EMPTY_LIST), .unset, .unset]) rfl ?_
      refine XS.aload X673.here hx rfl (hb hby at_190) rfl rfl ?_
      show Steps p.tables e below (T673.setTop (mkF m 192 #[.val (.int i0), .val (.int i1), .val (.int i2), .val (.int i3), .val (.int i4), .val (.int (2 : Int32)), .val (.int (i1 &&& (3 : Int32))), .val (.int v5_s0), .val (.ref b7), .val (.ref b18), .val (.ref b31), .val (.ref b46), .val (.ref b511), .val (.ref b667), .val (.ref z0_EMPTY_LIST), .unset, .unset] [(.ref z0_EMPTY_LIST)])) t
      exact k)
    obtain ⟨cq681, kq681, q681a, q681b, q681c⟩ := isOf hZ e673 F675
    obtain ⟨_, _, ⟨T681, L681, k681, n681⟩, -, X681, ⟨Lc681, hQ681, l681, y681, z681⟩, st681⟩ := X673.interfaceBack hx (xi := (⟨"java/util/List", "size", "()I"⟩ : MethodName)) (y := (⟨"java/util/ImmutableCollections$ListN", "size", "()I"⟩ : MethodName)) hown (mvT hZ (hw _ (List.mem_of_getElem? (i := 111) rfl))) (mvT hZ (hw _ (List.mem_of_getElem? (i := 112) rfl))) (mvT hZ (hw _ (List.mem_of_getElem? (i := 113) rfl))) (mvT hZ (hw _ (List.mem_of_getElem? (i := 114) rfl))) (mvT hZ (hw _ (List.mem_of_getElem? (i := 115) rfl))) (mvT hZ (hw _ (List.mem_of_getElem? (i := 116) rfl))) (mvT hZ (hw _ (List.mem_of_getElem? (i := 117) rfl))) (mvT hZ (hw _ (List.mem_of_getElem? (i := 118) rfl))) (by decide) (backOf (W := 0) (rm17 l Z a0 hw [] z0_EMPTY_LIST qe qke T670.heap n0 (Nat.le_trans Z0 K670.1) F677 F679) hZ (hw _ (List.mem_of_getElem? (i := 120) rfl)) (hw _ (List.mem_of_getElem? (i := 119) rfl)) (by decide) (by decide)) q681a q681b q681c (g := (mkF m 192 #[.val (.int i0), .val (.int i1), .val (.int i2), .val (.int i3), .val (.int i4), .val (.int (2 : Int32)), .val (.int (i1 &&& (3 : Int32))), .val (.int v5_s0), .val (.ref b7), .val (.ref b18), .val (.ref b31), .val (.ref b46), .val (.ref b511), .val (.ref b667), .val (.ref z0_EMPTY_LIST), .unset, .unset] [(.ref z0_EMPTY_LIST)])) rfl (by rw [hml]; rfl) (Steps.refl _) (argsL := []) (rest := []) (lenOf pd_14 rfl) rfl (by show 2 * 0 + _ ≤ _; exact Nat.le_of_eq rfl) (hb hby at_192) (fun _ _ => ⟨rfl, e673, (by decide : 8 + 0 ≤ _), (by decide : 48 + 0 ≤ _)⟩)
    dsimp only [Pt.U, Pt.locs, Pt.cells, Pt.slots] at X681 l681 y681 z681 st681 hQ681
    subst l681 y681 z681
    obtain ⟨rfl, N681q, e681⟩ := hQ681
    have N681 := Fr.app N673 N681q
    have P681 : own_Go p e below S0 (T681.setTop (mkF m 197 #[.val (.int i0), .val (.int i1), .val (.int i2), .val (.int i3), .val (.int i4), .val (.int (2 : Int32)), .val (.int (i1 &&& (3 : Int32))), .val (.int v5_s0), .val (.ref b7), .val (.ref b18), .val (.ref b31), .val (.ref b46), .val (.ref b511), .val (.ref b667), .val (.ref z0_EMPTY_LIST), .unset, .unset] [(.int (0 : Int32))])) := fun t k => P680 t (st681.trans k)
    have F682 : Arv Z h667 z0_DEFAULTCAPACITY_EMPTY_ELEMENTDATA qk0 (.object "java/lang/Object") (0 : Int32) [] .null := F656.ext E667
    have F683 : Arv Z T670.heap z0_DEFAULTCAPACITY_EMPTY_ELEMENTDATA qk0 (.object "java/lang/Object") (0 : Int32) [] .null := F682.keep Kc670 (ninS ne_z0_DEFAULTCAPACITY_EMPTY_ELEMENTDATA_b667 nin0)
    have F684 : Exa Z h667 b46 "java/util/ArrayList" := F661.ext E667
    have F685 : Exa Z T670.heap b46 "java/util/ArrayList" := F684.keep Kc670
    have F686 : Arv Z h667 b9_4_3_15_493 k9_4_3_15_493 (.object "java/lang/Object") (10 : Int32) [(.ref b7), (.ref b18), .null, .null, .null, .null, .null, .null, .null, .null] .null := F664.ext E667
    have F687 : Arv Z T670.heap b9_4_3_15_493 k9_4_3_15_493 (.object "java/lang/Object") (10 : Int32) [(.ref b7), (.ref b18), .null, .null, .null, .null, .null, .null, .null, .null] .null := F686.keep Kc670 (ninS ne_b9_4_3_15_493_b667 nin0)
    have P688 : own_Go p e below S0 (T681.setTop (mkF m 206 #[.val (.int i0), .val (.int i1), .val (.int i2), .val (.int i3), .val (.int i4), .val (.int (2 : Int32)), .val (.int (i1 &&& (3 : Int32))), .val (.int v5_s0), .val (.ref b7), .val (.ref b18), .val (.ref b31), .val (.ref b46), .val (.ref b511), .val (.ref b667), .val (.ref z0_EMPTY_LIST), .unset, .unset] [(.ref b667), (.ref b511)])) := fun t k => P681 t (by
      show Steps p.tables e below (T681.setTop (mkF m 197 #[.val (.int i0), .val (.int i1), .val (.int i2), .val (.int i3), .val (.int i4), .val (.int (2 : Int32)), .val (.int (i1 &&& (3 : Int32))), .val (.int v5_s0), .val (.ref b7), .val (.ref b18), .val (.ref b31), .val (.ref b46), .val (.ref b511), .val (.ref b667), .val (.ref z0_EMPTY_LIST), .unset, .unset] [(.int (0 : Int32))])) t
      refine XS.ifYes X681.here hx rfl (pc0 := 197) (pc' := 202) rfl (hb hby at_197) rfl ((if0 _ _).trans (teq (by decide)).1) (by decide) (by decide) ?_
      refine XS.aload X681.here hx rfl (hb hby at_202) rfl rfl ?_
      refine XS.aload X681.here hx rfl (hb hby at_204) rfl rfl ?_
      show Steps p.tables e below (T681.setTop (mkF m 206 #[.val (.int i0), .val (.int i1), .val (.int i2), .val (.int i3), .val (.int i4), .val (.int (2 : Int32)), .val (.int (i1 &&& (3 : Int32))), .val (.int v5_s0), .val (.ref b7), .val (.ref b18), .val (.ref b31), .val (.ref b46), .val (.ref b511), .val (.ref b667), .val (.ref z0_EMPTY_LIST), .unset, .unset] [(.ref b667), (.ref b511)])) t
      exact k)
    obtain ⟨_, _, ⟨T689, L689, k689, n689⟩, -, X689, ⟨Lc689, hQ689, l689, y689, z689⟩, st689⟩ := Jvm.LawKit.callS X681 hx (y := (⟨"com/example/penelope/penelope/program/Expansion", "underClaim", "(Ljava/util/List;Lcom/example/penelope/penelope/program/Expansion;)Lcom/example/penelope/penelope/program/Expansion;"⟩ : MethodName)) hown (mvT hZ (hw _ (List.mem_of_getElem? (i := 123) rfl))) (mvT hZ (hw _ (List.mem_of_getElem? (i := 124) rfl))) (mvT hZ (hw _ (List.mem_of_getElem? (i := 84) rfl))) (mvT hZ (hw _ (List.mem_of_getElem? (i := 125) rfl))) (by decide) (backOf (W := 0) (rm18 l Z a0 hw [] b511 b667 b46 (nar .boolean v5_s0) T670.heap n0 (Nat.le_trans Z0 K670.1) F670_0 F670_3) hZ (hw _ (List.mem_of_getElem? (i := 125) rfl)) (hw _ (List.mem_of_getElem? (i := 84) rfl)) (by decide) (by decide)) (g := (mkF m 206 #[.val (.int i0), .val (.int i1), .val (.int i2), .val (.int i3), .val (.int i4), .val (.int (2 : Int32)), .val (.int (i1 &&& (3 : Int32))), .val (.int v5_s0), .val (.ref b7), .val (.ref b18), .val (.ref b31), .val (.ref b46), .val (.ref b511), .val (.ref b667), .val (.ref z0_EMPTY_LIST), .unset, .unset] [(.ref b667), (.ref b511)])) rfl (by rw [hml]; rfl) (argsL := [(.ref b511), (.ref b667)]) (rest := []) (lenOf pd_15 rfl) rfl (by show 2 * 0 + _ ≤ _; exact Nat.le_of_eq rfl) (hb hby at_206) (fun _ _ => ⟨rfl, e681, (by decide : 8 + 1 ≤ _), (by decide : 48 + 4 ≤ _)⟩)
    dsimp only [Pt.U, Pt.locs, Pt.cells, Pt.slots] at X689 l689 y689 z689 st689 hQ689
    subst l689 y689 z689
    obtain ⟨b1_689, rfl, N689q, Kc689, sz_b1_689, F689_0, F689_1, F689_2, F689_3, F689_4⟩ := hQ689
    have N689 := Fr.app N681 N689q
    have ne_z0_DEFAULTCAPACITY_EMPTY_ELEMENTDATA_b1_689 : z0_DEFAULTCAPACITY_EMPTY_ELEMENTDATA ≠ b1_689 := Nat.ne_of_lt (Nat.lt_of_lt_of_le F683.lt sz_b1_689)
    have ne_z0_EMPTY_LIST_b1_689 : z0_EMPTY_LIST ≠ b1_689 := Nat.ne_of_lt (Nat.lt_of_lt_of_le F677.lt sz_b1_689)
    have ne_qe_b1_689 : qe ≠ b1_689 := Nat.ne_of_lt (Nat.lt_of_lt_of_le F679.lt sz_b1_689)
    have ne_b46_b1_689 : b46 ≠ b1_689 := Nat.ne_of_lt (Nat.lt_of_lt_of_le F685.lt sz_b1_689)
    have ne_b9_4_3_15_493_b1_689 : b9_4_3_15_493 ≠ b1_689 := Nat.ne_of_lt (Nat.lt_of_lt_of_le F687.lt sz_b1_689)
    have ne_b667_b1_689 : b667 ≠ b1_689 := Nat.ne_of_lt (Nat.lt_of_lt_of_le F671.lt sz_b1_689)
    have g_b1_689 : n0 ≤ b1_689 := Nat.le_trans (Nat.le_trans Z0 K670.1) sz_b1_689
    have o_b1_689 : h0.size ≤ b1_689 := Nat.le_trans K670.1 sz_b1_689
    have K689 : Keep h0 T689.heap [] := Keep.trans K670 Kc689 all0
    have P689 : own_Go p e below S0 (T689.setTop (mkF m 209 #[.val (.int i0), .val (.int i1), .val (.int i2), .val (.int i3), .val (.int i4), .val (.int (2 : Int32)), .val (.int (i1 &&& (3 : Int32))), .val (.int v5_s0), .val (.ref b7), .val (.ref b18), .val (.ref b31), .val (.ref b46), .val (.ref b511), .val (.ref b667), .val (.ref z0_EMPTY_LIST), .unset, .unset] [(.ref b1_689)])) := fun t k => P688 t (st689 _ k)
    have P690 : own_Go p e below S0 (T689.setTop (mkF m 213 #[.val (.int i0), .val (.int i1), .val (.int i2), .val (.int i3), .val (.int i4), .val (.int (2 : Int32)), .val (.int (i1 &&& (3 : Int32))), .val (.int v5_s0), .val (.ref b7), .val (.ref b18), .val (.ref b31), .val (.ref b46), .val (.ref b511), .val (.ref b667), .val (.ref z0_EMPTY_LIST), .val (.ref b1_689), .unset] [(.ref b1_689)])) := fun t k => P689 t (by
      show Steps p.tables e below (T689.setTop (mkF m 209 #[.val (.int i0), .val (.int i1), .val (.int i2), .val (.int i3), .val (.int i4), .val (.int (2 : Int32)), .val (.int (i1 &&& (3 : Int32))), .val (.int v5_s0), .val (.ref b7), .val (.ref b18), .val (.ref b31), .val (.ref b46), .val (.ref b511), .val (.ref b667), .val (.ref z0_EMPTY_LIST), .unset, .unset] [(.ref b1_689)])) t
      refine XS.astore X689.here hx rfl (hb hby at_209) rfl rfl (l' := #[.val (.int i0), .val (.int i1), .val (.int i2), .val (.int i3), .val (.int i4), .val (.int (2 : Int32)), .val (.int (i1 &&& (3 : Int32))), .val (.int v5_s0), .val (.ref b7), .val (.ref b18), .val (.ref b31), .val (.ref b46), .val (.ref b511), .val (.ref b667), .val (.ref z0_EMPTY_LIST), .val (.ref b1_689), .unset]) rfl ?_
      refine XS.aload X689.here hx rfl (hb hby at_211) rfl rfl ?_
      show Steps p.tables e below (T689.setTop (mkF m 213 #[.val (.int i0), .val (.int i1), .val (.int i2), .val (.int i3), .val (.int i4), .val (.int (2 : Int32)), .val (.int (i1 &&& (3 : Int32))), .val (.int v5_s0), .val (.ref b7), .val (.ref b18), .val (.ref b31), .val (.ref b46), .val (.ref b511), .val (.ref b667), .val (.ref z0_EMPTY_LIST), .val (.ref b1_689), .unset] [(.ref b1_689)])) t
      exact k)
    obtain ⟨cq691, kq691, q691a, q691b, q691c⟩ := isOf hZ rfl F689_0
    obtain ⟨_, _, ⟨T691, L691, k691, n691⟩, -, X691, ⟨Lc691, hQ691, l691, y691, z691⟩, st691⟩ := X689.virtualBack hx (y := (⟨"com/example/penelope/penelope/program/Expansion", "movesAfterClaim", "()Ljava/util/List;"⟩ : MethodName)) (z := (⟨"com/example/penelope/penelope/program/Expansion", "movesAfterClaim", "()Ljava/util/List;"⟩ : MethodName)) hown (mvT hZ (hw _ (List.mem_of_getElem? (i := 106) rfl))) (mvT hZ (hw _ (List.mem_of_getElem? (i := 107) rfl))) (notFace_of_selects (args := #[]) (mvT hZ (hw _ (List.mem_of_getElem? (i := 109) rfl)))) (mvT hZ (hw _ (List.mem_of_getElem? (i := 109) rfl))) (mvT hZ (hw _ (List.mem_of_getElem? (i := 108) rfl))) (by decide) (backOf (W := 0) (rm16 l Z a0 hw [] b1_689 b46 T689.heap n0 (Nat.le_trans Z0 K689.1) F689_3 F689_2) hZ (hw _ (List.mem_of_getElem? (i := 110) rfl)) (hw _ (List.mem_of_getElem? (i := 84) rfl)) (by decide) (by decide)) q691a q691c (g := (mkF m 213 #[.val (.int i0), .val (.int i1), .val (.int i2), .val (.int i3), .val (.int i4), .val (.int (2 : Int32)), .val (.int (i1 &&& (3 : Int32))), .val (.int v5_s0), .val (.ref b7), .val (.ref b18), .val (.ref b31), .val (.ref b46), .val (.ref b511), .val (.ref b667), .val (.ref z0_EMPTY_LIST), .val (.ref b1_689), .unset] [(.ref b1_689)])) rfl (by rw [hml]; rfl) (Steps.refl _) (argsL := []) (rest := []) (lenOf pd_6 rfl) rfl (by show 2 * 0 + _ ≤ _; exact Nat.le_of_eq rfl) (hb hby at_213) (fun _ _ => ⟨rfl, rfl, (by decide : 9 + 0 ≤ _), (by decide : 52 + 0 ≤ _)⟩)
    dsimp only [Pt.U, Pt.locs, Pt.cells, Pt.slots] at X691 l691 y691 z691 st691 hQ691
    subst l691 y691 z691
    obtain ⟨rfl, N691q, e691⟩ := hQ691
    have N691 := Fr.app N689 N691q
    have P691 : own_Go p e below S0 (T691.setTop (mkF m 216 #[.val (.int i0), .val (.int i1), .val (.int i2), .val (.int i3), .val (.int i4), .val (.int (2 : Int32)), .val (.int (i1 &&& (3 : Int32))), .val (.int v5_s0), .val (.ref b7), .val (.ref b18), .val (.ref b31), .val (.ref b46), .val (.ref b511), .val (.ref b667), .val (.ref z0_EMPTY_LIST), .val (.ref b1_689), .unset] [(.ref b46)])) := fun t k => P690 t (st691.trans k)
    have F692 : Exa Z T689.heap b46 "java/util/ArrayList" := F685.keep Kc689
    have F693 : Fld Z h667 b46 "java/util/ArrayList" "size" "I" (.int (2 : Int32)) := F663.ext E667
    have F694 : Fld Z T670.heap b46 "java/util/ArrayList" "size" "I" (.int (2 : Int32)) := F693.keep Kc670 (ninS ne_b46_b667 nin0)
    have F695 : Fld Z T689.heap b46 "java/util/ArrayList" "size" "I" (.int (2 : Int32)) := F694.keep Kc689 nin0
    have P696 : own_Go p e below S0 (T691.setTop (mkF m 220 #[.val (.int i0), .val (.int i1), .val (.int i2), .val (.int i3), .val (.int i4), .val (.int (2 : Int32)), .val (.int (i1 &&& (3 : Int32))), .val (.int v5_s0), .val (.ref b7), .val (.ref b18), .val (.ref b31), .val (.ref b46), .val (.ref b511), .val (.ref b667), .val (.ref z0_EMPTY_LIST), .val (.ref b1_689), .val (.ref b46)] [(.ref b46)])) := fun t k => P691 t (by
      show Steps p.tables e below (T691.setTop (mkF m 216 #[.val (.int i0), .val (.int i1), .val (.int i2), .val (.int i3), .val (.int i4), .val (.int (2 : Int32)), .val (.int (i1 &&& (3 : Int32))), .val (.int v5_s0), .val (.ref b7), .val (.ref b18), .val (.ref b31), .val (.ref b46), .val (.ref b511), .val (.ref b667), .val (.ref z0_EMPTY_LIST), .val (.ref b1_689), .unset] [(.ref b46)])) t
      refine XS.astore X691.here hx rfl (hb hby at_216) rfl rfl (l' := #[.val (.int i0), .val (.int i1), .val (.int i2), .val (.int i3), .val (.int i4), .val (.int (2 : Int32)), .val (.int (i1 &&& (3 : Int32))), .val (.int v5_s0), .val (.ref b7), .val (.ref b18), .val (.ref b31), .val (.ref b46), .val (.ref b511), .val (.ref b667), .val (.ref z0_EMPTY_LIST), .val (.ref b1_689), .val (.ref b46)]) rfl ?_
      refine XS.aload X691.here hx rfl (hb hby at_218) rfl rfl ?_
      show Steps p.tables e below (T691.setTop (mkF m 220 #[.val (.int i0), .val (.int i1), .val (.int i2), .val (.int i3), .val (.int i4), .val (.int (2 : Int32)), .val (.int (i1 &&& (3 : Int32))), .val (.int v5_s0), .val (.ref b7), .val (.ref b18), .val (.ref b31), .val (.ref b46), .val (.ref b511), .val (.ref b667), .val (.ref z0_EMPTY_LIST), .val (.ref b1_689), .val (.ref b46)] [(.ref b46)])) t
      exact k)
    obtain ⟨cq697, kq697, q697a, q697b, q697c⟩ := isOf hZ e691 F692
    obtain ⟨_, _, ⟨T697, L697, k697, n697⟩, -, X697, ⟨Lc697, hQ697, l697, y697, z697⟩, st697⟩ := X691.interfaceBack hx (xi := (⟨"java/util/List", "size", "()I"⟩ : MethodName)) (y := (⟨"java/util/ArrayList", "size", "()I"⟩ : MethodName)) hown (mvT hZ (hw _ (List.mem_of_getElem? (i := 111) rfl))) (mvT hZ (hw _ (List.mem_of_getElem? (i := 112) rfl))) (mvT hZ (hw _ (List.mem_of_getElem? (i := 113) rfl))) (mvT hZ (hw _ (List.mem_of_getElem? (i := 127) rfl))) (mvT hZ (hw _ (List.mem_of_getElem? (i := 128) rfl))) (mvT hZ (hw _ (List.mem_of_getElem? (i := 129) rfl))) (mvT hZ (hw _ (List.mem_of_getElem? (i := 130) rfl))) (mvT hZ (hw _ (List.mem_of_getElem? (i := 131) rfl))) (by decide) (backOf (W := 0) (rm19 l Z a0 hw [] b46 (2 : Int32) T689.heap n0 (Nat.le_trans Z0 K689.1) F695) hZ (hw _ (List.mem_of_getElem? (i := 132) rfl)) (hw _ (List.mem_of_getElem? (i := 29) rfl)) (by decide) (by decide)) q697a q697b q697c (g := (mkF m 220 #[.val (.int i0), .val (.int i1), .val (.int i2), .val (.int i3), .val (.int i4), .val (.int (2 : Int32)), .val (.int (i1 &&& (3 : Int32))), .val (.int v5_s0), .val (.ref b7), .val (.ref b18), .val (.ref b31), .val (.ref b46), .val (.ref b511), .val (.ref b667), .val (.ref z0_EMPTY_LIST), .val (.ref b1_689), .val (.ref b46)] [(.ref b46)])) rfl (by rw [hml]; rfl) (Steps.refl _) (argsL := []) (rest := []) (lenOf pd_14 rfl) rfl (by show 2 * 0 + _ ≤ _; exact Nat.le_of_eq rfl) (hb hby at_220) (fun _ _ => ⟨rfl, e691, (by decide : 9 + 0 ≤ _), (by decide : 52 + 0 ≤ _)⟩)
    dsimp only [Pt.U, Pt.locs, Pt.cells, Pt.slots] at X697 l697 y697 z697 st697 hQ697
    subst l697 y697 z697
    obtain ⟨rfl, N697q, e697⟩ := hQ697
    have N697 := Fr.app N691 N697q
    have P697 : own_Go p e below S0 (T697.setTop (mkF m 225 #[.val (.int i0), .val (.int i1), .val (.int i2), .val (.int i3), .val (.int i4), .val (.int (2 : Int32)), .val (.int (i1 &&& (3 : Int32))), .val (.int v5_s0), .val (.ref b7), .val (.ref b18), .val (.ref b31), .val (.ref b46), .val (.ref b511), .val (.ref b667), .val (.ref z0_EMPTY_LIST), .val (.ref b1_689), .val (.ref b46)] [(.int (2 : Int32))])) := fun t k => P696 t (st697.trans k)
    have F698 : Fld Z h667 b46 "java/util/ArrayList" "elementData" "[Ljava/lang/Object;" (.ref b9_4_3_15_493) := F666.ext E667
    have F699 : Fld Z T670.heap b46 "java/util/ArrayList" "elementData" "[Ljava/lang/Object;" (.ref b9_4_3_15_493) := F698.keep Kc670 (ninS ne_b46_b667 nin0)
    have F700 : Fld Z T689.heap b46 "java/util/ArrayList" "elementData" "[Ljava/lang/Object;" (.ref b9_4_3_15_493) := F699.keep Kc689 nin0
    have F701 : Arv Z T689.heap b9_4_3_15_493 k9_4_3_15_493 (.object "java/lang/Object") (10 : Int32) [(.ref b7), (.ref b18), .null, .null, .null, .null, .null, .null, .null, .null] .null := F687.keep Kc689 nin0
    have P702 : own_Go p e below S0 (T697.setTop (mkF m 240 #[.val (.int i0), .val (.int i1), .val (.int i2), .val (.int i3), .val (.int i4), .val (.int (2 : Int32)), .val (.int (i1 &&& (3 : Int32))), .val (.int v5_s0), .val (.ref b7), .val (.ref b18), .val (.ref b31), .val (.ref b46), .val (.ref b511), .val (.ref b667), .val (.ref z0_EMPTY_LIST), .val (.ref b1_689), .val (.ref b46)] [(.int (0 : Int32)), (.ref b46)])) := fun t k => P697 t (by
      show Steps p.tables e below (T697.setTop (mkF m 225 #[.val (.int i0), .val (.int i1), .val (.int i2), .val (.int i3), .val (.int i4), .val (.int (2 : Int32)), .val (.int (i1 &&& (3 : Int32))), .val (.int v5_s0), .val (.ref b7), .val (.ref b18), .val (.ref b31), .val (.ref b46), .val (.ref b511), .val (.ref b667), .val (.ref z0_EMPTY_LIST), .val (.ref b1_689), .val (.ref b46)] [(.int (2 : Int32))])) t
      refine XS.iload X697.here hx rfl (hb hby at_225) rfl ?_
      refine XS.icmpYes X697.here hx rfl (pc0 := 227) (pc' := 232) rfl (hb hby at_227) rfl (teq (by decide)).1 (by decide) (by decide) ?_
      refine XS.iload X697.here hx rfl (hb hby at_232) rfl ?_
      refine XS.ifNo X697.here hx rfl (hb hby at_234) rfl ((if0 _ _).trans (tlt (by decide)).2.2.2) ?_
      refine XS.aload X697.here hx rfl (hb hby at_237) rfl rfl ?_
      refine XS.iconst X697.here hx rfl (hb hby at_239) ?_
      show Steps p.tables e below (T697.setTop (mkF m 240 #[.val (.int i0), .val (.int i1), .val (.int i2), .val (.int i3), .val (.int i4), .val (.int (2 : Int32)), .val (.int (i1 &&& (3 : Int32))), .val (.int v5_s0), .val (.ref b7), .val (.ref b18), .val (.ref b31), .val (.ref b46), .val (.ref b511), .val (.ref b667), .val (.ref z0_EMPTY_LIST), .val (.ref b1_689), .val (.ref b46)] [(.int (0 : Int32)), (.ref b46)])) t
      exact k)
    obtain ⟨cq703, kq703, q703a, q703b, q703c⟩ := isOf hZ e697 F692
    obtain ⟨_, _, ⟨T703, L703, k703, n703⟩, -, X703, ⟨Lc703, hQ703, l703, y703, z703⟩, st703⟩ := X697.interfaceBack hx (xi := (⟨"java/util/List", "get", "(I)Ljava/lang/Object;"⟩ : MethodName)) (y := (⟨"java/util/ArrayList", "get", "(I)Ljava/lang/Object;"⟩ : MethodName)) hown (mvT hZ (hw _ (List.mem_of_getElem? (i := 133) rfl))) (mvT hZ (hw _ (List.mem_of_getElem? (i := 134) rfl))) (mvT hZ (hw _ (List.mem_of_getElem? (i := 135) rfl))) (mvT hZ (hw _ (List.mem_of_getElem? (i := 136) rfl))) (mvT hZ (hw _ (List.mem_of_getElem? (i := 137) rfl))) (mvT hZ (hw _ (List.mem_of_getElem? (i := 138) rfl))) (mvT hZ (hw _ (List.mem_of_getElem? (i := 139) rfl))) (mvT hZ (hw _ (List.mem_of_getElem? (i := 131) rfl))) (by decide) (backOf (W := 0) (rm20_2_0 l Z a0 hw [] b46 b9_4_3_15_493 k9_4_3_15_493 b7 b18 T689.heap n0 (Nat.le_trans Z0 K689.1) F695 F700 F701 F692) hZ (hw _ (List.mem_of_getElem? (i := 140) rfl)) (hw _ (List.mem_of_getElem? (i := 29) rfl)) (by decide) (by decide)) q703a q703b q703c (g := (mkF m 240 #[.val (.int i0), .val (.int i1), .val (.int i2), .val (.int i3), .val (.int i4), .val (.int (2 : Int32)), .val (.int (i1 &&& (3 : Int32))), .val (.int v5_s0), .val (.ref b7), .val (.ref b18), .val (.ref b31), .val (.ref b46), .val (.ref b511), .val (.ref b667), .val (.ref z0_EMPTY_LIST), .val (.ref b1_689), .val (.ref b46)] [(.int (0 : Int32)), (.ref b46)])) rfl (by rw [hml]; rfl) (Steps.refl _) (argsL := [(.int (0 : Int32))]) (rest := []) (lenOf pd_9 rfl) rfl (by show 2 * 0 + _ ≤ _; exact Nat.le_of_eq rfl) (hb hby at_240) (fun _ _ => ⟨rfl, e697, (by decide : 9 + 0 ≤ _), (by decide : 52 + 0 ≤ _)⟩)
    dsimp only [Pt.U, Pt.locs, Pt.cells, Pt.slots] at X703 l703 y703 z703 st703 hQ703
    subst l703 y703 z703
    obtain ⟨rfl, N703q, e703⟩ := hQ703
    have N703 := Fr.app N697 N703q
    have P703 : own_Go p e below S0 (T703.setTop (mkF m 245 #[.val (.int i0), .val (.int i1), .val (.int i2), .val (.int i3), .val (.int i4), .val (.int (2 : Int32)), .val (.int (i1 &&& (3 : Int32))), .val (.int v5_s0), .val (.ref b7), .val (.ref b18), .val (.ref b31), .val (.ref b46), .val (.ref b511), .val (.ref b667), .val (.ref z0_EMPTY_LIST), .val (.ref b1_689), .val (.ref b46)] [(.ref b7)])) := fun t k => P702 t (st703.trans k)
    have P704 : own_Go p e below S0 (T703.setTop (mkF m 261 #[.val (.int i0), .val (.int i1), .val (.int i2), .val (.int i3), .val (.int i4), .val (.int (2 : Int32)), .val (.int (i1 &&& (3 : Int32))), .val (.int v5_s0), .val (.ref b7), .val (.ref b18), .val (.ref b31), .val (.ref b46), .val (.ref b511), .val (.ref b667), .val (.ref z0_EMPTY_LIST), .val (.ref b1_689), .val (.ref b46)] [(.int (1 : Int32)), (.ref b46)])) := fun t k => P703 t (by
      show Steps p.tables e below (T703.setTop (mkF m 245 #[.val (.int i0), .val (.int i1), .val (.int i2), .val (.int i3), .val (.int i4), .val (.int (2 : Int32)), .val (.int (i1 &&& (3 : Int32))), .val (.int v5_s0), .val (.ref b7), .val (.ref b18), .val (.ref b31), .val (.ref b46), .val (.ref b511), .val (.ref b667), .val (.ref z0_EMPTY_LIST), .val (.ref b1_689), .val (.ref b46)] [(.ref b7)])) t
      refine XS.aload X703.here hx rfl (hb hby at_245) rfl rfl ?_
      refine Jvm.RoadKit.acmp (g := (mkF m 247 #[.val (.int i0), .val (.int i1), .val (.int i2), .val (.int i3), .val (.int i4), .val (.int (2 : Int32)), .val (.int (i1 &&& (3 : Int32))), .val (.int v5_s0), .val (.ref b7), .val (.ref b18), .val (.ref b31), .val (.ref b46), .val (.ref b511), .val (.ref b667), .val (.ref z0_EMPTY_LIST), .val (.ref b1_689), .val (.ref b46)] [(.ref b7), (.ref b7)])) X703 hx rfl rfl rfl (pc0 := 247) (pc' := 252) (same := true) rfl (hb hby at_247) rfl (decide_eq_true rfl) (by decide) (by decide) ?_
      refine XS.iload X703.here hx rfl (hb hby at_252) rfl ?_
      refine XS.iconst X703.here hx rfl (hb hby at_254) ?_
      refine XS.icmpNo X703.here hx rfl (hb hby at_255) rfl (tlt (by decide)).2.2.2 ?_
      refine XS.aload X703.here hx rfl (hb hby at_258) rfl rfl ?_
      show Steps p.tables e below (T703.setTop (mkF m 260 #[.val (.int i0), .val (.int i1), .val (.int i2), .val (.int i3), .val (.int i4), .val (.int (2 : Int32)), .val (.int (i1 &&& (3 : Int32))), .val (.int v5_s0), .val (.ref b7), .val (.ref b18), .val (.ref b31), .val (.ref b46), .val (.ref b511), .val (.ref b667), .val (.ref z0_EMPTY_LIST), .val (.ref b1_689), .val (.ref b46)] [(.ref b46)])) t
      refine XS.iconst X703.here hx rfl (hb hby at_260) ?_
      show Steps p.tables e below (T703.setTop (mkF m 261 #[.val (.int i0), .val (.int i1), .val (.int i2), .val (.int i3), .val (.int i4), .val (.int (2 : Int32)), .val (.int (i1 &&& (3 : Int32))), .val (.int v5_s0), .val (.ref b7), .val (.ref b18), .val (.ref b31), .val (.ref b46), .val (.ref b511), .val (.ref b667), .val (.ref z0_EMPTY_LIST), .val (.ref b1_689), .val (.ref b46)] [(.int (1 : Int32)), (.ref b46)])) t
      exact k)
    obtain ⟨cq705, kq705, q705a, q705b, q705c⟩ := isOf hZ e703 F692
    obtain ⟨_, _, ⟨T705, L705, k705, n705⟩, -, X705, ⟨Lc705, hQ705, l705, y705, z705⟩, st705⟩ := X703.interfaceBack hx (xi := (⟨"java/util/List", "get", "(I)Ljava/lang/Object;"⟩ : MethodName)) (y := (⟨"java/util/ArrayList", "get", "(I)Ljava/lang/Object;"⟩ : MethodName)) hown (mvT hZ (hw _ (List.mem_of_getElem? (i := 133) rfl))) (mvT hZ (hw _ (List.mem_of_getElem? (i := 134) rfl))) (mvT hZ (hw _ (List.mem_of_getElem? (i := 135) rfl))) (mvT hZ (hw _ (List.mem_of_getElem? (i := 136) rfl))) (mvT hZ (hw _ (List.mem_of_getElem? (i := 137) rfl))) (mvT hZ (hw _ (List.mem_of_getElem? (i := 138) rfl))) (mvT hZ (hw _ (List.mem_of_getElem? (i := 139) rfl))) (mvT hZ (hw _ (List.mem_of_getElem? (i := 131) rfl))) (by decide) (backOf (W := 0) (rm20_2_1 l Z a0 hw [] b46 b9_4_3_15_493 k9_4_3_15_493 b7 b18 T689.heap n0 (Nat.le_trans Z0 K689.1) F695 F700 F701 F692) hZ (hw _ (List.mem_of_getElem? (i := 140) rfl)) (hw _ (List.mem_of_getElem? (i := 29) rfl)) (by decide) (by decide)) q705a q705b q705c (g := (mkF m 261 #[.val (.int i0), .val (.int i1), .val (.int i2), .val (.int i3), .val (.int i4), .val (.int (2 : Int32)), .val (.int (i1 &&& (3 : Int32))), .val (.int v5_s0), .val (.ref b7), .val (.ref b18), .val (.ref b31), .val (.ref b46), .val (.ref b511), .val (.ref b667), .val (.ref z0_EMPTY_LIST), .val (.ref b1_689), .val (.ref b46)] [(.int (1 : Int32)), (.ref b46)])) rfl (by rw [hml]; rfl) (Steps.refl _) (argsL := [(.int (1 : Int32))]) (rest := []) (lenOf pd_9 rfl) rfl (by show 2 * 0 + _ ≤ _; exact Nat.le_of_eq rfl) (hb hby at_261) (fun _ _ => ⟨rfl, e703, (by decide : 9 + 0 ≤ _), (by decide : 52 + 0 ≤ _)⟩)
    dsimp only [Pt.U, Pt.locs, Pt.cells, Pt.slots] at X705 l705 y705 z705 st705 hQ705
    subst l705 y705 z705
    obtain ⟨rfl, N705q, e705⟩ := hQ705
    have N705 := Fr.app N703 N705q
    have P705 : own_Go p e below S0 (T705.setTop (mkF m 266 #[.val (.int i0), .val (.int i1), .val (.int i2), .val (.int i3), .val (.int i4), .val (.int (2 : Int32)), .val (.int (i1 &&& (3 : Int32))), .val (.int v5_s0), .val (.ref b7), .val (.ref b18), .val (.ref b31), .val (.ref b46), .val (.ref b511), .val (.ref b667), .val (.ref z0_EMPTY_LIST), .val (.ref b1_689), .val (.ref b46)] [(.ref b18)])) := fun t k => P704 t (st705.trans k)
    have P706 : own_Go p e below S0 (T705.setTop (mkF m 295 #[.val (.int i0), .val (.int i1), .val (.int i2), .val (.int i3), .val (.int i4), .val (.int (2 : Int32)), .val (.int (i1 &&& (3 : Int32))), .val (.int v5_s0), .val (.ref b7), .val (.ref b18), .val (.ref b31), .val (.ref b46), .val (.ref b511), .val (.ref b667), .val (.ref z0_EMPTY_LIST), .val (.ref b1_689), .val (.ref b46)] [(.int (1 : Int32))])) := fun t k => P705 t (by
      show Steps p.tables e below (T705.setTop (mkF m 266 #[.val (.int i0), .val (.int i1), .val (.int i2), .val (.int i3), .val (.int i4), .val (.int (2 : Int32)), .val (.int (i1 &&& (3 : Int32))), .val (.int v5_s0), .val (.ref b7), .val (.ref b18), .val (.ref b31), .val (.ref b46), .val (.ref b511), .val (.ref b667), .val (.ref z0_EMPTY_LIST), .val (.ref b1_689), .val (.ref b46)] [(.ref b18)])) t
      refine XS.aload X705.here hx rfl (hb hby at_266) rfl rfl ?_
      refine Jvm.RoadKit.acmp (g := (mkF m 268 #[.val (.int i0), .val (.int i1), .val (.int i2), .val (.int i3), .val (.int i4), .val (.int (2 : Int32)), .val (.int (i1 &&& (3 : Int32))), .val (.int v5_s0), .val (.ref b7), .val (.ref b18), .val (.ref b31), .val (.ref b46), .val (.ref b511), .val (.ref b667), .val (.ref z0_EMPTY_LIST), .val (.ref b1_689), .val (.ref b46)] [(.ref b18), (.ref b18)])) X705 hx rfl rfl rfl (pc0 := 268) (pc' := 273) (same := true) rfl (hb hby at_268) rfl (decide_eq_true rfl) (by decide) (by decide) ?_
      refine XS.iload X705.here hx rfl (hb hby at_273) rfl ?_
      refine XS.iconst X705.here hx rfl (hb hby at_275) ?_
      refine XS.icmpYes X705.here hx rfl (pc0 := 276) (pc' := 294) rfl (hb hby at_276) rfl (flt (by decide)).2.2.2 (by decide) (by decide) ?_
      refine XS.iconst X705.here hx rfl (hb hby at_294) ?_
      show Steps p.tables e below (T705.setTop (mkF m 295 #[.val (.int i0), .val (.int i1), .val (.int i2), .val (.int i3), .val (.int i4), .val (.int (2 : Int32)), .val (.int (i1 &&& (3 : Int32))), .val (.int v5_s0), .val (.ref b7), .val (.ref b18), .val (.ref b31), .val (.ref b46), .val (.ref b511), .val (.ref b667), .val (.ref z0_EMPTY_LIST), .val (.ref b1_689), .val (.ref b46)] [(.int (1 : Int32))])) t
      exact k)
    have F707 : Fld Z h667 b46 "java/util/AbstractList" "modCount" "I" (.int (((0 : Int32) + (1 : Int32)) + (1 : Int32))) := F665.ext E667
    have F708 : Fld Z T670.heap b46 "java/util/AbstractList" "modCount" "I" (.int (((0 : Int32) + (1 : Int32)) + (1 : Int32))) := F707.keep Kc670 (ninS ne_b46_b667 nin0)
    have F709 : Fld Z T689.heap b46 "java/util/AbstractList" "modCount" "I" (.int (((0 : Int32) + (1 : Int32)) + (1 : Int32))) := F708.keep Kc689 nin0
    have F710 : Exa Z T689.heap b667 "com/example/penelope/penelope/program/Expansion" := F671.keep Kc689
    have F711 : Fld Z T689.heap b667 "com/example/penelope/penelope/program/Expansion" "moves" "Ljava/util/List;" (.ref b46) := F670_0.keep Kc689 nin0
    have F712 : Fld Z T689.heap b667 "com/example/penelope/penelope/program/Expansion" "movesAfterClaim" "Ljava/util/List;" (.ref z0_EMPTY_LIST) := F670_1.keep Kc689 nin0
    have F713 : Fld Z T689.heap b667 "com/example/penelope/penelope/program/Expansion" "faultAfterClaim" "Lcom/example/penelope/penelope/program/Fault;" .null := F670_2.keep Kc689 nin0
    have F714 : Fld Z T689.heap b667 "com/example/penelope/penelope/program/Expansion" "transientState" "Z" (.int (nar .boolean v5_s0)) := F670_3.keep Kc689 nin0
    obtain ⟨fs, hr, hrun, hended, hW, hsame⟩ := X705.leave (v := some (.int (1 : Int32))) (fun h => by rw [Bd.returns] at h; cases h)
    refine ⟨_, _, own_from hS0 (P706 _ ?_), hrun, hended, _, _, rfl, ?_, ⟨_, rfl⟩, hW, hsame.mono (by decide) (by decide)⟩
    · show Steps p.tables e below (T705.setTop (mkF m 295 #[.val (.int i0), .val (.int i1), .val (.int i2), .val (.int i3), .val (.int i4), .val (.int (2 : Int32)), .val (.int (i1 &&& (3 : Int32))), .val (.int v5_s0), .val (.ref b7), .val (.ref b18), .val (.ref b31), .val (.ref b46), .val (.ref b511), .val (.ref b667), .val (.ref z0_EMPTY_LIST), .val (.ref b1_689), .val (.ref b46)] [(.int (1 : Int32))])) _
      exact retN X705 hx (t := .boolean) Bd.returns (by simp) (hb hby at_295) hr
    · show Q0 Z i0 i1 i2 i3 i4 z0_DEFAULTCAPACITY_EMPTY_ELEMENTDATA qk0 z0_EMPTY_LIST qe qke h0 n0 _ T705.heap _
      rw [e705]
      exact ⟨rfl, N705⟩
  · skip
    subst c58
    have F715 : Exa Z T55.heap b46 "java/util/ArrayList" := A46.keep Kc55
    have F716 : Sta Z T55.heap "java/util/ArrayList" "DEFAULTCAPACITY_EMPTY_ELEMENTDATA" "[Ljava/lang/Object;" (.ref z0_DEFAULTCAPACITY_EMPTY_ELEMENTDATA) := own_staK F53 Kc55 (allS (own_plE A46) all0)
    have F717 : Arv Z h46 z0_DEFAULTCAPACITY_EMPTY_ELEMENTDATA qk0 (.object "java/lang/Object") (0 : Int32) [] .null := F35.ext E46
    have F718 : Arv Z T55.heap z0_DEFAULTCAPACITY_EMPTY_ELEMENTDATA qk0 (.object "java/lang/Object") (0 : Int32) [] .null := F717.keep Kc55 (ninS ne_z0_DEFAULTCAPACITY_EMPTY_ELEMENTDATA_b46 nin0)
    have F719 : Exa Z h46 b7 "com/example/penelope/penelope/program/Move" := F41.ext E46
    have F720 : Exa Z T55.heap b7 "com/example/penelope/penelope/program/Move" := F719.keep Kc55
    have F721 : Fld Z h46 z0_EMPTY_LIST "java/util/ImmutableCollections$ListN" "elements" "[Ljava/lang/Object;" (.ref qe) := F37.ext E46
    have F722 : Fld Z T55.heap z0_EMPTY_LIST "java/util/ImmutableCollections$ListN" "elements" "[Ljava/lang/Object;" (.ref qe) := F721.keep Kc55 (ninS ne_z0_EMPTY_LIST_b46 nin0)
    have F723 : Arv Z h46 qe qke (.object "java/lang/Object") (0 : Int32) [] .null := F39.ext E46
    have F724 : Arv Z T55.heap qe qke (.object "java/lang/Object") (0 : Int32) [] .null := F723.keep Kc55 (ninS ne_qe_b46 nin0)
    have F725 : Exa Z h46 b18 "com/example/penelope/penelope/program/Move" := F43.ext E46
    have F726 : Exa Z T55.heap b18 "com/example/penelope/penelope/program/Move" := F725.keep Kc55
    have F727 : Exa Z h46 b31 "com/example/penelope/penelope/program/Move" := F44.ext E46
    have F728 : Exa Z T55.heap b31 "com/example/penelope/penelope/program/Move" := F727.keep Kc55
    have P729 : own_Go p e below S0 (T55.setTop (mkF m 88 #[.val (.int i0), .val (.int i1), .val (.int i2), .val (.int i3), .val (.int i4), .val (.int (3 : Int32)), .val (.int (i1 &&& (3 : Int32))), .val (.int v5_s0), .val (.ref b7), .val (.ref b18), .val (.ref b31), .val (.ref b46), .unset, .unset, .unset, .unset, .unset] [(.ref b7), (.ref b46)])) := fun t k => P57 t (by
      show Steps p.tables e below (T55.setTop (mkF m 79 #[.val (.int i0), .val (.int i1), .val (.int i2), .val (.int i3), .val (.int i4), .val (.int (3 : Int32)), .val (.int (i1 &&& (3 : Int32))), .val (.int v5_s0), .val (.ref b7), .val (.ref b18), .val (.ref b31), .val (.ref b46), .unset, .unset, .unset, .unset, .unset] [])) t
      refine XS.iload X55.here hx rfl (hb hby at_79) rfl ?_
      refine XS.ifNo X55.here hx rfl (hb hby at_81) rfl ((if0 _ _).trans (tlt (by decide)).2.2.2) ?_
      refine XS.aload X55.here hx rfl (hb hby at_84) rfl rfl ?_
      refine XS.aload X55.here hx rfl (hb hby at_86) rfl rfl ?_
      show Steps p.tables e below (T55.setTop (mkF m 88 #[.val (.int i0), .val (.int i1), .val (.int i2), .val (.int i3), .val (.int i4), .val (.int (3 : Int32)), .val (.int (i1 &&& (3 : Int32))), .val (.int v5_s0), .val (.ref b7), .val (.ref b18), .val (.ref b31), .val (.ref b46), .unset, .unset, .unset, .unset, .unset] [(.ref b7), (.ref b46)])) t
      exact k)
    obtain ⟨cq730, kq730, q730a, q730b, q730c⟩ := isOf hZ rfl F715
    obtain ⟨_, _, ⟨T730, L730, k730, n730⟩, -, X730, ⟨Lc730, hQ730, l730, y730, z730⟩, st730⟩ := X55.virtualBack hx (y := (⟨"java/util/ArrayList", "add", "(Ljava/lang/Object;)Z"⟩ : MethodName)) (z := (⟨"java/util/ArrayList", "add", "(Ljava/lang/Object;)Z"⟩ : MethodName)) hown (mvT hZ (hw _ (List.mem_of_getElem? (i := 51) rfl))) (mvT hZ (hw _ (List.mem_of_getElem? (i := 52) rfl))) (notFace_of_selects (args := #[]) (mvT hZ (hw _ (List.mem_of_getElem? (i := 54) rfl)))) (mvT hZ (hw _ (List.mem_of_getElem? (i := 54) rfl))) (mvT hZ (hw _ (List.mem_of_getElem? (i := 53) rfl))) (by decide) (backOf (W := 0) (rm8e l Z a0 hw [] b46 b7 z0_DEFAULTCAPACITY_EMPTY_ELEMENTDATA qk0 (0 : Int32) T55.heap n0 (Nat.le_trans Z0 K55.1) F55_0 F55_1 F716 F718 F720 F55_2 F715 g_b46 ne_z0_DEFAULTCAPACITY_EMPTY_ELEMENTDATA_b46) hZ (hw _ (List.mem_of_getElem? (i := 55) rfl)) (hw _ (List.mem_of_getElem? (i := 29) rfl)) (by decide) (by decide)) q730a q730c (g := (mkF m 88 #[.val (.int i0), .val (.int i1), .val (.int i2), .val (.int i3), .val (.int i4), .val (.int (3 : Int32)), .val (.int (i1 &&& (3 : Int32))), .val (.int v5_s0), .val (.ref b7), .val (.ref b18), .val (.ref b31), .val (.ref b46), .unset, .unset, .unset, .unset, .unset] [(.ref b7), (.ref b46)])) rfl (by rw [hml]; rfl) (Steps.refl _) (argsL := [(.ref b7)]) (rest := []) (lenOf pd_12 rfl) rfl (by show 2 * 0 + _ ≤ _; exact Nat.le_of_eq rfl) (hb hby at_88) (fun _ _ => ⟨rfl, rfl, (by decide : 4 + 1 ≤ _), (by decide : 21 + 10 ≤ _)⟩)
    dsimp only [Pt.U, Pt.locs, Pt.cells, Pt.slots] at X730 l730 y730 z730 st730 hQ730
    subst l730 y730 z730
    obtain ⟨b9_4_3_15_730, k9_4_3_15_730, rfl, N730q, Kc730, sz_b9_4_3_15_730, F730_0, F730_1, F730_2, F730_3, F730_4⟩ := hQ730
    have N730 := Fr.app N55 N730q
    have ne_z0_DEFAULTCAPACITY_EMPTY_ELEMENTDATA_b9_4_3_15_730 : z0_DEFAULTCAPACITY_EMPTY_ELEMENTDATA ≠ b9_4_3_15_730 := Nat.ne_of_lt (Nat.lt_of_lt_of_le F718.lt sz_b9_4_3_15_730)
    have ne_z0_EMPTY_LIST_b9_4_3_15_730 : z0_EMPTY_LIST ≠ b9_4_3_15_730 := Nat.ne_of_lt (Nat.lt_of_lt_of_le F722.lt sz_b9_4_3_15_730)
    have ne_qe_b9_4_3_15_730 : qe ≠ b9_4_3_15_730 := Nat.ne_of_lt (Nat.lt_of_lt_of_le F724.lt sz_b9_4_3_15_730)
    have ne_b7_b9_4_3_15_730 : b7 ≠ b9_4_3_15_730 := Nat.ne_of_lt (Nat.lt_of_lt_of_le F720.lt sz_b9_4_3_15_730)
    have ne_b18_b9_4_3_15_730 : b18 ≠ b9_4_3_15_730 := Nat.ne_of_lt (Nat.lt_of_lt_of_le F726.lt sz_b9_4_3_15_730)
    have ne_b31_b9_4_3_15_730 : b31 ≠ b9_4_3_15_730 := Nat.ne_of_lt (Nat.lt_of_lt_of_le F728.lt sz_b9_4_3_15_730)
    have ne_b46_b9_4_3_15_730 : b46 ≠ b9_4_3_15_730 := Nat.ne_of_lt (Nat.lt_of_lt_of_le F715.lt sz_b9_4_3_15_730)
    have g_b9_4_3_15_730 : n0 ≤ b9_4_3_15_730 := Nat.le_trans (Nat.le_trans Z0 K55.1) sz_b9_4_3_15_730
    have o_b9_4_3_15_730 : h0.size ≤ b9_4_3_15_730 := Nat.le_trans K55.1 sz_b9_4_3_15_730
    have K730 : Keep h0 T730.heap [] := Keep.trans K55 Kc730 (allS (Or.inr o_b46) all0)
    have P730 : own_Go p e below S0 (T730.setTop (mkF m 91 #[.val (.int i0), .val (.int i1), .val (.int i2), .val (.int i3), .val (.int i4), .val (.int (3 : Int32)), .val (.int (i1 &&& (3 : Int32))), .val (.int v5_s0), .val (.ref b7), .val (.ref b18), .val (.ref b31), .val (.ref b46), .unset, .unset, .unset, .unset, .unset] [(.int (1 : Int32))])) := fun t k => P729 t (st730.trans k)
    have F731 : Exa Z T730.heap b46 "java/util/ArrayList" := F715.keep Kc730
    have F732 : Exa Z T730.heap b18 "com/example/penelope/penelope/program/Move" := F726.keep Kc730
    have P733 : own_Go p e below S0 (T730.setTop (mkF m 102 #[.val (.int i0), .val (.int i1), .val (.int i2), .val (.int i3), .val (.int i4), .val (.int (3 : Int32)), .val (.int (i1 &&& (3 : Int32))), .val (.int v5_s0), .val (.ref b7), .val (.ref b18), .val (.ref b31), .val (.ref b46), .unset, .unset, .unset, .unset, .unset] [(.ref b18), (.ref b46)])) := fun t k => P730 t (by
      show Steps p.tables e below (T730.setTop (mkF m 91 #[.val (.int i0), .val (.int i1), .val (.int i2), .val (.int i3), .val (.int i4), .val (.int (3 : Int32)), .val (.int (i1 &&& (3 : Int32))), .val (.int v5_s0), .val (.ref b7), .val (.ref b18), .val (.ref b31), .val (.ref b46), .unset, .unset, .unset, .unset, .unset] [(.int (1 : Int32))])) t
      refine XS.pop X730.here hx rfl (hb hby at_91) rfl rfl ?_
      refine XS.iload X730.here hx rfl (hb hby at_92) rfl ?_
      refine XS.iconst X730.here hx rfl (hb hby at_94) ?_
      refine XS.icmpNo X730.here hx rfl (hb hby at_95) rfl (tlt (by decide)).2.2.2 ?_
      refine XS.aload X730.here hx rfl (hb hby at_98) rfl rfl ?_
      refine XS.aload X730.here hx rfl (hb hby at_100) rfl rfl ?_
      show Steps p.tables e below (T730.setTop (mkF m 102 #[.val (.int i0), .val (.int i1), .val (.int i2), .val (.int i3), .val (.int i4), .val (.int (3 : Int32)), .val (.int (i1 &&& (3 : Int32))), .val (.int v5_s0), .val (.ref b7), .val (.ref b18), .val (.ref b31), .val (.ref b46), .unset, .unset, .unset, .unset, .unset] [(.ref b18), (.ref b46)])) t
      exact k)
    obtain ⟨cq734, kq734, q734a, q734b, q734c⟩ := isOf hZ rfl F731
    obtain ⟨_, _, ⟨T734, L734, k734, n734⟩, -, X734, ⟨Lc734, hQ734, l734, y734, z734⟩, st734⟩ := X730.virtualBack hx (y := (⟨"java/util/ArrayList", "add", "(Ljava/lang/Object;)Z"⟩ : MethodName)) (z := (⟨"java/util/ArrayList", "add", "(Ljava/lang/Object;)Z"⟩ : MethodName)) hown (mvT hZ (hw _ (List.mem_of_getElem? (i := 51) rfl))) (mvT hZ (hw _ (List.mem_of_getElem? (i := 52) rfl))) (notFace_of_selects (args := #[]) (mvT hZ (hw _ (List.mem_of_getElem? (i := 54) rfl)))) (mvT hZ (hw _ (List.mem_of_getElem? (i := 54) rfl))) (mvT hZ (hw _ (List.mem_of_getElem? (i := 53) rfl))) (by decide) (backOf (W := 0) (rm8n1 l Z a0 hw [] b46 b18 b9_4_3_15_730 k9_4_3_15_730 b7 ((0 : Int32) + (1 : Int32)) T730.heap n0 (Nat.le_trans Z0 K730.1) F730_0 F730_1 F730_3 F730_4 F732 F730_2 F731 g_b46 (Ne.symm ne_b46_b9_4_3_15_730) g_b9_4_3_15_730) hZ (hw _ (List.mem_of_getElem? (i := 55) rfl)) (hw _ (List.mem_of_getElem? (i := 29) rfl)) (by decide) (by decide)) q734a q734c (g := (mkF m 102 #[.val (.int i0), .val (.int i1), .val (.int i2), .val (.int i3), .val (.int i4), .val (.int (3 : Int32)), .val (.int (i1 &&& (3 : Int32))), .val (.int v5_s0), .val (.ref b7), .val (.ref b18), .val (.ref b31), .val (.ref b46), .unset, .unset, .unset, .unset, .unset] [(.ref b18), (.ref b46)])) rfl (by rw [hml]; rfl) (Steps.refl _) (argsL := [(.ref b18)]) (rest := []) (lenOf pd_12 rfl) rfl (by show 2 * 0 + _ ≤ _; exact Nat.le_of_eq rfl) (hb hby at_102) (fun _ _ => ⟨rfl, rfl, (by decide : 5 + 0 ≤ _), (by decide : 31 + 0 ≤ _)⟩)
    dsimp only [Pt.U, Pt.locs, Pt.cells, Pt.slots] at X734 l734 y734 z734 st734 hQ734
    subst l734 y734 z734
    obtain ⟨rfl, N734q, Kc734, F734_0, F734_1, F734_2, F734_3⟩ := hQ734
    have N734 := Fr.app N730 N734q
    have K734 : Keep h0 T734.heap [] := Keep.trans K730 Kc734 (allS (Or.inr o_b46) (allS (Or.inr o_b9_4_3_15_730) all0))
    have P734 : own_Go p e below S0 (T734.setTop (mkF m 105 #[.val (.int i0), .val (.int i1), .val (.int i2), .val (.int i3), .val (.int i4), .val (.int (3 : Int32)), .val (.int (i1 &&& (3 : Int32))), .val (.int v5_s0), .val (.ref b7), .val (.ref b18), .val (.ref b31), .val (.ref b46), .unset, .unset, .unset, .unset, .unset] [(.int (1 : Int32))])) := fun t k => P733 t (st734.trans k)
    have F735 : Exa Z T734.heap b46 "java/util/ArrayList" := F731.keep Kc734
    have F736 : Exa Z T730.heap b7 "com/example/penelope/penelope/program/Move" := F720.keep Kc730
    have F737 : Exa Z T734.heap b7 "com/example/penelope/penelope/program/Move" := F736.keep Kc734
    have P738 : own_Go p e below S0 (T734.setTop (mkF m 116 #[.val (.int i0), .val (.int i1), .val (.int i2), .val (.int i3), .val (.int i4), .val (.int (3 : Int32)), .val (.int (i1 &&& (3 : Int32))), .val (.int v5_s0), .val (.ref b7), .val (.ref b18), .val (.ref b31), .val (.ref b46), .unset, .unset, .unset, .unset, .unset] [(.ref b7), (.ref b46)])) := fun t k => P734 t (by
      show Steps p.tables e below (T734.setTop (mkF m 105 #[.val (.int i0), .val (.int i1), .val (.int i2), .val (.int i3), .val (.int i4), .val (.int (3 : Int32)), .val (.int (i1 &&& (3 : Int32))), .val (.int v5_s0), .val (.ref b7), .val (.ref b18), .val (.ref b31), .val (.ref b46), .unset, .unset, .unset, .unset, .unset] [(.int (1 : Int32))])) t
      refine XS.pop X734.here hx rfl (hb hby at_105) rfl rfl ?_
      refine XS.iload X734.here hx rfl (hb hby at_106) rfl ?_
      refine XS.iconst X734.here hx rfl (hb hby at_108) ?_
      refine XS.icmpNo X734.here hx rfl (hb hby at_109) rfl (tlt (by decide)).2.2.2 ?_
      refine XS.aload X734.here hx rfl (hb hby at_112) rfl rfl ?_
      refine XS.aload X734.here hx rfl (hb hby at_114) rfl rfl ?_
      show Steps p.tables e below (T734.setTop (mkF m 116 #[.val (.int i0), .val (.int i1), .val (.int i2), .val (.int i3), .val (.int i4), .val (.int (3 : Int32)), .val (.int (i1 &&& (3 : Int32))), .val (.int v5_s0), .val (.ref b7), .val (.ref b18), .val (.ref b31), .val (.ref b46), .unset, .unset, .unset, .unset, .unset] [(.ref b7), (.ref b46)])) t
      exact k)
    obtain ⟨cq739, kq739, q739a, q739b, q739c⟩ := isOf hZ rfl F735
    obtain ⟨_, _, ⟨T739, L739, k739, n739⟩, -, X739, ⟨Lc739, hQ739, l739, y739, z739⟩, st739⟩ := X734.virtualBack hx (y := (⟨"java/util/ArrayList", "add", "(Ljava/lang/Object;)Z"⟩ : MethodName)) (z := (⟨"java/util/ArrayList", "add", "(Ljava/lang/Object;)Z"⟩ : MethodName)) hown (mvT hZ (hw _ (List.mem_of_getElem? (i := 51) rfl))) (mvT hZ (hw _ (List.mem_of_getElem? (i := 52) rfl))) (notFace_of_selects (args := #[]) (mvT hZ (hw _ (List.mem_of_getElem? (i := 54) rfl)))) (mvT hZ (hw _ (List.mem_of_getElem? (i := 54) rfl))) (mvT hZ (hw _ (List.mem_of_getElem? (i := 53) rfl))) (by decide) (backOf (W := 0) (rm8n2 l Z a0 hw [] b46 b7 b9_4_3_15_730 k9_4_3_15_730 b7 b18 (((0 : Int32) + (1 : Int32)) + (1 : Int32)) T734.heap n0 (Nat.le_trans Z0 K734.1) F734_3 F734_0 F734_1 F730_4 F737 F734_2 F735 g_b46 (Ne.symm ne_b46_b9_4_3_15_730) g_b9_4_3_15_730) hZ (hw _ (List.mem_of_getElem? (i := 55) rfl)) (hw _ (List.mem_of_getElem? (i := 29) rfl)) (by decide) (by decide)) q739a q739c (g := (mkF m 116 #[.val (.int i0), .val (.int i1), .val (.int i2), .val (.int i3), .val (.int i4), .val (.int (3 : Int32)), .val (.int (i1 &&& (3 : Int32))), .val (.int v5_s0), .val (.ref b7), .val (.ref b18), .val (.ref b31), .val (.ref b46), .unset, .unset, .unset, .unset, .unset] [(.ref b7), (.ref b46)])) rfl (by rw [hml]; rfl) (Steps.refl _) (argsL := [(.ref b7)]) (rest := []) (lenOf pd_12 rfl) rfl (by show 2 * 0 + _ ≤ _; exact Nat.le_of_eq rfl) (hb hby at_116) (fun _ _ => ⟨rfl, rfl, (by decide : 5 + 0 ≤ _), (by decide : 31 + 0 ≤ _)⟩)
    dsimp only [Pt.U, Pt.locs, Pt.cells, Pt.slots] at X739 l739 y739 z739 st739 hQ739
    subst l739 y739 z739
    obtain ⟨rfl, N739q, Kc739, F739_0, F739_1, F739_2, F739_3⟩ := hQ739
    have N739 := Fr.app N734 N739q
    have K739 : Keep h0 T739.heap [] := Keep.trans K734 Kc739 (allS (Or.inr o_b46) (allS (Or.inr o_b9_4_3_15_730) all0))
    have P739 : own_Go p e below S0 (T739.setTop (mkF m 119 #[.val (.int i0), .val (.int i1), .val (.int i2), .val (.int i3), .val (.int i4), .val (.int (3 : Int32)), .val (.int (i1 &&& (3 : Int32))), .val (.int v5_s0), .val (.ref b7), .val (.ref b18), .val (.ref b31), .val (.ref b46), .unset, .unset, .unset, .unset, .unset] [(.int (1 : Int32))])) := fun t k => P738 t (st739.trans k)
    have F740 : Arv Z T730.heap z0_DEFAULTCAPACITY_EMPTY_ELEMENTDATA qk0 (.object "java/lang/Object") (0 : Int32) [] .null := F718.keep Kc730 (ninS ne_z0_DEFAULTCAPACITY_EMPTY_ELEMENTDATA_b46 nin0)
    have F741 : Arv Z T734.heap z0_DEFAULTCAPACITY_EMPTY_ELEMENTDATA qk0 (.object "java/lang/Object") (0 : Int32) [] .null := F740.keep Kc734 (ninS ne_z0_DEFAULTCAPACITY_EMPTY_ELEMENTDATA_b46 (ninS ne_z0_DEFAULTCAPACITY_EMPTY_ELEMENTDATA_b9_4_3_15_730 nin0))
    have F742 : Arv Z T739.heap z0_DEFAULTCAPACITY_EMPTY_ELEMENTDATA qk0 (.object "java/lang/Object") (0 : Int32) [] .null := F741.keep Kc739 (ninS ne_z0_DEFAULTCAPACITY_EMPTY_ELEMENTDATA_b46 (ninS ne_z0_DEFAULTCAPACITY_EMPTY_ELEMENTDATA_b9_4_3_15_730 nin0))
    have F743 : Fld Z T730.heap z0_EMPTY_LIST "java/util/ImmutableCollections$ListN" "elements" "[Ljava/lang/Object;" (.ref qe) := F722.keep Kc730 (ninS ne_z0_EMPTY_LIST_b46 nin0)
    have F744 : Fld Z T734.heap z0_EMPTY_LIST "java/util/ImmutableCollections$ListN" "elements" "[Ljava/lang/Object;" (.ref qe) := F743.keep Kc734 (ninS ne_z0_EMPTY_LIST_b46 (ninS ne_z0_EMPTY_LIST_b9_4_3_15_730 nin0))
    have F745 : Fld Z T739.heap z0_EMPTY_LIST "java/util/ImmutableCollections$ListN" "elements" "[Ljava/lang/Object;" (.ref qe) := F744.keep Kc739 (ninS ne_z0_EMPTY_LIST_b46 (ninS ne_z0_EMPTY_LIST_b9_4_3_15_730 nin0))
    have F746 : Arv Z T730.heap qe qke (.object "java/lang/Object") (0 : Int32) [] .null := F724.keep Kc730 (ninS ne_qe_b46 nin0)
    have F747 : Arv Z T734.heap qe qke (.object "java/lang/Object") (0 : Int32) [] .null := F746.keep Kc734 (ninS ne_qe_b46 (ninS ne_qe_b9_4_3_15_730 nin0))
    have F748 : Arv Z T739.heap qe qke (.object "java/lang/Object") (0 : Int32) [] .null := F747.keep Kc739 (ninS ne_qe_b46 (ninS ne_qe_b9_4_3_15_730 nin0))
    have F749 : Exa Z T739.heap b7 "com/example/penelope/penelope/program/Move" := F737.keep Kc739
    have F750 : Exa Z T734.heap b18 "com/example/penelope/penelope/program/Move" := F732.keep Kc734
    have F751 : Exa Z T739.heap b18 "com/example/penelope/penelope/program/Move" := F750.keep Kc739
    have F752 : Exa Z T730.heap b31 "com/example/penelope/penelope/program/Move" := F728.keep Kc730
    have F753 : Exa Z T734.heap b31 "com/example/penelope/penelope/program/Move" := F752.keep Kc734
    have F754 : Exa Z T739.heap b31 "com/example/penelope/penelope/program/Move" := F753.keep Kc739
    have F755 : Exa Z T739.heap b46 "java/util/ArrayList" := F735.keep Kc739
    have P756 : own_Go p e below S0 (T739.setTop (mkF m 120 #[.val (.int i0), .val (.int i1), .val (.int i2), .val (.int i3), .val (.int i4), .val (.int (3 : Int32)), .val (.int (i1 &&& (3 : Int32))), .val (.int v5_s0), .val (.ref b7), .val (.ref b18), .val (.ref b31), .val (.ref b46), .unset, .unset, .unset, .unset, .unset] [])) := fun t k => P739 t (by
      show Steps p.tables e below (T739.setTop (mkF m 119 #[.val (.int i0), .val (.int i1), .val (.int i2), .val (.int i3), .val (.int i4), .val (.int (3 : Int32)), .val (.int (i1 &&& (3 : Int32))), .val (.int v5_s0), .val (.ref b7), .val (.ref b18), .val (.ref b31), .val (.ref b46), .unset, .unset, .unset, .unset, .unset] [(.int (1 : Int32))])) t
      refine XS.pop X739.here hx rfl (hb hby at_119) rfl rfl ?_
      show Steps p.tables e below (T739.setTop (mkF m 120 #[.val (.int i0), .val (.int i1), .val (.int i2), .val (.int i3), .val (.int i4), .val (.int (3 : Int32)), .val (.int (i1 &&& (3 : Int32))), .val (.int v5_s0), .val (.ref b7), .val (.ref b18), .val (.ref b31), .val (.ref b46), .unset, .unset, .unset, .unset, .unset] [])) t
      exact k)
    obtain ⟨T757, h757, X757, e757, E757, A757, D757, -, st757⟩ := newO X739 hx hZ hown (hw _ (List.mem_of_getElem? (i := 27) rfl)) (hw _ (List.mem_of_getElem? (i := 28) rfl)) (hw _ (List.mem_of_getElem? (i := 29) rfl)) rfl (g := (mkF m 120 #[.val (.int i0), .val (.int i1), .val (.int i2), .val (.int i3), .val (.int i4), .val (.int (3 : Int32)), .val (.int (i1 &&& (3 : Int32))), .val (.int v5_s0), .val (.ref b7), .val (.ref b18), .val (.ref b31), .val (.ref b46), .unset, .unset, .unset, .unset, .unset] [])) rfl (hb hby at_120) (by decide) (by decide)
    obtain ⟨b757, g757⟩ : ∃ z, z = T739.heap.size := ⟨_, rfl⟩
    rw [← g757] at A757 D757 st757
    have sz_b757 : T739.heap.size ≤ b757 := Nat.le_of_eq g757.symm
    have ne_z0_DEFAULTCAPACITY_EMPTY_ELEMENTDATA_b757 : z0_DEFAULTCAPACITY_EMPTY_ELEMENTDATA ≠ b757 := Nat.ne_of_lt (Nat.lt_of_lt_of_le F742.lt sz_b757)
    have ne_z0_EMPTY_LIST_b757 : z0_EMPTY_LIST ≠ b757 := Nat.ne_of_lt (Nat.lt_of_lt_of_le F745.lt sz_b757)
    have ne_qe_b757 : qe ≠ b757 := Nat.ne_of_lt (Nat.lt_of_lt_of_le F748.lt sz_b757)
    have ne_b7_b757 : b7 ≠ b757 := Nat.ne_of_lt (Nat.lt_of_lt_of_le F749.lt sz_b757)
    have ne_b18_b757 : b18 ≠ b757 := Nat.ne_of_lt (Nat.lt_of_lt_of_le F751.lt sz_b757)
    have ne_b31_b757 : b31 ≠ b757 := Nat.ne_of_lt (Nat.lt_of_lt_of_le F754.lt sz_b757)
    have ne_b46_b757 : b46 ≠ b757 := Nat.ne_of_lt (Nat.lt_of_lt_of_le F755.lt sz_b757)
    have ne_b9_4_3_15_730_b757 : b9_4_3_15_730 ≠ b757 := Nat.ne_of_lt (Nat.lt_of_lt_of_le F739_1.lt sz_b757)
    have g_b757 : n0 ≤ b757 := Nat.le_trans (Nat.le_trans Z0 K739.1) sz_b757
    have o_b757 : h0.size ≤ b757 := Nat.le_trans K739.1 sz_b757
    have K757 : Keep h0 h757 [] := K739.ext E757
    have F757_modCount : Fld Z h757 b757 "java/util/AbstractList" "modCount" "I" (.int (0 : Int32)) := D757 (Or.inl (hw _ (List.mem_of_getElem? (i := 47) rfl))) (ty := .int) (by decide)
    have F757_elementData : Fld Z h757 b757 "java/util/ArrayList" "elementData" "[Ljava/lang/Object;" .null := D757 (Or.inl (hw _ (List.mem_of_getElem? (i := 50) rfl))) (ty := (.array (.object "java/lang/Object"))) (by decide)
    have F757_size : Fld Z h757 b757 "java/util/ArrayList" "size" "I" (.int (0 : Int32)) := D757 (Or.inl (hw _ (List.mem_of_getElem? (i := 59) rfl))) (ty := .int) (by decide)
    have P757 : own_Go p e below S0 (T757.setTop (mkF m 123 #[.val (.int i0), .val (.int i1), .val (.int i2), .val (.int i3), .val (.int i4), .val (.int (3 : Int32)), .val (.int (i1 &&& (3 : Int32))), .val (.int v5_s0), .val (.ref b7), .val (.ref b18), .val (.ref b31), .val (.ref b46), .unset, .unset, .unset, .unset, .unset] [(.ref b757)])) := fun t k => P756 t (st757 _ k)
    have F758 : Sta Z T730.heap "java/util/ArrayList" "DEFAULTCAPACITY_EMPTY_ELEMENTDATA" "[Ljava/lang/Object;" (.ref z0_DEFAULTCAPACITY_EMPTY_ELEMENTDATA) := own_staK F716 Kc730 (allS (own_plE F715) all0)
    have F759 : Sta Z T734.heap "java/util/ArrayList" "DEFAULTCAPACITY_EMPTY_ELEMENTDATA" "[Ljava/lang/Object;" (.ref z0_DEFAULTCAPACITY_EMPTY_ELEMENTDATA) := own_staK F758 Kc734 (allS (own_plE F731) (allS (own_plA F730_3) all0))
    have F760 : Sta Z T739.heap "java/util/ArrayList" "DEFAULTCAPACITY_EMPTY_ELEMENTDATA" "[Ljava/lang/Object;" (.ref z0_DEFAULTCAPACITY_EMPTY_ELEMENTDATA) := own_staK F759 Kc739 (allS (own_plE F735) (allS (own_plA F734_1) all0))
    have F761 : Sta Z h757 "java/util/ArrayList" "DEFAULTCAPACITY_EMPTY_ELEMENTDATA" "[Ljava/lang/Object;" (.ref z0_DEFAULTCAPACITY_EMPTY_ELEMENTDATA) := F760.ext E757
    have P762 : own_Go p e below S0 (T757.setTop (mkF m 124 #[.val (.int i0), .val (.int i1), .val (.int i2), .val (.int i3), .val (.int i4), .val (.int (3 : Int32)), .val (.int (i1 &&& (3 : Int32))), .val (.int v5_s0), .val (.ref b7), .val (.ref b18), .val (.ref b31), .val (.ref b46), .unset, .unset, .unset, .unset, .unset] [(.ref b757), (.ref b757)])) := fun t k => P757 t (by
      show Steps p.tables e below (T757.setTop (mkF m 123 #[.val (.int i0), .val (.int i1), .val (.int i2), .val (.int i3), .val (.int i4), .val (.int (3 : Int32)), .val (.int (i1 &&& (3 : Int32))), .val (.int v5_s0), .val (.ref b7), .val (.ref b18), .val (.ref b31), .val (.ref b46), .unset, .unset, .unset, .unset, .unset] [(.ref b757)])) t
      refine XS.dup X757.here hx rfl (hb hby at_123) rfl rfl ?_
      show Steps p.tables e below (T757.setTop (mkF m 124 #[.val (.int i0), .val (.int i1), .val (.int i2), .val (.int i3), .val (.int i4), .val (.int (3 : Int32)), .val (.int (i1 &&& (3 : Int32))), .val (.int v5_s0), .val (.ref b7), .val (.ref b18), .val (.ref b31), .val (.ref b46), .unset, .unset, .unset, .unset, .unset] [(.ref b757), (.ref b757)])) t
      exact k)
    obtain ⟨_, _, ⟨T763, L763, k763, n763⟩, -, X763, ⟨Lc763, hQ763, l763, y763, z763⟩, st763⟩ := X757.specialBack hx (y := (⟨"java/util/ArrayList", "<init>", "()V"⟩ : MethodName)) rfl hown (mvT hZ (hw _ (List.mem_of_getElem? (i := 30) rfl))) (mvT hZ (hw _ (List.mem_of_getElem? (i := 31) rfl))) (mvT hZ (hw _ (List.mem_of_getElem? (i := 32) rfl))) (by decide) (backOf (W := 1) (rm5 l Z a0 hw [] b757 (0 : Int32) (.int (0 : Int32)) z0_DEFAULTCAPACITY_EMPTY_ELEMENTDATA h757 n0 (Nat.le_trans Z0 K757.1) F757_size F757_elementData A757 F757_modCount g_b757 F761) hZ (hw _ (List.mem_of_getElem? (i := 32) rfl)) (hw _ (List.mem_of_getElem? (i := 29) rfl)) (by decide) (by decide)) (g := (mkF m 124 #[.val (.int i0), .val (.int i1), .val (.int i2), .val (.int i3), .val (.int i4), .val (.int (3 : Int32)), .val (.int (i1 &&& (3 : Int32))), .val (.int v5_s0), .val (.ref b7), .val (.ref b18), .val (.ref b31), .val (.ref b46), .unset, .unset, .unset, .unset, .unset] [(.ref b757), (.ref b757)])) rfl (by rw [hml]; rfl) (Steps.refl _) (a := b757) (argsL := []) (rest := [(.ref b757)]) (lenOf pd_1 rfl) rfl (by show 2 * 0 + _ ≤ _; exact Nat.le_of_eq rfl) (hb hby at_124) (fun _ _ => ⟨rfl, e757, (by decide : 6 + 0 ≤ _), (by decide : 34 + 0 ≤ _)⟩)
    dsimp only [Pt.U, Pt.locs, Pt.cells, Pt.slots] at X763 l763 y763 z763 st763 hQ763
    subst l763 y763 z763
    obtain ⟨rfl, N763q, Kc763, F763_0, F763_1, F763_2⟩ := hQ763
    have N763 := Fr.app N739 N763q
    have K763 : Keep h0 T763.heap [] := Keep.trans K757 Kc763 (allS (Or.inr o_b757) all0)
    have P763 : own_Go p e below S0 (T763.setTop (mkF m 127 #[.val (.int i0), .val (.int i1), .val (.int i2), .val (.int i3), .val (.int i4), .val (.int (3 : Int32)), .val (.int (i1 &&& (3 : Int32))), .val (.int v5_s0), .val (.ref b7), .val (.ref b18), .val (.ref b31), .val (.ref b46), .unset, .unset, .unset, .unset, .unset] [(.ref b757)])) := fun t k => P762 t (st763.trans k)
    have F764 : Sta Z T763.heap "java/util/ArrayList" "DEFAULTCAPACITY_EMPTY_ELEMENTDATA" "[Ljava/lang/Object;" (.ref z0_DEFAULTCAPACITY_EMPTY_ELEMENTDATA) := own_staK F761 Kc763 (allS (own_plE A757) all0)
    have F765 : Arv Z h757 z0_DEFAULTCAPACITY_EMPTY_ELEMENTDATA qk0 (.object "java/lang/Object") (0 : Int32) [] .null := F742.ext E757
    have F766 : Arv Z T763.heap z0_DEFAULTCAPACITY_EMPTY_ELEMENTDATA qk0 (.object "java/lang/Object") (0 : Int32) [] .null := F765.keep Kc763 (ninS ne_z0_DEFAULTCAPACITY_EMPTY_ELEMENTDATA_b757 nin0)
    have F767 : Sta Z h7 "java/util/ImmutableCollections" "EMPTY_LIST" "Ljava/util/ImmutableCollections$ListN;" (.ref z0_EMPTY_LIST) := S_EMPTY_LIST.ext E7
    have F768 : Sta Z T9.heap "java/util/ImmutableCollections" "EMPTY_LIST" "Ljava/util/ImmutableCollections$ListN;" (.ref z0_EMPTY_LIST) := own_staK F767 Kc9 (allS (own_plE A7) all0)
    have F769 : Sta Z h18 "java/util/ImmutableCollections" "EMPTY_LIST" "Ljava/util/ImmutableCollections$ListN;" (.ref z0_EMPTY_LIST) := F768.ext E18
    have F770 : Sta Z T20.heap "java/util/ImmutableCollections" "EMPTY_LIST" "Ljava/util/ImmutableCollections$ListN;" (.ref z0_EMPTY_LIST) := own_staK F769 Kc20 (allS (own_plE A18) all0)
    have F771 : Sta Z h31 "java/util/ImmutableCollections" "EMPTY_LIST" "Ljava/util/ImmutableCollections$ListN;" (.ref z0_EMPTY_LIST) := F770.ext E31
    have F772 : Sta Z T33.heap "java/util/ImmutableCollections" "EMPTY_LIST" "Ljava/util/ImmutableCollections$ListN;" (.ref z0_EMPTY_LIST) := own_staK F771 Kc33 (allS (own_plE A31) all0)
    have F773 : Sta Z h46 "java/util/ImmutableCollections" "EMPTY_LIST" "Ljava/util/ImmutableCollections$ListN;" (.ref z0_EMPTY_LIST) := F772.ext E46
    have F774 : Sta Z T55.heap "java/util/ImmutableCollections" "EMPTY_LIST" "Ljava/util/ImmutableCollections$ListN;" (.ref z0_EMPTY_LIST) := own_staK F773 Kc55 (allS (own_plE A46) all0)
    have F775 : Sta Z T730.heap "java/util/ImmutableCollections" "EMPTY_LIST" "Ljava/util/ImmutableCollections$ListN;" (.ref z0_EMPTY_LIST) := own_staK F774 Kc730 (allS (own_plE F715) all0)
    have F776 : Sta Z T734.heap "java/util/ImmutableCollections" "EMPTY_LIST" "Ljava/util/ImmutableCollections$ListN;" (.ref z0_EMPTY_LIST) := own_staK F775 Kc734 (allS (own_plE F731) (allS (own_plA F730_3) all0))
    have F777 : Sta Z T739.heap "java/util/ImmutableCollections" "EMPTY_LIST" "Ljava/util/ImmutableCollections$ListN;" (.ref z0_EMPTY_LIST) := own_staK F776 Kc739 (allS (own_plE F735) (allS (own_plA F734_1) all0))
    have F778 : Sta Z h757 "java/util/ImmutableCollections" "EMPTY_LIST" "Ljava/util/ImmutableCollections$ListN;" (.ref z0_EMPTY_LIST) := F777.ext E757
    have F779 : Sta Z T763.heap "java/util/ImmutableCollections" "EMPTY_LIST" "Ljava/util/ImmutableCollections$ListN;" (.ref z0_EMPTY_LIST) := own_staK F778 Kc763 (allS (own_plE A757) all0)
    have F780 : Fld Z h757 z0_EMPTY_LIST "java/util/ImmutableCollections$ListN" "elements" "[Ljava/lang/Object;" (.ref qe) := F745.ext E757
    have F781 : Fld Z T763.heap z0_EMPTY_LIST "java/util/ImmutableCollections$ListN" "elements" "[Ljava/lang/Object;" (.ref qe) := F780.keep Kc763 (ninS ne_z0_EMPTY_LIST_b757 nin0)
    have F782 : Arv Z h757 qe qke (.object "java/lang/Object") (0 : Int32) [] .null := F748.ext E757
    have F783 : Arv Z T763.heap qe qke (.object "java/lang/Object") (0 : Int32) [] .null := F782.keep Kc763 (ninS ne_qe_b757 nin0)
    have F784 : Exa Z h7 z0_EMPTY_LIST "java/util/ImmutableCollections$ListN" := E_z0_EMPTY_LIST.ext E7
    have F785 : Exa Z T9.heap z0_EMPTY_LIST "java/util/ImmutableCollections$ListN" := F784.keep Kc9
    have F786 : Exa Z h18 z0_EMPTY_LIST "java/util/ImmutableCollections$ListN" := F785.ext E18
    have F787 : Exa Z T20.heap z0_EMPTY_LIST "java/util/ImmutableCollections$ListN" := F786.keep Kc20
    have F788 : Exa Z h31 z0_EMPTY_LIST "java/util/ImmutableCollections$ListN" := F787.ext E31
    have F789 : Exa Z T33.heap z0_EMPTY_LIST "java/util/ImmutableCollections$ListN" := F788.keep Kc33
    have F790 : Exa Z h46 z0_EMPTY_LIST "java/util/ImmutableCollections$ListN" := F789.ext E46
    have F791 : Exa Z T55.heap z0_EMPTY_LIST "java/util/ImmutableCollections$ListN" := F790.keep Kc55
    have F792 : Exa Z T730.heap z0_EMPTY_LIST "java/util/ImmutableCollections$ListN" := F791.keep Kc730
    have F793 : Exa Z T734.heap z0_EMPTY_LIST "java/util/ImmutableCollections$ListN" := F792.keep Kc734
    have F794 : Exa Z T739.heap z0_EMPTY_LIST "java/util/ImmutableCollections$ListN" := F793.keep Kc739
    have F795 : Exa Z h757 z0_EMPTY_LIST "java/util/ImmutableCollections$ListN" := F794.ext E757
    have F796 : Exa Z T763.heap z0_EMPTY_LIST "java/util/ImmutableCollections$ListN" := F795.keep Kc763
    have F797 : Exa Z h757 b46 "java/util/ArrayList" := F755.ext E757
    have F798 : Exa Z T763.heap b46 "java/util/ArrayList" := F797.keep Kc763
    have F799 : Fld Z h757 b46 "java/util/ArrayList" "size" "I" (.int (3 : Int32)) := F739_0.ext E757
    have F800 : Fld Z T763.heap b46 "java/util/ArrayList" "size" "I" (.int (3 : Int32)) := F799.keep Kc763 (ninS ne_b46_b757 nin0)
    have F801 : Arv Z h757 b9_4_3_15_730 k9_4_3_15_730 (.object "java/lang/Object") (10 : Int32) [(.ref b7), (.ref b18), (.ref b7), .null, .null, .null, .null, .null, .null, .null] .null := F739_1.ext E757
    have F802 : Arv Z T763.heap b9_4_3_15_730 k9_4_3_15_730 (.object "java/lang/Object") (10 : Int32) [(.ref b7), (.ref b18), (.ref b7), .null, .null, .null, .null, .null, .null, .null] .null := F801.keep Kc763 (ninS ne_b9_4_3_15_730_b757 nin0)
    have F803 : Fld Z h757 b46 "java/util/AbstractList" "modCount" "I" (.int ((((0 : Int32) + (1 : Int32)) + (1 : Int32)) + (1 : Int32))) := F739_2.ext E757
    have F804 : Fld Z T763.heap b46 "java/util/AbstractList" "modCount" "I" (.int ((((0 : Int32) + (1 : Int32)) + (1 : Int32)) + (1 : Int32))) := F803.keep Kc763 (ninS ne_b46_b757 nin0)
    have F805 : Fld Z h757 b46 "java/util/ArrayList" "elementData" "[Ljava/lang/Object;" (.ref b9_4_3_15_730) := F739_3.ext E757
    have F806 : Fld Z T763.heap b46 "java/util/ArrayList" "elementData" "[Ljava/lang/Object;" (.ref b9_4_3_15_730) := F805.keep Kc763 (ninS ne_b46_b757 nin0)
    have P807 : own_Go p e below S0 (T763.setTop (mkF m 131 #[.val (.int i0), .val (.int i1), .val (.int i2), .val (.int i3), .val (.int i4), .val (.int (3 : Int32)), .val (.int (i1 &&& (3 : Int32))), .val (.int v5_s0), .val (.ref b7), .val (.ref b18), .val (.ref b31), .val (.ref b46), .val (.ref b757), .unset, .unset, .unset, .unset] [(.int (i1 &&& (3 : Int32)))])) := fun t k => P763 t (by
      show Steps p.tables e below (T763.setTop (mkF m 127 #[.val (.int i0), .val (.int i1), .val (.int i2), .val (.int i3), .val (.int i4), .val (.int (3 : Int32)), .val (.int (i1 &&& (3 : Int32))), .val (.int v5_s0), .val (.ref b7), .val (.ref b18), .val (.ref b31), .val (.ref b46), .unset, .unset, .unset, .unset, .unset] [(.ref b757)])) t
      refine XS.astore X763.here hx rfl (hb hby at_127) rfl rfl (l' := #[.val (.int i0), .val (.int i1), .val (.int i2), .val (.int i3), .val (.int i4), .val (.int (3 : Int32)), .val (.int (i1 &&& (3 : Int32))), .val (.int v5_s0), .val (.ref b7), .val (.ref b18), .val (.ref b31), .val (.ref b46), .val (.ref b757), .unset, .unset, .unset, .unset]) rfl ?_
      refine XS.iload X763.here hx rfl (hb hby at_129) rfl ?_
      show Steps p.tables e below (T763.setTop (mkF m 131 #[.val (.int i0), .val (.int i1), .val (.int i2), .val (.int i3), .val (.int i4), .val (.int (3 : Int32)), .val (.int (i1 &&& (3 : Int32))), .val (.int v5_s0), .val (.ref b7), .val (.ref b18), .val (.ref b31), .val (.ref b46), .val (.ref b757), .unset, .unset, .unset, .unset] [(.int (i1 &&& (3 : Int32)))])) t
      exact k)
    obtain ⟨T903, lo903, h903, X903, e903, N903, K903, F904, F905, F906, F907, F908, F909, F910, F911, F912, F913, F914, F915, P903⟩ : ∃ (T903 : State) (lo903 : List Loc) (h903 : Heap), (Stand p l e room_1 s m #[(.int i0), (.int i1), (.int i2), (.int i3), (.int i4)] below meth c T903 lo903 7 44) ∧ (T903.heap = h903) ∧ (Fr n0 lo903) ∧ (Keep h0 h903 []) ∧ (Sta Z h903 "java/util/ArrayList" "DEFAULTCAPACITY_EMPTY_ELEMENTDATA" "[Ljava/lang/Object;" (.ref z0_DEFAULTCAPACITY_EMPTY_ELEMENTDATA)) ∧ (Arv Z h903 z0_DEFAULTCAPACITY_EMPTY_ELEMENTDATA qk0 (.object "java/lang/Object") (0 : Int32) [] .null) ∧ (Sta Z h903 "java/util/ImmutableCollections" "EMPTY_LIST" "Ljava/util/ImmutableCollections$ListN;" (.ref z0_EMPTY_LIST)) ∧ (Fld Z h903 z0_EMPTY_LIST "java/util/ImmutableCollections$ListN" "elements" "[Ljava/lang/Object;" (.ref qe)) ∧ (Arv Z h903 qe qke (.object "java/lang/Object") (0 : Int32) [] .null) ∧ (Exa Z h903 z0_EMPTY_LIST "java/util/ImmutableCollections$ListN") ∧ (Exa Z h903 b46 "java/util/ArrayList") ∧ (Ovr Z k9_4_3_15_730 "java/lang/Object") ∧ (Fld Z h903 b46 "java/util/ArrayList" "size" "I" (.int (3 : Int32))) ∧ (Arv Z h903 b9_4_3_15_730 k9_4_3_15_730 (.object "java/lang/Object") (10 : Int32) [(.ref b7), (.ref b18), (.ref b7), .null, .null, .null, .null, .null, .null, .null] .null) ∧ (Fld Z h903 b46 "java/util/AbstractList" "modCount" "I" (.int ((((0 : Int32) + (1 : Int32)) + (1 : Int32)) + (1 : Int32)))) ∧ (Fld Z h903 b46 "java/util/ArrayList" "elementData" "[Ljava/lang/Object;" (.ref b9_4_3_15_730)) ∧ (own_Go p e below S0 (T903.setTop (mkF m 170 #[.val (.int i0), .val (.int i1), .val (.int i2), .val (.int i3), .val (.int i4), .val (.int (3 : Int32)), .val (.int (i1 &&& (3 : Int32))), .val (.int v5_s0), .val (.ref b7), .val (.ref b18), .val (.ref b31), .val (.ref b46), .val (.ref b757), .unset, .unset, .unset, .unset] []))) := by
      by_cases c808 : (0 : Int32) < (i1 &&& (3 : Int32))
      · skip
        have F809 : Exa Z T763.heap b757 "java/util/ArrayList" := A757.keep Kc763
        have F810 : Exa Z h757 b31 "com/example/penelope/penelope/program/Move" := F754.ext E757
        have F811 : Exa Z T763.heap b31 "com/example/penelope/penelope/program/Move" := F810.keep Kc763
        have F812 : Exa Z h757 b7 "com/example/penelope/penelope/program/Move" := F749.ext E757
        have F813 : Exa Z T763.heap b7 "com/example/penelope/penelope/program/Move" := F812.keep Kc763
        have F814 : Exa Z h757 b18 "com/example/penelope/penelope/program/Move" := F751.ext E757
        have F815 : Exa Z T763.heap b18 "com/example/penelope/penelope/program/Move" := F814.keep Kc763
        have P816 : own_Go p e below S0 (T763.setTop (mkF m 138 #[.val (.int i0), .val (.int i1), .val (.int i2), .val (.int i3), .val (.int i4), .val (.int (3 : Int32)), .val (.int (i1 &&& (3 : Int32))), .val (.int v5_s0), .val (.ref b7), .val (.ref b18), .val (.ref b31), .val (.ref b46), .val (.ref b757), .unset, .unset, .unset, .unset] [(.ref b31), (.ref b757)])) := fun t k => P807 t (by
          show Steps p.tables e below (T763.setTop (mkF m 131 #[.val (.int i0), .val (.int i1), .val (.int i2), .val (.int i3), .val (.int i4), .val (.int (3 : Int32)), .val (.int (i1 &&& (3 : Int32))), .val (.int v5_s0), .val (.ref b7), .val (.ref b18), .val (.ref b31), .val (.ref b46), .val (.ref b757), .unset, .unset, .unset, .unset] [(.int (i1 &&& (3 : Int32)))])) t
          refine XS.ifNo X763.here hx rfl (hb hby at_131) rfl ((if0 _ _).trans (tlt c808).2.2.2) ?_
          refine XS.aload X763.here hx rfl (hb hby at_134) rfl rfl ?_
          refine XS.aload X763.here hx rfl (hb hby at_136) rfl rfl ?_
          show Steps p.tables e below (T763.setTop (mkF m 138 #[.val (.int i0), .val (.int i1), .val (.int i2), .val (.int i3), .val (.int i4), .val (.int (3 : Int32)), .val (.int (i1 &&& (3 : Int32))), .val (.int v5_s0), .val (.ref b7), .val (.ref b18), .val (.ref b31), .val (.ref b46), .val (.ref b757), .unset, .unset, .unset, .unset] [(.ref b31), (.ref b757)])) t
          exact k)
        obtain ⟨cq817, kq817, q817a, q817b, q817c⟩ := isOf hZ rfl F809
        obtain ⟨_, _, ⟨T817, L817, k817, n817⟩, -, X817, ⟨Lc817, hQ817, l817, y817, z817⟩, st817⟩ := X763.virtualBack hx (y := (⟨"java/util/ArrayList", "add", "(Ljava/lang/Object;)Z"⟩ : MethodName)) (z := (⟨"java/util/ArrayList", "add", "(Ljava/lang/Object;)Z"⟩ : MethodName)) hown (mvT hZ (hw _ (List.mem_of_getElem? (i := 51) rfl))) (mvT hZ (hw _ (List.mem_of_getElem? (i := 52) rfl))) (notFace_of_selects (args := #[]) (mvT hZ (hw _ (List.mem_of_getElem? (i := 54) rfl)))) (mvT hZ (hw _ (List.mem_of_getElem? (i := 54) rfl))) (mvT hZ (hw _ (List.mem_of_getElem? (i := 53) rfl))) (by decide) (backOf (W := 0) (rm8e l Z a0 hw [] b757 b31 z0_DEFAULTCAPACITY_EMPTY_ELEMENTDATA qk0 (0 : Int32) T763.heap n0 (Nat.le_trans Z0 K763.1) F763_0 F763_1 F764 F766 F811 F763_2 F809 g_b757 ne_z0_DEFAULTCAPACITY_EMPTY_ELEMENTDATA_b757) hZ (hw _ (List.mem_of_getElem? (i := 55) rfl)) (hw _ (List.mem_of_getElem? (i := 29) rfl)) (by decide) (by decide)) q817a q817c (g := (mkF m 138 #[.val (.int i0), .val (.int i1), .val (.int i2), .val (.int i3), .val (.int i4), .val (.int (3 : Int32)), .val (.int (i1 &&& (3 : Int32))), .val (.int v5_s0), .val (.ref b7), .val (.ref b18), .val (.ref b31), .val (.ref b46), .val (.ref b757), .unset, .unset, .unset, .unset] [(.ref b31), (.ref b757)])) rfl (by rw [hml]; rfl) (Steps.refl _) (argsL := [(.ref b31)]) (rest := []) (lenOf pd_12 rfl) rfl (by show 2 * 0 + _ ≤ _; exact Nat.le_of_eq rfl) (hb hby at_138) (fun _ _ => ⟨rfl, rfl, (by decide : 6 + 1 ≤ _), (by decide : 34 + 10 ≤ _)⟩)
        dsimp only [Pt.U, Pt.locs, Pt.cells, Pt.slots] at X817 l817 y817 z817 st817 hQ817
        subst l817 y817 z817
        obtain ⟨b9_4_3_15_817, k9_4_3_15_817, rfl, N817q, Kc817, sz_b9_4_3_15_817, F817_0, F817_1, F817_2, F817_3, F817_4⟩ := hQ817
        have N817 := Fr.app N763 N817q
        have ne_z0_DEFAULTCAPACITY_EMPTY_ELEMENTDATA_b9_4_3_15_817 : z0_DEFAULTCAPACITY_EMPTY_ELEMENTDATA ≠ b9_4_3_15_817 := Nat.ne_of_lt (Nat.lt_of_lt_of_le F766.lt sz_b9_4_3_15_817)
        have ne_z0_EMPTY_LIST_b9_4_3_15_817 : z0_EMPTY_LIST ≠ b9_4_3_15_817 := Nat.ne_of_lt (Nat.lt_of_lt_of_le F781.lt sz_b9_4_3_15_817)
        have ne_qe_b9_4_3_15_817 : qe ≠ b9_4_3_15_817 := Nat.ne_of_lt (Nat.lt_of_lt_of_le F783.lt sz_b9_4_3_15_817)
        have ne_b7_b9_4_3_15_817 : b7 ≠ b9_4_3_15_817 := Nat.ne_of_lt (Nat.lt_of_lt_of_le F813.lt sz_b9_4_3_15_817)
        have ne_b18_b9_4_3_15_817 : b18 ≠ b9_4_3_15_817 := Nat.ne_of_lt (Nat.lt_of_lt_of_le F815.lt sz_b9_4_3_15_817)
        have ne_b31_b9_4_3_15_817 : b31 ≠ b9_4_3_15_817 := Nat.ne_of_lt (Nat.lt_of_lt_of_le F811.lt sz_b9_4_3_15_817)
        have ne_b46_b9_4_3_15_817 : b46 ≠ b9_4_3_15_817 := Nat.ne_of_lt (Nat.lt_of_lt_of_le F798.lt sz_b9_4_3_15_817)
        have ne_b9_4_3_15_730_b9_4_3_15_817 : b9_4_3_15_730 ≠ b9_4_3_15_817 := Nat.ne_of_lt (Nat.lt_of_lt_of_le F802.lt sz_b9_4_3_15_817)
        have ne_b757_b9_4_3_15_817 : b757 ≠ b9_4_3_15_817 := Nat.ne_of_lt (Nat.lt_of_lt_of_le F809.lt sz_b9_4_3_15_817)
        have g_b9_4_3_15_817 : n0 ≤ b9_4_3_15_817 := Nat.le_trans (Nat.le_trans Z0 K763.1) sz_b9_4_3_15_817
        have o_b9_4_3_15_817 : h0.size ≤ b9_4_3_15_817 := Nat.le_trans K763.1 sz_b9_4_3_15_817
        have K817 : Keep h0 T817.heap [] := Keep.trans K763 Kc817 (allS (Or.inr o_b757) all0)
        have P817 : own_Go p e below S0 (T817.setTop (mkF m 141 #[.val (.int i0), .val (.int i1), .val (.int i2), .val (.int i3), .val (.int i4), .val (.int (3 : Int32)), .val (.int (i1 &&& (3 : Int32))), .val (.int v5_s0), .val (.ref b7), .val (.ref b18), .val (.ref b31), .val (.ref b46), .val (.ref b757), .unset, .unset, .unset, .unset] [(.int (1 : Int32))])) := fun t k => P816 t (st817.trans k)
        have P818 : own_Go p e below S0 (T817.setTop (mkF m 145 #[.val (.int i0), .val (.int i1), .val (.int i2), .val (.int i3), .val (.int i4), .val (.int (3 : Int32)), .val (.int (i1 &&& (3 : Int32))), .val (.int v5_s0), .val (.ref b7), .val (.ref b18), .val (.ref b31), .val (.ref b46), .val (.ref b757), .unset, .unset, .unset, .unset] [(.int (1 : Int32)), (.int (i1 &&& (3 : Int32)))])) := fun t k => P817 t (by
          show Steps p.tables e below (T817.setTop (mkF m 141 #[.val (.int i0), .val (.int i1), .val (.int i2), .val (.int i3), .val (.int i4), .val (.int (3 : Int32)), .val (.int (i1 &&& (3 : Int32))), .val (.int v5_s0), .val (.ref b7), .val (.ref b18), .val (.ref b31), .val (.ref b46), .val (.ref b757), .unset, .unset, .unset, .unset] [(.int (1 : Int32))])) t
          refine XS.pop X817.here hx rfl (hb hby at_141) rfl rfl ?_
          refine XS.iload X817.here hx rfl (hb hby at_142) rfl ?_
          refine XS.iconst X817.here hx rfl (hb hby at_144) ?_
          show Steps p.tables e below (T817.setTop (mkF m 145 #[.val (.int i0), .val (.int i1), .val (.int i2), .val (.int i3), .val (.int i4), .val (.int (3 : Int32)), .val (.int (i1 &&& (3 : Int32))), .val (.int v5_s0), .val (.ref b7), .val (.ref b18), .val (.ref b31), .val (.ref b46), .val (.ref b757), .unset, .unset, .unset, .unset] [(.int (1 : Int32)), (.int (i1 &&& (3 : Int32)))])) t
          exact k)
        by_cases c819 : (1 : Int32) < (i1 &&& (3 : Int32))
        · skip
          have F820 : Exa Z T817.heap b757 "java/util/ArrayList" := F809.keep Kc817
          have F821 : Exa Z T817.heap b31 "com/example/penelope/penelope/program/Move" := F811.keep Kc817
          have P822 : own_Go p e below S0 (T817.setTop (mkF m 152 #[.val (.int i0), .val (.int i1), .val (.int i2), .val (.int i3), .val (.int i4), .val (.int (3 : Int32)), .val (.int (i1 &&& (3 : Int32))), .val (.int v5_s0), .val (.ref b7), .val (.ref b18), .val (.ref b31), .val (.ref b46), .val (.ref b757), .unset, .unset, .unset, .unset] [(.ref b31), (.ref b757)])) := fun t k => P818 t (by
            show Steps p.tables e below (T817.setTop (mkF m 145 #[.val (.int i0), .val (.int i1), .val (.int i2), .val (.int i3), .val (.int i4), .val (.int (3 : Int32)), .val (.int (i1 &&& (3 : Int32))), .val (.int v5_s0), .val (.ref b7), .val (.ref b18), .val (.ref b31), .val (.ref b46), .val (.ref b757), .unset, .unset, .unset, .unset] [(.int (1 : Int32)), (.int (i1 &&& (3 : Int32)))])) t
            refine XS.icmpNo X817.here hx rfl (hb hby at_145) rfl (tlt c819).2.2.2 ?_
            refine XS.aload X817.here hx rfl (hb hby at_148) rfl rfl ?_
            refine XS.aload X817.here hx rfl (hb hby at_150) rfl rfl ?_
            show Steps p.tables e below (T817.setTop (mkF m 152 #[.val (.int i0), .val (.int i1), .val (.int i2), .val (.int i3), .val (.int i4), .val (.int (3 : Int32)), .val (.int (i1 &&& (3 : Int32))), .val (.int v5_s0), .val (.ref b7), .val (.ref b18), .val (.ref b31), .val (.ref b46), .val (.ref b757), .unset, .unset, .unset, .unset] [(.ref b31), (.ref b757)])) t
            exact k)
          obtain ⟨cq823, kq823, q823a, q823b, q823c⟩ := isOf hZ rfl F820
          obtain ⟨_, _, ⟨T823, L823, k823, n823⟩, -, X823, ⟨Lc823, hQ823, l823, y823, z823⟩, st823⟩ := X817.virtualBack hx (y := (⟨"java/util/ArrayList", "add", "(Ljava/lang/Object;)Z"⟩ : MethodName)) (z := (⟨"java/util/ArrayList", "add", "(Ljava/lang/Object;)Z"⟩ : MethodName)) hown (mvT hZ (hw _ (List.mem_of_getElem? (i := 51) rfl))) (mvT hZ (hw _ (List.mem_of_getElem? (i := 52) rfl))) (notFace_of_selects (args := #[]) (mvT hZ (hw _ (List.mem_of_getElem? (i := 54) rfl)))) (mvT hZ (hw _ (List.mem_of_getElem? (i := 54) rfl))) (mvT hZ (hw _ (List.mem_of_getElem? (i := 53) rfl))) (by decide) (backOf (W := 0) (rm8n1 l Z a0 hw [] b757 b31 b9_4_3_15_817 k9_4_3_15_817 b31 ((0 : Int32) + (1 : Int32)) T817.heap n0 (Nat.le_trans Z0 K817.1) F817_0 F817_1 F817_3 F817_4 F821 F817_2 F820 g_b757 (Ne.symm ne_b757_b9_4_3_15_817) g_b9_4_3_15_817) hZ (hw _ (List.mem_of_getElem? (i := 55) rfl)) (hw _ (List.mem_of_getElem? (i := 29) rfl)) (by decide) (by decide)) q823a q823c (g := (mkF m 152 #[.val (.int i0), .val (.int i1), .val (.int i2), .val (.int i3), .val (.int i4), .val (.int (3 : Int32)), .val (.int (i1 &&& (3 : Int32))), .val (.int v5_s0), .val (.ref b7), .val (.ref b18), .val (.ref b31), .val (.ref b46), .val (.ref b757), .unset, .unset, .unset, .unset] [(.ref b31), (.ref b757)])) rfl (by rw [hml]; rfl) (Steps.refl _) (argsL := [(.ref b31)]) (rest := []) (lenOf pd_12 rfl) rfl (by show 2 * 0 + _ ≤ _; exact Nat.le_of_eq rfl) (hb hby at_152) (fun _ _ => ⟨rfl, rfl, (by decide : 7 + 0 ≤ _), (by decide : 44 + 0 ≤ _)⟩)
          dsimp only [Pt.U, Pt.locs, Pt.cells, Pt.slots] at X823 l823 y823 z823 st823 hQ823
          subst l823 y823 z823
          obtain ⟨rfl, N823q, Kc823, F823_0, F823_1, F823_2, F823_3⟩ := hQ823
          have N823 := Fr.app N817 N823q
          have K823 : Keep h0 T823.heap [] := Keep.trans K817 Kc823 (allS (Or.inr o_b757) (allS (Or.inr o_b9_4_3_15_817) all0))
          have P823 : own_Go p e below S0 (T823.setTop (mkF m 155 #[.val (.int i0), .val (.int i1), .val (.int i2), .val (.int i3), .val (.int i4), .val (.int (3 : Int32)), .val (.int (i1 &&& (3 : Int32))), .val (.int v5_s0), .val (.ref b7), .val (.ref b18), .val (.ref b31), .val (.ref b46), .val (.ref b757), .unset, .unset, .unset, .unset] [(.int (1 : Int32))])) := fun t k => P822 t (st823.trans k)
          have P824 : own_Go p e below S0 (T823.setTop (mkF m 159 #[.val (.int i0), .val (.int i1), .val (.int i2), .val (.int i3), .val (.int i4), .val (.int (3 : Int32)), .val (.int (i1 &&& (3 : Int32))), .val (.int v5_s0), .val (.ref b7), .val (.ref b18), .val (.ref b31), .val (.ref b46), .val (.ref b757), .unset, .unset, .unset, .unset] [(.int (2 : Int32)), (.int (i1 &&& (3 : Int32)))])) := fun t k => P823 t (by
            show Steps p.tables e below (T823.setTop (mkF m 155 #[.val (.int i0), .val (.int i1), .val (.int i2), .val (.int i3), .val (.int i4), .val (.int (3 : Int32)), .val (.int (i1 &&& (3 : Int32))), .val (.int v5_s0), .val (.ref b7), .val (.ref b18), .val (.ref b31), .val (.ref b46), .val (.ref b757), .unset, .unset, .unset, .unset] [(.int (1 : Int32))])) t
            refine XS.pop X823.here hx rfl (hb hby at_155) rfl rfl ?_
            refine XS.iload X823.here hx rfl (hb hby at_156) rfl ?_
            refine XS.iconst X823.here hx rfl (hb hby at_158) ?_
            show Steps p.tables e below (T823.setTop (mkF m 159 #[.val (.int i0), .val (.int i1), .val (.int i2), .val (.int i3), .val (.int i4), .val (.int (3 : Int32)), .val (.int (i1 &&& (3 : Int32))), .val (.int v5_s0), .val (.ref b7), .val (.ref b18), .val (.ref b31), .val (.ref b46), .val (.ref b757), .unset, .unset, .unset, .unset] [(.int (2 : Int32)), (.int (i1 &&& (3 : Int32)))])) t
            exact k)
          by_cases c825 : (2 : Int32) < (i1 &&& (3 : Int32))
          · skip
            have F826 : Exa Z T823.heap b757 "java/util/ArrayList" := F820.keep Kc823
            have F827 : Exa Z T823.heap b31 "com/example/penelope/penelope/program/Move" := F821.keep Kc823
            have P828 : own_Go p e below S0 (T823.setTop (mkF m 166 #[.val (.int i0), .val (.int i1), .val (.int i2), .val (.int i3), .val (.int i4), .val (.int (3 : Int32)), .val (.int (i1 &&& (3 : Int32))), .val (.int v5_s0), .val (.ref b7), .val (.ref b18), .val (.ref b31), .val (.ref b46), .val (.ref b757), .unset, .unset, .unset, .unset] [(.ref b31), (.ref b757)])) := fun t k => P824 t (by
              show Steps p.tables e below (T823.setTop (mkF m 159 #[.val (.int i0), .val (.int i1), .val (.int i2), .val (.int i3), .val (.int i4), .val (.int (3 : Int32)), .val (.int (i1 &&& (3 : Int32))), .val (.int v5_s0), .val (.ref b7), .val (.ref b18), .val (.ref b31), .val (.ref b46), .val (.ref b757), .unset, .unset, .unset, .unset] [(.int (2 : Int32)), (.int (i1 &&& (3 : Int32)))])) t
              refine XS.icmpNo X823.here hx rfl (hb hby at_159) rfl (tlt c825).2.2.2 ?_
              refine XS.aload X823.here hx rfl (hb hby at_162) rfl rfl ?_
              refine XS.aload X823.here hx rfl (hb hby at_164) rfl rfl ?_
              show Steps p.tables e below (T823.setTop (mkF m 166 #[.val (.int i0), .val (.int i1), .val (.int i2), .val (.int i3), .val (.int i4), .val (.int (3 : Int32)), .val (.int (i1 &&& (3 : Int32))), .val (.int v5_s0), .val (.ref b7), .val (.ref b18), .val (.ref b31), .val (.ref b46), .val (.ref b757), .unset, .unset, .unset, .unset] [(.ref b31), (.ref b757)])) t
              exact k)
            obtain ⟨cq829, kq829, q829a, q829b, q829c⟩ := isOf hZ rfl F826
            obtain ⟨_, _, ⟨T829, L829, k829, n829⟩, -, X829, ⟨Lc829, hQ829, l829, y829, z829⟩, st829⟩ := X823.virtualBack hx (y := (⟨"java/util/ArrayList", "add", "(Ljava/lang/Object;)Z"⟩ : MethodName)) (z := (⟨"java/util/ArrayList", "add", "(Ljava/lang/Object;)Z"⟩ : MethodName)) hown (mvT hZ (hw _ (List.mem_of_getElem? (i := 51) rfl))) (mvT hZ (hw _ (List.mem_of_getElem? (i := 52) rfl))) (notFace_of_selects (args := #[]) (mvT hZ (hw _ (List.mem_of_getElem? (i := 54) rfl)))) (mvT hZ (hw _ (List.mem_of_getElem? (i := 54) rfl))) (mvT hZ (hw _ (List.mem_of_getElem? (i := 53) rfl))) (by decide) (backOf (W := 0) (rm8n2 l Z a0 hw [] b757 b31 b9_4_3_15_817 k9_4_3_15_817 b31 b31 (((0 : Int32) + (1 : Int32)) + (1 : Int32)) T823.heap n0 (Nat.le_trans Z0 K823.1) F823_3 F823_0 F823_1 F817_4 F827 F823_2 F826 g_b757 (Ne.symm ne_b757_b9_4_3_15_817) g_b9_4_3_15_817) hZ (hw _ (List.mem_of_getElem? (i := 55) rfl)) (hw _ (List.mem_of_getElem? (i := 29) rfl)) (by decide) (by decide)) q829a q829c (g := (mkF m 166 #[.val (.int i0), .val (.int i1), .val (.int i2), .val (.int i3), .val (.int i4), .val (.int (3 : Int32)), .val (.int (i1 &&& (3 : Int32))), .val (.int v5_s0), .val (.ref b7), .val (.ref b18), .val (.ref b31), .val (.ref b46), .val (.ref b757), .unset, .unset, .unset, .unset] [(.ref b31), (.ref b757)])) rfl (by rw [hml]; rfl) (Steps.refl _) (argsL := [(.ref b31)]) (rest := []) (lenOf pd_12 rfl) rfl (by show 2 * 0 + _ ≤ _; exact Nat.le_of_eq rfl) (hb hby at_166) (fun _ _ => ⟨rfl, rfl, (by decide : 7 + 0 ≤ _), (by decide : 44 + 0 ≤ _)⟩)
            dsimp only [Pt.U, Pt.locs, Pt.cells, Pt.slots] at X829 l829 y829 z829 st829 hQ829
            subst l829 y829 z829
            obtain ⟨rfl, N829q, Kc829, F829_0, F829_1, F829_2, F829_3⟩ := hQ829
            have N829 := Fr.app N823 N829q
            have K829 : Keep h0 T829.heap [] := Keep.trans K823 Kc829 (allS (Or.inr o_b757) (allS (Or.inr o_b9_4_3_15_817) all0))
            have P829 : own_Go p e below S0 (T829.setTop (mkF m 169 #[.val (.int i0), .val (.int i1), .val (.int i2), .val (.int i3), .val (.int i4), .val (.int (3 : Int32)), .val (.int (i1 &&& (3 : Int32))), .val (.int v5_s0), .val (.ref b7), .val (.ref b18), .val (.ref b31), .val (.ref b46), .val (.ref b757), .unset, .unset, .unset, .unset] [(.int (1 : Int32))])) := fun t k => P828 t (st829.trans k)
            have P830 : own_Go p e below S0 (T829.setTop (mkF m 170 #[.val (.int i0), .val (.int i1), .val (.int i2), .val (.int i3), .val (.int i4), .val (.int (3 : Int32)), .val (.int (i1 &&& (3 : Int32))), .val (.int v5_s0), .val (.ref b7), .val (.ref b18), .val (.ref b31), .val (.ref b46), .val (.ref b757), .unset, .unset, .unset, .unset] [])) := fun t k => P829 t (by
              show Steps p.tables e below (T829.setTop (mkF m 169 #[.val (.int i0), .val (.int i1), .val (.int i2), .val (.int i3), .val (.int i4), .val (.int (3 : Int32)), .val (.int (i1 &&& (3 : Int32))), .val (.int v5_s0), .val (.ref b7), .val (.ref b18), .val (.ref b31), .val (.ref b46), .val (.ref b757), .unset, .unset, .unset, .unset] [(.int (1 : Int32))])) t
              refine XS.pop X829.here hx rfl (hb hby at_169) rfl rfl ?_
              show Steps p.tables e below (T829.setTop (mkF m 170 #[.val (.int i0), .val (.int i1), .val (.int i2), .val (.int i3), .val (.int i4), .val (.int (3 : Int32)), .val (.int (i1 &&& (3 : Int32))), .val (.int v5_s0), .val (.ref b7), .val (.ref b18), .val (.ref b31), .val (.ref b46), .val (.ref b757), .unset, .unset, .unset, .unset] [])) t
              exact k)
            have F831 : Sta Z T817.heap "java/util/ArrayList" "DEFAULTCAPACITY_EMPTY_ELEMENTDATA" "[Ljava/lang/Object;" (.ref z0_DEFAULTCAPACITY_EMPTY_ELEMENTDATA) := own_staK F764 Kc817 (allS (own_plE F809) all0)
            have F832 : Sta Z T823.heap "java/util/ArrayList" "DEFAULTCAPACITY_EMPTY_ELEMENTDATA" "[Ljava/lang/Object;" (.ref z0_DEFAULTCAPACITY_EMPTY_ELEMENTDATA) := own_staK F831 Kc823 (allS (own_plE F820) (allS (own_plA F817_3) all0))
            have F833 : Sta Z T829.heap "java/util/ArrayList" "DEFAULTCAPACITY_EMPTY_ELEMENTDATA" "[Ljava/lang/Object;" (.ref z0_DEFAULTCAPACITY_EMPTY_ELEMENTDATA) := own_staK F832 Kc829 (allS (own_plE F826) (allS (own_plA F823_1) all0))
            have F834 : Arv Z T817.heap z0_DEFAULTCAPACITY_EMPTY_ELEMENTDATA qk0 (.object "java/lang/Object") (0 : Int32) [] .null := F766.keep Kc817 (ninS ne_z0_DEFAULTCAPACITY_EMPTY_ELEMENTDATA_b757 nin0)
            have F835 : Arv Z T823.heap z0_DEFAULTCAPACITY_EMPTY_ELEMENTDATA qk0 (.object "java/lang/Object") (0 : Int32) [] .null := F834.keep Kc823 (ninS ne_z0_DEFAULTCAPACITY_EMPTY_ELEMENTDATA_b757 (ninS ne_z0_DEFAULTCAPACITY_EMPTY_ELEMENTDATA_b9_4_3_15_817 nin0))
            have F836 : Arv Z T829.heap z0_DEFAULTCAPACITY_EMPTY_ELEMENTDATA qk0 (.object "java/lang/Object") (0 : Int32) [] .null := F835.keep Kc829 (ninS ne_z0_DEFAULTCAPACITY_EMPTY_ELEMENTDATA_b757 (ninS ne_z0_DEFAULTCAPACITY_EMPTY_ELEMENTDATA_b9_4_3_15_817 nin0))
            have F837 : Sta Z T817.heap "java/util/ImmutableCollections" "EMPTY_LIST" "Ljava/util/ImmutableCollections$ListN;" (.ref z0_EMPTY_LIST) := own_staK F779 Kc817 (allS (own_plE F809) all0)
            have F838 : Sta Z T823.heap "java/util/ImmutableCollections" "EMPTY_LIST" "Ljava/util/ImmutableCollections$ListN;" (.ref z0_EMPTY_LIST) := own_staK F837 Kc823 (allS (own_plE F820) (allS (own_plA F817_3) all0))
            have F839 : Sta Z T829.heap "java/util/ImmutableCollections" "EMPTY_LIST" "Ljava/util/ImmutableCollections$ListN;" (.ref z0_EMPTY_LIST) := own_staK F838 Kc829 (allS (own_plE F826) (allS (own_plA F823_1) all0))
            have F840 : Fld Z T817.heap z0_EMPTY_LIST "java/util/ImmutableCollections$ListN" "elements" "[Ljava/lang/Object;" (.ref qe) := F781.keep Kc817 (ninS ne_z0_EMPTY_LIST_b757 nin0)
            have F841 : Fld Z T823.heap z0_EMPTY_LIST "java/util/ImmutableCollections$ListN" "elements" "[Ljava/lang/Object;" (.ref qe) := F840.keep Kc823 (ninS ne_z0_EMPTY_LIST_b757 (ninS ne_z0_EMPTY_LIST_b9_4_3_15_817 nin0))
            have F842 : Fld Z T829.heap z0_EMPTY_LIST "java/util/ImmutableCollections$ListN" "elements" "[Ljava/lang/Object;" (.ref qe) := F841.keep Kc829 (ninS ne_z0_EMPTY_LIST_b757 (ninS ne_z0_EMPTY_LIST_b9_4_3_15_817 nin0))
            have F843 : Arv Z T817.heap qe qke (.object "java/lang/Object") (0 : Int32) [] .null := F783.keep Kc817 (ninS ne_qe_b757 nin0)
            have F844 : Arv Z T823.heap qe qke (.object "java/lang/Object") (0 : Int32) [] .null := F843.keep Kc823 (ninS ne_qe_b757 (ninS ne_qe_b9_4_3_15_817 nin0))
            have F845 : Arv Z T829.heap qe qke (.object "java/lang/Object") (0 : Int32) [] .null := F844.keep Kc829 (ninS ne_qe_b757 (ninS ne_qe_b9_4_3_15_817 nin0))
            have F846 : Exa Z T817.heap z0_EMPTY_LIST "java/util/ImmutableCollections$ListN" := F796.keep Kc817
            have F847 : Exa Z T823.heap z0_EMPTY_LIST "java/util/ImmutableCollections$ListN" := F846.keep Kc823
            have F848 : Exa Z T829.heap z0_EMPTY_LIST "java/util/ImmutableCollections$ListN" := F847.keep Kc829
            have F849 : Exa Z T817.heap b46 "java/util/ArrayList" := F798.keep Kc817
            have F850 : Exa Z T823.heap b46 "java/util/ArrayList" := F849.keep Kc823
            have F851 : Exa Z T829.heap b46 "java/util/ArrayList" := F850.keep Kc829
            have F852 : Fld Z T817.heap b46 "java/util/ArrayList" "size" "I" (.int (3 : Int32)) := F800.keep Kc817 (ninS ne_b46_b757 nin0)
            have F853 : Fld Z T823.heap b46 "java/util/ArrayList" "size" "I" (.int (3 : Int32)) := F852.keep Kc823 (ninS ne_b46_b757 (ninS ne_b46_b9_4_3_15_817 nin0))
            have F854 : Fld Z T829.heap b46 "java/util/ArrayList" "size" "I" (.int (3 : Int32)) := F853.keep Kc829 (ninS ne_b46_b757 (ninS ne_b46_b9_4_3_15_817 nin0))
            have F855 : Arv Z T817.heap b9_4_3_15_730 k9_4_3_15_730 (.object "java/lang/Object") (10 : Int32) [(.ref b7), (.ref b18), (.ref b7), .null, .null, .null, .null, .null, .null, .null] .null := F802.keep Kc817 (ninS ne_b9_4_3_15_730_b757 nin0)
            have F856 : Arv Z T823.heap b9_4_3_15_730 k9_4_3_15_730 (.object "java/lang/Object") (10 : Int32) [(.ref b7), (.ref b18), (.ref b7), .null, .null, .null, .null, .null, .null, .null] .null := F855.keep Kc823 (ninS ne_b9_4_3_15_730_b757 (ninS ne_b9_4_3_15_730_b9_4_3_15_817 nin0))
            have F857 : Arv Z T829.heap b9_4_3_15_730 k9_4_3_15_730 (.object "java/lang/Object") (10 : Int32) [(.ref b7), (.ref b18), (.ref b7), .null, .null, .null, .null, .null, .null, .null] .null := F856.keep Kc829 (ninS ne_b9_4_3_15_730_b757 (ninS ne_b9_4_3_15_730_b9_4_3_15_817 nin0))
            have F858 : Fld Z T817.heap b46 "java/util/AbstractList" "modCount" "I" (.int ((((0 : Int32) + (1 : Int32)) + (1 : Int32)) + (1 : Int32))) := F804.keep Kc817 (ninS ne_b46_b757 nin0)
            have F859 : Fld Z T823.heap b46 "java/util/AbstractList" "modCount" "I" (.int ((((0 : Int32) + (1 : Int32)) + (1 : Int32)) + (1 : Int32))) := F858.keep Kc823 (ninS ne_b46_b757 (ninS ne_b46_b9_4_3_15_817 nin0))
            have F860 : Fld Z T829.heap b46 "java/util/AbstractList" "modCount" "I" (.int ((((0 : Int32) + (1 : Int32)) + (1 : Int32)) + (1 : Int32))) := F859.keep Kc829 (ninS ne_b46_b757 (ninS ne_b46_b9_4_3_15_817 nin0))
            have F861 : Fld Z T817.heap b46 "java/util/ArrayList" "elementData" "[Ljava/lang/Object;" (.ref b9_4_3_15_730) := F806.keep Kc817 (ninS ne_b46_b757 nin0)
            have F862 : Fld Z T823.heap b46 "java/util/ArrayList" "elementData" "[Ljava/lang/Object;" (.ref b9_4_3_15_730) := F861.keep Kc823 (ninS ne_b46_b757 (ninS ne_b46_b9_4_3_15_817 nin0))
            have F863 : Fld Z T829.heap b46 "java/util/ArrayList" "elementData" "[Ljava/lang/Object;" (.ref b9_4_3_15_730) := F862.keep Kc829 (ninS ne_b46_b757 (ninS ne_b46_b9_4_3_15_817 nin0))
            exact ⟨T829, _, T829.heap, X829, rfl, N829, K829, F833, F836, F839, F842, F845, F848, F851, F730_4, F854, F857, F860, F863, P830⟩
          · skip
            have P864 : own_Go p e below S0 (T823.setTop (mkF m 170 #[.val (.int i0), .val (.int i1), .val (.int i2), .val (.int i3), .val (.int i4), .val (.int (3 : Int32)), .val (.int (i1 &&& (3 : Int32))), .val (.int v5_s0), .val (.ref b7), .val (.ref b18), .val (.ref b31), .val (.ref b46), .val (.ref b757), .unset, .unset, .unset, .unset] [])) := fun t k => P824 t (by
              show Steps p.tables e below (T823.setTop (mkF m 159 #[.val (.int i0), .val (.int i1), .val (.int i2), .val (.int i3), .val (.int i4), .val (.int (3 : Int32)), .val (.int (i1 &&& (3 : Int32))), .val (.int v5_s0), .val (.ref b7), .val (.ref b18), .val (.ref b31), .val (.ref b46), .val (.ref b757), .unset, .unset, .unset, .unset] [(.int (2 : Int32)), (.int (i1 &&& (3 : Int32)))])) t
              refine XS.icmpYes X823.here hx rfl (pc0 := 159) (pc' := 170) rfl (hb hby at_159) rfl (flt c825).2.2.2 (by decide) (by decide) ?_
              show Steps p.tables e below (T823.setTop (mkF m 170 #[.val (.int i0), .val (.int i1), .val (.int i2), .val (.int i3), .val (.int i4), .val (.int (3 : Int32)), .val (.int (i1 &&& (3 : Int32))), .val (.int v5_s0), .val (.ref b7), .val (.ref b18), .val (.ref b31), .val (.ref b46), .val (.ref b757), .unset, .unset, .unset, .unset] [])) t
              exact k)
            have F865 : Sta Z T817.heap "java/util/ArrayList" "DEFAULTCAPACITY_EMPTY_ELEMENTDATA" "[Ljava/lang/Object;" (.ref z0_DEFAULTCAPACITY_EMPTY_ELEMENTDATA) := own_staK F764 Kc817 (allS (own_plE F809) all0)
            have F866 : Sta Z T823.heap "java/util/ArrayList" "DEFAULTCAPACITY_EMPTY_ELEMENTDATA" "[Ljava/lang/Object;" (.ref z0_DEFAULTCAPACITY_EMPTY_ELEMENTDATA) := own_staK F865 Kc823 (allS (own_plE F820) (allS (own_plA F817_3) all0))
            have F867 : Arv Z T817.heap z0_DEFAULTCAPACITY_EMPTY_ELEMENTDATA qk0 (.object "java/lang/Object") (0 : Int32) [] .null := F766.keep Kc817 (ninS ne_z0_DEFAULTCAPACITY_EMPTY_ELEMENTDATA_b757 nin0)
            have F868 : Arv Z T823.heap z0_DEFAULTCAPACITY_EMPTY_ELEMENTDATA qk0 (.object "java/lang/Object") (0 : Int32) [] .null := F867.keep Kc823 (ninS ne_z0_DEFAULTCAPACITY_EMPTY_ELEMENTDATA_b757 (ninS ne_z0_DEFAULTCAPACITY_EMPTY_ELEMENTDATA_b9_4_3_15_817 nin0))
            have F869 : Sta Z T817.heap "java/util/ImmutableCollections" "EMPTY_LIST" "Ljava/util/ImmutableCollections$ListN;" (.ref z0_EMPTY_LIST) := own_staK F779 Kc817 (allS (own_plE F809) all0)
            have F870 : Sta Z T823.heap "java/util/ImmutableCollections" "EMPTY_LIST" "Ljava/util/ImmutableCollections$ListN;" (.ref z0_EMPTY_LIST) := own_staK F869 Kc823 (allS (own_plE F820) (allS (own_plA F817_3) all0))
            have F871 : Fld Z T817.heap z0_EMPTY_LIST "java/util/ImmutableCollections$ListN" "elements" "[Ljava/lang/Object;" (.ref qe) := F781.keep Kc817 (ninS ne_z0_EMPTY_LIST_b757 nin0)
            have F872 : Fld Z T823.heap z0_EMPTY_LIST "java/util/ImmutableCollections$ListN" "elements" "[Ljava/lang/Object;" (.ref qe) := F871.keep Kc823 (ninS ne_z0_EMPTY_LIST_b757 (ninS ne_z0_EMPTY_LIST_b9_4_3_15_817 nin0))
            have F873 : Arv Z T817.heap qe qke (.object "java/lang/Object") (0 : Int32) [] .null := F783.keep Kc817 (ninS ne_qe_b757 nin0)
            have F874 : Arv Z T823.heap qe qke (.object "java/lang/Object") (0 : Int32) [] .null := F873.keep Kc823 (ninS ne_qe_b757 (ninS ne_qe_b9_4_3_15_817 nin0))
            have F875 : Exa Z T817.heap z0_EMPTY_LIST "java/util/ImmutableCollections$ListN" := F796.keep Kc817
            have F876 : Exa Z T823.heap z0_EMPTY_LIST "java/util/ImmutableCollections$ListN" := F875.keep Kc823
            have F877 : Exa Z T817.heap b46 "java/util/ArrayList" := F798.keep Kc817
            have F878 : Exa Z T823.heap b46 "java/util/ArrayList" := F877.keep Kc823
            have F879 : Fld Z T817.heap b46 "java/util/ArrayList" "size" "I" (.int (3 : Int32)) := F800.keep Kc817 (ninS ne_b46_b757 nin0)
            have F880 : Fld Z T823.heap b46 "java/util/ArrayList" "size" "I" (.int (3 : Int32)) := F879.keep Kc823 (ninS ne_b46_b757 (ninS ne_b46_b9_4_3_15_817 nin0))
            have F881 : Arv Z T817.heap b9_4_3_15_730 k9_4_3_15_730 (.object "java/lang/Object") (10 : Int32) [(.ref b7), (.ref b18), (.ref b7), .null, .null, .null, .null, .null, .null, .null] .null := F802.keep Kc817 (ninS ne_b9_4_3_15_730_b757 nin0)
            have F882 : Arv Z T823.heap b9_4_3_15_730 k9_4_3_15_730 (.object "java/lang/Object") (10 : Int32) [(.ref b7), (.ref b18), (.ref b7), .null, .null, .null, .null, .null, .null, .null] .null := F881.keep Kc823 (ninS ne_b9_4_3_15_730_b757 (ninS ne_b9_4_3_15_730_b9_4_3_15_817 nin0))
            have F883 : Fld Z T817.heap b46 "java/util/AbstractList" "modCount" "I" (.int ((((0 : Int32) + (1 : Int32)) + (1 : Int32)) + (1 : Int32))) := F804.keep Kc817 (ninS ne_b46_b757 nin0)
            have F884 : Fld Z T823.heap b46 "java/util/AbstractList" "modCount" "I" (.int ((((0 : Int32) + (1 : Int32)) + (1 : Int32)) + (1 : Int32))) := F883.keep Kc823 (ninS ne_b46_b757 (ninS ne_b46_b9_4_3_15_817 nin0))
            have F885 : Fld Z T817.heap b46 "java/util/ArrayList" "elementData" "[Ljava/lang/Object;" (.ref b9_4_3_15_730) := F806.keep Kc817 (ninS ne_b46_b757 nin0)
            have F886 : Fld Z T823.heap b46 "java/util/ArrayList" "elementData" "[Ljava/lang/Object;" (.ref b9_4_3_15_730) := F885.keep Kc823 (ninS ne_b46_b757 (ninS ne_b46_b9_4_3_15_817 nin0))
            exact ⟨T823, _, T823.heap, X823, rfl, N823, K823, F866, F868, F870, F872, F874, F876, F878, F730_4, F880, F882, F884, F886, P864⟩
        · skip
          have c887 : ¬ ((2 : Int32) < (i1 &&& (3 : Int32))) := own_n12 c819
          have P888 : own_Go p e below S0 (T817.setTop (mkF m 170 #[.val (.int i0), .val (.int i1), .val (.int i2), .val (.int i3), .val (.int i4), .val (.int (3 : Int32)), .val (.int (i1 &&& (3 : Int32))), .val (.int v5_s0), .val (.ref b7), .val (.ref b18), .val (.ref b31), .val (.ref b46), .val (.ref b757), .unset, .unset, .unset, .unset] [])) := fun t k => P818 t (by
            show Steps p.tables e below (T817.setTop (mkF m 145 #[.val (.int i0), .val (.int i1), .val (.int i2), .val (.int i3), .val (.int i4), .val (.int (3 : Int32)), .val (.int (i1 &&& (3 : Int32))), .val (.int v5_s0), .val (.ref b7), .val (.ref b18), .val (.ref b31), .val (.ref b46), .val (.ref b757), .unset, .unset, .unset, .unset] [(.int (1 : Int32)), (.int (i1 &&& (3 : Int32)))])) t
            refine XS.icmpYes X817.here hx rfl (pc0 := 145) (pc' := 156) rfl (hb hby at_145) rfl (flt c819).2.2.2 (by decide) (by decide) ?_
            refine XS.iload X817.here hx rfl (hb hby at_156) rfl ?_
            refine XS.iconst X817.here hx rfl (hb hby at_158) ?_
            refine XS.icmpYes X817.here hx rfl (pc0 := 159) (pc' := 170) rfl (hb hby at_159) rfl (flt c887).2.2.2 (by decide) (by decide) ?_
            show Steps p.tables e below (T817.setTop (mkF m 170 #[.val (.int i0), .val (.int i1), .val (.int i2), .val (.int i3), .val (.int i4), .val (.int (3 : Int32)), .val (.int (i1 &&& (3 : Int32))), .val (.int v5_s0), .val (.ref b7), .val (.ref b18), .val (.ref b31), .val (.ref b46), .val (.ref b757), .unset, .unset, .unset, .unset] [])) t
            exact k)
          have F889 : Sta Z T817.heap "java/util/ArrayList" "DEFAULTCAPACITY_EMPTY_ELEMENTDATA" "[Ljava/lang/Object;" (.ref z0_DEFAULTCAPACITY_EMPTY_ELEMENTDATA) := own_staK F764 Kc817 (allS (own_plE F809) all0)
          have F890 : Arv Z T817.heap z0_DEFAULTCAPACITY_EMPTY_ELEMENTDATA qk0 (.object "java/lang/Object") (0 : Int32) [] .null := F766.keep Kc817 (ninS ne_z0_DEFAULTCAPACITY_EMPTY_ELEMENTDATA_b757 nin0)
          have F891 : Sta Z T817.heap "java/util/ImmutableCollections" "EMPTY_LIST" "Ljava/util/ImmutableCollections$ListN;" (.ref z0_EMPTY_LIST) := own_staK F779 Kc817 (allS (own_plE F809) all0)
          have F892 : Fld Z T817.heap z0_EMPTY_LIST "java/util/ImmutableCollections$ListN" "elements" "[Ljava/lang/Object;" (.ref qe) := F781.keep Kc817 (ninS ne_z0_EMPTY_LIST_b757 nin0)
          have F893 : Arv Z T817.heap qe qke (.object "java/lang/Object") (0 : Int32) [] .null := F783.keep Kc817 (ninS ne_qe_b757 nin0)
          have F894 : Exa Z T817.heap z0_EMPTY_LIST "java/util/ImmutableCollections$ListN" := F796.keep Kc817
          have F895 : Exa Z T817.heap b46 "java/util/ArrayList" := F798.keep Kc817
          have F896 : Fld Z T817.heap b46 "java/util/ArrayList" "size" "I" (.int (3 : Int32)) := F800.keep Kc817 (ninS ne_b46_b757 nin0)
          have F897 : Arv Z T817.heap b9_4_3_15_730 k9_4_3_15_730 (.object "java/lang/Object") (10 : Int32) [(.ref b7), (.ref b18), (.ref b7), .null, .null, .null, .null, .null, .null, .null] .null := F802.keep Kc817 (ninS ne_b9_4_3_15_730_b757 nin0)
          have F898 : Fld Z T817.heap b46 "java/util/AbstractList" "modCount" "I" (.int ((((0 : Int32) + (1 : Int32)) + (1 : Int32)) + (1 : Int32))) := F804.keep Kc817 (ninS ne_b46_b757 nin0)
          have F899 : Fld Z T817.heap b46 "java/util/ArrayList" "elementData" "[Ljava/lang/Object;" (.ref b9_4_3_15_730) := F806.keep Kc817 (ninS ne_b46_b757 nin0)
          exact ⟨T817, _, T817.heap, X817, rfl, N817, K817, F889, F890, F891, F892, F893, F894, F895, F730_4, F896, F897, F898, F899, P888⟩
      · skip
        have c900 : ¬ ((1 : Int32) < (i1 &&& (3 : Int32))) := own_n01 c808
        have c901 : ¬ ((2 : Int32) < (i1 &&& (3 : Int32))) := own_n12 c900
        have P902 : own_Go p e below S0 (T763.setTop (mkF m 170 #[.val (.int i0), .val (.int i1), .val (.int i2), .val (.int i3), .val (.int i4), .val (.int (3 : Int32)), .val (.int (i1 &&& (3 : Int32))), .val (.int v5_s0), .val (.ref b7), .val (.ref b18), .val (.ref b31), .val (.ref b46), .val (.ref b757), .unset, .unset, .unset, .unset] [])) := fun t k => P807 t (by
          show Steps p.tables e below (T763.setTop (mkF m 131 #[.val (.int i0), .val (.int i1), .val (.int i2), .val (.int i3), .val (.int i4), .val (.int (3 : Int32)), .val (.int (i1 &&& (3 : Int32))), .val (.int v5_s0), .val (.ref b7), .val (.ref b18), .val (.ref b31), .val (.ref b46), .val (.ref b757), .unset, .unset, .unset, .unset] [(.int (i1 &&& (3 : Int32)))])) t
          refine XS.ifYes X763.here hx rfl (pc0 := 131) (pc' := 142) rfl (hb hby at_131) rfl ((if0 _ _).trans (flt c808).2.2.2) (by decide) (by decide) ?_
          refine XS.iload X763.here hx rfl (hb hby at_142) rfl ?_
          refine XS.iconst X763.here hx rfl (hb hby at_144) ?_
          refine XS.icmpYes X763.here hx rfl (pc0 := 145) (pc' := 156) rfl (hb hby at_145) rfl (flt c900).2.2.2 (by decide) (by decide) ?_
          refine XS.iload X763.here hx rfl (hb hby at_156) rfl ?_
          refine XS.iconst X763.here hx rfl (hb hby at_158) ?_
          show Steps p.tables e below (T763.setTop (mkF m 159 #[.val (.int i0), .val (.int i1), .val (.int i2), .val (.int i3), .val (.int i4), .val (.int (3 : Int32)), .val (.int (i1 &&& (3 : Int32))), .val (.int v5_s0), .val (.ref b7), .val (.ref b18), .val (.ref b31), .val (.ref b46), .val (.ref b757), .unset, .unset, .unset, .unset] [(.int (2 : Int32)), (.int (i1 &&& (3 : Int32)))])) t
          refine XS.icmpYes X763.here hx rfl (pc0 := 159) (pc' := 170) rfl (hb hby at_159) rfl (flt c901).2.2.2 (by decide) (by decide) ?_
          show Steps p.tables e below (T763.setTop (mkF m 170 #[.val (.int i0), .val (.int i1), .val (.int i2), .val (.int i3), .val (.int i4), .val (.int (3 : Int32)), .val (.int (i1 &&& (3 : Int32))), .val (.int v5_s0), .val (.ref b7), .val (.ref b18), .val (.ref b31), .val (.ref b46), .val (.ref b757), .unset, .unset, .unset, .unset] [])) t
          exact k)
        exact ⟨T763, _, T763.heap, (X763.more (by decide) (by decide)), rfl, N763, K763, F764, F766, F779, F781, F783, F796, F798, F730_4, F800, F802, F804, F806, P902⟩
    obtain ⟨T916, h916, X916, e916, E916, A916, D916, -, st916⟩ := newO X903 hx hZ hown (hw _ (List.mem_of_getElem? (i := 82) rfl)) (hw _ (List.mem_of_getElem? (i := 83) rfl)) (hw _ (List.mem_of_getElem? (i := 84) rfl)) e903 (g := (mkF m 170 #[.val (.int i0), .val (.int i1), .val (.int i2), .val (.int i3), .val (.int i4), .val (.int (3 : Int32)), .val (.int (i1 &&& (3 : Int32))), .val (.int v5_s0), .val (.ref b7), .val (.ref b18), .val (.ref b31), .val (.ref b46), .val (.ref b757), .unset, .unset, .unset, .unset] [])) rfl (hb hby at_170) (by decide) (by decide)
    obtain ⟨b916, g916⟩ : ∃ z, z = h903.size := ⟨_, rfl⟩
    rw [← g916] at A916 D916 st916
    have sz_b916 : h903.size ≤ b916 := Nat.le_of_eq g916.symm
    have ne_z0_DEFAULTCAPACITY_EMPTY_ELEMENTDATA_b916 : z0_DEFAULTCAPACITY_EMPTY_ELEMENTDATA ≠ b916 := Nat.ne_of_lt (Nat.lt_of_lt_of_le F905.lt sz_b916)
    have ne_z0_EMPTY_LIST_b916 : z0_EMPTY_LIST ≠ b916 := Nat.ne_of_lt (Nat.lt_of_lt_of_le F907.lt sz_b916)
    have ne_qe_b916 : qe ≠ b916 := Nat.ne_of_lt (Nat.lt_of_lt_of_le F908.lt sz_b916)
    have ne_b46_b916 : b46 ≠ b916 := Nat.ne_of_lt (Nat.lt_of_lt_of_le F910.lt sz_b916)
    have ne_b9_4_3_15_730_b916 : b9_4_3_15_730 ≠ b916 := Nat.ne_of_lt (Nat.lt_of_lt_of_le F913.lt sz_b916)
    have g_b916 : n0 ≤ b916 := Nat.le_trans (Nat.le_trans Z0 K903.1) sz_b916
    have o_b916 : h0.size ≤ b916 := Nat.le_trans K903.1 sz_b916
    have K916 : Keep h0 h916 [] := K903.ext E916
    have F916_moves : Fld Z h916 b916 "com/example/penelope/penelope/program/Expansion" "moves" "Ljava/util/List;" .null := D916 (Or.inr (hw _ (List.mem_of_getElem? (i := 99) rfl))) (ty := (.object "java/util/List")) (by decide)
    have F916_movesAfterClaim : Fld Z h916 b916 "com/example/penelope/penelope/program/Expansion" "movesAfterClaim" "Ljava/util/List;" .null := D916 (Or.inr (hw _ (List.mem_of_getElem? (i := 101) rfl))) (ty := (.object "java/util/List")) (by decide)
    have F916_faultAfterClaim : Fld Z h916 b916 "com/example/penelope/penelope/program/Expansion" "faultAfterClaim" "Lcom/example/penelope/penelope/program/Fault;" .null := D916 (Or.inr (hw _ (List.mem_of_getElem? (i := 103) rfl))) (ty := (.object "com/example/penelope/penelope/program/Fault")) (by decide)
    have F916_transientState : Fld Z h916 b916 "com/example/penelope/penelope/program/Expansion" "transientState" "Z" (.int (0 : Int32)) := D916 (Or.inr (hw _ (List.mem_of_getElem? (i := 105) rfl))) (ty := .boolean) (by decide)
    have P916 : own_Go p e below S0 (T916.setTop (mkF m 173 #[.val (.int i0), .val (.int i1), .val (.int i2), .val (.int i3), .val (.int i4), .val (.int (3 : Int32)), .val (.int (i1 &&& (3 : Int32))), .val (.int v5_s0), .val (.ref b7), .val (.ref b18), .val (.ref b31), .val (.ref b46), .val (.ref b757), .unset, .unset, .unset, .unset] [(.ref b916)])) := fun t k => P903 t (st916 _ k)
    have F917 : Sta Z h916 "java/util/ImmutableCollections" "EMPTY_LIST" "Ljava/util/ImmutableCollections$ListN;" (.ref z0_EMPTY_LIST) := F906.ext E916
    have P918 : own_Go p e below S0 (T916.setTop (mkF m 178 #[.val (.int i0), .val (.int i1), .val (.int i2), .val (.int i3), .val (.int i4), .val (.int (3 : Int32)), .val (.int (i1 &&& (3 : Int32))), .val (.int v5_s0), .val (.ref b7), .val (.ref b18), .val (.ref b31), .val (.ref b46), .val (.ref b757), .unset, .unset, .unset, .unset] [(.int v5_s0), (.ref b46), (.ref b916), (.ref b916)])) := fun t k => P916 t (by
      show Steps p.tables e below (T916.setTop (mkF m 173 #[.val (.int i0), .val (.int i1), .val (.int i2), .val (.int i3), .val (.int i4), .val (.int (3 : Int32)), .val (.int (i1 &&& (3 : Int32))), .val (.int v5_s0), .val (.ref b7), .val (.ref b18), .val (.ref b31), .val (.ref b46), .val (.ref b757), .unset, .unset, .unset, .unset] [(.ref b916)])) t
      refine XS.dup X916.here hx rfl (hb hby at_173) rfl rfl ?_
      refine XS.aload X916.here hx rfl (hb hby at_174) rfl rfl ?_
      refine XS.iload X916.here hx rfl (hb hby at_176) rfl ?_
      show Steps p.tables e below (T916.setTop (mkF m 178 #[.val (.int i0), .val (.int i1), .val (.int i2), .val (.int i3), .val (.int i4), .val (.int (3 : Int32)), .val (.int (i1 &&& (3 : Int32))), .val (.int v5_s0), .val (.ref b7), .val (.ref b18), .val (.ref b31), .val (.ref b46), .val (.ref b757), .unset, .unset, .unset, .unset] [(.int v5_s0), (.ref b46), (.ref b916), (.ref b916)])) t
      exact k)
    obtain ⟨_, _, ⟨T919, L919, k919, n919⟩, -, X919, ⟨Lc919, hQ919, l919, y919, z919⟩, st919⟩ := X916.specialBack hx (y := (⟨"com/example/penelope/penelope/program/Expansion", "<init>", "(Ljava/util/List;Z)V"⟩ : MethodName)) rfl hown (mvT hZ (hw _ (List.mem_of_getElem? (i := 85) rfl))) (mvT hZ (hw _ (List.mem_of_getElem? (i := 86) rfl))) (mvT hZ (hw _ (List.mem_of_getElem? (i := 87) rfl))) (by decide) (backOf (W := 1) (rm13 l Z a0 hw [] b916 b46 v5_s0 z0_EMPTY_LIST .null .null .null (.int (0 : Int32)) h916 n0 (Nat.le_trans Z0 K916.1) F917 A916 F916_moves g_b916 F916_movesAfterClaim F916_faultAfterClaim F916_transientState) hZ (hw _ (List.mem_of_getElem? (i := 87) rfl)) (hw _ (List.mem_of_getElem? (i := 84) rfl)) (by decide) (by decide)) (g := (mkF m 178 #[.val (.int i0), .val (.int i1), .val (.int i2), .val (.int i3), .val (.int i4), .val (.int (3 : Int32)), .val (.int (i1 &&& (3 : Int32))), .val (.int v5_s0), .val (.ref b7), .val (.ref b18), .val (.ref b31), .val (.ref b46), .val (.ref b757), .unset, .unset, .unset, .unset] [(.int v5_s0), (.ref b46), (.ref b916), (.ref b916)])) rfl (by rw [hml]; rfl) (Steps.refl _) (a := b916) (argsL := [(.ref b46), (.int v5_s0)]) (rest := [(.ref b916)]) (lenOf pd_13 rfl) rfl (by show 2 * 0 + _ ≤ _; exact Nat.le_of_eq rfl) (hb hby at_178) (fun _ _ => ⟨rfl, e916, (by decide : 8 + 0 ≤ _), (by decide : 48 + 0 ≤ _)⟩)
    dsimp only [Pt.U, Pt.locs, Pt.cells, Pt.slots] at X919 l919 y919 z919 st919 hQ919
    subst l919 y919 z919
    obtain ⟨rfl, N919q, Kc919, F919_0, F919_1, F919_2, F919_3⟩ := hQ919
    have N919 := Fr.app N903 N919q
    have K919 : Keep h0 T919.heap [] := Keep.trans K916 Kc919 (allS (Or.inr o_b916) all0)
    have P919 : own_Go p e below S0 (T919.setTop (mkF m 181 #[.val (.int i0), .val (.int i1), .val (.int i2), .val (.int i3), .val (.int i4), .val (.int (3 : Int32)), .val (.int (i1 &&& (3 : Int32))), .val (.int v5_s0), .val (.ref b7), .val (.ref b18), .val (.ref b31), .val (.ref b46), .val (.ref b757), .unset, .unset, .unset, .unset] [(.ref b916)])) := fun t k => P918 t (st919.trans k)
    have F920 : Exa Z T919.heap b916 "com/example/penelope/penelope/program/Expansion" := A916.keep Kc919
    have P921 : own_Go p e below S0 (T919.setTop (mkF m 185 #[.val (.int i0), .val (.int i1), .val (.int i2), .val (.int i3), .val (.int i4), .val (.int (3 : Int32)), .val (.int (i1 &&& (3 : Int32))), .val (.int v5_s0), .val (.ref b7), .val (.ref b18), .val (.ref b31), .val (.ref b46), .val (.ref b757), .val (.ref b916), .unset, .unset, .unset] [(.ref b916)])) := fun t k => P919 t (by
      show Steps p.tables e below (T919.setTop (mkF m 181 #[.val (.int i0), .val (.int i1), .val (.int i2), .val (.int i3), .val (.int i4), .val (.int (3 : Int32)), .val (.int (i1 &&& (3 : Int32))), .val (.int v5_s0), .val (.ref b7), .val (.ref b18), .val (.ref b31), .val (.ref b46), .val (.ref b757), .unset, .unset, .unset, .unset] [(.ref b916)])) t
      refine XS.astore X919.here hx rfl (hb hby at_181) rfl rfl (l' := #[.val (.int i0), .val (.int i1), .val (.int i2), .val (.int i3), .val (.int i4), .val (.int (3 : Int32)), .val (.int (i1 &&& (3 : Int32))), .val (.int v5_s0), .val (.ref b7), .val (.ref b18), .val (.ref b31), .val (.ref b46), .val (.ref b757), .val (.ref b916), .unset, .unset, .unset]) rfl ?_
      refine XS.aload X919.here hx rfl (hb hby at_183) rfl rfl ?_
      show Steps p.tables e below (T919.setTop (mkF m 185 #[.val (.int i0), .val (.int i1), .val (.int i2), .val (.int i3), .val (.int i4), .val (.int (3 : Int32)), .val (.int (i1 &&& (3 : Int32))), .val (.int v5_s0), .val (.ref b7), .val (.ref b18), .val (.ref b31), .val (.ref b46), .val (.ref b757), .val (.ref b916), .unset, .unset, .unset] [(.ref b916)])) t
      exact k)
    obtain ⟨cq922, kq922, q922a, q922b, q922c⟩ := isOf hZ rfl F920
    obtain ⟨_, _, ⟨T922, L922, k922, n922⟩, -, X922, ⟨Lc922, hQ922, l922, y922, z922⟩, st922⟩ := X919.virtualBack hx (y := (⟨"com/example/penelope/penelope/program/Expansion", "movesAfterClaim", "()Ljava/util/List;"⟩ : MethodName)) (z := (⟨"com/example/penelope/penelope/program/Expansion", "movesAfterClaim", "()Ljava/util/List;"⟩ : MethodName)) hown (mvT hZ (hw _ (List.mem_of_getElem? (i := 106) rfl))) (mvT hZ (hw _ (List.mem_of_getElem? (i := 107) rfl))) (notFace_of_selects (args := #[]) (mvT hZ (hw _ (List.mem_of_getElem? (i := 109) rfl)))) (mvT hZ (hw _ (List.mem_of_getElem? (i := 109) rfl))) (mvT hZ (hw _ (List.mem_of_getElem? (i := 108) rfl))) (by decide) (backOf (W := 0) (rm16 l Z a0 hw [] b916 z0_EMPTY_LIST T919.heap n0 (Nat.le_trans Z0 K919.1) F919_2 F919_1) hZ (hw _ (List.mem_of_getElem? (i := 110) rfl)) (hw _ (List.mem_of_getElem? (i := 84) rfl)) (by decide) (by decide)) q922a q922c (g := (mkF m 185 #[.val (.int i0), .val (.int i1), .val (.int i2), .val (.int i3), .val (.int i4), .val (.int (3 : Int32)), .val (.int (i1 &&& (3 : Int32))), .val (.int v5_s0), .val (.ref b7), .val (.ref b18), .val (.ref b31), .val (.ref b46), .val (.ref b757), .val (.ref b916), .unset, .unset, .unset] [(.ref b916)])) rfl (by rw [hml]; rfl) (Steps.refl _) (argsL := []) (rest := []) (lenOf pd_6 rfl) rfl (by show 2 * 0 + _ ≤ _; exact Nat.le_of_eq rfl) (hb hby at_185) (fun _ _ => ⟨rfl, rfl, (by decide : 8 + 0 ≤ _), (by decide : 48 + 0 ≤ _)⟩)
    dsimp only [Pt.U, Pt.locs, Pt.cells, Pt.slots] at X922 l922 y922 z922 st922 hQ922
    subst l922 y922 z922
    obtain ⟨rfl, N922q, e922⟩ := hQ922
    have N922 := Fr.app N919 N922q
    have P922 : own_Go p e below S0 (T922.setTop (mkF m 188 #[.val (.int i0), .val (.int i1), .val (.int i2), .val (.int i3), .val (.int i4), .val (.int (3 : Int32)), .val (.int (i1 &&& (3 : Int32))), .val (.int v5_s0), .val (.ref b7), .val (.ref b18), .val (.ref b31), .val (.ref b46), .val (.ref b757), .val (.ref b916), .unset, .unset, .unset] [(.ref z0_EMPTY_LIST)])) := fun t k => P921 t (st922.trans k)
    have F923 : Exa Z h916 z0_EMPTY_LIST "java/util/ImmutableCollections$ListN" := F909.ext E916
    have F924 : Exa Z T919.heap z0_EMPTY_LIST "java/util/ImmutableCollections$ListN" := F923.keep Kc919
    have F925 : Fld Z h916 z0_EMPTY_LIST "java/util/ImmutableCollections$ListN" "elements" "[Ljava/lang/Object;" (.ref qe) := F907.ext E916
    have F926 : Fld Z T919.heap z0_EMPTY_LIST "java/util/ImmutableCollections$ListN" "elements" "[Ljava/lang/Object;" (.ref qe) := F925.keep Kc919 (ninS ne_z0_EMPTY_LIST_b916 nin0)
    have F927 : Arv Z h916 qe qke (.object "java/lang/Object") (0 : Int32) [] .null := F908.ext E916
    have F928 : Arv Z T919.heap qe qke (.object "java/lang/Object") (0 : Int32) [] .null := F927.keep Kc919 (ninS ne_qe_b916 nin0)
    have P929 : own_Go p e below S0 (T922.setTop (mkF m 192 #[.val (.int i0), .val (.int i1), .val (.int i2), .val (.int i3), .val (.int i4), .val (.int (3 : Int32)), .val (.int (i1 &&& (3 : Int32))), .val (.int v5_s0), .val (.ref b7), .val (.ref b18), .val (.ref b31), .val (.ref b46), .val (.ref b757), .val (.ref b916), .val (.ref z0_EMPTY_LIST), .unset, .unset] [(.ref z0_EMPTY_LIST)])) := fun t k => P922 t (by
      show Steps p.tables e below (T922.setTop (mkF m 188 #[.val (.int i0), .val (.int i1), .val (.int i2), .val (.int i3), .val (.int i4), .val (.int (3 : Int32)), .val (.int (i1 &&& (3 : Int32))), .val (.int v5_s0), .val (.ref b7), .val (.ref b18), .val (.ref b31), .val (.ref b46), .val (.ref b757), .val (.ref b916), .unset, .unset, .unset] [(.ref z0_EMPTY_LIST)])) t
      refine XS.astore X922.here hx rfl (hb hby at_188) rfl rfl (l' := #[.val (.int i0), .val (.int i1), .val (.int i2), .val (.int i3), .val (.int i4), .val (.int (3 : Int32)), .val (.int (i1 &&& (3 : Int32))), .val (.int v5_s0), .val (.ref b7), .val (.ref b18), .val (.ref b31), .val (.ref b46), .val (.ref b757), .val (.ref b916), .val (.ref z0_EMPTY_LIST), .unset, .unset]) rfl ?_
      refine XS.aload X922.here hx rfl (hb hby at_190) rfl rfl ?_
      show Steps p.tables e below (T922.setTop (mkF m 192 #[.val (.int i0), .val (.int i1), .val (.int i2), .val (.int i3), .val (.int i4), .val (.int (3 : Int32)), .val (.int (i1 &&& (3 : Int32))), .val (.int v5_s0), .val (.ref b7), .val (.ref b18), .val (.ref b31), .val (.ref b46), .val (.ref b757), .val (.ref b916), .val (.ref z0_EMPTY_LIST), .unset, .unset] [(.ref z0_EMPTY_LIST)])) t
      exact k)
    obtain ⟨cq930, kq930, q930a, q930b, q930c⟩ := isOf hZ e922 F924
    obtain ⟨_, _, ⟨T930, L930, k930, n930⟩, -, X930, ⟨Lc930, hQ930, l930, y930, z930⟩, st930⟩ := X922.interfaceBack hx (xi := (⟨"java/util/List", "size", "()I"⟩ : MethodName)) (y := (⟨"java/util/ImmutableCollections$ListN", "size", "()I"⟩ : MethodName)) hown (mvT hZ (hw _ (List.mem_of_getElem? (i := 111) rfl))) (mvT hZ (hw _ (List.mem_of_getElem? (i := 112) rfl))) (mvT hZ (hw _ (List.mem_of_getElem? (i := 113) rfl))) (mvT hZ (hw _ (List.mem_of_getElem? (i := 114) rfl))) (mvT hZ (hw _ (List.mem_of_getElem? (i := 115) rfl))) (mvT hZ (hw _ (List.mem_of_getElem? (i := 116) rfl))) (mvT hZ (hw _ (List.mem_of_getElem? (i := 117) rfl))) (mvT hZ (hw _ (List.mem_of_getElem? (i := 118) rfl))) (by decide) (backOf (W := 0) (rm17 l Z a0 hw [] z0_EMPTY_LIST qe qke T919.heap n0 (Nat.le_trans Z0 K919.1) F926 F928) hZ (hw _ (List.mem_of_getElem? (i := 120) rfl)) (hw _ (List.mem_of_getElem? (i := 119) rfl)) (by decide) (by decide)) q930a q930b q930c (g := (mkF m 192 #[.val (.int i0), .val (.int i1), .val (.int i2), .val (.int i3), .val (.int i4), .val (.int (3 : Int32)), .val (.int (i1 &&& (3 : Int32))), .val (.int v5_s0), .val (.ref b7), .val (.ref b18), .val (.ref b31), .val (.ref b46), .val (.ref b757), .val (.ref b916), .val (.ref z0_EMPTY_LIST), .unset, .unset] [(.ref z0_EMPTY_LIST)])) rfl (by rw [hml]; rfl) (Steps.refl _) (argsL := []) (rest := []) (lenOf pd_14 rfl) rfl (by show 2 * 0 + _ ≤ _; exact Nat.le_of_eq rfl) (hb hby at_192) (fun _ _ => ⟨rfl, e922, (by decide : 8 + 0 ≤ _), (by decide : 48 + 0 ≤ _)⟩)
    dsimp only [Pt.U, Pt.locs, Pt.cells, Pt.slots] at X930 l930 y930 z930 st930 hQ930
    subst l930 y930 z930
    obtain ⟨rfl, N930q, e930⟩ := hQ930
    have N930 := Fr.app N922 N930q
    have P930 : own_Go p e below S0 (T930.setTop (mkF m 197 #[.val (.int i0), .val (.int i1), .val (.int i2), .val (.int i3), .val (.int i4), .val (.int (3 : Int32)), .val (.int (i1 &&& (3 : Int32))), .val (.int v5_s0), .val (.ref b7), .val (.ref b18), .val (.ref b31), .val (.ref b46), .val (.ref b757), .val (.ref b916), .val (.ref z0_EMPTY_LIST), .unset, .unset] [(.int (0 : Int32))])) := fun t k => P929 t (st930.trans k)
    have F931 : Arv Z h916 z0_DEFAULTCAPACITY_EMPTY_ELEMENTDATA qk0 (.object "java/lang/Object") (0 : Int32) [] .null := F905.ext E916
    have F932 : Arv Z T919.heap z0_DEFAULTCAPACITY_EMPTY_ELEMENTDATA qk0 (.object "java/lang/Object") (0 : Int32) [] .null := F931.keep Kc919 (ninS ne_z0_DEFAULTCAPACITY_EMPTY_ELEMENTDATA_b916 nin0)
    have F933 : Exa Z h916 b46 "java/util/ArrayList" := F910.ext E916
    have F934 : Exa Z T919.heap b46 "java/util/ArrayList" := F933.keep Kc919
    have F935 : Arv Z h916 b9_4_3_15_730 k9_4_3_15_730 (.object "java/lang/Object") (10 : Int32) [(.ref b7), (.ref b18), (.ref b7), .null, .null, .null, .null, .null, .null, .null] .null := F913.ext E916
    have F936 : Arv Z T919.heap b9_4_3_15_730 k9_4_3_15_730 (.object "java/lang/Object") (10 : Int32) [(.ref b7), (.ref b18), (.ref b7), .null, .null, .null, .null, .null, .null, .null] .null := F935.keep Kc919 (ninS ne_b9_4_3_15_730_b916 nin0)
    have P937 : own_Go p e below S0 (T930.setTop (mkF m 206 #[.val (.int i0), .val (.int i1), .val (.int i2), .val (.int i3), .val (.int i4), .val (.int (3 : Int32)), .val (.int (i1 &&& (3 : Int32))), .val (.int v5_s0), .val (.ref b7), .val (.ref b18), .val (.ref b31), .val (.ref b46), .val (.ref b757), .val (.ref b916), .val (.ref z0_EMPTY_LIST), .unset, .unset] [(.ref b916), (.ref b757)])) := fun t k => P930 t (by
      show Steps p.tables e below (T930.setTop (mkF m 197 #[.val (.int i0), .val (.int i1), .val (.int i2), .val (.int i3), .val (.int i4), .val (.int (3 : Int32)), .val (.int (i1 &&& (3 : Int32))), .val (.int v5_s0), .val (.ref b7), .val (.ref b18), .val (.ref b31), .val (.ref b46), .val (.ref b757), .val (.ref b916), .val (.ref z0_EMPTY_LIST), .unset, .unset] [(.int (0 : Int32))])) t
      refine XS.ifYes X930.here hx rfl (pc0 := 197) (pc' := 202) rfl (hb hby at_197) rfl ((if0 _ _).trans (teq (by decide)).1) (by decide) (by decide) ?_
      refine XS.aload X930.here hx rfl (hb hby at_202) rfl rfl ?_
      refine XS.aload X930.here hx rfl (hb hby at_204) rfl rfl ?_
      show Steps p.tables e below (T930.setTop (mkF m 206 #[.val (.int i0), .val (.int i1), .val (.int i2), .val (.int i3), .val (.int i4), .val (.int (3 : Int32)), .val (.int (i1 &&& (3 : Int32))), .val (.int v5_s0), .val (.ref b7), .val (.ref b18), .val (.ref b31), .val (.ref b46), .val (.ref b757), .val (.ref b916), .val (.ref z0_EMPTY_LIST), .unset, .unset] [(.ref b916), (.ref b757)])) t
      exact k)
    obtain ⟨_, _, ⟨T938, L938, k938, n938⟩, -, X938, ⟨Lc938, hQ938, l938, y938, z938⟩, st938⟩ := Jvm.LawKit.callS X930 hx (y := (⟨"com/example/penelope/penelope/program/Expansion", "underClaim", "(Ljava/util/List;Lcom/example/penelope/penelope/program/Expansion;)Lcom/example/penelope/penelope/program/Expansion;"⟩ : MethodName)) hown (mvT hZ (hw _ (List.mem_of_getElem? (i := 123) rfl))) (mvT hZ (hw _ (List.mem_of_getElem? (i := 124) rfl))) (mvT hZ (hw _ (List.mem_of_getElem? (i := 84) rfl))) (mvT hZ (hw _ (List.mem_of_getElem? (i := 125) rfl))) (by decide) (backOf (W := 0) (rm18 l Z a0 hw [] b757 b916 b46 (nar .boolean v5_s0) T919.heap n0 (Nat.le_trans Z0 K919.1) F919_0 F919_3) hZ (hw _ (List.mem_of_getElem? (i := 125) rfl)) (hw _ (List.mem_of_getElem? (i := 84) rfl)) (by decide) (by decide)) (g := (mkF m 206 #[.val (.int i0), .val (.int i1), .val (.int i2), .val (.int i3), .val (.int i4), .val (.int (3 : Int32)), .val (.int (i1 &&& (3 : Int32))), .val (.int v5_s0), .val (.ref b7), .val (.ref b18), .val (.ref b31), .val (.ref b46), .val (.ref b757), .val (.ref b916), .val (.ref z0_EMPTY_LIST), .unset, .unset] [(.ref b916), (.ref b757)])) rfl (by rw [hml]; rfl) (argsL := [(.ref b757), (.ref b916)]) (rest := []) (lenOf pd_15 rfl) rfl (by show 2 * 0 + _ ≤ _; exact Nat.le_of_eq rfl) (hb hby at_206) (fun _ _ => ⟨rfl, e930, (by decide : 8 + 1 ≤ _), (by decide : 48 + 4 ≤ _)⟩)
    dsimp only [Pt.U, Pt.locs, Pt.cells, Pt.slots] at X938 l938 y938 z938 st938 hQ938
    subst l938 y938 z938
    obtain ⟨b1_938, rfl, N938q, Kc938, sz_b1_938, F938_0, F938_1, F938_2, F938_3, F938_4⟩ := hQ938
    have N938 := Fr.app N930 N938q
    have ne_z0_DEFAULTCAPACITY_EMPTY_ELEMENTDATA_b1_938 : z0_DEFAULTCAPACITY_EMPTY_ELEMENTDATA ≠ b1_938 := Nat.ne_of_lt (Nat.lt_of_lt_of_le F932.lt sz_b1_938)
    have ne_z0_EMPTY_LIST_b1_938 : z0_EMPTY_LIST ≠ b1_938 := Nat.ne_of_lt (Nat.lt_of_lt_of_le F926.lt sz_b1_938)
    have ne_qe_b1_938 : qe ≠ b1_938 := Nat.ne_of_lt (Nat.lt_of_lt_of_le F928.lt sz_b1_938)
    have ne_b46_b1_938 : b46 ≠ b1_938 := Nat.ne_of_lt (Nat.lt_of_lt_of_le F934.lt sz_b1_938)
    have ne_b9_4_3_15_730_b1_938 : b9_4_3_15_730 ≠ b1_938 := Nat.ne_of_lt (Nat.lt_of_lt_of_le F936.lt sz_b1_938)
    have ne_b916_b1_938 : b916 ≠ b1_938 := Nat.ne_of_lt (Nat.lt_of_lt_of_le F920.lt sz_b1_938)
    have g_b1_938 : n0 ≤ b1_938 := Nat.le_trans (Nat.le_trans Z0 K919.1) sz_b1_938
    have o_b1_938 : h0.size ≤ b1_938 := Nat.le_trans K919.1 sz_b1_938
    have K938 : Keep h0 T938.heap [] := Keep.trans K919 Kc938 all0
    have P938 : own_Go p e below S0 (T938.setTop (mkF m 209 #[.val (.int i0), .val (.int i1), .val (.int i2), .val (.int i3), .val (.int i4), .val (.int (3 : Int32)), .val (.int (i1 &&& (3 : Int32))), .val (.int v5_s0), .val (.ref b7), .val (.ref b18), .val (.ref b31), .val (.ref b46), .val (.ref b757), .val (.ref b916), .val (.ref z0_EMPTY_LIST), .unset, .unset] [(.ref b1_938)])) := fun t k => P937 t (st938 _ k)
    have P939 : own_Go p e below S0 (T938.setTop (mkF m 213 #[.val (.int i0), .val (.int i1), .val (.int i2), .val (.int i3), .val (.int i4), .val (.int (3 : Int32)), .val (.int (i1 &&& (3 : Int32))), .val (.int v5_s0), .val (.ref b7), .val (.ref b18), .val (.ref b31), .val (.ref b46), .val (.ref b757), .val (.ref b916), .val (.ref z0_EMPTY_LIST), .val (.ref b1_938), .unset] [(.ref b1_938)])) := fun t k => P938 t (by
      show Steps p.tables e below (T938.setTop (mkF m 209 #[.val (.int i0), .val (.int i1), .val (.int i2), .val (.int i3), .val (.int i4), .val (.int (3 : Int32)), .val (.int (i1 &&& (3 : Int32))), .val (.int v5_s0), .val (.ref b7), .val (.ref b18), .val (.ref b31), .val (.ref b46), .val (.ref b757), .val (.ref b916), .val (.ref z0_EMPTY_LIST), .unset, .unset] [(.ref b1_938)])) t
      refine XS.astore X938.here hx rfl (hb hby at_209) rfl rfl (l' := #[.val (.int i0), .val (.int i1), .val (.int i2), .val (.int i3), .val (.int i4), .val (.int (3 : Int32)), .val (.int (i1 &&& (3 : Int32))), .val (.int v5_s0), .val (.ref b7), .val (.ref b18), .val (.ref b31), .val (.ref b46), .val (.ref b757), .val (.ref b916), .val (.ref z0_EMPTY_LIST), .val (.ref b1_938), .unset]) rfl ?_
      refine XS.aload X938.here hx rfl (hb hby at_211) rfl rfl ?_
      show Steps p.tables e below (T938.setTop (mkF m 213 #[.val (.int i0), .val (.int i1), .val (.int i2), .val (.int i3), .val (.int i4), .val (.int (3 : Int32)), .val (.int (i1 &&& (3 : Int32))), .val (.int v5_s0), .val (.ref b7), .val (.ref b18), .val (.ref b31), .val (.ref b46), .val (.ref b757), .val (.ref b916), .val (.ref z0_EMPTY_LIST), .val (.ref b1_938), .unset] [(.ref b1_938)])) t
      exact k)
    obtain ⟨cq940, kq940, q940a, q940b, q940c⟩ := isOf hZ rfl F938_0
    obtain ⟨_, _, ⟨T940, L940, k940, n940⟩, -, X940, ⟨Lc940, hQ940, l940, y940, z940⟩, st940⟩ := X938.virtualBack hx (y := (⟨"com/example/penelope/penelope/program/Expansion", "movesAfterClaim", "()Ljava/util/List;"⟩ : MethodName)) (z := (⟨"com/example/penelope/penelope/program/Expansion", "movesAfterClaim", "()Ljava/util/List;"⟩ : MethodName)) hown (mvT hZ (hw _ (List.mem_of_getElem? (i := 106) rfl))) (mvT hZ (hw _ (List.mem_of_getElem? (i := 107) rfl))) (notFace_of_selects (args := #[]) (mvT hZ (hw _ (List.mem_of_getElem? (i := 109) rfl)))) (mvT hZ (hw _ (List.mem_of_getElem? (i := 109) rfl))) (mvT hZ (hw _ (List.mem_of_getElem? (i := 108) rfl))) (by decide) (backOf (W := 0) (rm16 l Z a0 hw [] b1_938 b46 T938.heap n0 (Nat.le_trans Z0 K938.1) F938_3 F938_2) hZ (hw _ (List.mem_of_getElem? (i := 110) rfl)) (hw _ (List.mem_of_getElem? (i := 84) rfl)) (by decide) (by decide)) q940a q940c (g := (mkF m 213 #[.val (.int i0), .val (.int i1), .val (.int i2), .val (.int i3), .val (.int i4), .val (.int (3 : Int32)), .val (.int (i1 &&& (3 : Int32))), .val (.int v5_s0), .val (.ref b7), .val (.ref b18), .val (.ref b31), .val (.ref b46), .val (.ref b757), .val (.ref b916), .val (.ref z0_EMPTY_LIST), .val (.ref b1_938), .unset] [(.ref b1_938)])) rfl (by rw [hml]; rfl) (Steps.refl _) (argsL := []) (rest := []) (lenOf pd_6 rfl) rfl (by show 2 * 0 + _ ≤ _; exact Nat.le_of_eq rfl) (hb hby at_213) (fun _ _ => ⟨rfl, rfl, (by decide : 9 + 0 ≤ _), (by decide : 52 + 0 ≤ _)⟩)
    dsimp only [Pt.U, Pt.locs, Pt.cells, Pt.slots] at X940 l940 y940 z940 st940 hQ940
    subst l940 y940 z940
    obtain ⟨rfl, N940q, e940⟩ := hQ940
    have N940 := Fr.app N938 N940q
    have P940 : own_Go p e below S0 (T940.setTop (mkF m 216 #[.val (.int i0), .val (.int i1), .val (.int i2), .val (.int i3), .val (.int i4), .val (.int (3 : Int32)), .val (.int (i1 &&& (3 : Int32))), .val (.int v5_s0), .val (.ref b7), .val (.ref b18), .val (.ref b31), .val (.ref b46), .val (.ref b757), .val (.ref b916), .val (.ref z0_EMPTY_LIST), .val (.ref b1_938), .unset] [(.ref b46)])) := fun t k => P939 t (st940.trans k)
    have F941 : Exa Z T938.heap b46 "java/util/ArrayList" := F934.keep Kc938
    have F942 : Fld Z h916 b46 "java/util/ArrayList" "size" "I" (.int (3 : Int32)) := F912.ext E916
    have F943 : Fld Z T919.heap b46 "java/util/ArrayList" "size" "I" (.int (3 : Int32)) := F942.keep Kc919 (ninS ne_b46_b916 nin0)
    have F944 : Fld Z T938.heap b46 "java/util/ArrayList" "size" "I" (.int (3 : Int32)) := F943.keep Kc938 nin0
    have P945 : own_Go p e below S0 (T940.setTop (mkF m 220 #[.val (.int i0), .val (.int i1), .val (.int i2), .val (.int i3), .val (.int i4), .val (.int (3 : Int32)), .val (.int (i1 &&& (3 : Int32))), .val (.int v5_s0), .val (.ref b7), .val (.ref b18), .val (.ref b31), .val (.ref b46), .val (.ref b757), .val (.ref b916), .val (.ref z0_EMPTY_LIST), .val (.ref b1_938), .val (.ref b46)] [(.ref b46)])) := fun t k => P940 t (by
      show Steps p.tables e below (T940.setTop (mkF m 216 #[.val (.int i0), .val (.int i1), .val (.int i2), .val (.int i3), .val (.int i4), .val (.int (3 : Int32)), .val (.int (i1 &&& (3 : Int32))), .val (.int v5_s0), .val (.ref b7), .val (.ref b18), .val (.ref b31), .val (.ref b46), .val (.ref b757), .val (.ref b916), .val (.ref z0_EMPTY_LIST), .val (.ref b1_938), .unset] [(.ref b46)])) t
      refine XS.astore X940.here hx rfl (hb hby at_216) rfl rfl (l' := #[.val (.int i0), .val (.int i1), .val (.int i2), .val (.int i3), .val (.int i4), .val (.int (3 : Int32)), .val (.int (i1 &&& (3 : Int32))), .val (.int v5_s0), .val (.ref b7), .val (.ref b18), .val (.ref b31), .val (.ref b46), .val (.ref b757), .val (.ref b916), .val (.ref z0_EMPTY_LIST), .val (.ref b1_938), .val (.ref b46)]) rfl ?_
      refine XS.aload X940.here hx rfl (hb hby at_218) rfl rfl ?_
      show Steps p.tables e below (T940.setTop (mkF m 220 #[.val (.int i0), .val (.int i1), .val (.int i2), .val (.int i3), .val (.int i4), .val (.int (3 : Int32)), .val (.int (i1 &&& (3 : Int32))), .val (.int v5_s0), .val (.ref b7), .val (.ref b18), .val (.ref b31), .val (.ref b46), .val (.ref b757), .val (.ref b916), .val (.ref z0_EMPTY_LIST), .val (.ref b1_938), .val (.ref b46)] [(.ref b46)])) t
      exact k)
    obtain ⟨cq946, kq946, q946a, q946b, q946c⟩ := isOf hZ e940 F941
    obtain ⟨_, _, ⟨T946, L946, k946, n946⟩, -, X946, ⟨Lc946, hQ946, l946, y946, z946⟩, st946⟩ := X940.interfaceBack hx (xi := (⟨"java/util/List", "size", "()I"⟩ : MethodName)) (y := (⟨"java/util/ArrayList", "size", "()I"⟩ : MethodName)) hown (mvT hZ (hw _ (List.mem_of_getElem? (i := 111) rfl))) (mvT hZ (hw _ (List.mem_of_getElem? (i := 112) rfl))) (mvT hZ (hw _ (List.mem_of_getElem? (i := 113) rfl))) (mvT hZ (hw _ (List.mem_of_getElem? (i := 127) rfl))) (mvT hZ (hw _ (List.mem_of_getElem? (i := 128) rfl))) (mvT hZ (hw _ (List.mem_of_getElem? (i := 129) rfl))) (mvT hZ (hw _ (List.mem_of_getElem? (i := 130) rfl))) (mvT hZ (hw _ (List.mem_of_getElem? (i := 131) rfl))) (by decide) (backOf (W := 0) (rm19 l Z a0 hw [] b46 (3 : Int32) T938.heap n0 (Nat.le_trans Z0 K938.1) F944) hZ (hw _ (List.mem_of_getElem? (i := 132) rfl)) (hw _ (List.mem_of_getElem? (i := 29) rfl)) (by decide) (by decide)) q946a q946b q946c (g := (mkF m 220 #[.val (.int i0), .val (.int i1), .val (.int i2), .val (.int i3), .val (.int i4), .val (.int (3 : Int32)), .val (.int (i1 &&& (3 : Int32))), .val (.int v5_s0), .val (.ref b7), .val (.ref b18), .val (.ref b31), .val (.ref b46), .val (.ref b757), .val (.ref b916), .val (.ref z0_EMPTY_LIST), .val (.ref b1_938), .val (.ref b46)] [(.ref b46)])) rfl (by rw [hml]; rfl) (Steps.refl _) (argsL := []) (rest := []) (lenOf pd_14 rfl) rfl (by show 2 * 0 + _ ≤ _; exact Nat.le_of_eq rfl) (hb hby at_220) (fun _ _ => ⟨rfl, e940, (by decide : 9 + 0 ≤ _), (by decide : 52 + 0 ≤ _)⟩)
    dsimp only [Pt.U, Pt.locs, Pt.cells, Pt.slots] at X946 l946 y946 z946 st946 hQ946
    subst l946 y946 z946
    obtain ⟨rfl, N946q, e946⟩ := hQ946
    have N946 := Fr.app N940 N946q
    have P946 : own_Go p e below S0 (T946.setTop (mkF m 225 #[.val (.int i0), .val (.int i1), .val (.int i2), .val (.int i3), .val (.int i4), .val (.int (3 : Int32)), .val (.int (i1 &&& (3 : Int32))), .val (.int v5_s0), .val (.ref b7), .val (.ref b18), .val (.ref b31), .val (.ref b46), .val (.ref b757), .val (.ref b916), .val (.ref z0_EMPTY_LIST), .val (.ref b1_938), .val (.ref b46)] [(.int (3 : Int32))])) := fun t k => P945 t (st946.trans k)
    have F947 : Fld Z h916 b46 "java/util/ArrayList" "elementData" "[Ljava/lang/Object;" (.ref b9_4_3_15_730) := F915.ext E916
    have F948 : Fld Z T919.heap b46 "java/util/ArrayList" "elementData" "[Ljava/lang/Object;" (.ref b9_4_3_15_730) := F947.keep Kc919 (ninS ne_b46_b916 nin0)
    have F949 : Fld Z T938.heap b46 "java/util/ArrayList" "elementData" "[Ljava/lang/Object;" (.ref b9_4_3_15_730) := F948.keep Kc938 nin0
    have F950 : Arv Z T938.heap b9_4_3_15_730 k9_4_3_15_730 (.object "java/lang/Object") (10 : Int32) [(.ref b7), (.ref b18), (.ref b7), .null, .null, .null, .null, .null, .null, .null] .null := F936.keep Kc938 nin0
    have P951 : own_Go p e below S0 (T946.setTop (mkF m 240 #[.val (.int i0), .val (.int i1), .val (.int i2), .val (.int i3), .val (.int i4), .val (.int (3 : Int32)), .val (.int (i1 &&& (3 : Int32))), .val (.int v5_s0), .val (.ref b7), .val (.ref b18), .val (.ref b31), .val (.ref b46), .val (.ref b757), .val (.ref b916), .val (.ref z0_EMPTY_LIST), .val (.ref b1_938), .val (.ref b46)] [(.int (0 : Int32)), (.ref b46)])) := fun t k => P946 t (by
      show Steps p.tables e below (T946.setTop (mkF m 225 #[.val (.int i0), .val (.int i1), .val (.int i2), .val (.int i3), .val (.int i4), .val (.int (3 : Int32)), .val (.int (i1 &&& (3 : Int32))), .val (.int v5_s0), .val (.ref b7), .val (.ref b18), .val (.ref b31), .val (.ref b46), .val (.ref b757), .val (.ref b916), .val (.ref z0_EMPTY_LIST), .val (.ref b1_938), .val (.ref b46)] [(.int (3 : Int32))])) t
      refine XS.iload X946.here hx rfl (hb hby at_225) rfl ?_
      refine XS.icmpYes X946.here hx rfl (pc0 := 227) (pc' := 232) rfl (hb hby at_227) rfl (teq (by decide)).1 (by decide) (by decide) ?_
      refine XS.iload X946.here hx rfl (hb hby at_232) rfl ?_
      refine XS.ifNo X946.here hx rfl (hb hby at_234) rfl ((if0 _ _).trans (tlt (by decide)).2.2.2) ?_
      refine XS.aload X946.here hx rfl (hb hby at_237) rfl rfl ?_
      refine XS.iconst X946.here hx rfl (hb hby at_239) ?_
      show Steps p.tables e below (T946.setTop (mkF m 240 #[.val (.int i0), .val (.int i1), .val (.int i2), .val (.int i3), .val (.int i4), .val (.int (3 : Int32)), .val (.int (i1 &&& (3 : Int32))), .val (.int v5_s0), .val (.ref b7), .val (.ref b18), .val (.ref b31), .val (.ref b46), .val (.ref b757), .val (.ref b916), .val (.ref z0_EMPTY_LIST), .val (.ref b1_938), .val (.ref b46)] [(.int (0 : Int32)), (.ref b46)])) t
      exact k)
    obtain ⟨cq952, kq952, q952a, q952b, q952c⟩ := isOf hZ e946 F941
    obtain ⟨_, _, ⟨T952, L952, k952, n952⟩, -, X952, ⟨Lc952, hQ952, l952, y952, z952⟩, st952⟩ := X946.interfaceBack hx (xi := (⟨"java/util/List", "get", "(I)Ljava/lang/Object;"⟩ : MethodName)) (y := (⟨"java/util/ArrayList", "get", "(I)Ljava/lang/Object;"⟩ : MethodName)) hown (mvT hZ (hw _ (List.mem_of_getElem? (i := 133) rfl))) (mvT hZ (hw _ (List.mem_of_getElem? (i := 134) rfl))) (mvT hZ (hw _ (List.mem_of_getElem? (i := 135) rfl))) (mvT hZ (hw _ (List.mem_of_getElem? (i := 136) rfl))) (mvT hZ (hw _ (List.mem_of_getElem? (i := 137) rfl))) (mvT hZ (hw _ (List.mem_of_getElem? (i := 138) rfl))) (mvT hZ (hw _ (List.mem_of_getElem? (i := 139) rfl))) (mvT hZ (hw _ (List.mem_of_getElem? (i := 131) rfl))) (by decide) (backOf (W := 0) (rm20_3_0 l Z a0 hw [] b46 b9_4_3_15_730 k9_4_3_15_730 b7 b18 b7 T938.heap n0 (Nat.le_trans Z0 K938.1) F944 F949 F950 F941) hZ (hw _ (List.mem_of_getElem? (i := 140) rfl)) (hw _ (List.mem_of_getElem? (i := 29) rfl)) (by decide) (by decide)) q952a q952b q952c (g := (mkF m 240 #[.val (.int i0), .val (.int i1), .val (.int i2), .val (.int i3), .val (.int i4), .val (.int (3 : Int32)), .val (.int (i1 &&& (3 : Int32))), .val (.int v5_s0), .val (.ref b7), .val (.ref b18), .val (.ref b31), .val (.ref b46), .val (.ref b757), .val (.ref b916), .val (.ref z0_EMPTY_LIST), .val (.ref b1_938), .val (.ref b46)] [(.int (0 : Int32)), (.ref b46)])) rfl (by rw [hml]; rfl) (Steps.refl _) (argsL := [(.int (0 : Int32))]) (rest := []) (lenOf pd_9 rfl) rfl (by show 2 * 0 + _ ≤ _; exact Nat.le_of_eq rfl) (hb hby at_240) (fun _ _ => ⟨rfl, e946, (by decide : 9 + 0 ≤ _), (by decide : 52 + 0 ≤ _)⟩)
    dsimp only [Pt.U, Pt.locs, Pt.cells, Pt.slots] at X952 l952 y952 z952 st952 hQ952
    subst l952 y952 z952
    obtain ⟨rfl, N952q, e952⟩ := hQ952
    have N952 := Fr.app N946 N952q
    have P952 : own_Go p e below S0 (T952.setTop (mkF m 245 #[.val (.int i0), .val (.int i1), .val (.int i2), .val (.int i3), .val (.int i4), .val (.int (3 : Int32)), .val (.int (i1 &&& (3 : Int32))), .val (.int v5_s0), .val (.ref b7), .val (.ref b18), .val (.ref b31), .val (.ref b46), .val (.ref b757), .val (.ref b916), .val (.ref z0_EMPTY_LIST), .val (.ref b1_938), .val (.ref b46)] [(.ref b7)])) := fun t k => P951 t (st952.trans k)
    have P953 : own_Go p e below S0 (T952.setTop (mkF m 261 #[.val (.int i0), .val (.int i1), .val (.int i2), .val (.int i3), .val (.int i4), .val (.int (3 : Int32)), .val (.int (i1 &&& (3 : Int32))), .val (.int v5_s0), .val (.ref b7), .val (.ref b18), .val (.ref b31), .val (.ref b46), .val (.ref b757), .val (.ref b916), .val (.ref z0_EMPTY_LIST), .val (.ref b1_938), .val (.ref b46)] [(.int (1 : Int32)), (.ref b46)])) := fun t k => P952 t (by
      show Steps p.tables e below (T952.setTop (mkF m 245 #[.val (.int i0), .val (.int i1), .val (.int i2), .val (.int i3), .val (.int i4), .val (.int (3 : Int32)), .val (.int (i1 &&& (3 : Int32))), .val (.int v5_s0), .val (.ref b7), .val (.ref b18), .val (.ref b31), .val (.ref b46), .val (.ref b757), .val (.ref b916), .val (.ref z0_EMPTY_LIST), .val (.ref b1_938), .val (.ref b46)] [(.ref b7)])) t
      refine XS.aload X952.here hx rfl (hb hby at_245) rfl rfl ?_
      refine Jvm.RoadKit.acmp (g := (mkF m 247 #[.val (.int i0), .val (.int i1), .val (.int i2), .val (.int i3), .val (.int i4), .val (.int (3 : Int32)), .val (.int (i1 &&& (3 : Int32))), .val (.int v5_s0), .val (.ref b7), .val (.ref b18), .val (.ref b31), .val (.ref b46), .val (.ref b757), .val (.ref b916), .val (.ref z0_EMPTY_LIST), .val (.ref b1_938), .val (.ref b46)] [(.ref b7), (.ref b7)])) X952 hx rfl rfl rfl (pc0 := 247) (pc' := 252) (same := true) rfl (hb hby at_247) rfl (decide_eq_true rfl) (by decide) (by decide) ?_
      refine XS.iload X952.here hx rfl (hb hby at_252) rfl ?_
      refine XS.iconst X952.here hx rfl (hb hby at_254) ?_
      refine XS.icmpNo X952.here hx rfl (hb hby at_255) rfl (tlt (by decide)).2.2.2 ?_
      refine XS.aload X952.here hx rfl (hb hby at_258) rfl rfl ?_
      show Steps p.tables e below (T952.setTop (mkF m 260 #[.val (.int i0), .val (.int i1), .val (.int i2), .val (.int i3), .val (.int i4), .val (.int (3 : Int32)), .val (.int (i1 &&& (3 : Int32))), .val (.int v5_s0), .val (.ref b7), .val (.ref b18), .val (.ref b31), .val (.ref b46), .val (.ref b757), .val (.ref b916), .val (.ref z0_EMPTY_LIST), .val (.ref b1_938), .val (.ref b46)] [(.ref b46)])) t
      refine XS.iconst X952.here hx rfl (hb hby at_260) ?_
      show Steps p.tables e below (T952.setTop (mkF m 261 #[.val (.int i0), .val (.int i1), .val (.int i2), .val (.int i3), .val (.int i4), .val (.int (3 : Int32)), .val (.int (i1 &&& (3 : Int32))), .val (.int v5_s0), .val (.ref b7), .val (.ref b18), .val (.ref b31), .val (.ref b46), .val (.ref b757), .val (.ref b916), .val (.ref z0_EMPTY_LIST), .val (.ref b1_938), .val (.ref b46)] [(.int (1 : Int32)), (.ref b46)])) t
      exact k)
    obtain ⟨cq954, kq954, q954a, q954b, q954c⟩ := isOf hZ e952 F941
    obtain ⟨_, _, ⟨T954, L954, k954, n954⟩, -, X954, ⟨Lc954, hQ954, l954, y954, z954⟩, st954⟩ := X952.interfaceBack hx (xi := (⟨"java/util/List", "get", "(I)Ljava/lang/Object;"⟩ : MethodName)) (y := (⟨"java/util/ArrayList", "get", "(I)Ljava/lang/Object;"⟩ : MethodName)) hown (mvT hZ (hw _ (List.mem_of_getElem? (i := 133) rfl))) (mvT hZ (hw _ (List.mem_of_getElem? (i := 134) rfl))) (mvT hZ (hw _ (List.mem_of_getElem? (i := 135) rfl))) (mvT hZ (hw _ (List.mem_of_getElem? (i := 136) rfl))) (mvT hZ (hw _ (List.mem_of_getElem? (i := 137) rfl))) (mvT hZ (hw _ (List.mem_of_getElem? (i := 138) rfl))) (mvT hZ (hw _ (List.mem_of_getElem? (i := 139) rfl))) (mvT hZ (hw _ (List.mem_of_getElem? (i := 131) rfl))) (by decide) (backOf (W := 0) (rm20_3_1 l Z a0 hw [] b46 b9_4_3_15_730 k9_4_3_15_730 b7 b18 b7 T938.heap n0 (Nat.le_trans Z0 K938.1) F944 F949 F950 F941) hZ (hw _ (List.mem_of_getElem? (i := 140) rfl)) (hw _ (List.mem_of_getElem? (i := 29) rfl)) (by decide) (by decide)) q954a q954b q954c (g := (mkF m 261 #[.val (.int i0), .val (.int i1), .val (.int i2), .val (.int i3), .val (.int i4), .val (.int (3 : Int32)), .val (.int (i1 &&& (3 : Int32))), .val (.int v5_s0), .val (.ref b7), .val (.ref b18), .val (.ref b31), .val (.ref b46), .val (.ref b757), .val (.ref b916), .val (.ref z0_EMPTY_LIST), .val (.ref b1_938), .val (.ref b46)] [(.int (1 : Int32)), (.ref b46)])) rfl (by rw [hml]; rfl) (Steps.refl _) (argsL := [(.int (1 : Int32))]) (rest := []) (lenOf pd_9 rfl) rfl (by show 2 * 0 + _ ≤ _; exact Nat.le_of_eq rfl) (hb hby at_261) (fun _ _ => ⟨rfl, e952, (by decide : 9 + 0 ≤ _), (by decide : 52 + 0 ≤ _)⟩)
    dsimp only [Pt.U, Pt.locs, Pt.cells, Pt.slots] at X954 l954 y954 z954 st954 hQ954
    subst l954 y954 z954
    obtain ⟨rfl, N954q, e954⟩ := hQ954
    have N954 := Fr.app N952 N954q
    have P954 : own_Go p e below S0 (T954.setTop (mkF m 266 #[.val (.int i0), .val (.int i1), .val (.int i2), .val (.int i3), .val (.int i4), .val (.int (3 : Int32)), .val (.int (i1 &&& (3 : Int32))), .val (.int v5_s0), .val (.ref b7), .val (.ref b18), .val (.ref b31), .val (.ref b46), .val (.ref b757), .val (.ref b916), .val (.ref z0_EMPTY_LIST), .val (.ref b1_938), .val (.ref b46)] [(.ref b18)])) := fun t k => P953 t (st954.trans k)
    have P955 : own_Go p e below S0 (T954.setTop (mkF m 282 #[.val (.int i0), .val (.int i1), .val (.int i2), .val (.int i3), .val (.int i4), .val (.int (3 : Int32)), .val (.int (i1 &&& (3 : Int32))), .val (.int v5_s0), .val (.ref b7), .val (.ref b18), .val (.ref b31), .val (.ref b46), .val (.ref b757), .val (.ref b916), .val (.ref z0_EMPTY_LIST), .val (.ref b1_938), .val (.ref b46)] [(.int (2 : Int32)), (.ref b46)])) := fun t k => P954 t (by
      show Steps p.tables e below (T954.setTop (mkF m 266 #[.val (.int i0), .val (.int i1), .val (.int i2), .val (.int i3), .val (.int i4), .val (.int (3 : Int32)), .val (.int (i1 &&& (3 : Int32))), .val (.int v5_s0), .val (.ref b7), .val (.ref b18), .val (.ref b31), .val (.ref b46), .val (.ref b757), .val (.ref b916), .val (.ref z0_EMPTY_LIST), .val (.ref b1_938), .val (.ref b46)] [(.ref b18)])) t
      refine XS.aload X954.here hx rfl (hb hby at_266) rfl rfl ?_
      refine Jvm.RoadKit.acmp (g := (mkF m 268 #[.val (.int i0), .val (.int i1), .val (.int i2), .val (.int i3), .val (.int i4), .val (.int (3 : Int32)), .val (.int (i1 &&& (3 : Int32))), .val (.int v5_s0), .val (.ref b7), .val (.ref b18), .val (.ref b31), .val (.ref b46), .val (.ref b757), .val (.ref b916), .val (.ref z0_EMPTY_LIST), .val (.ref b1_938), .val (.ref b46)] [(.ref b18), (.ref b18)])) X954 hx rfl rfl rfl (pc0 := 268) (pc' := 273) (same := true) rfl (hb hby at_268) rfl (decide_eq_true rfl) (by decide) (by decide) ?_
      refine XS.iload X954.here hx rfl (hb hby at_273) rfl ?_
      refine XS.iconst X954.here hx rfl (hb hby at_275) ?_
      refine XS.icmpNo X954.here hx rfl (hb hby at_276) rfl (tlt (by decide)).2.2.2 ?_
      refine XS.aload X954.here hx rfl (hb hby at_279) rfl rfl ?_
      show Steps p.tables e below (T954.setTop (mkF m 281 #[.val (.int i0), .val (.int i1), .val (.int i2), .val (.int i3), .val (.int i4), .val (.int (3 : Int32)), .val (.int (i1 &&& (3 : Int32))), .val (.int v5_s0), .val (.ref b7), .val (.ref b18), .val (.ref b31), .val (.ref b46), .val (.ref b757), .val (.ref b916), .val (.ref z0_EMPTY_LIST), .val (.ref b1_938), .val (.ref b46)] [(.ref b46)])) t
      refine XS.iconst X954.here hx rfl (hb hby at_281) ?_
      show Steps p.tables e below (T954.setTop (mkF m 282 #[.val (.int i0), .val (.int i1), .val (.int i2), .val (.int i3), .val (.int i4), .val (.int (3 : Int32)), .val (.int (i1 &&& (3 : Int32))), .val (.int v5_s0), .val (.ref b7), .val (.ref b18), .val (.ref b31), .val (.ref b46), .val (.ref b757), .val (.ref b916), .val (.ref z0_EMPTY_LIST), .val (.ref b1_938), .val (.ref b46)] [(.int (2 : Int32)), (.ref b46)])) t
      exact k)
    obtain ⟨cq956, kq956, q956a, q956b, q956c⟩ := isOf hZ e954 F941
    obtain ⟨_, _, ⟨T956, L956, k956, n956⟩, -, X956, ⟨Lc956, hQ956, l956, y956, z956⟩, st956⟩ := X954.interfaceBack hx (xi := (⟨"java/util/List", "get", "(I)Ljava/lang/Object;"⟩ : MethodName)) (y := (⟨"java/util/ArrayList", "get", "(I)Ljava/lang/Object;"⟩ : MethodName)) hown (mvT hZ (hw _ (List.mem_of_getElem? (i := 133) rfl))) (mvT hZ (hw _ (List.mem_of_getElem? (i := 134) rfl))) (mvT hZ (hw _ (List.mem_of_getElem? (i := 135) rfl))) (mvT hZ (hw _ (List.mem_of_getElem? (i := 136) rfl))) (mvT hZ (hw _ (List.mem_of_getElem? (i := 137) rfl))) (mvT hZ (hw _ (List.mem_of_getElem? (i := 138) rfl))) (mvT hZ (hw _ (List.mem_of_getElem? (i := 139) rfl))) (mvT hZ (hw _ (List.mem_of_getElem? (i := 131) rfl))) (by decide) (backOf (W := 0) (rm20_3_2 l Z a0 hw [] b46 b9_4_3_15_730 k9_4_3_15_730 b7 b18 b7 T938.heap n0 (Nat.le_trans Z0 K938.1) F944 F949 F950 F941) hZ (hw _ (List.mem_of_getElem? (i := 140) rfl)) (hw _ (List.mem_of_getElem? (i := 29) rfl)) (by decide) (by decide)) q956a q956b q956c (g := (mkF m 282 #[.val (.int i0), .val (.int i1), .val (.int i2), .val (.int i3), .val (.int i4), .val (.int (3 : Int32)), .val (.int (i1 &&& (3 : Int32))), .val (.int v5_s0), .val (.ref b7), .val (.ref b18), .val (.ref b31), .val (.ref b46), .val (.ref b757), .val (.ref b916), .val (.ref z0_EMPTY_LIST), .val (.ref b1_938), .val (.ref b46)] [(.int (2 : Int32)), (.ref b46)])) rfl (by rw [hml]; rfl) (Steps.refl _) (argsL := [(.int (2 : Int32))]) (rest := []) (lenOf pd_9 rfl) rfl (by show 2 * 0 + _ ≤ _; exact Nat.le_of_eq rfl) (hb hby at_282) (fun _ _ => ⟨rfl, e954, (by decide : 9 + 0 ≤ _), (by decide : 52 + 0 ≤ _)⟩)
    dsimp only [Pt.U, Pt.locs, Pt.cells, Pt.slots] at X956 l956 y956 z956 st956 hQ956
    subst l956 y956 z956
    obtain ⟨rfl, N956q, e956⟩ := hQ956
    have N956 := Fr.app N954 N956q
    have P956 : own_Go p e below S0 (T956.setTop (mkF m 287 #[.val (.int i0), .val (.int i1), .val (.int i2), .val (.int i3), .val (.int i4), .val (.int (3 : Int32)), .val (.int (i1 &&& (3 : Int32))), .val (.int v5_s0), .val (.ref b7), .val (.ref b18), .val (.ref b31), .val (.ref b46), .val (.ref b757), .val (.ref b916), .val (.ref z0_EMPTY_LIST), .val (.ref b1_938), .val (.ref b46)] [(.ref b7)])) := fun t k => P955 t (st956.trans k)
    have P957 : own_Go p e below S0 (T956.setTop (mkF m 295 #[.val (.int i0), .val (.int i1), .val (.int i2), .val (.int i3), .val (.int i4), .val (.int (3 : Int32)), .val (.int (i1 &&& (3 : Int32))), .val (.int v5_s0), .val (.ref b7), .val (.ref b18), .val (.ref b31), .val (.ref b46), .val (.ref b757), .val (.ref b916), .val (.ref z0_EMPTY_LIST), .val (.ref b1_938), .val (.ref b46)] [(.int (1 : Int32))])) := fun t k => P956 t (by
      show Steps p.tables e below (T956.setTop (mkF m 287 #[.val (.int i0), .val (.int i1), .val (.int i2), .val (.int i3), .val (.int i4), .val (.int (3 : Int32)), .val (.int (i1 &&& (3 : Int32))), .val (.int v5_s0), .val (.ref b7), .val (.ref b18), .val (.ref b31), .val (.ref b46), .val (.ref b757), .val (.ref b916), .val (.ref z0_EMPTY_LIST), .val (.ref b1_938), .val (.ref b46)] [(.ref b7)])) t
      refine XS.aload X956.here hx rfl (hb hby at_287) rfl rfl ?_
      refine Jvm.RoadKit.acmp (g := (mkF m 289 #[.val (.int i0), .val (.int i1), .val (.int i2), .val (.int i3), .val (.int i4), .val (.int (3 : Int32)), .val (.int (i1 &&& (3 : Int32))), .val (.int v5_s0), .val (.ref b7), .val (.ref b18), .val (.ref b31), .val (.ref b46), .val (.ref b757), .val (.ref b916), .val (.ref z0_EMPTY_LIST), .val (.ref b1_938), .val (.ref b46)] [(.ref b7), (.ref b7)])) X956 hx rfl rfl rfl (pc0 := 289) (pc' := 294) (same := true) rfl (hb hby at_289) rfl (decide_eq_true rfl) (by decide) (by decide) ?_
      refine XS.iconst X956.here hx rfl (hb hby at_294) ?_
      show Steps p.tables e below (T956.setTop (mkF m 295 #[.val (.int i0), .val (.int i1), .val (.int i2), .val (.int i3), .val (.int i4), .val (.int (3 : Int32)), .val (.int (i1 &&& (3 : Int32))), .val (.int v5_s0), .val (.ref b7), .val (.ref b18), .val (.ref b31), .val (.ref b46), .val (.ref b757), .val (.ref b916), .val (.ref z0_EMPTY_LIST), .val (.ref b1_938), .val (.ref b46)] [(.int (1 : Int32))])) t
      exact k)
    have F958 : Fld Z h916 b46 "java/util/AbstractList" "modCount" "I" (.int ((((0 : Int32) + (1 : Int32)) + (1 : Int32)) + (1 : Int32))) := F914.ext E916
    have F959 : Fld Z T919.heap b46 "java/util/AbstractList" "modCount" "I" (.int ((((0 : Int32) + (1 : Int32)) + (1 : Int32)) + (1 : Int32))) := F958.keep Kc919 (ninS ne_b46_b916 nin0)
    have F960 : Fld Z T938.heap b46 "java/util/AbstractList" "modCount" "I" (.int ((((0 : Int32) + (1 : Int32)) + (1 : Int32)) + (1 : Int32))) := F959.keep Kc938 nin0
    have F961 : Exa Z T938.heap b916 "com/example/penelope/penelope/program/Expansion" := F920.keep Kc938
    have F962 : Fld Z T938.heap b916 "com/example/penelope/penelope/program/Expansion" "moves" "Ljava/util/List;" (.ref b46) := F919_0.keep Kc938 nin0
    have F963 : Fld Z T938.heap b916 "com/example/penelope/penelope/program/Expansion" "movesAfterClaim" "Ljava/util/List;" (.ref z0_EMPTY_LIST) := F919_1.keep Kc938 nin0
    have F964 : Fld Z T938.heap b916 "com/example/penelope/penelope/program/Expansion" "faultAfterClaim" "Lcom/example/penelope/penelope/program/Fault;" .null := F919_2.keep Kc938 nin0
    have F965 : Fld Z T938.heap b916 "com/example/penelope/penelope/program/Expansion" "transientState" "Z" (.int (nar .boolean v5_s0)) := F919_3.keep Kc938 nin0
    obtain ⟨fs, hr, hrun, hended, hW, hsame⟩ := X956.leave (v := some (.int (1 : Int32))) (fun h => by rw [Bd.returns] at h; cases h)
    refine ⟨_, _, own_from hS0 (P957 _ ?_), hrun, hended, _, _, rfl, ?_, ⟨_, rfl⟩, hW, hsame.mono (by decide) (by decide)⟩
    · show Steps p.tables e below (T956.setTop (mkF m 295 #[.val (.int i0), .val (.int i1), .val (.int i2), .val (.int i3), .val (.int i4), .val (.int (3 : Int32)), .val (.int (i1 &&& (3 : Int32))), .val (.int v5_s0), .val (.ref b7), .val (.ref b18), .val (.ref b31), .val (.ref b46), .val (.ref b757), .val (.ref b916), .val (.ref z0_EMPTY_LIST), .val (.ref b1_938), .val (.ref b46)] [(.int (1 : Int32))])) _
      exact retN X956 hx (t := .boolean) Bd.returns (by simp) (hb hby at_295) hr
    · show Q0 Z i0 i1 i2 i3 i4 z0_DEFAULTCAPACITY_EMPTY_ELEMENTDATA qk0 z0_EMPTY_LIST qe qke h0 n0 _ T956.heap _
      rw [e956]
      exact ⟨rfl, N956⟩
set_option maxRecDepth 65536 in
set_option maxHeartbeats 40000000 in
theorem comes_1 {Post : Tables → Env → Array Value → State → Outcome → State → Prop} (hpost : ∀ tb e args s v u, (limb_1_1.after args s (.returned v) u = true ∧ limb_1_2.after args s (.returned v) u = true ∧ True) → FrameEnd s (.returned v) u (Jvm.fieldLocs frame_1_writes args s ++ Jvm.arrayLocs frame_1_arrays args s ++ Jvm.staticLocs frame_1_statics s) 32 192 → Post tb e args s (.returned v) u) :
    ArmFor flags0 classFile x code maxLocals ret World_1 tables_1 room_1 Calls_1 rest_1 Pre_1 Post := by
  intro l hfl _ _ p e ha hc hk s m args below hf hA hF happ hP
  obtain ⟨hcalls, hrest, hpre⟩ := hP
  obtain ⟨-, -, -, hnamed, -, -, -, hat⟩ := (Spec.applies_iff hf).mp happ
  obtain ⟨hg, hn⟩ := and_e (Cond.before_iff.mp (show (Jvm.Cond.and given_1 narrow_1).before args s = true from hpre))
  obtain ⟨ga1, gb1⟩ := and_e hg
  obtain ⟨ga2, gb2⟩ := and_e gb1
  obtain ⟨ga3, gb3⟩ := and_e gb2
  obtain ⟨ga4, gb4⟩ := and_e gb3
  obtain ⟨ga5, gb5⟩ := and_e gb4
  obtain ⟨w0, w1, w2, w3, w4, rfl⟩ : ∃ w0 w1 w2 w3 w4 : Value, args = #[w0, w1, w2, w3, w4] := by
    have hs : args.size = 5 := by simpa [Cond.value, given_1] using ga1
    obtain ⟨L⟩ := args
    match L, hs with
    | [w0, w1, w2, w3, w4], _ => exact ⟨w0, w1, w2, w3, w4, rfl⟩
  have hw := fun d (hd : d ∈ tables_1) => atoms_spec (ws := Jvm.Cond.code x code maxLocals ret :: tables_1) hat d (List.mem_cons_of_mem _ hd)
  have hfit : Fit s := fun {y c} hc i hi => by
    obtain ⟨ha, rfl⟩ := Array.getElem?_eq_some_iff.mp hc
    have q := List.all_eq_true.mp ((Array.all_eq_true_iff_forall_mem.mp hF) _ (Array.getElem_mem ha)) i (List.mem_range.mpr hi)
    simpa [Array.getElem?_eq_getElem hi] using q
  obtain ⟨hsets, hown0⟩ := atoms_of _ (rest_1_c_eq ▸ (show rest_1_c.before _ s = true from hrest))
  obtain ⟨i0, ei0⟩ := is_v ga2
  obtain rfl : w0 = (.int i0) := Option.some.inj ei0
  obtain ⟨i1, ei1⟩ := is_v ga3
  obtain rfl : w1 = (.int i1) := Option.some.inj ei1
  obtain ⟨i2, ei2⟩ := is_v ga4
  obtain rfl : w2 = (.int i2) := Option.some.inj ei2
  obtain ⟨i3, ei3⟩ := is_v ga5
  obtain rfl : w3 = (.int i3) := Option.some.inj ei3
  obtain ⟨i4, ei4⟩ := is_v gb5
  obtain rfl : w4 = (.int i4) := Option.some.inj ei4
  obtain ⟨z0_DEFAULTCAPACITY_EMPTY_ELEMENTDATA, ev1⟩ := exa_v (Cond.before_iff.mp (hsets _ (List.mem_of_getElem? (i := 7) rfl)))
  have S_DEFAULTCAPACITY_EMPTY_ELEMENTDATA : Sta s s.heap "java/util/ArrayList" "DEFAULTCAPACITY_EMPTY_ELEMENTDATA" "[Ljava/lang/Object;" (.ref z0_DEFAULTCAPACITY_EMPTY_ELEMENTDATA) := Sta.start ev1 (Or.inr ⟨(hw _ (List.mem_of_getElem? (i := 29) rfl)), (hsets _ (List.mem_of_getElem? (i := 2) rfl))⟩)
  have Ex_z0_DEFAULTCAPACITY_EMPTY_ELEMENTDATA : Exa s s.heap z0_DEFAULTCAPACITY_EMPTY_ELEMENTDATA "[Ljava/lang/Object;" := Exa.start ev1 (Cond.before_iff.mp (hsets _ (List.mem_of_getElem? (i := 7) rfl)))
  obtain ⟨z0_EMPTY_LIST, ev2⟩ := exa_v (Cond.before_iff.mp (hsets _ (List.mem_of_getElem? (i := 11) rfl)))
  have S_EMPTY_LIST : Sta s s.heap "java/util/ImmutableCollections" "EMPTY_LIST" "Ljava/util/ImmutableCollections$ListN;" (.ref z0_EMPTY_LIST) := Sta.start ev2 (Or.inl (hsets _ (List.mem_of_getElem? (i := 10) rfl)))
  have Ex_z0_EMPTY_LIST : Exa s s.heap z0_EMPTY_LIST "java/util/ImmutableCollections$ListN" := Exa.start ev2 (Cond.before_iff.mp (hsets _ (List.mem_of_getElem? (i := 11) rfl)))
  obtain ⟨qk0, A_Z0⟩ := own_arr0 (ty := .object "java/lang/Object") (d := .null) hfit ev1 (Cond.before_iff.mp (hsets _ (List.mem_of_getElem? (i := 6) rfl))) (Cond.before_iff.mp (hsets _ (List.mem_of_getElem? (i := 8) rfl)))
  obtain ⟨qe, evq⟩ := arr_v (Cond.before_iff.mp (hsets _ (List.mem_of_getElem? (i := 12) rfl)))
  have F_el : Fld s s.heap z0_EMPTY_LIST "java/util/ImmutableCollections$ListN" "elements" "[Ljava/lang/Object;" (.ref qe) := Fld.start ((fld_at ev2).symm.trans evq)
  obtain ⟨qke, A_qe⟩ := own_arr0 (ty := .object "java/lang/Object") (d := .null) hfit evq (Cond.before_iff.mp (hsets _ (List.mem_of_getElem? (i := 12) rfl))) (Cond.before_iff.mp (hsets _ (List.mem_of_getElem? (i := 14) rfl)))
  obtain ⟨n, o, h1, h2, h3, _, L, rfl, ⟨rfl, N⟩, hq⟩ := rm0 l s _ hw tables_1 i0 i1 i2 i3 i4 z0_DEFAULTCAPACITY_EMPTY_ELEMENTDATA qk0 z0_EMPTY_LIST qe qke s.heap s.heap.size (Nat.le_refl _) S_DEFAULTCAPACITY_EMPTY_ELEMENTDATA A_Z0 S_EMPTY_LIST F_el A_qe Ex_z0_EMPTY_LIST p e ha hc hk s m _ below hf ((Spec.applies_iff_loose hf).mp happ).1 ⟨rfl, State.Warmed39.refl s, rfl⟩ trivial
  refine ⟨n, _, h1, h2, h3, hpost _ _ _ _ _ _ ⟨Cond.after_iff.mpr rfl, Cond.after_iff.mpr (eq_i res_at (Term.int_eval (1)) rfl), trivial⟩ ⟨hq.1, hq.2.1, (hq.2.2.sift fun y hy => Or.inr (N y hy)).mono (by decide) (by decide)⟩⟩
theorem main_1_1 : Claimed_1_1 := comes_1 fun _ _ _ _ _ _ h hF => ⟨h.1, hF⟩
theorem main_1_2 : Claimed_1_2 := comes_1 fun _ _ _ _ _ _ h hF => ⟨h.2.1, hF⟩
end Jvm.Pilot.@@N@@
namespace Jvm.Pilot.@@N@@
open Jvm Jvm.ClassFile Sem Op Lib Jvm.Free Jvm.Stand Jvm.Pilot.@@N@@.Jvm.D
/-! MADE BY PROGRAM (witnessworld.py) out of the Statement's table words and the real class files: 26 classes; the members and pool entries that the words name. The judged class is class 1, her method 1. -/
namespace start1
open Jvm.ClassFile
def u (s : String) : CpInfo := .utf8 (stringToUtf16 s)
/-- a pool by its gaps: so many unusable entries, then the entry; so many at the end -/
def gap : Nat → List CpInfo → List CpInfo
  | 0, r => r
  | n + 1, r => .unusable :: gap n r
def poolList (es : List (Nat × CpInfo)) (last : Nat) : List CpInfo := es.foldr (fun e r => gap e.1 (e.2 :: r)) (gap last [])
def pool (es : List (Nat × CpInfo)) (last : Nat) : Array CpInfo := ⟨poolList es last⟩
def fileOf (pool : Array CpInfo) (this : Nat) (attrs : Array Attribute := #[]) (ms : Array MethodInfo := #[]) (fl : Nat := 33) (sup : Nat := 0) (ifs : Array Nat := #[]) (fds : Array FieldInfo := #[]) : ClassFile where
  minorVersion := 0
  majorVersion := 65
  constantPool := pool
  accessFlags := fl
  thisClass := this
  superClass := sup
  interfaces := ifs
  fields := fds
  methods := ms
  attributes := attrs
def plain (name : String) (sup : Option ClassId) : Class where
  name := name
  kind := .ordinary
  loader := none
  accessFlags := 33
  super := sup
  interfaces := #[]
  cf := none
  fields := #[]
  methods := #[]
  instanceTypes := #[]
  staticTypes := #[]
  resolved := #[]
  callSites := []
  init := .initialized
  statics := none
  mirror := none

def pool0 : Array CpInfo := pool [(5, u "<init>"), (0, u "()V"), (1, .class_ 10), (1, u "java/lang/Object")] 113

def k0c0 : Code := { maxStack := 0, maxLocals := 1, code := object_method_1_code, exceptionTable := #[], attributes := #[] }
def k0m0 : Method := { name := "<init>", desc := "()V", sig := { parameters := [], returnType := none }, accessFlags := 1, code := some k0c0 }
/-- java/lang/Object -/
def k0 : Class := { plain "java/lang/Object" none with
  accessFlags := 33
  interfaces := #[]
  cf := some (fileOf pool0 8 #[] #[{ accessFlags := 1, nameIndex := 5, descriptorIndex := 6, attributes := #[] }] 33 0 #[] #[])
  fields := #[]
  methods := #[k0m0]
  instanceTypes := #[]
  staticTypes := #[]
  resolved := Array.replicate 124 none
  statics := none }

def pool1 : Array CpInfo := pool [(2, .class_ 4), (0, .nameAndType 5 6), (0, u "java/lang/Object"), (0, u "<init>"), (0, u "()V"), (0, .class_ 8), (0, u "com/example/penelope/penelope/program/Move"), (0, .methodref 7 10), (0, .nameAndType 5 11), (0, u "(IILcom/example/penelope/penelope/program/ProcessType;ILcom/example/penelope/penelope/program/Transition;)V"), (0, .methodref 7 13), (0, .nameAndType 5 14), (0, u "(Lcom/example/penelope/penelope/program/ProcessType;ILcom/example/penelope/penelope/program/Transition;)V"), (0, .class_ 16), (0, u "java/util/ArrayList"), (0, .methodref 15 3), (0, .methodref 15 19), (0, .nameAndType 20 21), (0, u "add"), (0, u "(Ljava/lang/Object;)Z"), (0, .class_ 23), (0, u "com/example/penelope/penelope/program/Expansion"), (0, .methodref 22 25), (0, .nameAndType 5 26), (0, u "(Ljava/util/List;Z)V"), (0, .methodref 22 28), (0, .nameAndType 29 30), (0, u "movesAfterClaim"), (0, u "()Ljava/util/List;"), (0, .interfaceMethodref 32 33), (0, .class_ 34), (0, .nameAndType 35 36), (0, u "java/util/List"), (0, u "size"), (0, u "()I"), (0, .methodref 22 38), (0, .nameAndType 39 40), (0, u "underClaim"), (0, u "(Ljava/util/List;Lcom/example/penelope/penelope/program/Expansion;)Lcom/example/penelope/penelope/program/Expansion;"), (0, .interfaceMethodref 32 42), (0, .nameAndType 43 44), (0, u "get"), (0, u "(I)Ljava/lang/Object;"), (0, .class_ 46), (0, u "com/example/penelope/penelope/program/ExpansionMovesAfterClaimPinLaw"), (2, u "law"), (0, u "(IIIII)Z")] 6

def k1m0 : Method := { name := "<init>", desc := "()V", sig := { parameters := [], returnType := none }, accessFlags := 1, code := none }
def k1c1 : Code := { maxStack := 7, maxLocals := 17, code := code, exceptionTable := #[], attributes := #[] }
def k1m1 : Method := { name := "law", desc := "(IIIII)Z", sig := { parameters := [.int, .int, .int, .int, .int], returnType := some .boolean }, accessFlags := 9, code := some k1c1 }
/-- com/example/penelope/penelope/program/ExpansionMovesAfterClaimPinLaw -/
def k1 : Class := { plain "com/example/penelope/penelope/program/ExpansionMovesAfterClaimPinLaw" (some 0) with
  accessFlags := 49
  interfaces := #[]
  cf := some (fileOf pool1 45 #[] #[{ accessFlags := 1, nameIndex := 5, descriptorIndex := 6, attributes := #[] }, { accessFlags := 9, nameIndex := 49, descriptorIndex := 50, attributes := #[] }] 49 2 #[] #[])
  fields := #[]
  methods := #[k1m0, k1m1]
  instanceTypes := #[]
  staticTypes := #[]
  resolved := Array.replicate 57 none
  statics := none }

def pool2 : Array CpInfo := pool [(1, .methodref 2 3), (0, .class_ 4), (0, .nameAndType 5 6), (0, u "com/example/penelope/penelope/program/Move"), (0, u "<init>"), (0, u "(IILcom/example/penelope/penelope/program/ProcessType;ILcom/example/penelope/penelope/program/Transition;Lcom/example/penelope/penelope/program/Move;)V"), (0, .fieldref 2 8), (0, .nameAndType 9 10), (0, u "pid"), (0, u "I"), (0, .fieldref 2 12), (0, .nameAndType 13 10), (0, u "process"), (0, .fieldref 2 15), (0, .nameAndType 16 17), (0, u "type"), (0, u "Lcom/example/penelope/penelope/program/ProcessType;"), (0, .fieldref 2 19), (0, .nameAndType 20 10), (0, u "choice"), (0, .fieldref 2 22), (0, .nameAndType 23 24), (0, u "transition"), (0, u "Lcom/example/penelope/penelope/program/Transition;"), (0, .methodref 26 27), (0, .class_ 28), (0, .nameAndType 5 29), (0, u "java/lang/Object"), (0, u "()V"), (0, .fieldref 2 31), (0, .nameAndType 32 33), (0, u "receiver"), (0, u "Lcom/example/penelope/penelope/program/Move;"), (15, u "CLAIM_PID"), (2, u "(IILcom/example/penelope/penelope/program/ProcessType;ILcom/example/penelope/penelope/program/Transition;)V"), (2, u "(Lcom/example/penelope/penelope/program/ProcessType;ILcom/example/penelope/penelope/program/Transition;)V")] 10

def k2c0 : Code := { maxStack := 7, maxLocals := 6, code := prog_95_method_1_code, exceptionTable := #[], attributes := #[] }
def k2m0 : Method := { name := "<init>", desc := "(IILcom/example/penelope/penelope/program/ProcessType;ILcom/example/penelope/penelope/program/Transition;)V", sig := { parameters := [.int, .int, (.object "com/example/penelope/penelope/program/ProcessType"), .int, (.object "com/example/penelope/penelope/program/Transition")], returnType := none }, accessFlags := 0, code := some k2c0 }
def k2c1 : Code := { maxStack := 7, maxLocals := 4, code := prog_95_method_2_code, exceptionTable := #[], attributes := #[] }
def k2m1 : Method := { name := "<init>", desc := "(Lcom/example/penelope/penelope/program/ProcessType;ILcom/example/penelope/penelope/program/Transition;)V", sig := { parameters := [(.object "com/example/penelope/penelope/program/ProcessType"), .int, (.object "com/example/penelope/penelope/program/Transition")], returnType := none }, accessFlags := 0, code := some k2c1 }
def k2c2 : Code := { maxStack := 2, maxLocals := 7, code := prog_95_method_4_code, exceptionTable := #[], attributes := #[] }
def k2m2 : Method := { name := "<init>", desc := "(IILcom/example/penelope/penelope/program/ProcessType;ILcom/example/penelope/penelope/program/Transition;Lcom/example/penelope/penelope/program/Move;)V", sig := { parameters := [.int, .int, (.object "com/example/penelope/penelope/program/ProcessType"), .int, (.object "com/example/penelope/penelope/program/Transition"), (.object "com/example/penelope/penelope/program/Move")], returnType := none }, accessFlags := 2, code := some k2c2 }
/-- com/example/penelope/penelope/program/Move -/
def k2 : Class := { plain "com/example/penelope/penelope/program/Move" (some 0) with
  accessFlags := 49
  interfaces := #[]
  cf := some (fileOf pool2 2 #[] #[{ accessFlags := 0, nameIndex := 5, descriptorIndex := 52, attributes := #[] }, { accessFlags := 0, nameIndex := 5, descriptorIndex := 55, attributes := #[] }, { accessFlags := 2, nameIndex := 5, descriptorIndex := 6, attributes := #[] }] 49 26 #[] #[{ accessFlags := 25, nameIndex := 49, descriptorIndex := 10, attributes := #[] }, { accessFlags := 18, nameIndex := 9, descriptorIndex := 10, attributes := #[] }, { accessFlags := 18, nameIndex := 13, descriptorIndex := 10, attributes := #[] }, { accessFlags := 18, nameIndex := 16, descriptorIndex := 17, attributes := #[] }, { accessFlags := 18, nameIndex := 20, descriptorIndex := 10, attributes := #[] }, { accessFlags := 18, nameIndex := 23, descriptorIndex := 24, attributes := #[] }, { accessFlags := 18, nameIndex := 32, descriptorIndex := 33, attributes := #[] }])
  fields := #[{ name := "CLAIM_PID", type := .int, accessFlags := 25, slot := 0, constantValue := 0 }, { name := "pid", type := .int, accessFlags := 18, slot := 0, constantValue := 0 }, { name := "process", type := .int, accessFlags := 18, slot := 1, constantValue := 0 }, { name := "type", type := (.object "com/example/penelope/penelope/program/ProcessType"), accessFlags := 18, slot := 2, constantValue := 0 }, { name := "choice", type := .int, accessFlags := 18, slot := 3, constantValue := 0 }, { name := "transition", type := (.object "com/example/penelope/penelope/program/Transition"), accessFlags := 18, slot := 4, constantValue := 0 }, { name := "receiver", type := (.object "com/example/penelope/penelope/program/Move"), accessFlags := 18, slot := 5, constantValue := 0 }]
  methods := #[k2m0, k2m1, k2m2]
  instanceTypes := #[.int, .int, (.object "com/example/penelope/penelope/program/ProcessType"), .int, (.object "com/example/penelope/penelope/program/Transition"), (.object "com/example/penelope/penelope/program/Move")]
  staticTypes := #[.int]
  resolved := Array.replicate 66 none
  statics := none }

def pool3 : Array CpInfo := pool [(8, .class_ 10), (1, u "java/lang/Iterable"), (24, .class_ 36), (0, u "java/lang/Object")] 25

/-- java/lang/Iterable -/
def k3 : Class := { plain "java/lang/Iterable" (some 0) with
  accessFlags := 1537
  interfaces := #[]
  cf := some (fileOf pool3 8 #[] #[] 1537 35 #[] #[])
  fields := #[]
  methods := #[]
  instanceTypes := #[]
  staticTypes := #[]
  resolved := Array.replicate 62 none
  statics := none }

def pool4 : Array CpInfo := pool [(10, .class_ 12), (1, u "java/util/Collection"), (47, .class_ 61), (0, u "java/lang/Object"), (0, .class_ 63), (0, u "java/lang/Iterable")] 51

/-- java/util/Collection -/
def k4 : Class := { plain "java/util/Collection" (some 0) with
  accessFlags := 1537
  interfaces := #[3]
  cf := some (fileOf pool4 10 #[] #[] 1537 60 #[62] #[])
  fields := #[]
  methods := #[]
  instanceTypes := #[]
  staticTypes := #[]
  resolved := Array.replicate 115 none
  statics := none }

def pool5 : Array CpInfo := pool [(1, .methodref 2 3), (0, .class_ 4), (0, .nameAndType 5 6), (0, u "java/lang/Object"), (0, u "<init>"), (0, u "()V"), (1, .class_ 10), (1, u "java/util/AbstractCollection"), (66, .class_ 78), (0, u "java/util/Collection")] 81

def k5c0 : Code := { maxStack := 1, maxLocals := 1, code := jdk_22_method_1_code, exceptionTable := #[], attributes := #[] }
def k5m0 : Method := { name := "<init>", desc := "()V", sig := { parameters := [], returnType := none }, accessFlags := 4, code := some k5c0 }
/-- java/util/AbstractCollection -/
def k5 : Class := { plain "java/util/AbstractCollection" (some 0) with
  accessFlags := 1057
  interfaces := #[4]
  cf := some (fileOf pool5 8 #[] #[{ accessFlags := 4, nameIndex := 5, descriptorIndex := 6, attributes := #[] }] 1057 2 #[77] #[])
  fields := #[]
  methods := #[k5m0]
  instanceTypes := #[]
  staticTypes := #[]
  resolved := Array.replicate 160 none
  statics := none }

def pool6 : Array CpInfo := pool [(8, .class_ 10), (1, u "java/util/SequencedCollection"), (15, .class_ 27), (0, u "java/lang/Object"), (0, .class_ 29), (0, u "java/util/Collection")] 27

/-- java/util/SequencedCollection -/
def k6 : Class := { plain "java/util/SequencedCollection" (some 0) with
  accessFlags := 1537
  interfaces := #[4]
  cf := some (fileOf pool6 8 #[] #[] 1537 26 #[28] #[])
  fields := #[]
  methods := #[]
  instanceTypes := #[]
  staticTypes := #[]
  resolved := Array.replicate 57 none
  statics := none }

def pool7 : Array CpInfo := pool [(8, .class_ 10), (1, u "java/util/List"), (64, u "get"), (0, u "(I)Ljava/lang/Object;"), (2, u "size"), (0, u "()I"), (7, u "of"), (1, .fieldref 91 92), (0, .class_ 93), (0, .nameAndType 94 95), (0, u "java/util/ImmutableCollections"), (0, u "EMPTY_LIST"), (0, u "Ljava/util/ImmutableCollections$ListN;"), (7, .class_ 104), (0, u "java/lang/Object"), (14, u "()Ljava/util/List;"), (0, .class_ 121), (0, u "java/util/SequencedCollection")] 129

def k7m0 : Method := { name := "size", desc := "()I", sig := { parameters := [], returnType := some .int }, accessFlags := 1025, code := none }
def k7m1 : Method := { name := "get", desc := "(I)Ljava/lang/Object;", sig := { parameters := [.int], returnType := some (.object "java/lang/Object") }, accessFlags := 1025, code := none }
def k7c2 : Code := { maxStack := 1, maxLocals := 0, code := jdk_40_method_36_code, exceptionTable := #[], attributes := #[] }
def k7m2 : Method := { name := "of", desc := "()Ljava/util/List;", sig := { parameters := [], returnType := some (.object "java/util/List") }, accessFlags := 9, code := some k7c2 }
/-- java/util/List -/
def k7 : Class := { plain "java/util/List" (some 0) with
  accessFlags := 1537
  interfaces := #[6]
  cf := some (fileOf pool7 8 #[] #[{ accessFlags := 1025, nameIndex := 79, descriptorIndex := 80, attributes := #[] }, { accessFlags := 1025, nameIndex := 75, descriptorIndex := 76, attributes := #[] }, { accessFlags := 9, nameIndex := 88, descriptorIndex := 119, attributes := #[] }] 1537 103 #[120] #[])
  fields := #[]
  methods := #[k7m0, k7m1, k7m2]
  instanceTypes := #[]
  staticTypes := #[]
  resolved := Array.replicate 251 none
  statics := none }

def pool8 : Array CpInfo := pool [(1, .methodref 2 3), (0, .class_ 4), (0, .nameAndType 5 6), (0, u "java/util/AbstractCollection"), (0, u "<init>"), (0, u "()V"), (0, .fieldref 8 9), (0, .class_ 10), (0, .nameAndType 11 12), (0, u "java/util/AbstractList"), (0, u "modCount"), (0, u "I"), (64, .class_ 78), (0, u "java/util/AbstractList$Itr"), (3, .class_ 83), (0, u "java/util/AbstractList$ListItr"), (9, .class_ 94), (0, u "java/util/AbstractList$RandomAccessSubList"), (3, .class_ 99), (0, u "java/util/AbstractList$SubList"), (33, .class_ 134), (0, u "java/util/List"), (73, .class_ 209), (0, u "java/util/AbstractList$SubList$1"), (0, .class_ 211), (0, u "java/util/AbstractList$RandomAccessSpliterator")] 6

def k8c0 : Code := { maxStack := 2, maxLocals := 1, code := jdk_39_method_1_code, exceptionTable := #[], attributes := #[] }
def k8m0 : Method := { name := "<init>", desc := "()V", sig := { parameters := [], returnType := none }, accessFlags := 4, code := some k8c0 }
/-- java/util/AbstractList -/
def k8 : Class := { plain "java/util/AbstractList" (some 5) with
  accessFlags := 1057
  interfaces := #[7]
  cf := some (fileOf pool8 8 #[.nestMembers #[93, 98, 208, 210, 82, 77]] #[{ accessFlags := 4, nameIndex := 5, descriptorIndex := 6, attributes := #[] }] 1057 2 #[133] #[{ accessFlags := 132, nameIndex := 11, descriptorIndex := 12, attributes := #[] }])
  fields := #[{ name := "modCount", type := .int, accessFlags := 132, slot := 0, constantValue := 0 }]
  methods := #[k8m0]
  instanceTypes := #[.int]
  staticTypes := #[]
  resolved := Array.replicate 218 none
  statics := none }

def pool9 : Array CpInfo := pool [(1, .class_ 2), (0, u "java/util/RandomAccess"), (0, .class_ 4), (0, u "java/lang/Object")] 2

/-- java/util/RandomAccess -/
def k9 : Class := { plain "java/util/RandomAccess" (some 0) with
  accessFlags := 1537
  interfaces := #[]
  cf := some (fileOf pool9 1 #[] #[] 1537 3 #[] #[])
  fields := #[]
  methods := #[]
  instanceTypes := #[]
  staticTypes := #[]
  resolved := Array.replicate 7 none
  statics := none }

def pool10 : Array CpInfo := pool [(1, .class_ 2), (0, u "java/lang/Cloneable"), (0, .class_ 4), (0, u "java/lang/Object")] 2

/-- java/lang/Cloneable -/
def k10 : Class := { plain "java/lang/Cloneable" (some 0) with
  accessFlags := 1537
  interfaces := #[]
  cf := some (fileOf pool10 1 #[] #[] 1537 3 #[] #[])
  fields := #[]
  methods := #[]
  instanceTypes := #[]
  staticTypes := #[]
  resolved := Array.replicate 7 none
  statics := none }

def pool11 : Array CpInfo := pool [(1, .class_ 2), (0, u "java/io/Serializable"), (0, .class_ 4), (0, u "java/lang/Object")] 2

/-- java/io/Serializable -/
def k11 : Class := { plain "java/io/Serializable" (some 0) with
  accessFlags := 1537
  interfaces := #[]
  cf := some (fileOf pool11 1 #[] #[] 1537 3 #[] #[])
  fields := #[]
  methods := #[]
  instanceTypes := #[]
  staticTypes := #[]
  resolved := Array.replicate 7 none
  statics := none }

def pool12 : Array CpInfo := pool [(1, .methodref 2 3), (0, .class_ 4), (0, .nameAndType 5 6), (0, u "java/util/AbstractList"), (0, u "<init>"), (0, u "()V"), (0, .class_ 8), (0, u "java/lang/Object"), (0, .fieldref 10 11), (0, .class_ 12), (0, .nameAndType 13 14), (0, u "java/util/ArrayList"), (0, u "elementData"), (0, u "[Ljava/lang/Object;"), (2, u "EMPTY_ELEMENTDATA"), (21, .fieldref 10 40), (0, .nameAndType 41 14), (0, u "DEFAULTCAPACITY_EMPTY_ELEMENTDATA"), (5, u "()[Ljava/lang/Object;"), (0, .fieldref 10 49), (0, .nameAndType 50 51), (0, u "size"), (0, u "I"), (11, .fieldref 10 64), (0, .nameAndType 65 51), (0, u "modCount"), (3, .methodref 10 70), (0, .nameAndType 71 72), (0, u "grow"), (0, u "(I)[Ljava/lang/Object;"), (6, .methodref 80 81), (0, .class_ 82), (0, .nameAndType 83 84), (0, u "java/lang/Math"), (0, u "max"), (0, u "(II)I"), (11, u "(Ljava/lang/Object;)Z"), (21, .methodref 119 120), (0, .class_ 121), (0, .nameAndType 122 84), (0, u "java/util/Objects"), (0, u "checkIndex"), (0, .methodref 10 124), (0, .nameAndType 13 125), (0, u "(I)Ljava/lang/Object;"), (3, .methodref 10 130), (0, .nameAndType 71 47), (0, .methodref 10 132), (0, .nameAndType 133 134), (0, u "add"), (0, u "(Ljava/lang/Object;[Ljava/lang/Object;I)V"), (13, .class_ 149), (0, u "java/util/List"), (36, u "()I"), (75, .class_ 263), (0, u "java/util/ArrayList$ListItr"), (3, .class_ 268), (0, u "java/util/ArrayList$Itr"), (7, .class_ 277), (0, u "java/util/ArrayList$SubList"), (12, .class_ 291), (0, u "java/util/ArrayList$ArrayListSpliterator"), (37, .class_ 330), (0, u "java/util/RandomAccess"), (0, .class_ 332), (0, u "java/lang/Cloneable"), (0, .class_ 334), (0, u "java/io/Serializable"), (0, u "serialVersionUID"), (0, u "J"), (3, u "DEFAULT_CAPACITY"), (40, u "get"), (118, .class_ 501), (0, u "java/util/ArrayList$SubList$2"), (0, .class_ 503), (0, u "java/util/ArrayList$SubList$1")] 5

def k12c0 : Code := { maxStack := 2, maxLocals := 1, code := jdk_38_method_2_code, exceptionTable := #[], attributes := #[] }
def k12m0 : Method := { name := "<init>", desc := "()V", sig := { parameters := [], returnType := none }, accessFlags := 1, code := some k12c0 }
def k12c1 : Code := { maxStack := 4, maxLocals := 4, code := jdk_38_method_6_code, exceptionTable := #[], attributes := #[] }
def k12m1 : Method := { name := "grow", desc := "(I)[Ljava/lang/Object;", sig := { parameters := [.int], returnType := some (.array (.object "java/lang/Object")) }, accessFlags := 2, code := some k12c1 }
def k12c2 : Code := { maxStack := 3, maxLocals := 1, code := jdk_38_method_7_code, exceptionTable := #[], attributes := #[] }
def k12m2 : Method := { name := "grow", desc := "()[Ljava/lang/Object;", sig := { parameters := [], returnType := some (.array (.object "java/lang/Object")) }, accessFlags := 2, code := some k12c2 }
def k12c3 : Code := { maxStack := 1, maxLocals := 1, code := jdk_38_method_8_code, exceptionTable := #[], attributes := #[] }
def k12m3 : Method := { name := "size", desc := "()I", sig := { parameters := [], returnType := some .int }, accessFlags := 1, code := some k12c3 }
def k12c4 : Code := { maxStack := 2, maxLocals := 2, code := jdk_38_method_18_code, exceptionTable := #[], attributes := #[] }
def k12m4 : Method := { name := "elementData", desc := "(I)Ljava/lang/Object;", sig := { parameters := [.int], returnType := some (.object "java/lang/Object") }, accessFlags := 0, code := some k12c4 }
def k12c5 : Code := { maxStack := 2, maxLocals := 2, code := jdk_38_method_20_code, exceptionTable := #[], attributes := #[] }
def k12m5 : Method := { name := "get", desc := "(I)Ljava/lang/Object;", sig := { parameters := [.int], returnType := some (.object "java/lang/Object") }, accessFlags := 1, code := some k12c5 }
def k12c6 : Code := { maxStack := 3, maxLocals := 4, code := jdk_38_method_24_code, exceptionTable := #[], attributes := #[] }
def k12m6 : Method := { name := "add", desc := "(Ljava/lang/Object;[Ljava/lang/Object;I)V", sig := { parameters := [(.object "java/lang/Object"), (.array (.object "java/lang/Object")), .int], returnType := none }, accessFlags := 2, code := some k12c6 }
def k12c7 : Code := { maxStack := 4, maxLocals := 2, code := jdk_38_method_25_code, exceptionTable := #[], attributes := #[] }
def k12m7 : Method := { name := "add", desc := "(Ljava/lang/Object;)Z", sig := { parameters := [(.object "java/lang/Object")], returnType := some .boolean }, accessFlags := 1, code := some k12c7 }
/-- java/util/ArrayList -/
def k12 : Class := { plain "java/util/ArrayList" (some 8) with
  accessFlags := 33
  interfaces := #[7, 9, 10, 11]
  cf := some (fileOf pool12 10 #[.nestMembers #[290, 276, 500, 502, 262, 267]] #[{ accessFlags := 1, nameIndex := 5, descriptorIndex := 6, attributes := #[] }, { accessFlags := 2, nameIndex := 71, descriptorIndex := 72, attributes := #[] }, { accessFlags := 2, nameIndex := 71, descriptorIndex := 47, attributes := #[] }, { accessFlags := 1, nameIndex := 50, descriptorIndex := 186, attributes := #[] }, { accessFlags := 0, nameIndex := 13, descriptorIndex := 125, attributes := #[] }, { accessFlags := 1, nameIndex := 381, descriptorIndex := 125, attributes := #[] }, { accessFlags := 2, nameIndex := 133, descriptorIndex := 134, attributes := #[] }, { accessFlags := 1, nameIndex := 133, descriptorIndex := 96, attributes := #[] }] 33 2 #[148, 329, 331, 333] #[{ accessFlags := 26, nameIndex := 335, descriptorIndex := 336, attributes := #[] }, { accessFlags := 26, nameIndex := 340, descriptorIndex := 51, attributes := #[] }, { accessFlags := 26, nameIndex := 17, descriptorIndex := 14, attributes := #[] }, { accessFlags := 26, nameIndex := 41, descriptorIndex := 14, attributes := #[] }, { accessFlags := 128, nameIndex := 13, descriptorIndex := 14, attributes := #[] }, { accessFlags := 2, nameIndex := 50, descriptorIndex := 51, attributes := #[] }])
  fields := #[{ name := "serialVersionUID", type := .long, accessFlags := 26, slot := 0, constantValue := 0 }, { name := "DEFAULT_CAPACITY", type := .int, accessFlags := 26, slot := 1, constantValue := 0 }, { name := "EMPTY_ELEMENTDATA", type := (.array (.object "java/lang/Object")), accessFlags := 26, slot := 2, constantValue := 0 }, { name := "DEFAULTCAPACITY_EMPTY_ELEMENTDATA", type := (.array (.object "java/lang/Object")), accessFlags := 26, slot := 3, constantValue := 0 }, { name := "elementData", type := (.array (.object "java/lang/Object")), accessFlags := 128, slot := 1, constantValue := 0 }, { name := "size", type := .int, accessFlags := 2, slot := 2, constantValue := 0 }]
  methods := #[k12m0, k12m1, k12m2, k12m3, k12m4, k12m5, k12m6, k12m7]
  instanceTypes := #[.int, (.array (.object "java/lang/Object")), .int]
  staticTypes := #[.long, .int, (.array (.object "java/lang/Object")), (.array (.object "java/lang/Object"))]
  resolved := Array.replicate 509 none
  statics := some 0 }

def pool13 : Array CpInfo := pool [(1, .class_ 2), (0, u "java/lang/Math"), (1, .class_ 6), (1, u "java/lang/Object"), (0, u "<init>"), (0, u "()V"), (89, .class_ 100), (1, u "java/lang/Math$RandomNumberGeneratorHolder"), (71, u "negativeZeroFloatBits"), (0, u "J"), (2, u "negativeZeroDoubleBits"), (21, u "max"), (46, u "$assertionsDisabled"), (0, u "Z"), (88, u "(II)I"), (2, u "twoToTheDoubleScaleDown"), (0, u "D"), (4, u "twoToTheDoubleScaleUp"), (9, u "E"), (3, u "PI"), (2, u "TAU"), (2, u "DEGREES_TO_RADIANS"), (0, u "RADIANS_TO_DEGREES")] 94

def k13m0 : Method := { name := "<init>", desc := "()V", sig := { parameters := [], returnType := none }, accessFlags := 2, code := none }
def k13c1 : Code := { maxStack := 2, maxLocals := 2, code := jdk_29_method_65_code, exceptionTable := #[], attributes := #[] }
def k13m1 : Method := { name := "max", desc := "(II)I", sig := { parameters := [.int, .int], returnType := some .int }, accessFlags := 9, code := some k13c1 }
/-- java/lang/Math -/
def k13 : Class := { plain "java/lang/Math" (some 0) with
  accessFlags := 49
  interfaces := #[]
  cf := some (fileOf pool13 1 #[.nestMembers #[98]] #[{ accessFlags := 2, nameIndex := 7, descriptorIndex := 8, attributes := #[] }, { accessFlags := 9, nameIndex := 198, descriptorIndex := 335, attributes := #[] }] 49 4 #[] #[{ accessFlags := 25, nameIndex := 354, descriptorIndex := 339, attributes := #[] }, { accessFlags := 25, nameIndex := 358, descriptorIndex := 339, attributes := #[] }, { accessFlags := 25, nameIndex := 361, descriptorIndex := 339, attributes := #[] }, { accessFlags := 26, nameIndex := 364, descriptorIndex := 339, attributes := #[] }, { accessFlags := 26, nameIndex := 365, descriptorIndex := 339, attributes := #[] }, { accessFlags := 26, nameIndex := 172, descriptorIndex := 173, attributes := #[] }, { accessFlags := 26, nameIndex := 176, descriptorIndex := 173, attributes := #[] }, { accessFlags := 8, nameIndex := 344, descriptorIndex := 339, attributes := #[] }, { accessFlags := 8, nameIndex := 338, descriptorIndex := 339, attributes := #[] }, { accessFlags := 4120, nameIndex := 245, descriptorIndex := 246, attributes := #[] }])
  fields := #[{ name := "E", type := .double, accessFlags := 25, slot := 0, constantValue := 0 }, { name := "PI", type := .double, accessFlags := 25, slot := 1, constantValue := 0 }, { name := "TAU", type := .double, accessFlags := 25, slot := 2, constantValue := 0 }, { name := "DEGREES_TO_RADIANS", type := .double, accessFlags := 26, slot := 3, constantValue := 0 }, { name := "RADIANS_TO_DEGREES", type := .double, accessFlags := 26, slot := 4, constantValue := 0 }, { name := "negativeZeroFloatBits", type := .long, accessFlags := 26, slot := 5, constantValue := 0 }, { name := "negativeZeroDoubleBits", type := .long, accessFlags := 26, slot := 6, constantValue := 0 }, { name := "twoToTheDoubleScaleUp", type := .double, accessFlags := 8, slot := 7, constantValue := 0 }, { name := "twoToTheDoubleScaleDown", type := .double, accessFlags := 8, slot := 8, constantValue := 0 }, { name := "$assertionsDisabled", type := .boolean, accessFlags := 4120, slot := 9, constantValue := 0 }]
  methods := #[k13m0, k13m1]
  instanceTypes := #[]
  staticTypes := #[.double, .double, .double, .double, .double, .long, .long, .double, .double, .boolean]
  resolved := Array.replicate 460 none
  statics := none }

def pool14 : Array CpInfo := pool [(1, .interfaceMethodref 2 3), (0, .class_ 4), (0, .nameAndType 5 6), (0, u "java/util/List"), (0, u "of"), (0, u "()Ljava/util/List;"), (0, .methodref 8 9), (0, .class_ 10), (0, .nameAndType 11 12), (0, u "com/example/penelope/penelope/program/Expansion"), (0, u "<init>"), (0, u "(Ljava/util/List;Ljava/util/List;Lcom/example/penelope/penelope/program/Fault;Z)V"), (0, .methodref 14 15), (0, .class_ 16), (0, .nameAndType 11 17), (0, u "java/lang/Object"), (0, u "()V"), (0, .fieldref 8 19), (0, .nameAndType 20 21), (0, u "moves"), (0, u "Ljava/util/List;"), (0, .fieldref 8 23), (0, .nameAndType 24 21), (0, u "movesAfterClaim"), (0, .fieldref 8 26), (0, .nameAndType 27 28), (0, u "faultAfterClaim"), (0, u "Lcom/example/penelope/penelope/program/Fault;"), (0, .fieldref 8 30), (0, .nameAndType 31 32), (0, u "transientState"), (0, u "Z"), (12, u "(Ljava/util/List;Z)V"), (4, u "underClaim"), (0, u "(Ljava/util/List;Lcom/example/penelope/penelope/program/Expansion;)Lcom/example/penelope/penelope/program/Expansion;")] 13

def k14c0 : Code := { maxStack := 5, maxLocals := 3, code := prog_88_method_1_code, exceptionTable := #[], attributes := #[] }
def k14m0 : Method := { name := "<init>", desc := "(Ljava/util/List;Z)V", sig := { parameters := [(.object "java/util/List"), .boolean], returnType := none }, accessFlags := 0, code := some k14c0 }
def k14c1 : Code := { maxStack := 2, maxLocals := 5, code := prog_88_method_2_code, exceptionTable := #[], attributes := #[] }
def k14m1 : Method := { name := "<init>", desc := "(Ljava/util/List;Ljava/util/List;Lcom/example/penelope/penelope/program/Fault;Z)V", sig := { parameters := [(.object "java/util/List"), (.object "java/util/List"), (.object "com/example/penelope/penelope/program/Fault"), .boolean], returnType := none }, accessFlags := 2, code := some k14c1 }
def k14c2 : Code := { maxStack := 6, maxLocals := 2, code := prog_88_method_3_code, exceptionTable := #[], attributes := #[] }
def k14m2 : Method := { name := "underClaim", desc := "(Ljava/util/List;Lcom/example/penelope/penelope/program/Expansion;)Lcom/example/penelope/penelope/program/Expansion;", sig := { parameters := [(.object "java/util/List"), (.object "com/example/penelope/penelope/program/Expansion")], returnType := some (.object "com/example/penelope/penelope/program/Expansion") }, accessFlags := 8, code := some k14c2 }
def k14c3 : Code := { maxStack := 1, maxLocals := 1, code := prog_88_method_6_code, exceptionTable := #[], attributes := #[] }
def k14m3 : Method := { name := "movesAfterClaim", desc := "()Ljava/util/List;", sig := { parameters := [], returnType := some (.object "java/util/List") }, accessFlags := 1, code := some k14c3 }
/-- com/example/penelope/penelope/program/Expansion -/
def k14 : Class := { plain "com/example/penelope/penelope/program/Expansion" (some 0) with
  accessFlags := 49
  interfaces := #[]
  cf := some (fileOf pool14 8 #[] #[{ accessFlags := 0, nameIndex := 11, descriptorIndex := 45, attributes := #[] }, { accessFlags := 2, nameIndex := 11, descriptorIndex := 12, attributes := #[] }, { accessFlags := 8, nameIndex := 50, descriptorIndex := 51, attributes := #[] }, { accessFlags := 1, nameIndex := 24, descriptorIndex := 6, attributes := #[] }] 49 14 #[] #[{ accessFlags := 18, nameIndex := 20, descriptorIndex := 21, attributes := #[] }, { accessFlags := 18, nameIndex := 24, descriptorIndex := 21, attributes := #[] }, { accessFlags := 18, nameIndex := 27, descriptorIndex := 28, attributes := #[] }, { accessFlags := 18, nameIndex := 31, descriptorIndex := 32, attributes := #[] }])
  fields := #[{ name := "moves", type := (.object "java/util/List"), accessFlags := 18, slot := 0, constantValue := 0 }, { name := "movesAfterClaim", type := (.object "java/util/List"), accessFlags := 18, slot := 1, constantValue := 0 }, { name := "faultAfterClaim", type := (.object "com/example/penelope/penelope/program/Fault"), accessFlags := 18, slot := 2, constantValue := 0 }, { name := "transientState", type := .boolean, accessFlags := 18, slot := 3, constantValue := 0 }]
  methods := #[k14m0, k14m1, k14m2, k14m3]
  instanceTypes := #[(.object "java/util/List"), (.object "java/util/List"), (.object "com/example/penelope/penelope/program/Fault"), .boolean]
  staticTypes := #[]
  resolved := Array.replicate 65 none
  statics := none }

def pool15 : Array CpInfo := pool [(2, .class_ 4), (1, u "java/lang/Object"), (0, u "<init>"), (0, u "()V"), (3, .class_ 11), (0, u "java/util/ImmutableCollections$List12"), (0, .class_ 13), (0, u "java/util/ImmutableCollections$ListN"), (3, u "Z"), (29, .class_ 49), (1, u "java/util/ImmutableCollections"), (0, u "$assertionsDisabled"), (5, u "[Ljava/lang/Object;"), (5, u "EMPTY_LIST"), (0, u "Ljava/util/ImmutableCollections$ListN;"), (8, u "EMPTY_LIST_NULLS"), (22, u "SALT32L"), (0, u "J"), (2, u "REVERSE"), (6, u "archivedObjects"), (2, u "EMPTY"), (0, u "Ljava/lang/Object;"), (0, .class_ 112), (0, u "java/util/ImmutableCollections$SetN"), (5, u "EMPTY_SET"), (0, u "Ljava/util/ImmutableCollections$SetN;"), (0, .class_ 121), (0, u "java/util/ImmutableCollections$MapN"), (3, u "EMPTY_MAP"), (0, u "Ljava/util/ImmutableCollections$MapN;"), (4, u "EXPAND_FACTOR"), (0, u "I"), (36, .class_ 170), (0, u "java/util/ImmutableCollections$MapN$MapNIterator"), (0, .class_ 172), (0, u "java/util/ImmutableCollections$MapN$1"), (0, .class_ 174), (0, u "java/util/ImmutableCollections$Map1"), (0, .class_ 176), (0, u "java/util/ImmutableCollections$AbstractImmutableMap"), (0, .class_ 178), (0, u "java/util/ImmutableCollections$SetN$SetNIterator"), (0, .class_ 180), (0, u "java/util/ImmutableCollections$Set12"), (0, .class_ 182), (0, u "java/util/ImmutableCollections$Set12$1"), (0, .class_ 184), (0, u "java/util/ImmutableCollections$AbstractImmutableSet"), (0, .class_ 186), (0, u "java/util/ImmutableCollections$SubList"), (0, .class_ 188), (0, u "java/util/ImmutableCollections$ListItr"), (0, .class_ 190), (0, u "java/util/ImmutableCollections$AbstractImmutableList"), (0, .class_ 192), (0, u "java/util/ImmutableCollections$AbstractImmutableCollection"), (0, .class_ 194), (0, u "java/util/ImmutableCollections$Access"), (0, .class_ 196), (0, u "java/util/ImmutableCollections$Access$1")] 16

def k15m0 : Method := { name := "<init>", desc := "()V", sig := { parameters := [], returnType := none }, accessFlags := 2, code := none }
/-- java/util/ImmutableCollections -/
def k15 : Class := { plain "java/util/ImmutableCollections" (some 0) with
  accessFlags := 32
  interfaces := #[]
  cf := some (fileOf pool15 47 #[.nestMembers #[120, 169, 171, 173, 175, 111, 177, 179, 181, 183, 12, 10, 185, 187, 189, 191, 193, 195]] #[{ accessFlags := 2, nameIndex := 5, descriptorIndex := 6, attributes := #[] }] 32 2 #[] #[{ accessFlags := 26, nameIndex := 95, descriptorIndex := 96, attributes := #[] }, { accessFlags := 26, nameIndex := 99, descriptorIndex := 17, attributes := #[] }, { accessFlags := 10, nameIndex := 106, descriptorIndex := 56, attributes := #[] }, { accessFlags := 26, nameIndex := 109, descriptorIndex := 110, attributes := #[] }, { accessFlags := 24, nameIndex := 62, descriptorIndex := 63, attributes := #[] }, { accessFlags := 24, nameIndex := 72, descriptorIndex := 63, attributes := #[] }, { accessFlags := 24, nameIndex := 118, descriptorIndex := 119, attributes := #[] }, { accessFlags := 24, nameIndex := 125, descriptorIndex := 126, attributes := #[] }, { accessFlags := 24, nameIndex := 131, descriptorIndex := 132, attributes := #[] }, { accessFlags := 4120, nameIndex := 50, descriptorIndex := 17, attributes := #[] }])
  fields := #[{ name := "SALT32L", type := .long, accessFlags := 26, slot := 0, constantValue := 0 }, { name := "REVERSE", type := .boolean, accessFlags := 26, slot := 1, constantValue := 0 }, { name := "archivedObjects", type := (.array (.object "java/lang/Object")), accessFlags := 10, slot := 2, constantValue := 0 }, { name := "EMPTY", type := (.object "java/lang/Object"), accessFlags := 26, slot := 3, constantValue := 0 }, { name := "EMPTY_LIST", type := (.object "java/util/ImmutableCollections$ListN"), accessFlags := 24, slot := 4, constantValue := 0 }, { name := "EMPTY_LIST_NULLS", type := (.object "java/util/ImmutableCollections$ListN"), accessFlags := 24, slot := 5, constantValue := 0 }, { name := "EMPTY_SET", type := (.object "java/util/ImmutableCollections$SetN"), accessFlags := 24, slot := 6, constantValue := 0 }, { name := "EMPTY_MAP", type := (.object "java/util/ImmutableCollections$MapN"), accessFlags := 24, slot := 7, constantValue := 0 }, { name := "EXPAND_FACTOR", type := .int, accessFlags := 24, slot := 8, constantValue := 0 }, { name := "$assertionsDisabled", type := .boolean, accessFlags := 4120, slot := 9, constantValue := 0 }]
  methods := #[k15m0]
  instanceTypes := #[]
  staticTypes := #[.long, .boolean, (.array (.object "java/lang/Object")), (.object "java/lang/Object"), (.object "java/util/ImmutableCollections$ListN"), (.object "java/util/ImmutableCollections$ListN"), (.object "java/util/ImmutableCollections$SetN"), (.object "java/util/ImmutableCollections$MapN"), .int, .boolean]
  resolved := Array.replicate 213 none
  statics := some 1 }

def pool16 : Array CpInfo := pool [(2, .class_ 4), (1, u "java/util/AbstractCollection"), (0, u "<init>"), (0, u "()V"), (1, .class_ 10), (1, u "java/util/ImmutableCollections"), (2, .class_ 14), (0, u "java/util/ImmutableCollections$AbstractImmutableCollection")] 41

def k16m0 : Method := { name := "<init>", desc := "()V", sig := { parameters := [], returnType := none }, accessFlags := 0, code := none }
/-- java/util/ImmutableCollections$AbstractImmutableCollection -/
def k16 : Class := { plain "java/util/ImmutableCollections$AbstractImmutableCollection" (some 5) with
  accessFlags := 1056
  interfaces := #[]
  cf := some (fileOf pool16 13 #[.nestHost 8] #[{ accessFlags := 0, nameIndex := 5, descriptorIndex := 6, attributes := #[] }] 1056 2 #[] #[])
  fields := #[]
  methods := #[k16m0]
  instanceTypes := #[]
  staticTypes := #[]
  resolved := Array.replicate 56 none
  statics := none }

def pool17 : Array CpInfo := pool [(2, .class_ 4), (1, u "java/util/ImmutableCollections$AbstractImmutableCollection"), (0, u "<init>"), (0, u "()V"), (1, .class_ 10), (1, u "java/util/ImmutableCollections"), (3, .class_ 16), (1, u "java/util/ImmutableCollections$AbstractImmutableList"), (60, .class_ 78), (0, u "java/util/List"), (45, .class_ 125), (0, u "java/util/RandomAccess")] 70

def k17m0 : Method := { name := "<init>", desc := "()V", sig := { parameters := [], returnType := none }, accessFlags := 0, code := none }
/-- java/util/ImmutableCollections$AbstractImmutableList -/
def k17 : Class := { plain "java/util/ImmutableCollections$AbstractImmutableList" (some 16) with
  accessFlags := 1056
  interfaces := #[7, 9]
  cf := some (fileOf pool17 14 #[.nestHost 8] #[{ accessFlags := 0, nameIndex := 5, descriptorIndex := 6, attributes := #[] }] 1056 2 #[77, 124] #[])
  fields := #[]
  methods := #[k17m0]
  instanceTypes := #[]
  staticTypes := #[]
  resolved := Array.replicate 196 none
  statics := none }

def pool18 : Array CpInfo := pool [(2, .class_ 4), (1, u "java/util/ImmutableCollections$AbstractImmutableList"), (2, .fieldref 8 9), (0, .class_ 10), (0, .nameAndType 11 12), (0, u "java/util/ImmutableCollections$ListN"), (0, u "elements"), (0, u "[Ljava/lang/Object;"), (2, u "allowNulls"), (0, u "Z"), (42, .class_ 60), (0, u "java/io/Serializable"), (16, u "size"), (0, u "()I"), (35, .class_ 115), (0, u "java/util/ImmutableCollections")] 3

def k18c0 : Code := { maxStack := 1, maxLocals := 1, code := jdk_45_method_3_code, exceptionTable := #[], attributes := #[] }
def k18m0 : Method := { name := "size", desc := "()I", sig := { parameters := [], returnType := some .int }, accessFlags := 1, code := some k18c0 }
/-- java/util/ImmutableCollections$ListN -/
def k18 : Class := { plain "java/util/ImmutableCollections$ListN" (some 17) with
  accessFlags := 48
  interfaces := #[11]
  cf := some (fileOf pool18 8 #[.nestHost 114] #[{ accessFlags := 1, nameIndex := 77, descriptorIndex := 78, attributes := #[] }] 48 2 #[59] #[{ accessFlags := 18, nameIndex := 11, descriptorIndex := 12, attributes := #[] }, { accessFlags := 18, nameIndex := 15, descriptorIndex := 16, attributes := #[] }])
  fields := #[{ name := "elements", type := (.array (.object "java/lang/Object")), accessFlags := 18, slot := 0, constantValue := 0 }, { name := "allowNulls", type := .boolean, accessFlags := 18, slot := 1, constantValue := 0 }]
  methods := #[k18m0]
  instanceTypes := #[(.array (.object "java/lang/Object")), .boolean]
  staticTypes := #[]
  resolved := Array.replicate 119 none
  statics := none }

def pool19 : Array CpInfo := pool [(2, .class_ 4), (1, u "java/lang/Object"), (0, u "<init>"), (0, u "()V"), (35, .class_ 44), (1, u "java/util/Objects"), (60, .methodref 106 107), (0, .class_ 108), (0, .nameAndType 109 110), (0, u "jdk/internal/util/Preconditions"), (0, u "checkIndex"), (0, u "(IILjava/util/function/BiFunction;)I"), (60, u "(II)I")] 12

def k19m0 : Method := { name := "<init>", desc := "()V", sig := { parameters := [], returnType := none }, accessFlags := 2, code := none }
def k19c1 : Code := { maxStack := 3, maxLocals := 2, code := jdk_31_method_17_code, exceptionTable := #[], attributes := #[] }
def k19m1 : Method := { name := "checkIndex", desc := "(II)I", sig := { parameters := [.int, .int], returnType := some .int }, accessFlags := 9, code := some k19c1 }
/-- java/util/Objects -/
def k19 : Class := { plain "java/util/Objects" (some 0) with
  accessFlags := 49
  interfaces := #[]
  cf := some (fileOf pool19 42 #[] #[{ accessFlags := 2, nameIndex := 5, descriptorIndex := 6, attributes := #[] }, { accessFlags := 9, nameIndex := 109, descriptorIndex := 171, attributes := #[] }] 49 2 #[] #[])
  fields := #[]
  methods := #[k19m0, k19m1]
  instanceTypes := #[]
  staticTypes := #[]
  resolved := Array.replicate 184 none
  statics := none }

def pool20 : Array CpInfo := pool [(2, .class_ 4), (1, u "java/lang/Object"), (0, u "<init>"), (0, u "()V"), (17, .class_ 26), (1, u "jdk/internal/util/Preconditions"), (6, u "checkIndex"), (21, .class_ 56), (0, u "jdk/internal/util/Preconditions$4"), (57, .class_ 115), (0, u "jdk/internal/util/Preconditions$1"), (7, u "SIOOBE_FORMATTER"), (0, u "Ljava/util/function/BiFunction;"), (0, .class_ 126), (0, u "jdk/internal/util/Preconditions$2"), (3, u "AIOOBE_FORMATTER"), (0, .class_ 132), (0, u "jdk/internal/util/Preconditions$3"), (3, u "IOOBE_FORMATTER"), (41, u "(IILjava/util/function/BiFunction;)I")] 15

def k20m0 : Method := { name := "<init>", desc := "()V", sig := { parameters := [], returnType := none }, accessFlags := 1, code := none }
def k20c1 : Code := { maxStack := 3, maxLocals := 3, code := jdk_41_method_11_code, exceptionTable := #[], attributes := #[] }
def k20m1 : Method := { name := "checkIndex", desc := "(IILjava/util/function/BiFunction;)I", sig := { parameters := [.int, .int, (.object "java/util/function/BiFunction")], returnType := some .int }, accessFlags := 9, code := some k20c1 }
/-- jdk/internal/util/Preconditions -/
def k20 : Class := { plain "jdk/internal/util/Preconditions" (some 0) with
  accessFlags := 33
  interfaces := #[]
  cf := some (fileOf pool20 24 #[.nestMembers #[55, 131, 125, 114]] #[{ accessFlags := 1, nameIndex := 5, descriptorIndex := 6, attributes := #[] }, { accessFlags := 9, nameIndex := 33, descriptorIndex := 178, attributes := #[] }] 33 2 #[] #[{ accessFlags := 25, nameIndex := 123, descriptorIndex := 124, attributes := #[] }, { accessFlags := 25, nameIndex := 130, descriptorIndex := 124, attributes := #[] }, { accessFlags := 25, nameIndex := 136, descriptorIndex := 124, attributes := #[] }])
  fields := #[{ name := "SIOOBE_FORMATTER", type := (.object "java/util/function/BiFunction"), accessFlags := 25, slot := 0, constantValue := 0 }, { name := "AIOOBE_FORMATTER", type := (.object "java/util/function/BiFunction"), accessFlags := 25, slot := 1, constantValue := 0 }, { name := "IOOBE_FORMATTER", type := (.object "java/util/function/BiFunction"), accessFlags := 25, slot := 2, constantValue := 0 }]
  methods := #[k20m0, k20m1]
  instanceTypes := #[]
  staticTypes := #[(.object "java/util/function/BiFunction"), (.object "java/util/function/BiFunction"), (.object "java/util/function/BiFunction")]
  resolved := Array.replicate 194 none
  statics := none }

/-- the primitive byte -/
def k21 : Class := { plain "byte" none with kind := .primitive 'B', accessFlags := 0x411 }
/-- [B -/
def k22 : Class := { plain "[B" (some 0) with kind := .array 21 .byte, interfaces := #[10, 11], accessFlags := 1041 }

/-- the primitive int -/
def k23 : Class := { plain "int" none with kind := .primitive 'I', accessFlags := 0x411 }
/-- [I -/
def k24 : Class := { plain "[I" (some 0) with kind := .array 23 .int, interfaces := #[10, 11], accessFlags := 1041 }

/-- [Ljava/lang/Object; -/
def k25 : Class := { plain "[Ljava/lang/Object;" (some 0) with kind := .array 0 (.object "java/lang/Object"), interfaces := #[10, 11], accessFlags := 1041 }

def heap : Heap := #[{ cls := 12, slots := #[.long 0, .int 0, .ref 4, .ref 5], vm := .statics 12 },
  { cls := 15, slots := #[.long 0, .int 0, .null, .null, .ref 3, .null, .null, .null, .int 0, .int 0], vm := .statics 15 },
  { cls := 25, slots := #[], vm := .none },
  { cls := 18, slots := #[.ref 2, .int 0], vm := .none },
  { cls := 25, slots := #[], vm := .none },
  { cls := 25, slots := #[], vm := .none }]
def classes : Array Class := #[k0, k1, k2, k3, k4, k5, k6, k7, k8, k9, k10, k11, k12, k13, k14, k15, k16, k17, k18, k19, k20, k21, k22, k23, k24, k25]
def interned : List (Array UInt16 × Addr) := []
def slotsUsed : Nat := 16
def theMethod : MethodId := ⟨1, 1⟩
def args0 : Array Value := #[.int 5, .int 3, .int 6, .int 6, .int 6]
def aboutOver (below : List Frame) : State where
  vm := { classes := classes, interned := interned.toArray }
  heap := heap
  slotsUsed := slotsUsed
  threads := #[{ frames := .invoking theMethod args0 :: below }]
def below0 : List Frame := [.native { method := ⟨0, 0⟩, args := #[] }]
def about1 : State := aboutOver below0
def p0 : Program := .bare "" "" ""
def e0 : Env := launch0.env 0 0 0
theorem w_frames : about1.frames = Frame.invoking theMethod args0 :: below0 := rfl
set_option maxRecDepth 65536 in
theorem w_args : argsFit about1.vm theMethod args0 = true := by decide +kernel
set_option maxRecDepth 65536 in
theorem w_heap : heapFits about1 = true := by decide +kernel
set_option maxRecDepth 65536 in
theorem w_runnable : about1.curStatus? = some .runnable := by decide +kernel
set_option maxRecDepth 65536 in
theorem w_alone : about1.alone = true := by decide +kernel
set_option maxRecDepth 65536 in
theorem w_named : about1.methodNamed? x = some theMethod := by decide +kernel
set_option maxRecDepth 65536 in
theorem w_hears : about1.hears theMethod below0 = true := by decide +kernel
set_option maxRecDepth 65536 in
theorem w_ripe : about1.ripe theMethod args0 below0 = true := by decide +kernel
theorem w_running : about1.status = .running := rfl
set_option maxRecDepth 65536 in
theorem w_room : about1.hasRoom e0.platform room_1 = true :=
  launch0.hasRoom_least _ room_1 (by decide +kernel) (by decide +kernel) (by decide +kernel) (by decide +kernel) (by decide +kernel) (by decide +kernel)
theorem allAtoms_all (ts : List Jvm.Cond) (a : Array Jvm.Value) (st : Jvm.State) : (allAtoms ts).before a st = ts.all (fun c => c.before a st) := by
  induction ts with
  | nil => rfl
  | cons c t ih =>
    show (Jvm.Cond.and c (allAtoms t)).before a st = _
    rw [Jvm.Cond.before_and, ih, List.all_cons]
def words1 : List Jvm.Cond := Jvm.Cond.code x code maxLocals ret :: tables_1
/-- a 'code' word, met by the world's own term for the bytes: nothing is compared byte by byte -/
theorem code_word {y : MethodName} {bytes : ByteArray} {mx : Nat} {rt : Option FieldType} {a : Array Value} {s : State} {m : MethodId} {meth : Method} {c : Code} (h1 : s.methodNamed? y = some m) (h2 : s.vm.method? m = some meth) (h3 : meth.code = some c) (h4 : c.code = bytes)
    (h5 : (c.maxLocals == mx && c.exceptionTable.isEmpty && decide (c.maxStack ≤ mostOperands) && decide (meth.sig.returnType = rt) && !meth.locks && decide (parseMethodDescriptor y.desc = some meth.sig)) = true) : (Jvm.Cond.code y bytes mx rt).before a s = true := by
  simp only [Bool.and_eq_true, beq_iff_eq, Bool.not_eq_true', decide_eq_true_eq] at h5
  obtain ⟨⟨⟨⟨⟨g1, g2⟩, g3⟩, g4⟩, g5⟩, g6⟩ := h5
  simp [Cond.before, Cond.holds, Cond.value, h1, h2, h3, h4, g1, g2, g3, g4, g5, g6]
def isCode : Jvm.Cond → Bool
  | .code _ _ _ _ => true
  | _ => false
theorem all_split {L : List Jvm.Cond} {P : Jvm.Cond → Bool} (h1 : L.all (fun c => isCode c || P c) = true) (h2 : ∀ c ∈ L.filter isCode, P c = true) : L.all P = true := by
  refine List.all_eq_true.mpr fun c hc => ?_
  have h := List.all_eq_true.mp h1 c hc
  rcases Bool.eq_false_or_eq_true (isCode c) with hi | hi
  · exact h2 c (List.mem_filter.mpr ⟨hc, hi⟩)
  · simpa [hi] using h
set_option maxRecDepth 65536 in
theorem w_c0 : (Jvm.Cond.code x code maxLocals ret).before args0 about1 = true := code_word (m := ⟨1, 1⟩) (meth := k1m1) (c := k1c1) (by decide +kernel) rfl rfl rfl (by decide +kernel)
set_option maxRecDepth 65536 in
theorem w_c1 : (Jvm.Cond.code ({ cls := "com/example/penelope/penelope/program/Move", name := "<init>", desc := "(IILcom/example/penelope/penelope/program/ProcessType;ILcom/example/penelope/penelope/program/Transition;)V" } : Jvm.MethodName) prog_95_method_1_code (6 : Nat) (Option.none : Option Jvm.ClassFile.FieldType)).before args0 about1 = true := code_word (m := ⟨2, 0⟩) (meth := k2m0) (c := k2c0) (by decide +kernel) rfl rfl rfl (by decide +kernel)
set_option maxRecDepth 65536 in
theorem w_c2 : (Jvm.Cond.code ({ cls := "com/example/penelope/penelope/program/Move", name := "<init>", desc := "(IILcom/example/penelope/penelope/program/ProcessType;ILcom/example/penelope/penelope/program/Transition;Lcom/example/penelope/penelope/program/Move;)V" } : Jvm.MethodName) prog_95_method_4_code (7 : Nat) (Option.none : Option Jvm.ClassFile.FieldType)).before args0 about1 = true := code_word (m := ⟨2, 2⟩) (meth := k2m2) (c := k2c2) (by decide +kernel) rfl rfl rfl (by decide +kernel)
set_option maxRecDepth 65536 in
theorem w_c3 : (Jvm.Cond.code ({ cls := "java/lang/Object", name := "<init>", desc := "()V" } : Jvm.MethodName) object_method_1_code (1 : Nat) (Option.none : Option Jvm.ClassFile.FieldType)).before args0 about1 = true := code_word (m := ⟨0, 0⟩) (meth := k0m0) (c := k0c0) (by decide +kernel) rfl rfl rfl (by decide +kernel)
set_option maxRecDepth 65536 in
theorem w_c4 : (Jvm.Cond.code ({ cls := "com/example/penelope/penelope/program/Move", name := "<init>", desc := "(Lcom/example/penelope/penelope/program/ProcessType;ILcom/example/penelope/penelope/program/Transition;)V" } : Jvm.MethodName) prog_95_method_2_code (4 : Nat) (Option.none : Option Jvm.ClassFile.FieldType)).before args0 about1 = true := code_word (m := ⟨2, 1⟩) (meth := k2m1) (c := k2c1) (by decide +kernel) rfl rfl rfl (by decide +kernel)
set_option maxRecDepth 65536 in
theorem w_c5 : (Jvm.Cond.code ({ cls := "java/util/ArrayList", name := "<init>", desc := "()V" } : Jvm.MethodName) jdk_38_method_2_code (1 : Nat) (Option.none : Option Jvm.ClassFile.FieldType)).before args0 about1 = true := code_word (m := ⟨12, 0⟩) (meth := k12m0) (c := k12c0) (by decide +kernel) rfl rfl rfl (by decide +kernel)
set_option maxRecDepth 65536 in
theorem w_c6 : (Jvm.Cond.code ({ cls := "java/util/AbstractList", name := "<init>", desc := "()V" } : Jvm.MethodName) jdk_39_method_1_code (1 : Nat) (Option.none : Option Jvm.ClassFile.FieldType)).before args0 about1 = true := code_word (m := ⟨8, 0⟩) (meth := k8m0) (c := k8c0) (by decide +kernel) rfl rfl rfl (by decide +kernel)
set_option maxRecDepth 65536 in
theorem w_c7 : (Jvm.Cond.code ({ cls := "java/util/AbstractCollection", name := "<init>", desc := "()V" } : Jvm.MethodName) jdk_22_method_1_code (1 : Nat) (Option.none : Option Jvm.ClassFile.FieldType)).before args0 about1 = true := code_word (m := ⟨5, 0⟩) (meth := k5m0) (c := k5c0) (by decide +kernel) rfl rfl rfl (by decide +kernel)
set_option maxRecDepth 65536 in
theorem w_c8 : (Jvm.Cond.code ({ cls := "java/util/ArrayList", name := "add", desc := "(Ljava/lang/Object;)Z" } : Jvm.MethodName) jdk_38_method_25_code (2 : Nat) (Option.some Jvm.ClassFile.FieldType.boolean)).before args0 about1 = true := code_word (m := ⟨12, 7⟩) (meth := k12m7) (c := k12c7) (by decide +kernel) rfl rfl rfl (by decide +kernel)
set_option maxRecDepth 65536 in
theorem w_c9 : (Jvm.Cond.code ({ cls := "java/util/ArrayList", name := "add", desc := "(Ljava/lang/Object;[Ljava/lang/Object;I)V" } : Jvm.MethodName) jdk_38_method_24_code (4 : Nat) (Option.none : Option Jvm.ClassFile.FieldType)).before args0 about1 = true := code_word (m := ⟨12, 6⟩) (meth := k12m6) (c := k12c6) (by decide +kernel) rfl rfl rfl (by decide +kernel)
set_option maxRecDepth 65536 in
theorem w_c10 : (Jvm.Cond.code ({ cls := "java/util/ArrayList", name := "grow", desc := "()[Ljava/lang/Object;" } : Jvm.MethodName) jdk_38_method_7_code (1 : Nat) (Option.some (Jvm.ClassFile.FieldType.array (Jvm.ClassFile.FieldType.object "java/lang/Object")))).before args0 about1 = true := code_word (m := ⟨12, 2⟩) (meth := k12m2) (c := k12c2) (by decide +kernel) rfl rfl rfl (by decide +kernel)
set_option maxRecDepth 65536 in
theorem w_c11 : (Jvm.Cond.code ({ cls := "java/util/ArrayList", name := "grow", desc := "(I)[Ljava/lang/Object;" } : Jvm.MethodName) jdk_38_method_6_code (4 : Nat) (Option.some (Jvm.ClassFile.FieldType.array (Jvm.ClassFile.FieldType.object "java/lang/Object")))).before args0 about1 = true := code_word (m := ⟨12, 1⟩) (meth := k12m1) (c := k12c1) (by decide +kernel) rfl rfl rfl (by decide +kernel)
set_option maxRecDepth 65536 in
theorem w_c12 : (Jvm.Cond.code ({ cls := "java/lang/Math", name := "max", desc := "(II)I" } : Jvm.MethodName) jdk_29_method_65_code (2 : Nat) (Option.some Jvm.ClassFile.FieldType.int)).before args0 about1 = true := code_word (m := ⟨13, 1⟩) (meth := k13m1) (c := k13c1) (by decide +kernel) rfl rfl rfl (by decide +kernel)
set_option maxRecDepth 65536 in
theorem w_c13 : (Jvm.Cond.code ({ cls := "com/example/penelope/penelope/program/Expansion", name := "<init>", desc := "(Ljava/util/List;Z)V" } : Jvm.MethodName) prog_88_method_1_code (3 : Nat) (Option.none : Option Jvm.ClassFile.FieldType)).before args0 about1 = true := code_word (m := ⟨14, 0⟩) (meth := k14m0) (c := k14c0) (by decide +kernel) rfl rfl rfl (by decide +kernel)
set_option maxRecDepth 65536 in
theorem w_c14 : (Jvm.Cond.code ({ cls := "java/util/List", name := "of", desc := "()Ljava/util/List;" } : Jvm.MethodName) jdk_40_method_36_code (0 : Nat) (Option.some (Jvm.ClassFile.FieldType.object "java/util/List"))).before args0 about1 = true := code_word (m := ⟨7, 2⟩) (meth := k7m2) (c := k7c2) (by decide +kernel) rfl rfl rfl (by decide +kernel)
set_option maxRecDepth 65536 in
theorem w_c15 : (Jvm.Cond.code ({ cls := "com/example/penelope/penelope/program/Expansion", name := "<init>", desc := "(Ljava/util/List;Ljava/util/List;Lcom/example/penelope/penelope/program/Fault;Z)V" } : Jvm.MethodName) prog_88_method_2_code (5 : Nat) (Option.none : Option Jvm.ClassFile.FieldType)).before args0 about1 = true := code_word (m := ⟨14, 1⟩) (meth := k14m1) (c := k14c1) (by decide +kernel) rfl rfl rfl (by decide +kernel)
set_option maxRecDepth 65536 in
theorem w_c16 : (Jvm.Cond.code ({ cls := "com/example/penelope/penelope/program/Expansion", name := "movesAfterClaim", desc := "()Ljava/util/List;" } : Jvm.MethodName) prog_88_method_6_code (1 : Nat) (Option.some (Jvm.ClassFile.FieldType.object "java/util/List"))).before args0 about1 = true := code_word (m := ⟨14, 3⟩) (meth := k14m3) (c := k14c3) (by decide +kernel) rfl rfl rfl (by decide +kernel)
set_option maxRecDepth 65536 in
theorem w_c17 : (Jvm.Cond.code ({ cls := "java/util/ImmutableCollections$ListN", name := "size", desc := "()I" } : Jvm.MethodName) jdk_45_method_3_code (1 : Nat) (Option.some Jvm.ClassFile.FieldType.int)).before args0 about1 = true := code_word (m := ⟨18, 0⟩) (meth := k18m0) (c := k18c0) (by decide +kernel) rfl rfl rfl (by decide +kernel)
set_option maxRecDepth 65536 in
theorem w_c18 : (Jvm.Cond.code ({ cls := "com/example/penelope/penelope/program/Expansion", name := "underClaim", desc := "(Ljava/util/List;Lcom/example/penelope/penelope/program/Expansion;)Lcom/example/penelope/penelope/program/Expansion;" } : Jvm.MethodName) prog_88_method_3_code (2 : Nat) (Option.some (Jvm.ClassFile.FieldType.object "com/example/penelope/penelope/program/Expansion"))).before args0 about1 = true := code_word (m := ⟨14, 2⟩) (meth := k14m2) (c := k14c2) (by decide +kernel) rfl rfl rfl (by decide +kernel)
set_option maxRecDepth 65536 in
theorem w_c19 : (Jvm.Cond.code ({ cls := "java/util/ArrayList", name := "size", desc := "()I" } : Jvm.MethodName) jdk_38_method_8_code (1 : Nat) (Option.some Jvm.ClassFile.FieldType.int)).before args0 about1 = true := code_word (m := ⟨12, 3⟩) (meth := k12m3) (c := k12c3) (by decide +kernel) rfl rfl rfl (by decide +kernel)
set_option maxRecDepth 65536 in
theorem w_c20 : (Jvm.Cond.code ({ cls := "java/util/ArrayList", name := "get", desc := "(I)Ljava/lang/Object;" } : Jvm.MethodName) jdk_38_method_20_code (2 : Nat) (Option.some (Jvm.ClassFile.FieldType.object "java/lang/Object"))).before args0 about1 = true := code_word (m := ⟨12, 5⟩) (meth := k12m5) (c := k12c5) (by decide +kernel) rfl rfl rfl (by decide +kernel)
set_option maxRecDepth 65536 in
theorem w_c21 : (Jvm.Cond.code ({ cls := "java/util/Objects", name := "checkIndex", desc := "(II)I" } : Jvm.MethodName) jdk_31_method_17_code (2 : Nat) (Option.some Jvm.ClassFile.FieldType.int)).before args0 about1 = true := code_word (m := ⟨19, 1⟩) (meth := k19m1) (c := k19c1) (by decide +kernel) rfl rfl rfl (by decide +kernel)
set_option maxRecDepth 65536 in
theorem w_c22 : (Jvm.Cond.code ({ cls := "jdk/internal/util/Preconditions", name := "checkIndex", desc := "(IILjava/util/function/BiFunction;)I" } : Jvm.MethodName) jdk_41_method_11_code (3 : Nat) (Option.some Jvm.ClassFile.FieldType.int)).before args0 about1 = true := code_word (m := ⟨20, 1⟩) (meth := k20m1) (c := k20c1) (by decide +kernel) rfl rfl rfl (by decide +kernel)
set_option maxRecDepth 65536 in
theorem w_c23 : (Jvm.Cond.code ({ cls := "java/util/ArrayList", name := "elementData", desc := "(I)Ljava/lang/Object;" } : Jvm.MethodName) jdk_38_method_18_code (2 : Nat) (Option.some (Jvm.ClassFile.FieldType.object "java/lang/Object"))).before args0 about1 = true := code_word (m := ⟨12, 4⟩) (meth := k12m4) (c := k12c4) (by decide +kernel) rfl rfl rfl (by decide +kernel)
def codes1 : List Jvm.Cond := [Jvm.Cond.code x code maxLocals ret, Jvm.Cond.code ({ cls := "com/example/penelope/penelope/program/Move", name := "<init>", desc := "(IILcom/example/penelope/penelope/program/ProcessType;ILcom/example/penelope/penelope/program/Transition;)V" } : Jvm.MethodName) prog_95_method_1_code (6 : Nat) (Option.none : Option Jvm.ClassFile.FieldType), Jvm.Cond.code ({ cls := "com/example/penelope/penelope/program/Move", name := "<init>", desc := "(IILcom/example/penelope/penelope/program/ProcessType;ILcom/example/penelope/penelope/program/Transition;Lcom/example/penelope/penelope/program/Move;)V" } : Jvm.MethodName) prog_95_method_4_code (7 : Nat) (Option.none : Option Jvm.ClassFile.FieldType), Jvm.Cond.code ({ cls := "java/lang/Object", name := "<init>", desc := "()V" } : Jvm.MethodName) object_method_1_code (1 : Nat) (Option.none : Option Jvm.ClassFile.FieldType), Jvm.Cond.code ({ cls := "com/example/penelope/penelope/program/Move", name := "<init>", desc := "(Lcom/example/penelope/penelope/program/ProcessType;ILcom/example/penelope/penelope/program/Transition;)V" } : Jvm.MethodName) prog_95_method_2_code (4 : Nat) (Option.none : Option Jvm.ClassFile.FieldType), Jvm.Cond.code ({ cls := "java/util/ArrayList", name := "<init>", desc := "()V" } : Jvm.MethodName) jdk_38_method_2_code (1 : Nat) (Option.none : Option Jvm.ClassFile.FieldType), Jvm.Cond.code ({ cls := "java/util/AbstractList", name := "<init>", desc := "()V" } : Jvm.MethodName) jdk_39_method_1_code (1 : Nat) (Option.none : Option Jvm.ClassFile.FieldType), Jvm.Cond.code ({ cls := "java/util/AbstractCollection", name := "<init>", desc := "()V" } : Jvm.MethodName) jdk_22_method_1_code (1 : Nat) (Option.none : Option Jvm.ClassFile.FieldType), Jvm.Cond.code ({ cls := "java/util/ArrayList", name := "add", desc := "(Ljava/lang/Object;)Z" } : Jvm.MethodName) jdk_38_method_25_code (2 : Nat) (Option.some Jvm.ClassFile.FieldType.boolean), Jvm.Cond.code ({ cls := "java/util/ArrayList", name := "add", desc := "(Ljava/lang/Object;[Ljava/lang/Object;I)V" } : Jvm.MethodName) jdk_38_method_24_code (4 : Nat) (Option.none : Option Jvm.ClassFile.FieldType), Jvm.Cond.code ({ cls := "java/util/ArrayList", name := "grow", desc := "()[Ljava/lang/Object;" } : Jvm.MethodName) jdk_38_method_7_code (1 : Nat) (Option.some (Jvm.ClassFile.FieldType.array (Jvm.ClassFile.FieldType.object "java/lang/Object"))), Jvm.Cond.code ({ cls := "java/util/ArrayList", name := "grow", desc := "(I)[Ljava/lang/Object;" } : Jvm.MethodName) jdk_38_method_6_code (4 : Nat) (Option.some (Jvm.ClassFile.FieldType.array (Jvm.ClassFile.FieldType.object "java/lang/Object"))), Jvm.Cond.code ({ cls := "java/lang/Math", name := "max", desc := "(II)I" } : Jvm.MethodName) jdk_29_method_65_code (2 : Nat) (Option.some Jvm.ClassFile.FieldType.int), Jvm.Cond.code ({ cls := "com/example/penelope/penelope/program/Expansion", name := "<init>", desc := "(Ljava/util/List;Z)V" } : Jvm.MethodName) prog_88_method_1_code (3 : Nat) (Option.none : Option Jvm.ClassFile.FieldType), Jvm.Cond.code ({ cls := "java/util/List", name := "of", desc := "()Ljava/util/List;" } : Jvm.MethodName) jdk_40_method_36_code (0 : Nat) (Option.some (Jvm.ClassFile.FieldType.object "java/util/List")), Jvm.Cond.code ({ cls := "com/example/penelope/penelope/program/Expansion", name := "<init>", desc := "(Ljava/util/List;Ljava/util/List;Lcom/example/penelope/penelope/program/Fault;Z)V" } : Jvm.MethodName) prog_88_method_2_code (5 : Nat) (Option.none : Option Jvm.ClassFile.FieldType), Jvm.Cond.code ({ cls := "com/example/penelope/penelope/program/Expansion", name := "movesAfterClaim", desc := "()Ljava/util/List;" } : Jvm.MethodName) prog_88_method_6_code (1 : Nat) (Option.some (Jvm.ClassFile.FieldType.object "java/util/List")), Jvm.Cond.code ({ cls := "java/util/ImmutableCollections$ListN", name := "size", desc := "()I" } : Jvm.MethodName) jdk_45_method_3_code (1 : Nat) (Option.some Jvm.ClassFile.FieldType.int), Jvm.Cond.code ({ cls := "com/example/penelope/penelope/program/Expansion", name := "underClaim", desc := "(Ljava/util/List;Lcom/example/penelope/penelope/program/Expansion;)Lcom/example/penelope/penelope/program/Expansion;" } : Jvm.MethodName) prog_88_method_3_code (2 : Nat) (Option.some (Jvm.ClassFile.FieldType.object "com/example/penelope/penelope/program/Expansion")), Jvm.Cond.code ({ cls := "java/util/ArrayList", name := "size", desc := "()I" } : Jvm.MethodName) jdk_38_method_8_code (1 : Nat) (Option.some Jvm.ClassFile.FieldType.int), Jvm.Cond.code ({ cls := "java/util/ArrayList", name := "get", desc := "(I)Ljava/lang/Object;" } : Jvm.MethodName) jdk_38_method_20_code (2 : Nat) (Option.some (Jvm.ClassFile.FieldType.object "java/lang/Object")), Jvm.Cond.code ({ cls := "java/util/Objects", name := "checkIndex", desc := "(II)I" } : Jvm.MethodName) jdk_31_method_17_code (2 : Nat) (Option.some Jvm.ClassFile.FieldType.int), Jvm.Cond.code ({ cls := "jdk/internal/util/Preconditions", name := "checkIndex", desc := "(IILjava/util/function/BiFunction;)I" } : Jvm.MethodName) jdk_41_method_11_code (3 : Nat) (Option.some Jvm.ClassFile.FieldType.int), Jvm.Cond.code ({ cls := "java/util/ArrayList", name := "elementData", desc := "(I)Ljava/lang/Object;" } : Jvm.MethodName) jdk_38_method_18_code (2 : Nat) (Option.some (Jvm.ClassFile.FieldType.object "java/lang/Object"))]
set_option maxRecDepth 65536 in
theorem codes_eq : words1.filter isCode = codes1 := rfl
theorem w_codes : ∀ c ∈ words1.filter isCode, c.before args0 about1 = true := by
  rw [codes_eq]
  intro c hc
  simp only [codes1, List.mem_cons, List.not_mem_nil, or_false] at hc
  rcases hc with rfl | rfl | rfl | rfl | rfl | rfl | rfl | rfl | rfl | rfl | rfl | rfl | rfl | rfl | rfl | rfl | rfl | rfl | rfl | rfl | rfl | rfl | rfl | rfl
  · exact w_c0
  · exact w_c1
  · exact w_c2
  · exact w_c3
  · exact w_c4
  · exact w_c5
  · exact w_c6
  · exact w_c7
  · exact w_c8
  · exact w_c9
  · exact w_c10
  · exact w_c11
  · exact w_c12
  · exact w_c13
  · exact w_c14
  · exact w_c15
  · exact w_c16
  · exact w_c17
  · exact w_c18
  · exact w_c19
  · exact w_c20
  · exact w_c21
  · exact w_c22
  · exact w_c23
set_option maxRecDepth 65536 in
theorem w_t1 : (words1.take 24).all (fun c => isCode c || c.before args0 about1) = true := by decide +kernel
set_option maxRecDepth 65536 in
theorem w_t2 : ((words1.drop 24).take 24).all (fun c => isCode c || c.before args0 about1) = true := by decide +kernel
set_option maxRecDepth 65536 in
theorem w_t3 : (((words1.drop 24).drop 24).take 24).all (fun c => isCode c || c.before args0 about1) = true := by decide +kernel
set_option maxRecDepth 65536 in
theorem w_t4 : ((((words1.drop 24).drop 24).drop 24).take 24).all (fun c => isCode c || c.before args0 about1) = true := by decide +kernel
set_option maxRecDepth 65536 in
theorem w_t5 : (((((words1.drop 24).drop 24).drop 24).drop 24).take 24).all (fun c => isCode c || c.before args0 about1) = true := by decide +kernel
set_option maxRecDepth 65536 in
theorem w_t6 : ((((((words1.drop 24).drop 24).drop 24).drop 24).drop 24).take 24).all (fun c => isCode c || c.before args0 about1) = true := by decide +kernel
set_option maxRecDepth 65536 in
theorem w_t7 : ((((((words1.drop 24).drop 24).drop 24).drop 24).drop 24).drop 24).all (fun c => isCode c || c.before args0 about1) = true := by decide +kernel
theorem w_tables : (allAtoms (Jvm.Cond.code x code maxLocals ret :: tables_1)).before args0 about1 = true := by
  rw [allAtoms_all]
  show words1.all (fun c => c.before args0 about1) = true
  refine all_split ?_ w_codes
  rw [← List.take_append_drop 24 words1, List.all_append, w_t1, ← List.take_append_drop 24 (words1.drop 24), List.all_append, w_t2, ← List.take_append_drop 24 ((words1.drop 24).drop 24), List.all_append, w_t3, ← List.take_append_drop 24 (((words1.drop 24).drop 24).drop 24), List.all_append, w_t4, ← List.take_append_drop 24 ((((words1.drop 24).drop 24).drop 24).drop 24), List.all_append, w_t5, ← List.take_append_drop 24 (((((words1.drop 24).drop 24).drop 24).drop 24).drop 24), List.all_append, w_t6, w_t7]
  rfl
set_option maxRecDepth 65536 in
theorem w_rest : rest_1_c.before args0 about1 = true := by decide +kernel
set_option maxRecDepth 65536 in
theorem w_case : (Jvm.Cond.and given_1 narrow_1).before args0 about1 = true := by decide +kernel
theorem w_applies : (headSpec (Jvm.Cond.code x code maxLocals ret :: tables_1) room_1).applies x e0.platform about1 = true :=
  (Spec.applies_iff w_frames).mpr ⟨w_running, w_runnable, w_alone, w_named, w_hears, w_ripe, w_room, w_tables⟩
theorem atStart : AtStart classFile x code maxLocals ret World_1 tables_1 room_1 Calls_1 rest_1 Pre_1 launch0 p0 e0 about1 theMethod args0 below0 :=
  ⟨lists_1, trivial, launch0.admits_env _ _ _, launch0.least_env, fairChoices_fair.cas, fairChoices_fair.clock, w_frames, w_args, w_heap, w_applies, trivial, w_rest, w_case⟩
end start1
theorem witness_1 : WitnessClaimed_1 := ⟨start1.p0, start1.e0, start1.about1, start1.theMethod, start1.args0, start1.below0, start1.atStart⟩
end Jvm.Pilot.@@N@@
