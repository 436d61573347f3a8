import JvmDerived
import JvmDerived.Pilot.@@N@@Statement
import JvmDerived.Pilot.@@N@@Code
set_option linter.unusedVariables false
set_option linter.unusedSimpArgs false
namespace Jvm.RoadKit
open Sem ClassFile Op Lib Jvm.Stand Jvm.Free Jvm.LawKit
section New
variable {p : Program} {l : Launch} {e : Env} {R : Room} {s : State} {m : MethodId} {args : Array Value} {below : List Frame} {meth : Method} {c : Code} {T : State} {locs : List Loc} {cells slots : Nat}
theorem retI (X : Stand p l e R s m args below meth c T locs cells slots) (hx : p.tables.exec = Jvm.exec) {pc : Nat} {Ls : Array Slot} {z : Int32} {rest : List Value} (hret : meth.sig.returnType = some .int) (hd : decode c.code pc = .ok (.ireturn, 1)) {fs : List Frame}
    (hl : ∀ (f : JFrame) (acts : List Action), f.method = m → f.locked = none → f.entered = [] → (doReturn e (T.setTop f) acts (some (.int z))).1 = T.setFrames fs) : Steps p.tables e below (T.setTop (mkF m pc Ls (.int z :: rest))) (T.setFrames fs) := by
  have hm' : T.vm.method? m = some meth := X.method'
  have hn : narrow .int (.int z) = .int z := rfl
  show Steps p.tables e below (T.setTop { method := m, pc := pc, locals := Ls, stack := _ :: rest, locked := none }) _
  jvm_step X.here [X.here.top, hx, hd, hm', hret, hn]
  first | (intro acts; rw [hl _ acts rfl rfl rfl]) | rw [hl _ _ rfl rfl rfl]
  exact Steps.refl _
end New
end Jvm.RoadKit
namespace Jvm.Pilot.@@N@@
open Jvm Jvm.ClassFile Sem Op Lib Jvm.Free Jvm.Stand Jvm.LawKit Jvm.RoadKit Bundle Jvm.Pilot.@@N@@.Jvm.D
abbrev own_Go (p : Program) (e : Env) (below : List Frame) (A B : State) : Prop := ∀ t, Steps p.tables e below B t → Steps p.tables e below A t
theorem own_from {p : Program} {e : Env} {below : List Frame} {A B t : State} (h : A = B) (k : Steps p.tables e below A t) : Steps p.tables e below B t := h ▸ k
theorem own_ite1 {P : Prop} [Decidable P] (h : P) : ¬ ((if P then (1 : Int32) else (0 : Int32)) = (0 : Int32)) := by rw [if_pos h]; decide
theorem own_ite0 {P : Prop} [Decidable P] (h : ¬ P) : (if P then (1 : Int32) else (0 : Int32)) = (0 : Int32) := if_neg h
def own_Pl (h : Heap) (a : Addr) : Prop := ∃ c : Cell, h[a]? = some c ∧ c.vm.isStatics = false
theorem own_plE {Z : State} {h : Heap} {a : Addr} {C : String} (F : Exa Z h a C) : own_Pl h a := by obtain ⟨cell, k, h1, _, _, h4, _⟩ := F; exact ⟨cell, h1, h4⟩
theorem own_plF {Z : State} {h : Heap} {a : Addr} {C n d : String} {v : Value} (F : Fld Z h a C n d v) : own_Pl h a := by obtain ⟨cell, cf, k, i, f, h1, _, _, _, h5, _⟩ := F; exact ⟨cell, h1, h5⟩
theorem own_plA {Z : State} {h : Heap} {a : Addr} {k : ClassId} {ty : FieldType} {n : Int32} {vs : List Value} {d : Value} (F : Arv Z h a k ty n vs d) : own_Pl h a := by obtain ⟨c, A, _⟩ := F; exact ⟨c, A.1, A.plain⟩
theorem own_staK {Z : State} {h h' : Heap} {C n d : String} {v : Value} {ws : List Addr} (F : Sta Z h C n d v) (K : Keep h h' ws) (q : ∀ x ∈ ws, own_Pl h x) : Sta Z h' C n d v := by
  obtain ⟨cf, i, k, f, st, cell, h1, h2, h3, h4, h5, h6, h7⟩ := F
  refine ⟨cf, i, k, f, st, cell, h1, h2, h3, h4, K.2.1 st cell h5 fun z => ?_, h6, h7⟩
  obtain ⟨c, q1, q2⟩ := q st z
  cases h5.symm.trans q1
  rw [h6] at q2; cases q2
theorem own_insK {Z : State} {h h' : Heap} {a : Addr} {C : String} {bo : Bool} {ws : List Addr} (F : Ins Z h a C bo) (K : Keep h h' ws) : Ins Z h' a C bo := by
  obtain ⟨cell, cT, h1, h2, h3⟩ := F
  obtain ⟨c', q1, q2, q3, q4⟩ := K.2.2 a cell h1
  exact ⟨c', cT, q1, h2, by rw [q2, q3]; exact h3⟩
theorem own_atI {c : Cell} {vs : List Value} {d : Value} {ty : FieldType} {j : Int32} (H : Has c vs d) (G : ∀ i, i < c.slots.size → fits ty (vs.getD i d) = true) (q : ¬ (j < 0 ∨ c.slots.size ≤ j.toNatClampNeg)) (ht : ty = .int ∨ ty = .boolean ∨ ty = .byte ∨ ty = .char ∨ ty = .short) : ∃ z, c.slots[j.toNatClampNeg]? = some (.int z) := by
  have hlt := Nat.lt_of_not_le fun y => q (Or.inr y)
  obtain ⟨z, hz⟩ := fit_I (G _ hlt) ht
  exact ⟨z, by rw [H _ hlt, hz]⟩
theorem own_cat {v : Value} (h : v.isRef = true) : v.category = 1 := by cases v <;> simp [Value.isRef, Value.category] at h ⊢
theorem pn_2 : plainName "java/lang/Record" = true := by first | (simp [plainName, overriddenIn]; done) | decide +kernel
theorem d2_0 : decode jdk_30_method_1_code 0 = .ok (.aload_n 0, 1) := by decide +kernel
theorem d2_1 : decode jdk_30_method_1_code 1 = .ok (.invokespecial 1, 3) := by decide +kernel
theorem d2_4 : decode jdk_30_method_1_code 4 = .ok (.return_, 1) := by decide +kernel
theorem ef_2 (m : MethodId) (q2_0 : Addr) : entryFrame m #[(.ref q2_0)] 1 = mkF m 0 #[.val (.ref q2_0)] [] := by first | (simp [entryFrame, mkF, argsToLocals, Value.category]; done) | rfl
def Q2 (Z : State) (q2_0 : Addr) (h0 : Heap) (n0 : Nat) (v : Option Value) (h : Heap) (L : List Loc) : Prop := v = none ∧ Fr n0 L ∧ h = h0
set_option maxRecDepth 65536 in
set_option maxHeartbeats 40000000 in
theorem rm2 (l : Launch) (Z : State) (a0 : Array Value) (hw : ∀ d ∈ tables_1, d.before a0 Z = true) (ws : List Jvm.Cond) (q2_0 : Addr) (h0 : Heap) (n0 : Nat) (Z0 : n0 ≤ h0.size) :
    MetFree l (⟨"java/lang/Record", "<init>", "()V"⟩ : MethodName) (head1 (Jvm.Cond.code (⟨"java/lang/Record", "<init>", "()V"⟩ : MethodName) jdk_30_method_1_code 1 none :: ws) ({ frames := 1, cells := 0, slots := 0, locals := 12 } : Room)) (fun a U => a = #[(.ref q2_0)] ∧ Z.Warmed39 U.vm ∧ U.heap = h0) (fun _ _ _ _ _ => True) (fun _ U o U' => ∃ v L, o = .returned v ∧ Q2 Z q2_0 h0 n0 v U'.heap L ∧ FrameEnd U o U' L ({ frames := 1, cells := 0, slots := 0, locals := 12 } : Room).cells ({ frames := 1, cells := 0, slots := 0, locals := 12 } : Room).slots) := by
  refine MetFree.of_bodySF (plainFor_of_name pn_2) hisR ?_
  intro p e s m args below meth c s₁ Bd hml0 hP hK
  obtain ⟨rfl, hZ, hh⟩ := hP
  have hx := Bd.exec
  have hby := Bd.bytes
  have hml : c.maxLocals = 1 := hml0
  have hown : s.vm.findClass "java/lang/Record" = some m.cls := findClass_of_methodNamed Bd.named
  have hnm := (name_of_methodNamed Bd.named Bd.method).1
  have X0 : Stand p l e ({ frames := 1, cells := 0, slots := 0, locals := 12 } : Room) s m #[(.ref q2_0)] below meth c s₁ [] 0 0 := Stand.of_body Bd
  have e0 : s₁.heap = h0 := by rw [← hh, Bd.state]; rfl
  have N0 := Fr.nil n0
  obtain ⟨S0, hS0⟩ : ∃ z, z = s₁.setTop (entryFrame m #[(.ref q2_0)] 1) := ⟨_, rfl⟩
  have P0 : own_Go p e below S0 (s₁.setTop (mkF m 0 #[.val (.ref q2_0)] [])) := fun t k => by rw [hS0]; exact castTop (ef_2 m q2_0) k
  have P1 : own_Go p e below S0 (s₁.setTop (mkF m 1 #[.val (.ref q2_0)] [(.ref q2_0)])) := fun t k => P0 t (by
    show Steps p.tables e below (s₁.setTop (mkF m 0 #[.val (.ref q2_0)] [])) t
    refine XS.aloadN X0.here hx rfl (hb hby d2_0) rfl rfl ?_
    show Steps p.tables e below (s₁.setTop (mkF m 1 #[.val (.ref q2_0)] [(.ref q2_0)])) t
    exact k)
  obtain ⟨T2, X2, e2, st2⟩ := initO X0 hx hZ hown (hw _ (List.mem_of_getElem? (i := 11) rfl)) (hw _ (List.mem_of_getElem? (i := 12) rfl)) (hw _ (List.mem_of_getElem? (i := 13) rfl)) e0 (g := (mkF m 1 #[.val (.ref q2_0)] [(.ref q2_0)])) rfl (by rw [hml]; rfl) rfl (hb hby d2_1) (by decide) (W := 0) (by show 2 * 0 + _ ≤ _; exact Nat.le_of_eq rfl) (by decide)
  have P2 : own_Go p e below S0 (T2.setTop (mkF m 4 #[.val (.ref q2_0)] [])) := fun t k => P1 t (st2 _ k)
  obtain ⟨fs, hr, hrun, hended, hW, hsame⟩ := X2.leave (v := none) (fun _ => rfl)
  refine ⟨_, _, own_from hS0 (P2 _ ?_), hrun, hended, _, _, rfl, ?_, ⟨_, rfl⟩, hW, hsame.mono (by decide) (by decide)⟩
  · show Steps p.tables e below (T2.setTop (mkF m 4 #[.val (.ref q2_0)] [])) _
    exact X2.returnOut hx Bd.returns (hb hby d2_4) hr
  · show Q2 Z q2_0 h0 n0 _ T2.heap _
    rw [e2]
    exact ⟨rfl, N0, rfl⟩
theorem pd_0 : parseMethodDescriptor "()V" = some ⟨[], none⟩ := by decide +kernel
theorem pn_1 : plainName "com/example/names_for_good/namesforgood/protocol/Envelope" = true := by first | (simp [plainName, overriddenIn]; done) | decide +kernel
theorem d1_0 : decode prog_27_method_1_code 0 = .ok (.aload_n 0, 1) := by decide +kernel
theorem d1_1 : decode prog_27_method_1_code 1 = .ok (.invokespecial 1, 3) := by decide +kernel
theorem d1_4 : decode prog_27_method_1_code 4 = .ok (.aload_n 0, 1) := by decide +kernel
theorem d1_5 : decode prog_27_method_1_code 5 = .ok (.iload_n 1, 1) := by decide +kernel
theorem d1_6 : decode prog_27_method_1_code 6 = .ok (.putfield 7, 3) := by decide +kernel
theorem d1_9 : decode prog_27_method_1_code 9 = .ok (.aload_n 0, 1) := by decide +kernel
theorem d1_10 : decode prog_27_method_1_code 10 = .ok (.iload_n 2, 1) := by decide +kernel
theorem d1_11 : decode prog_27_method_1_code 11 = .ok (.putfield 13, 3) := by decide +kernel
theorem d1_14 : decode prog_27_method_1_code 14 = .ok (.aload_n 0, 1) := by decide +kernel
theorem d1_15 : decode prog_27_method_1_code 15 = .ok (.iload_n 3, 1) := by decide +kernel
theorem d1_16 : decode prog_27_method_1_code 16 = .ok (.putfield 16, 3) := by decide +kernel
theorem d1_19 : decode prog_27_method_1_code 19 = .ok (.aload_n 0, 1) := by decide +kernel
theorem d1_20 : decode prog_27_method_1_code 20 = .ok (.iload 4, 2) := by decide +kernel
theorem d1_22 : decode prog_27_method_1_code 22 = .ok (.putfield 19, 3) := by decide +kernel
theorem d1_25 : decode prog_27_method_1_code 25 = .ok (.aload_n 0, 1) := by decide +kernel
theorem d1_26 : decode prog_27_method_1_code 26 = .ok (.iload 5, 2) := by decide +kernel
theorem d1_28 : decode prog_27_method_1_code 28 = .ok (.putfield 22, 3) := by decide +kernel
theorem d1_31 : decode prog_27_method_1_code 31 = .ok (.aload_n 0, 1) := by decide +kernel
theorem d1_32 : decode prog_27_method_1_code 32 = .ok (.iload 6, 2) := by decide +kernel
theorem d1_34 : decode prog_27_method_1_code 34 = .ok (.putfield 25, 3) := by decide +kernel
theorem d1_37 : decode prog_27_method_1_code 37 = .ok (.return_, 1) := by decide +kernel
theorem ef_1 (m : MethodId) (q1_0 : Addr) (q1_1 : Int32) (q1_2 : Int32) (q1_3 : Int32) (q1_4 : Int32) (q1_5 : Int32) (q1_6 : Int32) : entryFrame m #[(.ref q1_0), (.int q1_1), (.int q1_2), (.int q1_3), (.int q1_4), (.int q1_5), (.int q1_6)] 7 = mkF m 0 #[.val (.ref q1_0), .val (.int q1_1), .val (.int q1_2), .val (.int q1_3), .val (.int q1_4), .val (.int q1_5), .val (.int q1_6)] [] := by first | (simp [entryFrame, mkF, argsToLocals, Value.category]; done) | rfl
def Q1 (Z : State) (q1_0 : Addr) (q1_1 : Int32) (q1_2 : Int32) (q1_3 : Int32) (q1_4 : Int32) (q1_5 : Int32) (q1_6 : Int32) (u1_q1_0_majorVersion : Value) (u1_q1_0_minorVersion : Value) (u1_q1_0_messageFlag : Value) (u1_q1_0_sessionId : Value) (u1_q1_0_requestId : Value) (u1_q1_0_sequenceNumber : Value) (h0 : Heap) (n0 : Nat) (v : Option Value) (h : Heap) (L : List Loc) : Prop := v = none ∧ Fr n0 L ∧ Keep h0 h [q1_0] ∧ Fld Z h q1_0 "com/example/names_for_good/namesforgood/protocol/Envelope" "majorVersion" "I" (.int q1_1) ∧ Fld Z h q1_0 "com/example/names_for_good/namesforgood/protocol/Envelope" "minorVersion" "I" (.int q1_2) ∧ Fld Z h q1_0 "com/example/names_for_good/namesforgood/protocol/Envelope" "messageFlag" "I" (.int q1_3) ∧ Fld Z h q1_0 "com/example/names_for_good/namesforgood/protocol/Envelope" "sessionId" "I" (.int q1_4) ∧ Fld Z h q1_0 "com/example/names_for_good/namesforgood/protocol/Envelope" "requestId" "I" (.int q1_5) ∧ Fld Z h q1_0 "com/example/names_for_good/namesforgood/protocol/Envelope" "sequenceNumber" "I" (.int q1_6)
set_option maxRecDepth 65536 in
set_option maxHeartbeats 40000000 in
theorem rm1 (l : Launch) (Z : State) (a0 : Array Value) (hw : ∀ d ∈ tables_1, d.before a0 Z = true) (ws : List Jvm.Cond) (q1_0 : Addr) (q1_1 : Int32) (q1_2 : Int32) (q1_3 : Int32) (q1_4 : Int32) (q1_5 : Int32) (q1_6 : Int32) (u1_q1_0_majorVersion : Value) (u1_q1_0_minorVersion : Value) (u1_q1_0_messageFlag : Value) (u1_q1_0_sessionId : Value) (u1_q1_0_requestId : Value) (u1_q1_0_sequenceNumber : Value) (h0 : Heap) (n0 : Nat) (Z0 : n0 ≤ h0.size) (E_q1_0 : Exa Z h0 q1_0 "com/example/names_for_good/namesforgood/protocol/Envelope") (F_q1_0_majorVersion : Fld Z h0 q1_0 "com/example/names_for_good/namesforgood/protocol/Envelope" "majorVersion" "I" u1_q1_0_majorVersion) (g_q1_0 : n0 ≤ q1_0) (F_q1_0_minorVersion : Fld Z h0 q1_0 "com/example/names_for_good/namesforgood/protocol/Envelope" "minorVersion" "I" u1_q1_0_minorVersion) (F_q1_0_messageFlag : Fld Z h0 q1_0 "com/example/names_for_good/namesforgood/protocol/Envelope" "messageFlag" "I" u1_q1_0_messageFlag) (F_q1_0_sessionId : Fld Z h0 q1_0 "com/example/names_for_good/namesforgood/protocol/Envelope" "sessionId" "I" u1_q1_0_sessionId) (F_q1_0_requestId : Fld Z h0 q1_0 "com/example/names_for_good/namesforgood/protocol/Envelope" "requestId" "I" u1_q1_0_requestId) (F_q1_0_sequenceNumber : Fld Z h0 q1_0 "com/example/names_for_good/namesforgood/protocol/Envelope" "sequenceNumber" "I" u1_q1_0_sequenceNumber) :
    MetFree l (⟨"com/example/names_for_good/namesforgood/protocol/Envelope", "<init>", "(IIIIII)V"⟩ : MethodName) (head1 (Jvm.Cond.code (⟨"com/example/names_for_good/namesforgood/protocol/Envelope", "<init>", "(IIIIII)V"⟩ : MethodName) prog_27_method_1_code 7 none :: ws) ({ frames := 2, cells := 0, slots := 0, locals := 24 } : Room)) (fun a U => a = #[(.ref q1_0), (.int q1_1), (.int q1_2), (.int q1_3), (.int q1_4), (.int q1_5), (.int q1_6)] ∧ Z.Warmed39 U.vm ∧ U.heap = h0) (fun _ _ _ _ _ => True) (fun _ U o U' => ∃ v L, o = .returned v ∧ Q1 Z q1_0 q1_1 q1_2 q1_3 q1_4 q1_5 q1_6 u1_q1_0_majorVersion u1_q1_0_minorVersion u1_q1_0_messageFlag u1_q1_0_sessionId u1_q1_0_requestId u1_q1_0_sequenceNumber h0 n0 v U'.heap L ∧ FrameEnd U o U' L ({ frames := 2, cells := 0, slots := 0, locals := 24 } : Room).cells ({ frames := 2, cells := 0, slots := 0, locals := 24 } : Room).slots) := by
  refine MetFree.of_bodySF (plainFor_of_name pn_1) hisR ?_
  intro p e s m args below meth c s₁ Bd hml0 hP hK
  obtain ⟨rfl, hZ, hh⟩ := hP
  have hx := Bd.exec
  have hby := Bd.bytes
  have hml : c.maxLocals = 7 := hml0
  have hown : s.vm.findClass "com/example/names_for_good/namesforgood/protocol/Envelope" = some m.cls := findClass_of_methodNamed Bd.named
  have hnm := (name_of_methodNamed Bd.named Bd.method).1
  have X0 : Stand p l e ({ frames := 2, cells := 0, slots := 0, locals := 24 } : Room) s m #[(.ref q1_0), (.int q1_1), (.int q1_2), (.int q1_3), (.int q1_4), (.int q1_5), (.int q1_6)] below meth c s₁ [] 0 0 := Stand.of_body Bd
  have e0 : s₁.heap = h0 := by rw [← hh, Bd.state]; rfl
  have N0 := Fr.nil n0
  obtain ⟨S0, hS0⟩ : ∃ z, z = s₁.setTop (entryFrame m #[(.ref q1_0), (.int q1_1), (.int q1_2), (.int q1_3), (.int q1_4), (.int q1_5), (.int q1_6)] 7) := ⟨_, rfl⟩
  have P0 : own_Go p e below S0 (s₁.setTop (mkF m 0 #[.val (.ref q1_0), .val (.int q1_1), .val (.int q1_2), .val (.int q1_3), .val (.int q1_4), .val (.int q1_5), .val (.int q1_6)] [])) := fun t k => by rw [hS0]; exact castTop (ef_1 m q1_0 q1_1 q1_2 q1_3 q1_4 q1_5 q1_6) k
  have P1 : own_Go p e below S0 (s₁.setTop (mkF m 1 #[.val (.ref q1_0), .val (.int q1_1), .val (.int q1_2), .val (.int q1_3), .val (.int q1_4), .val (.int q1_5), .val (.int q1_6)] [(.ref q1_0)])) := fun t k => P0 t (by
    show Steps p.tables e below (s₁.setTop (mkF m 0 #[.val (.ref q1_0), .val (.int q1_1), .val (.int q1_2), .val (.int q1_3), .val (.int q1_4), .val (.int q1_5), .val (.int q1_6)] [])) t
    refine XS.aloadN X0.here hx rfl (hb hby d1_0) rfl rfl ?_
    show Steps p.tables e below (s₁.setTop (mkF m 1 #[.val (.ref q1_0), .val (.int q1_1), .val (.int q1_2), .val (.int q1_3), .val (.int q1_4), .val (.int q1_5), .val (.int q1_6)] [(.ref q1_0)])) t
    exact k)
  obtain ⟨_, _, ⟨T2, L2, k2, n2⟩, -, X2, ⟨Lc2, hQ2, l2, y2, z2⟩, st2⟩ := X0.specialBack hx (y := (⟨"java/lang/Record", "<init>", "()V"⟩ : MethodName)) rfl hown (mvT hZ (hw _ (List.mem_of_getElem? (i := 6) rfl))) (mvT hZ (hw _ (List.mem_of_getElem? (i := 7) rfl))) (mvT hZ (hw _ (List.mem_of_getElem? (i := 10) rfl))) (by decide) (backOf (W := 0) (rm2 l Z a0 hw [] q1_0 h0 n0 Z0) hZ (hw _ (List.mem_of_getElem? (i := 10) rfl)) (hw _ (List.mem_of_getElem? (i := 9) rfl)) (by decide) (by decide)) (g := (mkF m 1 #[.val (.ref q1_0), .val (.int q1_1), .val (.int q1_2), .val (.int q1_3), .val (.int q1_4), .val (.int q1_5), .val (.int q1_6)] [(.ref q1_0)])) rfl (by rw [hml]; rfl) (Steps.refl _) (a := q1_0) (argsL := []) (rest := []) (lenOf pd_0 rfl) rfl (by show 2 * 0 + _ ≤ _; exact Nat.le_of_eq rfl) (hb hby d1_1) (fun _ _ => ⟨rfl, e0, (by decide : 0 + 0 ≤ _), (by decide : 0 + 0 ≤ _)⟩)
  dsimp only [Pt.U, Pt.locs, Pt.cells, Pt.slots] at X2 l2 y2 z2 st2 hQ2
  subst l2 y2 z2
  obtain ⟨rfl, N2q, e2⟩ := hQ2
  have N2 := Fr.app N0 N2q
  have P2 : own_Go p e below S0 (T2.setTop (mkF m 4 #[.val (.ref q1_0), .val (.int q1_1), .val (.int q1_2), .val (.int q1_3), .val (.int q1_4), .val (.int q1_5), .val (.int q1_6)] [])) := fun t k => P1 t (st2.trans k)
  have P3 : own_Go p e below S0 (T2.setTop (mkF m 6 #[.val (.ref q1_0), .val (.int q1_1), .val (.int q1_2), .val (.int q1_3), .val (.int q1_4), .val (.int q1_5), .val (.int q1_6)] [(.int q1_1), (.ref q1_0)])) := fun t k => P2 t (by
    show Steps p.tables e below (T2.setTop (mkF m 4 #[.val (.ref q1_0), .val (.int q1_1), .val (.int q1_2), .val (.int q1_3), .val (.int q1_4), .val (.int q1_5), .val (.int q1_6)] [])) t
    refine XS.aloadN X2.here hx rfl (hb hby d1_4) rfl rfl ?_
    refine XS.iloadN X2.here hx rfl (hb hby d1_5) rfl ?_
    show Steps p.tables e below (T2.setTop (mkF m 6 #[.val (.ref q1_0), .val (.int q1_1), .val (.int q1_2), .val (.int q1_3), .val (.int q1_4), .val (.int q1_5), .val (.int q1_6)] [(.int q1_1), (.ref q1_0)])) t
    exact k)
  obtain ⟨T4, h4, X4, e4, W4, st4⟩ := putF X2 hx hZ hown (host := "") (Or.inl (hw _ (List.mem_of_getElem? (i := 14) rfl))) Via.refl e2 F_q1_0_majorVersion E_q1_0 (Or.inr ⟨(hw _ (List.mem_of_getElem? (i := 15) rfl)), rfl, hnm⟩) (hw _ (List.mem_of_getElem? (i := 1) rfl)) (ty := .int) (by decide) rfl rfl (g := (mkF m 6 #[.val (.ref q1_0), .val (.int q1_1), .val (.int q1_2), .val (.int q1_3), .val (.int q1_4), .val (.int q1_5), .val (.int q1_6)] [(.int q1_1), (.ref q1_0)])) rfl rfl (hb hby d1_6)
  have K4 : Keep h0 h4 [q1_0] := (Keep.refl h0 [q1_0]).wr W4 (Or.inl (by simp))
  have N4 := Fr.snoc X4 N2 g_q1_0
  have F4w : Fld Z h4 q1_0 "com/example/names_for_good/namesforgood/protocol/Envelope" "majorVersion" "I" (.int q1_1) := F_q1_0_majorVersion.same W4
  have P4 : own_Go p e below S0 (T4.setTop (mkF m 9 #[.val (.ref q1_0), .val (.int q1_1), .val (.int q1_2), .val (.int q1_3), .val (.int q1_4), .val (.int q1_5), .val (.int q1_6)] [])) := fun t k => P3 t (st4 _ k)
  have F5 : Exa Z h4 q1_0 "com/example/names_for_good/namesforgood/protocol/Envelope" := E_q1_0.wr W4
  have F6 : Fld Z h4 q1_0 "com/example/names_for_good/namesforgood/protocol/Envelope" "minorVersion" "I" u1_q1_0_minorVersion := F_q1_0_minorVersion.other W4 (Or.inr (slot_ne (Or.inr (hw _ (List.mem_of_getElem? (i := 17) rfl))) (Or.inr (hw _ (List.mem_of_getElem? (i := 15) rfl))) (by decide) (t := .int) (t' := .int) (by decide) (by decide)))
  have P7 : own_Go p e below S0 (T4.setTop (mkF m 11 #[.val (.ref q1_0), .val (.int q1_1), .val (.int q1_2), .val (.int q1_3), .val (.int q1_4), .val (.int q1_5), .val (.int q1_6)] [(.int q1_2), (.ref q1_0)])) := fun t k => P4 t (by
    show Steps p.tables e below (T4.setTop (mkF m 9 #[.val (.ref q1_0), .val (.int q1_1), .val (.int q1_2), .val (.int q1_3), .val (.int q1_4), .val (.int q1_5), .val (.int q1_6)] [])) t
    refine XS.aloadN X4.here hx rfl (hb hby d1_9) rfl rfl ?_
    refine XS.iloadN X4.here hx rfl (hb hby d1_10) rfl ?_
    show Steps p.tables e below (T4.setTop (mkF m 11 #[.val (.ref q1_0), .val (.int q1_1), .val (.int q1_2), .val (.int q1_3), .val (.int q1_4), .val (.int q1_5), .val (.int q1_6)] [(.int q1_2), (.ref q1_0)])) t
    exact k)
  obtain ⟨T8, h8, X8, e8, W8, st8⟩ := putF X4 hx hZ hown (host := "") (Or.inl (hw _ (List.mem_of_getElem? (i := 16) rfl))) Via.refl e4 F6 F5 (Or.inr ⟨(hw _ (List.mem_of_getElem? (i := 17) rfl)), rfl, hnm⟩) (hw _ (List.mem_of_getElem? (i := 1) rfl)) (ty := .int) (by decide) rfl rfl (g := (mkF m 11 #[.val (.ref q1_0), .val (.int q1_1), .val (.int q1_2), .val (.int q1_3), .val (.int q1_4), .val (.int q1_5), .val (.int q1_6)] [(.int q1_2), (.ref q1_0)])) rfl rfl (hb hby d1_11)
  have K8 : Keep h0 h8 [q1_0] := K4.wr W8 (Or.inl (by simp))
  have N8 := Fr.snoc X8 N4 g_q1_0
  have F8w : Fld Z h8 q1_0 "com/example/names_for_good/namesforgood/protocol/Envelope" "minorVersion" "I" (.int q1_2) := F6.same W8
  have P8 : own_Go p e below S0 (T8.setTop (mkF m 14 #[.val (.ref q1_0), .val (.int q1_1), .val (.int q1_2), .val (.int q1_3), .val (.int q1_4), .val (.int q1_5), .val (.int q1_6)] [])) := fun t k => P7 t (st8 _ k)
  have F9 : Exa Z h8 q1_0 "com/example/names_for_good/namesforgood/protocol/Envelope" := F5.wr W8
  have F10 : Fld Z h4 q1_0 "com/example/names_for_good/namesforgood/protocol/Envelope" "messageFlag" "I" u1_q1_0_messageFlag := F_q1_0_messageFlag.other W4 (Or.inr (slot_ne (Or.inr (hw _ (List.mem_of_getElem? (i := 19) rfl))) (Or.inr (hw _ (List.mem_of_getElem? (i := 15) rfl))) (by decide) (t := .int) (t' := .int) (by decide) (by decide)))
  have F11 : Fld Z h8 q1_0 "com/example/names_for_good/namesforgood/protocol/Envelope" "messageFlag" "I" u1_q1_0_messageFlag := F10.other W8 (Or.inr (slot_ne (Or.inr (hw _ (List.mem_of_getElem? (i := 19) rfl))) (Or.inr (hw _ (List.mem_of_getElem? (i := 17) rfl))) (by decide) (t := .int) (t' := .int) (by decide) (by decide)))
  have P12 : own_Go p e below S0 (T8.setTop (mkF m 16 #[.val (.ref q1_0), .val (.int q1_1), .val (.int q1_2), .val (.int q1_3), .val (.int q1_4), .val (.int q1_5), .val (.int q1_6)] [(.int q1_3), (.ref q1_0)])) := fun t k => P8 t (by
    show Steps p.tables e below (T8.setTop (mkF m 14 #[.val (.ref q1_0), .val (.int q1_1), .val (.int q1_2), .val (.int q1_3), .val (.int q1_4), .val (.int q1_5), .val (.int q1_6)] [])) t
    refine XS.aloadN X8.here hx rfl (hb hby d1_14) rfl rfl ?_
    refine XS.iloadN X8.here hx rfl (hb hby d1_15) rfl ?_
    show Steps p.tables e below (T8.setTop (mkF m 16 #[.val (.ref q1_0), .val (.int q1_1), .val (.int q1_2), .val (.int q1_3), .val (.int q1_4), .val (.int q1_5), .val (.int q1_6)] [(.int q1_3), (.ref q1_0)])) t
    exact k)
  obtain ⟨T13, h13, X13, e13, W13, st13⟩ := putF X8 hx hZ hown (host := "") (Or.inl (hw _ (List.mem_of_getElem? (i := 18) rfl))) Via.refl e8 F11 F9 (Or.inr ⟨(hw _ (List.mem_of_getElem? (i := 19) rfl)), rfl, hnm⟩) (hw _ (List.mem_of_getElem? (i := 1) rfl)) (ty := .int) (by decide) rfl rfl (g := (mkF m 16 #[.val (.ref q1_0), .val (.int q1_1), .val (.int q1_2), .val (.int q1_3), .val (.int q1_4), .val (.int q1_5), .val (.int q1_6)] [(.int q1_3), (.ref q1_0)])) rfl rfl (hb hby d1_16)
  have K13 : Keep h0 h13 [q1_0] := K8.wr W13 (Or.inl (by simp))
  have N13 := Fr.snoc X13 N8 g_q1_0
  have F13w : Fld Z h13 q1_0 "com/example/names_for_good/namesforgood/protocol/Envelope" "messageFlag" "I" (.int q1_3) := F11.same W13
  have P13 : own_Go p e below S0 (T13.setTop (mkF m 19 #[.val (.ref q1_0), .val (.int q1_1), .val (.int q1_2), .val (.int q1_3), .val (.int q1_4), .val (.int q1_5), .val (.int q1_6)] [])) := fun t k => P12 t (st13 _ k)
  have F14 : Exa Z h13 q1_0 "com/example/names_for_good/namesforgood/protocol/Envelope" := F9.wr W13
  have F15 : Fld Z h4 q1_0 "com/example/names_for_good/namesforgood/protocol/Envelope" "sessionId" "I" u1_q1_0_sessionId := F_q1_0_sessionId.other W4 (Or.inr (slot_ne (Or.inr (hw _ (List.mem_of_getElem? (i := 21) rfl))) (Or.inr (hw _ (List.mem_of_getElem? (i := 15) rfl))) (by decide) (t := .int) (t' := .int) (by decide) (by decide)))
  have F16 : Fld Z h8 q1_0 "com/example/names_for_good/namesforgood/protocol/Envelope" "sessionId" "I" u1_q1_0_sessionId := F15.other W8 (Or.inr (slot_ne (Or.inr (hw _ (List.mem_of_getElem? (i := 21) rfl))) (Or.inr (hw _ (List.mem_of_getElem? (i := 17) rfl))) (by decide) (t := .int) (t' := .int) (by decide) (by decide)))
  have F17 : Fld Z h13 q1_0 "com/example/names_for_good/namesforgood/protocol/Envelope" "sessionId" "I" u1_q1_0_sessionId := F16.other W13 (Or.inr (slot_ne (Or.inr (hw _ (List.mem_of_getElem? (i := 21) rfl))) (Or.inr (hw _ (List.mem_of_getElem? (i := 19) rfl))) (by decide) (t := .int) (t' := .int) (by decide) (by decide)))
  have P18 : own_Go p e below S0 (T13.setTop (mkF m 22 #[.val (.ref q1_0), .val (.int q1_1), .val (.int q1_2), .val (.int q1_3), .val (.int q1_4), .val (.int q1_5), .val (.int q1_6)] [(.int q1_4), (.ref q1_0)])) := fun t k => P13 t (by
    show Steps p.tables e below (T13.setTop (mkF m 19 #[.val (.ref q1_0), .val (.int q1_1), .val (.int q1_2), .val (.int q1_3), .val (.int q1_4), .val (.int q1_5), .val (.int q1_6)] [])) t
    refine XS.aloadN X13.here hx rfl (hb hby d1_19) rfl rfl ?_
    refine XS.iload X13.here hx rfl (hb hby d1_20) rfl ?_
    show Steps p.tables e below (T13.setTop (mkF m 22 #[.val (.ref q1_0), .val (.int q1_1), .val (.int q1_2), .val (.int q1_3), .val (.int q1_4), .val (.int q1_5), .val (.int q1_6)] [(.int q1_4), (.ref q1_0)])) t
    exact k)
  obtain ⟨T19, h19, X19, e19, W19, st19⟩ := putF X13 hx hZ hown (host := "") (Or.inl (hw _ (List.mem_of_getElem? (i := 20) rfl))) Via.refl e13 F17 F14 (Or.inr ⟨(hw _ (List.mem_of_getElem? (i := 21) rfl)), rfl, hnm⟩) (hw _ (List.mem_of_getElem? (i := 1) rfl)) (ty := .int) (by decide) rfl rfl (g := (mkF m 22 #[.val (.ref q1_0), .val (.int q1_1), .val (.int q1_2), .val (.int q1_3), .val (.int q1_4), .val (.int q1_5), .val (.int q1_6)] [(.int q1_4), (.ref q1_0)])) rfl rfl (hb hby d1_22)
  have K19 : Keep h0 h19 [q1_0] := K13.wr W19 (Or.inl (by simp))
  have N19 := Fr.snoc X19 N13 g_q1_0
  have F19w : Fld Z h19 q1_0 "com/example/names_for_good/namesforgood/protocol/Envelope" "sessionId" "I" (.int q1_4) := F17.same W19
  have P19 : own_Go p e below S0 (T19.setTop (mkF m 25 #[.val (.ref q1_0), .val (.int q1_1), .val (.int q1_2), .val (.int q1_3), .val (.int q1_4), .val (.int q1_5), .val (.int q1_6)] [])) := fun t k => P18 t (st19 _ k)
  have F20 : Exa Z h19 q1_0 "com/example/names_for_good/namesforgood/protocol/Envelope" := F14.wr W19
  have F21 : Fld Z h4 q1_0 "com/example/names_for_good/namesforgood/protocol/Envelope" "requestId" "I" u1_q1_0_requestId := F_q1_0_requestId.other W4 (Or.inr (slot_ne (Or.inr (hw _ (List.mem_of_getElem? (i := 23) rfl))) (Or.inr (hw _ (List.mem_of_getElem? (i := 15) rfl))) (by decide) (t := .int) (t' := .int) (by decide) (by decide)))
  have F22 : Fld Z h8 q1_0 "com/example/names_for_good/namesforgood/protocol/Envelope" "requestId" "I" u1_q1_0_requestId := F21.other W8 (Or.inr (slot_ne (Or.inr (hw _ (List.mem_of_getElem? (i := 23) rfl))) (Or.inr (hw _ (List.mem_of_getElem? (i := 17) rfl))) (by decide) (t := .int) (t' := .int) (by decide) (by decide)))
  have F23 : Fld Z h13 q1_0 "com/example/names_for_good/namesforgood/protocol/Envelope" "requestId" "I" u1_q1_0_requestId := F22.other W13 (Or.inr (slot_ne (Or.inr (hw _ (List.mem_of_getElem? (i := 23) rfl))) (Or.inr (hw _ (List.mem_of_getElem? (i := 19) rfl))) (by decide) (t := .int) (t' := .int) (by decide) (by decide)))
  have F24 : Fld Z h19 q1_0 "com/example/names_for_good/namesforgood/protocol/Envelope" "requestId" "I" u1_q1_0_requestId := F23.other W19 (Or.inr (slot_ne (Or.inr (hw _ (List.mem_of_getElem? (i := 23) rfl))) (Or.inr (hw _ (List.mem_of_getElem? (i := 21) rfl))) (by decide) (t := .int) (t' := .int) (by decide) (by decide)))
  have P25 : own_Go p e below S0 (T19.setTop (mkF m 28 #[.val (.ref q1_0), .val (.int q1_1), .val (.int q1_2), .val (.int q1_3), .val (.int q1_4), .val (.int q1_5), .val (.int q1_6)] [(.int q1_5), (.ref q1_0)])) := fun t k => P19 t (by
    show Steps p.tables e below (T19.setTop (mkF m 25 #[.val (.ref q1_0), .val (.int q1_1), .val (.int q1_2), .val (.int q1_3), .val (.int q1_4), .val (.int q1_5), .val (.int q1_6)] [])) t
    refine XS.aloadN X19.here hx rfl (hb hby d1_25) rfl rfl ?_
    refine XS.iload X19.here hx rfl (hb hby d1_26) rfl ?_
    show Steps p.tables e below (T19.setTop (mkF m 28 #[.val (.ref q1_0), .val (.int q1_1), .val (.int q1_2), .val (.int q1_3), .val (.int q1_4), .val (.int q1_5), .val (.int q1_6)] [(.int q1_5), (.ref q1_0)])) t
    exact k)
  obtain ⟨T26, h26, X26, e26, W26, st26⟩ := putF X19 hx hZ hown (host := "") (Or.inl (hw _ (List.mem_of_getElem? (i := 22) rfl))) Via.refl e19 F24 F20 (Or.inr ⟨(hw _ (List.mem_of_getElem? (i := 23) rfl)), rfl, hnm⟩) (hw _ (List.mem_of_getElem? (i := 1) rfl)) (ty := .int) (by decide) rfl rfl (g := (mkF m 28 #[.val (.ref q1_0), .val (.int q1_1), .val (.int q1_2), .val (.int q1_3), .val (.int q1_4), .val (.int q1_5), .val (.int q1_6)] [(.int q1_5), (.ref q1_0)])) rfl rfl (hb hby d1_28)
  have K26 : Keep h0 h26 [q1_0] := K19.wr W26 (Or.inl (by simp))
  have N26 := Fr.snoc X26 N19 g_q1_0
  have F26w : Fld Z h26 q1_0 "com/example/names_for_good/namesforgood/protocol/Envelope" "requestId" "I" (.int q1_5) := F24.same W26
  have P26 : own_Go p e below S0 (T26.setTop (mkF m 31 #[.val (.ref q1_0), .val (.int q1_1), .val (.int q1_2), .val (.int q1_3), .val (.int q1_4), .val (.int q1_5), .val (.int q1_6)] [])) := fun t k => P25 t (st26 _ k)
  have F27 : Exa Z h26 q1_0 "com/example/names_for_good/namesforgood/protocol/Envelope" := F20.wr W26
  have F28 : Fld Z h4 q1_0 "com/example/names_for_good/namesforgood/protocol/Envelope" "sequenceNumber" "I" u1_q1_0_sequenceNumber := F_q1_0_sequenceNumber.other W4 (Or.inr (slot_ne (Or.inr (hw _ (List.mem_of_getElem? (i := 25) rfl))) (Or.inr (hw _ (List.mem_of_getElem? (i := 15) rfl))) (by decide) (t := .int) (t' := .int) (by decide) (by decide)))
  have F29 : Fld Z h8 q1_0 "com/example/names_for_good/namesforgood/protocol/Envelope" "sequenceNumber" "I" u1_q1_0_sequenceNumber := F28.other W8 (Or.inr (slot_ne (Or.inr (hw _ (List.mem_of_getElem? (i := 25) rfl))) (Or.inr (hw _ (List.mem_of_getElem? (i := 17) rfl))) (by decide) (t := .int) (t' := .int) (by decide) (by decide)))
  have F30 : Fld Z h13 q1_0 "com/example/names_for_good/namesforgood/protocol/Envelope" "sequenceNumber" "I" u1_q1_0_sequenceNumber := F29.other W13 (Or.inr (slot_ne (Or.inr (hw _ (List.mem_of_getElem? (i := 25) rfl))) (Or.inr (hw _ (List.mem_of_getElem? (i := 19) rfl))) (by decide) (t := .int) (t' := .int) (by decide) (by decide)))
  have F31 : Fld Z h19 q1_0 "com/example/names_for_good/namesforgood/protocol/Envelope" "sequenceNumber" "I" u1_q1_0_sequenceNumber := F30.other W19 (Or.inr (slot_ne (Or.inr (hw _ (List.mem_of_getElem? (i := 25) rfl))) (Or.inr (hw _ (List.mem_of_getElem? (i := 21) rfl))) (by decide) (t := .int) (t' := .int) (by decide) (by decide)))
  have F32 : Fld Z h26 q1_0 "com/example/names_for_good/namesforgood/protocol/Envelope" "sequenceNumber" "I" u1_q1_0_sequenceNumber := F31.other W26 (Or.inr (slot_ne (Or.inr (hw _ (List.mem_of_getElem? (i := 25) rfl))) (Or.inr (hw _ (List.mem_of_getElem? (i := 23) rfl))) (by decide) (t := .int) (t' := .int) (by decide) (by decide)))
  have P33 : own_Go p e below S0 (T26.setTop (mkF m 34 #[.val (.ref q1_0), .val (.int q1_1), .val (.int q1_2), .val (.int q1_3), .val (.int q1_4), .val (.int q1_5), .val (.int q1_6)] [(.int q1_6), (.ref q1_0)])) := fun t k => P26 t (by
    show Steps p.tables e below (T26.setTop (mkF m 31 #[.val (.ref q1_0), .val (.int q1_1), .val (.int q1_2), .val (.int q1_3), .val (.int q1_4), .val (.int q1_5), .val (.int q1_6)] [])) t
    refine XS.aloadN X26.here hx rfl (hb hby d1_31) rfl rfl ?_
    refine XS.iload X26.here hx rfl (hb hby d1_32) rfl ?_
    show Steps p.tables e below (T26.setTop (mkF m 34 #[.val (.ref q1_0), .val (.int q1_1), .val (.int q1_2), .val (.int q1_3), .val (.int q1_4), .val (.int q1_5), .val (.int q1_6)] [(.int q1_6), (.ref q1_0)])) t
    exact k)
  obtain ⟨T34, h34, X34, e34, W34, st34⟩ := putF X26 hx hZ hown (host := "") (Or.inl (hw _ (List.mem_of_getElem? (i := 24) rfl))) Via.refl e26 F32 F27 (Or.inr ⟨(hw _ (List.mem_of_getElem? (i := 25) rfl)), rfl, hnm⟩) (hw _ (List.mem_of_getElem? (i := 1) rfl)) (ty := .int) (by decide) rfl rfl (g := (mkF m 34 #[.val (.ref q1_0), .val (.int q1_1), .val (.int q1_2), .val (.int q1_3), .val (.int q1_4), .val (.int q1_5), .val (.int q1_6)] [(.int q1_6), (.ref q1_0)])) rfl rfl (hb hby d1_34)
  have K34 : Keep h0 h34 [q1_0] := K26.wr W34 (Or.inl (by simp))
  have N34 := Fr.snoc X34 N26 g_q1_0
  have F34w : Fld Z h34 q1_0 "com/example/names_for_good/namesforgood/protocol/Envelope" "sequenceNumber" "I" (.int q1_6) := F32.same W34
  have P34 : own_Go p e below S0 (T34.setTop (mkF m 37 #[.val (.ref q1_0), .val (.int q1_1), .val (.int q1_2), .val (.int q1_3), .val (.int q1_4), .val (.int q1_5), .val (.int q1_6)] [])) := fun t k => P33 t (st34 _ k)
  have F35 : Fld Z h8 q1_0 "com/example/names_for_good/namesforgood/protocol/Envelope" "majorVersion" "I" (.int q1_1) := F4w.other W8 (Or.inr (slot_ne (Or.inr (hw _ (List.mem_of_getElem? (i := 15) rfl))) (Or.inr (hw _ (List.mem_of_getElem? (i := 17) rfl))) (by decide) (t := .int) (t' := .int) (by decide) (by decide)))
  have F36 : Fld Z h13 q1_0 "com/example/names_for_good/namesforgood/protocol/Envelope" "majorVersion" "I" (.int q1_1) := F35.other W13 (Or.inr (slot_ne (Or.inr (hw _ (List.mem_of_getElem? (i := 15) rfl))) (Or.inr (hw _ (List.mem_of_getElem? (i := 19) rfl))) (by decide) (t := .int) (t' := .int) (by decide) (by decide)))
  have F37 : Fld Z h19 q1_0 "com/example/names_for_good/namesforgood/protocol/Envelope" "majorVersion" "I" (.int q1_1) := F36.other W19 (Or.inr (slot_ne (Or.inr (hw _ (List.mem_of_getElem? (i := 15) rfl))) (Or.inr (hw _ (List.mem_of_getElem? (i := 21) rfl))) (by decide) (t := .int) (t' := .int) (by decide) (by decide)))
  have F38 : Fld Z h26 q1_0 "com/example/names_for_good/namesforgood/protocol/Envelope" "majorVersion" "I" (.int q1_1) := F37.other W26 (Or.inr (slot_ne (Or.inr (hw _ (List.mem_of_getElem? (i := 15) rfl))) (Or.inr (hw _ (List.mem_of_getElem? (i := 23) rfl))) (by decide) (t := .int) (t' := .int) (by decide) (by decide)))
  have F39 : Fld Z h34 q1_0 "com/example/names_for_good/namesforgood/protocol/Envelope" "majorVersion" "I" (.int q1_1) := F38.other W34 (Or.inr (slot_ne (Or.inr (hw _ (List.mem_of_getElem? (i := 15) rfl))) (Or.inr (hw _ (List.mem_of_getElem? (i := 25) rfl))) (by decide) (t := .int) (t' := .int) (by decide) (by decide)))
  have F40 : Fld Z h13 q1_0 "com/example/names_for_good/namesforgood/protocol/Envelope" "minorVersion" "I" (.int q1_2) := F8w.other W13 (Or.inr (slot_ne (Or.inr (hw _ (List.mem_of_getElem? (i := 17) rfl))) (Or.inr (hw _ (List.mem_of_getElem? (i := 19) rfl))) (by decide) (t := .int) (t' := .int) (by decide) (by decide)))
  have F41 : Fld Z h19 q1_0 "com/example/names_for_good/namesforgood/protocol/Envelope" "minorVersion" "I" (.int q1_2) := F40.other W19 (Or.inr (slot_ne (Or.inr (hw _ (List.mem_of_getElem? (i := 17) rfl))) (Or.inr (hw _ (List.mem_of_getElem? (i := 21) rfl))) (by decide) (t := .int) (t' := .int) (by decide) (by decide)))
  have F42 : Fld Z h26 q1_0 "com/example/names_for_good/namesforgood/protocol/Envelope" "minorVersion" "I" (.int q1_2) := F41.other W26 (Or.inr (slot_ne (Or.inr (hw _ (List.mem_of_getElem? (i := 17) rfl))) (Or.inr (hw _ (List.mem_of_getElem? (i := 23) rfl))) (by decide) (t := .int) (t' := .int) (by decide) (by decide)))
  have F43 : Fld Z h34 q1_0 "com/example/names_for_good/namesforgood/protocol/Envelope" "minorVersion" "I" (.int q1_2) := F42.other W34 (Or.inr (slot_ne (Or.inr (hw _ (List.mem_of_getElem? (i := 17) rfl))) (Or.inr (hw _ (List.mem_of_getElem? (i := 25) rfl))) (by decide) (t := .int) (t' := .int) (by decide) (by decide)))
  have F44 : Fld Z h19 q1_0 "com/example/names_for_good/namesforgood/protocol/Envelope" "messageFlag" "I" (.int q1_3) := F13w.other W19 (Or.inr (slot_ne (Or.inr (hw _ (List.mem_of_getElem? (i := 19) rfl))) (Or.inr (hw _ (List.mem_of_getElem? (i := 21) rfl))) (by decide) (t := .int) (t' := .int) (by decide) (by decide)))
  have F45 : Fld Z h26 q1_0 "com/example/names_for_good/namesforgood/protocol/Envelope" "messageFlag" "I" (.int q1_3) := F44.other W26 (Or.inr (slot_ne (Or.inr (hw _ (List.mem_of_getElem? (i := 19) rfl))) (Or.inr (hw _ (List.mem_of_getElem? (i := 23) rfl))) (by decide) (t := .int) (t' := .int) (by decide) (by decide)))
  have F46 : Fld Z h34 q1_0 "com/example/names_for_good/namesforgood/protocol/Envelope" "messageFlag" "I" (.int q1_3) := F45.other W34 (Or.inr (slot_ne (Or.inr (hw _ (List.mem_of_getElem? (i := 19) rfl))) (Or.inr (hw _ (List.mem_of_getElem? (i := 25) rfl))) (by decide) (t := .int) (t' := .int) (by decide) (by decide)))
  have F47 : Fld Z h26 q1_0 "com/example/names_for_good/namesforgood/protocol/Envelope" "sessionId" "I" (.int q1_4) := F19w.other W26 (Or.inr (slot_ne (Or.inr (hw _ (List.mem_of_getElem? (i := 21) rfl))) (Or.inr (hw _ (List.mem_of_getElem? (i := 23) rfl))) (by decide) (t := .int) (t' := .int) (by decide) (by decide)))
  have F48 : Fld Z h34 q1_0 "com/example/names_for_good/namesforgood/protocol/Envelope" "sessionId" "I" (.int q1_4) := F47.other W34 (Or.inr (slot_ne (Or.inr (hw _ (List.mem_of_getElem? (i := 21) rfl))) (Or.inr (hw _ (List.mem_of_getElem? (i := 25) rfl))) (by decide) (t := .int) (t' := .int) (by decide) (by decide)))
  have F49 : Fld Z h34 q1_0 "com/example/names_for_good/namesforgood/protocol/Envelope" "requestId" "I" (.int q1_5) := F26w.other W34 (Or.inr (slot_ne (Or.inr (hw _ (List.mem_of_getElem? (i := 23) rfl))) (Or.inr (hw _ (List.mem_of_getElem? (i := 25) rfl))) (by decide) (t := .int) (t' := .int) (by decide) (by decide)))
  obtain ⟨fs, hr, hrun, hended, hW, hsame⟩ := X34.leave (v := none) (fun _ => rfl)
  refine ⟨_, _, own_from hS0 (P34 _ ?_), hrun, hended, _, _, rfl, ?_, ⟨_, rfl⟩, hW, hsame.mono (by decide) (by decide)⟩
  · show Steps p.tables e below (T34.setTop (mkF m 37 #[.val (.ref q1_0), .val (.int q1_1), .val (.int q1_2), .val (.int q1_3), .val (.int q1_4), .val (.int q1_5), .val (.int q1_6)] [])) _
    exact X34.returnOut hx Bd.returns (hb hby d1_37) hr
  · show Q1 Z q1_0 q1_1 q1_2 q1_3 q1_4 q1_5 q1_6 u1_q1_0_majorVersion u1_q1_0_minorVersion u1_q1_0_messageFlag u1_q1_0_sessionId u1_q1_0_requestId u1_q1_0_sequenceNumber h0 n0 _ T34.heap _
    rw [e34]
    exact ⟨rfl, N34, K34, F39, F43, F46, F48, F49, F34w⟩
theorem d5_0 : decode prog_27_method_7_code 0 = .ok (.aload_n 0, 1) := by decide +kernel
theorem d5_1 : decode prog_27_method_7_code 1 = .ok (.getfield 16, 3) := by decide +kernel
theorem d5_4 : decode prog_27_method_7_code 4 = .ok (.ireturn, 1) := by decide +kernel
theorem ef_5 (m : MethodId) (q5_0 : Addr) : entryFrame m #[(.ref q5_0)] 1 = mkF m 0 #[.val (.ref q5_0)] [] := by first | (simp [entryFrame, mkF, argsToLocals, Value.category]; done) | rfl
def Q5 (Z : State) (q5_0 : Addr) (w5_q5_0_messageFlag : Int32) (h0 : Heap) (n0 : Nat) (v : Option Value) (h : Heap) (L : List Loc) : Prop := v = some (.int w5_q5_0_messageFlag) ∧ Fr n0 L ∧ h = h0
set_option maxRecDepth 65536 in
set_option maxHeartbeats 40000000 in
theorem rm5 (l : Launch) (Z : State) (a0 : Array Value) (hw : ∀ d ∈ tables_1, d.before a0 Z = true) (ws : List Jvm.Cond) (q5_0 : Addr) (w5_q5_0_messageFlag : Int32) (h0 : Heap) (n0 : Nat) (Z0 : n0 ≤ h0.size) (F_q5_0_messageFlag : Fld Z h0 q5_0 "com/example/names_for_good/namesforgood/protocol/Envelope" "messageFlag" "I" (.int w5_q5_0_messageFlag)) :
    MetFree l (⟨"com/example/names_for_good/namesforgood/protocol/Envelope", "messageFlag", "()I"⟩ : MethodName) (head1 (Jvm.Cond.code (⟨"com/example/names_for_good/namesforgood/protocol/Envelope", "messageFlag", "()I"⟩ : MethodName) prog_27_method_7_code 1 (some .int) :: ws) ({ frames := 0, cells := 0, slots := 0, locals := 0 } : Room)) (fun a U => a = #[(.ref q5_0)] ∧ Z.Warmed39 U.vm ∧ U.heap = h0) (fun _ _ _ _ _ => True) (fun _ U o U' => ∃ v L, o = .returned v ∧ Q5 Z q5_0 w5_q5_0_messageFlag h0 n0 v U'.heap L ∧ FrameEnd U o U' L ({ frames := 0, cells := 0, slots := 0, locals := 0 } : Room).cells ({ frames := 0, cells := 0, slots := 0, locals := 0 } : Room).slots) := by
  refine MetFree.of_bodySF (plainFor_of_name pn_1) hisR ?_
  intro p e s m args below meth c s₁ Bd hml0 hP hK
  obtain ⟨rfl, hZ, hh⟩ := hP
  have hx := Bd.exec
  have hby := Bd.bytes
  have hml : c.maxLocals = 1 := hml0
  have hown : s.vm.findClass "com/example/names_for_good/namesforgood/protocol/Envelope" = some m.cls := findClass_of_methodNamed Bd.named
  have hnm := (name_of_methodNamed Bd.named Bd.method).1
  have X0 : Stand p l e ({ frames := 0, cells := 0, slots := 0, locals := 0 } : Room) s m #[(.ref q5_0)] below meth c s₁ [] 0 0 := Stand.of_body Bd
  have e0 : s₁.heap = h0 := by rw [← hh, Bd.state]; rfl
  have N0 := Fr.nil n0
  obtain ⟨S0, hS0⟩ : ∃ z, z = s₁.setTop (entryFrame m #[(.ref q5_0)] 1) := ⟨_, rfl⟩
  have P0 : own_Go p e below S0 (s₁.setTop (mkF m 0 #[.val (.ref q5_0)] [])) := fun t k => by rw [hS0]; exact castTop (ef_5 m q5_0) k
  have P1 : own_Go p e below S0 (s₁.setTop (mkF m 1 #[.val (.ref q5_0)] [(.ref q5_0)])) := fun t k => P0 t (by
    show Steps p.tables e below (s₁.setTop (mkF m 0 #[.val (.ref q5_0)] [])) t
    refine XS.aloadN X0.here hx rfl (hb hby d5_0) rfl rfl ?_
    show Steps p.tables e below (s₁.setTop (mkF m 1 #[.val (.ref q5_0)] [(.ref q5_0)])) t
    exact k)
  obtain ⟨T2, X2, e2, st2⟩ := getF X0 hx hZ hown (host := "") (Or.inl (hw _ (List.mem_of_getElem? (i := 18) rfl))) Via.refl e0 F_q5_0_messageFlag (g := (mkF m 1 #[.val (.ref q5_0)] [(.ref q5_0)])) rfl rfl (hb hby d5_1)
  have P2 : own_Go p e below S0 (T2.setTop (mkF m 4 #[.val (.ref q5_0)] [(.int w5_q5_0_messageFlag)])) := fun t k => P1 t (st2 _ k)
  obtain ⟨fs, hr, hrun, hended, hW, hsame⟩ := X2.leave (v := some (.int w5_q5_0_messageFlag)) (fun h => by rw [Bd.returns] at h; cases h)
  refine ⟨_, _, own_from hS0 (P2 _ ?_), hrun, hended, _, _, rfl, ?_, ⟨_, rfl⟩, hW, hsame.mono (by decide) (by decide)⟩
  · show Steps p.tables e below (T2.setTop (mkF m 4 #[.val (.ref q5_0)] [(.int w5_q5_0_messageFlag)])) _
    exact retI X2 hx Bd.returns (hb hby d5_4) hr
  · show Q5 Z q5_0 w5_q5_0_messageFlag h0 n0 _ T2.heap _
    rw [e2]
    exact ⟨rfl, N0, rfl⟩
theorem pd_1 : parseMethodDescriptor "()I" = some ⟨[], some .int⟩ := by decide +kernel
theorem pn_4 : plainName "com/example/names_for_good/namesforgood/protocol/Message" = true := by first | (simp [plainName, overriddenIn]; done) | decide +kernel
theorem d4_0 : decode prog_29_method_3_code 0 = .ok (.aload_n 0, 1) := by decide +kernel
theorem d4_1 : decode prog_29_method_3_code 1 = .ok (.invokevirtual 38, 3) := by decide +kernel
theorem d4_4 : decode prog_29_method_3_code 4 = .ok (.sipush 8192, 3) := by decide +kernel
theorem d4_7 : decode prog_29_method_3_code 7 = .ok (.iand, 1) := by decide +kernel
theorem d4_8 : decode prog_29_method_3_code 8 = .ok (.ifCond .eq 7, 3) := by decide +kernel
theorem d4_11 : decode prog_29_method_3_code 11 = .ok (.iconst 1, 1) := by decide +kernel
theorem d4_12 : decode prog_29_method_3_code 12 = .ok (.goto 4, 3) := by decide +kernel
theorem d4_15 : decode prog_29_method_3_code 15 = .ok (.iconst 0, 1) := by decide +kernel
theorem d4_16 : decode prog_29_method_3_code 16 = .ok (.ireturn, 1) := by decide +kernel
theorem ef_4 (m : MethodId) (q4_0 : Addr) : entryFrame m #[(.ref q4_0)] 1 = mkF m 0 #[.val (.ref q4_0)] [] := by first | (simp [entryFrame, mkF, argsToLocals, Value.category]; done) | rfl
def r4 (w4_q4_0_messageFlag : Int32) : Int32 := (if (w4_q4_0_messageFlag &&& (8192 : Int32)) = (0 : Int32) then (0 : Int32) else (1 : Int32))
def Q4 (Z : State) (q4_0 : Addr) (w4_q4_0_messageFlag : Int32) (h0 : Heap) (n0 : Nat) (v : Option Value) (h : Heap) (L : List Loc) : Prop := v = some (.int (r4 w4_q4_0_messageFlag)) ∧ Fr n0 L ∧ h = h0
set_option maxRecDepth 65536 in
set_option maxHeartbeats 40000000 in
theorem rm4 (l : Launch) (Z : State) (a0 : Array Value) (hw : ∀ d ∈ tables_1, d.before a0 Z = true) (ws : List Jvm.Cond) (q4_0 : Addr) (w4_q4_0_messageFlag : Int32) (h0 : Heap) (n0 : Nat) (Z0 : n0 ≤ h0.size) (E_q4_0 : Exa Z h0 q4_0 "com/example/names_for_good/namesforgood/protocol/Envelope") (F_q4_0_messageFlag : Fld Z h0 q4_0 "com/example/names_for_good/namesforgood/protocol/Envelope" "messageFlag" "I" (.int w4_q4_0_messageFlag)) :
    MetFree l (⟨"com/example/names_for_good/namesforgood/protocol/Message", "isPiece", "(Lcom/example/names_for_good/namesforgood/protocol/Envelope;)Z"⟩ : MethodName) (head1 (Jvm.Cond.code (⟨"com/example/names_for_good/namesforgood/protocol/Message", "isPiece", "(Lcom/example/names_for_good/namesforgood/protocol/Envelope;)Z"⟩ : MethodName) prog_29_method_3_code 1 (some .boolean) :: ws) ({ frames := 1, cells := 0, slots := 0, locals := 12 } : Room)) (fun a U => a = #[(.ref q4_0)] ∧ Z.Warmed39 U.vm ∧ U.heap = h0) (fun _ _ _ _ _ => True) (fun _ U o U' => ∃ v L, o = .returned v ∧ Q4 Z q4_0 w4_q4_0_messageFlag h0 n0 v U'.heap L ∧ FrameEnd U o U' L ({ frames := 1, cells := 0, slots := 0, locals := 12 } : Room).cells ({ frames := 1, cells := 0, slots := 0, locals := 12 } : Room).slots) := by
  refine MetFree.of_bodySF (plainFor_of_name pn_4) hisR ?_
  intro p e s m args below meth c s₁ Bd hml0 hP hK
  obtain ⟨rfl, hZ, hh⟩ := hP
  have hx := Bd.exec
  have hby := Bd.bytes
  have hml : c.maxLocals = 1 := hml0
  have hown : s.vm.findClass "com/example/names_for_good/namesforgood/protocol/Message" = some m.cls := findClass_of_methodNamed Bd.named
  have hnm := (name_of_methodNamed Bd.named Bd.method).1
  have X0 : Stand p l e ({ frames := 1, cells := 0, slots := 0, locals := 12 } : Room) s m #[(.ref q4_0)] below meth c s₁ [] 0 0 := Stand.of_body Bd
  have e0 : s₁.heap = h0 := by rw [← hh, Bd.state]; rfl
  have N0 := Fr.nil n0
  obtain ⟨S0, hS0⟩ : ∃ z, z = s₁.setTop (entryFrame m #[(.ref q4_0)] 1) := ⟨_, rfl⟩
  have P0 : own_Go p e below S0 (s₁.setTop (mkF m 0 #[.val (.ref q4_0)] [])) := fun t k => by rw [hS0]; exact castTop (ef_4 m q4_0) k
  have P1 : own_Go p e below S0 (s₁.setTop (mkF m 1 #[.val (.ref q4_0)] [(.ref q4_0)])) := fun t k => P0 t (by
    show Steps p.tables e below (s₁.setTop (mkF m 0 #[.val (.ref q4_0)] [])) t
    refine XS.aloadN X0.here hx rfl (hb hby d4_0) rfl rfl ?_
    show Steps p.tables e below (s₁.setTop (mkF m 1 #[.val (.ref q4_0)] [(.ref q4_0)])) t
    exact k)
  obtain ⟨cq2, kq2, q2a, q2b, q2c⟩ := isOf hZ e0 E_q4_0
  obtain ⟨_, _, ⟨T2, L2, k2, n2⟩, -, X2, ⟨Lc2, hQ2, l2, y2, z2⟩, st2⟩ := X0.virtualBack hx (y := (⟨"com/example/names_for_good/namesforgood/protocol/Envelope", "messageFlag", "()I"⟩ : MethodName)) (z := (⟨"com/example/names_for_good/namesforgood/protocol/Envelope", "messageFlag", "()I"⟩ : MethodName)) hown (mvT hZ (hw _ (List.mem_of_getElem? (i := 30) rfl))) (mvT hZ (hw _ (List.mem_of_getElem? (i := 31) rfl))) (notFace_of_selects (args := #[]) (mvT hZ (hw _ (List.mem_of_getElem? (i := 33) rfl)))) (mvT hZ (hw _ (List.mem_of_getElem? (i := 33) rfl))) (mvT hZ (hw _ (List.mem_of_getElem? (i := 32) rfl))) (by decide) (backOf (W := 0) (rm5 l Z a0 hw [] q4_0 w4_q4_0_messageFlag h0 n0 Z0 F_q4_0_messageFlag) hZ (hw _ (List.mem_of_getElem? (i := 34) rfl)) (hw _ (List.mem_of_getElem? (i := 2) rfl)) (by decide) (by decide)) q2a q2c (g := (mkF m 1 #[.val (.ref q4_0)] [(.ref q4_0)])) rfl (by rw [hml]; rfl) (Steps.refl _) (argsL := []) (rest := []) (lenOf pd_1 rfl) rfl (by show 2 * 0 + _ ≤ _; exact Nat.le_of_eq rfl) (hb hby d4_1) (fun _ _ => ⟨rfl, e0, (by decide : 0 + 0 ≤ _), (by decide : 0 + 0 ≤ _)⟩)
  dsimp only [Pt.U, Pt.locs, Pt.cells, Pt.slots] at X2 l2 y2 z2 st2 hQ2
  subst l2 y2 z2
  obtain ⟨rfl, N2q, e2⟩ := hQ2
  have N2 := Fr.app N0 N2q
  have P2 : own_Go p e below S0 (T2.setTop (mkF m 4 #[.val (.ref q4_0)] [(.int w4_q4_0_messageFlag)])) := fun t k => P1 t (st2.trans k)
  have P3 : own_Go p e below S0 (T2.setTop (mkF m 8 #[.val (.ref q4_0)] [(.int (w4_q4_0_messageFlag &&& (8192 : Int32)))])) := fun t k => P2 t (by
    show Steps p.tables e below (T2.setTop (mkF m 4 #[.val (.ref q4_0)] [(.int w4_q4_0_messageFlag)])) t
    refine XS.sipush X2.here hx rfl (hb hby d4_4) ?_
    refine XS.iand X2.here hx rfl (hb hby d4_7) rfl ?_
    show Steps p.tables e below (T2.setTop (mkF m 8 #[.val (.ref q4_0)] [(.int (w4_q4_0_messageFlag &&& (8192 : Int32)))])) t
    exact k)
  by_cases c4 : (w4_q4_0_messageFlag &&& (8192 : Int32)) = (0 : Int32)
  · skip
    have P5 : own_Go p e below S0 (T2.setTop (mkF m 16 #[.val (.ref q4_0)] [(.int (0 : Int32))])) := fun t k => P3 t (by
      show Steps p.tables e below (T2.setTop (mkF m 8 #[.val (.ref q4_0)] [(.int (w4_q4_0_messageFlag &&& (8192 : Int32)))])) t
      refine XS.ifYes X2.here hx rfl (pc0 := 8) (pc' := 15) rfl (hb hby d4_8) rfl ((if0 _ _).trans (teq c4).1) (by decide) (by decide) ?_
      refine XS.iconst X2.here hx rfl (hb hby d4_15) ?_
      show Steps p.tables e below (T2.setTop (mkF m 16 #[.val (.ref q4_0)] [(.int (0 : Int32))])) t
      exact k)
    obtain ⟨fs, hr, hrun, hended, hW, hsame⟩ := X2.leave (v := some (.int (0 : Int32))) (fun h => by rw [Bd.returns] at h; cases h)
    refine ⟨_, _, own_from hS0 (P5 _ ?_), hrun, hended, _, _, rfl, ?_, ⟨_, rfl⟩, hW, hsame.mono (by decide) (by decide)⟩
    · show Steps p.tables e below (T2.setTop (mkF m 16 #[.val (.ref q4_0)] [(.int (0 : Int32))])) _
      exact retN X2 hx (t := .boolean) Bd.returns (by simp) (hb hby d4_16) hr
    · show Q4 Z q4_0 w4_q4_0_messageFlag h0 n0 _ T2.heap _
      rw [e2]
      exact ⟨(congrArg (fun z => some (Value.int z)) (Eq.symm (if_pos c4))), N2, rfl⟩
  · skip
    have P6 : own_Go p e below S0 (T2.setTop (mkF m 16 #[.val (.ref q4_0)] [(.int (1 : Int32))])) := fun t k => P3 t (by
      show Steps p.tables e below (T2.setTop (mkF m 8 #[.val (.ref q4_0)] [(.int (w4_q4_0_messageFlag &&& (8192 : Int32)))])) t
      refine XS.ifNo X2.here hx rfl (hb hby d4_8) rfl ((if0 _ _).trans (feq c4).1) ?_
      refine XS.iconst X2.here hx rfl (hb hby d4_11) ?_
      refine XS.goto X2.here hx rfl (pc0 := 12) (pc' := 16) rfl (hb hby d4_12) (by decide) (by decide) ?_
      show Steps p.tables e below (T2.setTop (mkF m 16 #[.val (.ref q4_0)] [(.int (1 : Int32))])) t
      exact k)
    obtain ⟨fs, hr, hrun, hended, hW, hsame⟩ := X2.leave (v := some (.int (1 : Int32))) (fun h => by rw [Bd.returns] at h; cases h)
    refine ⟨_, _, own_from hS0 (P6 _ ?_), hrun, hended, _, _, rfl, ?_, ⟨_, rfl⟩, hW, hsame.mono (by decide) (by decide)⟩
    · show Steps p.tables e below (T2.setTop (mkF m 16 #[.val (.ref q4_0)] [(.int (1 : Int32))])) _
      exact retN X2 hx (t := .boolean) Bd.returns (by simp) (hb hby d4_16) hr
    · show Q4 Z q4_0 w4_q4_0_messageFlag h0 n0 _ T2.heap _
      rw [e2]
      exact ⟨(congrArg (fun z => some (Value.int z)) (Eq.symm (if_neg c4))), N2, rfl⟩
theorem own_set (x : Int32) : ¬ (r4 (x ||| (8192 : Int32)) = (0 : Int32)) := by
  have h : ¬ ((x ||| (8192 : Int32)) &&& (8192 : Int32)) = (0 : Int32) := by
    intro h
    have h2 := congrArg (fun z : Int32 => z.toBitVec.getLsbD 13) h
    simp at h2
  unfold r4
  rw [if_neg h]
  decide
theorem own_clear (x : Int32) : r4 (x &&& (-8193 : Int32)) = (0 : Int32) := by
  have h : ((x &&& (-8193 : Int32)) &&& (8192 : Int32)) = (0 : Int32) := by
    rw [Int32.and_assoc, show (-8193 : Int32) &&& (8192 : Int32) = 0 from by decide]
    simp
  unfold r4
  rw [if_pos h]
theorem pd_2 : parseMethodDescriptor "(IIIIII)V" = some ⟨[.int, .int, .int, .int, .int, .int], none⟩ := by decide +kernel
theorem pd_3 : parseMethodDescriptor "(Lcom/example/names_for_good/namesforgood/protocol/Envelope;)Z" = some ⟨[(.object "com/example/names_for_good/namesforgood/protocol/Envelope")], some .boolean⟩ := by decide +kernel
theorem pn_0 : plainName "com/example/names_for_good/namesforgood/protocol/MessageIsPiecePinLaw" = true := by first | (simp [plainName, overriddenIn]; done) | decide +kernel
theorem ef_0 (m : MethodId) (i0 : Int32) (i1 : Int32) (i2 : Int32) (i3 : Int32) (i4 : Int32) (i5 : Int32) : entryFrame m #[(.int i0), (.int i1), (.int i2), (.int i3), (.int i4), (.int i5)] maxLocals = mkF m 0 #[.val (.int i0), .val (.int i1), .val (.int i2), .val (.int i3), .val (.int i4), .val (.int i5), .unset, .unset] [] := by first | (simp [entryFrame, mkF, argsToLocals, Value.category, maxLocals]; done) | rfl
def Q0 (Z : State) (i0 : Int32) (i1 : Int32) (i2 : Int32) (i3 : Int32) (i4 : Int32) (i5 : Int32) (h0 : Heap) (n0 : Nat) (v : Option Value) (h : Heap) (L : List Loc) : Prop := v = some (.int 1) ∧ Fr n0 L
set_option maxRecDepth 65536 in
set_option maxHeartbeats 40000000 in
theorem rm0 (l : Launch) (Z : State) (a0 : Array Value) (hw : ∀ d ∈ tables_1, d.before a0 Z = true) (ws : List Jvm.Cond) (i0 : Int32) (i1 : Int32) (i2 : Int32) (i3 : Int32) (i4 : Int32) (i5 : Int32) (h0 : Heap) (n0 : Nat) (Z0 : n0 ≤ h0.size) :
    MetFree l x (head1 (Jvm.Cond.code x code maxLocals ret :: ws) room_1) (fun a U => a = #[(.int i0), (.int i1), (.int i2), (.int i3), (.int i4), (.int i5)] ∧ Z.Warmed39 U.vm ∧ U.heap = h0) (fun _ _ _ _ _ => True) (fun _ U o U' => ∃ v L, o = .returned v ∧ Q0 Z i0 i1 i2 i3 i4 i5 h0 n0 v U'.heap L ∧ FrameEnd U o U' L room_1.cells room_1.slots) := by
  refine MetFree.of_bodySF (plainFor_of_name pn_0) hisR ?_
  intro p e s m args below meth c s₁ Bd hml0 hP hK
  obtain ⟨rfl, hZ, hh⟩ := hP
  have hx := Bd.exec
  have hby := Bd.bytes
  have hml : c.maxLocals = 8 := hml0
  have hown : s.vm.findClass "com/example/names_for_good/namesforgood/protocol/MessageIsPiecePinLaw" = some m.cls := findClass_of_methodNamed Bd.named
  have hnm := (name_of_methodNamed Bd.named Bd.method).1
  have X0 : Stand p l e room_1 s m #[(.int i0), (.int i1), (.int i2), (.int i3), (.int i4), (.int i5)] below meth c s₁ [] 0 0 := Stand.of_body Bd
  have e0 : s₁.heap = h0 := by rw [← hh, Bd.state]; rfl
  have N0 := Fr.nil n0
  obtain ⟨S0, hS0⟩ : ∃ z, z = s₁.setTop (entryFrame m #[(.int i0), (.int i1), (.int i2), (.int i3), (.int i4), (.int i5)] maxLocals) := ⟨_, rfl⟩
  have P0 : own_Go p e below S0 (s₁.setTop (mkF m 0 #[.val (.int i0), .val (.int i1), .val (.int i2), .val (.int i3), .val (.int i4), .val (.int i5), .unset, .unset] [])) := fun t k => by rw [hS0]; exact castTop (ef_0 m i0 i1 i2 i3 i4 i5) k
  obtain ⟨T1, h1, X1, e1, E1, A1, D1, -, st1⟩ := newO X0 hx hZ hown (hw _ (List.mem_of_getElem? (i := 0) rfl)) (hw _ (List.mem_of_getElem? (i := 1) rfl)) (hw _ (List.mem_of_getElem? (i := 2) rfl)) e0 (g := (mkF m 0 #[.val (.int i0), .val (.int i1), .val (.int i2), .val (.int i3), .val (.int i4), .val (.int i5), .unset, .unset] [])) rfl (hb hby at_0) (by decide) (by decide)
  obtain ⟨b1, g1⟩ : ∃ z, z = h0.size := ⟨_, rfl⟩
  rw [← g1] at A1 D1 st1
  have sz_b1 : h0.size ≤ b1 := Nat.le_of_eq g1.symm
  have g_b1 : n0 ≤ b1 := Nat.le_trans Z0 sz_b1
  have o_b1 : h0.size ≤ b1 := sz_b1
  have K1 : Keep h0 h1 [] := (Keep.refl h0 []).ext E1
  have F1_majorVersion : Fld Z h1 b1 "com/example/names_for_good/namesforgood/protocol/Envelope" "majorVersion" "I" (.int (0 : Int32)) := D1 (Or.inr (hw _ (List.mem_of_getElem? (i := 15) rfl))) (ty := .int) (by decide)
  have F1_minorVersion : Fld Z h1 b1 "com/example/names_for_good/namesforgood/protocol/Envelope" "minorVersion" "I" (.int (0 : Int32)) := D1 (Or.inr (hw _ (List.mem_of_getElem? (i := 17) rfl))) (ty := .int) (by decide)
  have F1_messageFlag : Fld Z h1 b1 "com/example/names_for_good/namesforgood/protocol/Envelope" "messageFlag" "I" (.int (0 : Int32)) := D1 (Or.inr (hw _ (List.mem_of_getElem? (i := 19) rfl))) (ty := .int) (by decide)
  have F1_sessionId : Fld Z h1 b1 "com/example/names_for_good/namesforgood/protocol/Envelope" "sessionId" "I" (.int (0 : Int32)) := D1 (Or.inr (hw _ (List.mem_of_getElem? (i := 21) rfl))) (ty := .int) (by decide)
  have F1_requestId : Fld Z h1 b1 "com/example/names_for_good/namesforgood/protocol/Envelope" "requestId" "I" (.int (0 : Int32)) := D1 (Or.inr (hw _ (List.mem_of_getElem? (i := 23) rfl))) (ty := .int) (by decide)
  have F1_sequenceNumber : Fld Z h1 b1 "com/example/names_for_good/namesforgood/protocol/Envelope" "sequenceNumber" "I" (.int (0 : Int32)) := D1 (Or.inr (hw _ (List.mem_of_getElem? (i := 25) rfl))) (ty := .int) (by decide)
  have P1 : own_Go p e below S0 (T1.setTop (mkF m 3 #[.val (.int i0), .val (.int i1), .val (.int i2), .val (.int i3), .val (.int i4), .val (.int i5), .unset, .unset] [(.ref b1)])) := fun t k => P0 t (st1 _ k)
  have P2 : own_Go p e below S0 (T1.setTop (mkF m 16 #[.val (.int i0), .val (.int i1), .val (.int i2), .val (.int i3), .val (.int i4), .val (.int i5), .unset, .unset] [(.int i5), (.int i4), (.int i3), (.int (i0 ||| (8192 : Int32))), (.int i2), (.int i1), (.ref b1), (.ref b1)])) := fun t k => P1 t (by
    show Steps p.tables e below (T1.setTop (mkF m 3 #[.val (.int i0), .val (.int i1), .val (.int i2), .val (.int i3), .val (.int i4), .val (.int i5), .unset, .unset] [(.ref b1)])) t
    refine XS.dup X1.here hx rfl (hb hby at_3) rfl rfl ?_
    refine XS.iloadN X1.here hx rfl (hb hby at_4) rfl ?_
    refine XS.iloadN X1.here hx rfl (hb hby at_5) rfl ?_
    refine XS.iloadN X1.here hx rfl (hb hby at_6) rfl ?_
    refine XS.sipush X1.here hx rfl (hb hby at_7) ?_
    refine XS.ior X1.here hx rfl (hb hby at_10) rfl ?_
    show Steps p.tables e below (T1.setTop (mkF m 11 #[.val (.int i0), .val (.int i1), .val (.int i2), .val (.int i3), .val (.int i4), .val (.int i5), .unset, .unset] [(.int (i0 ||| (8192 : Int32))), (.int i2), (.int i1), (.ref b1), (.ref b1)])) t
    refine XS.iloadN X1.here hx rfl (hb hby at_11) rfl ?_
    refine XS.iload X1.here hx rfl (hb hby at_12) rfl ?_
    refine XS.iload X1.here hx rfl (hb hby at_14) rfl ?_
    show Steps p.tables e below (T1.setTop (mkF m 16 #[.val (.int i0), .val (.int i1), .val (.int i2), .val (.int i3), .val (.int i4), .val (.int i5), .unset, .unset] [(.int i5), (.int i4), (.int i3), (.int (i0 ||| (8192 : Int32))), (.int i2), (.int i1), (.ref b1), (.ref b1)])) t
    exact k)
  obtain ⟨_, _, ⟨T3, L3, k3, n3⟩, -, X3, ⟨Lc3, hQ3, l3, y3, z3⟩, st3⟩ := X1.specialBack hx (y := (⟨"com/example/names_for_good/namesforgood/protocol/Envelope", "<init>", "(IIIIII)V"⟩ : MethodName)) rfl hown (mvT hZ (hw _ (List.mem_of_getElem? (i := 3) rfl))) (mvT hZ (hw _ (List.mem_of_getElem? (i := 4) rfl))) (mvT hZ (hw _ (List.mem_of_getElem? (i := 5) rfl))) (by decide) (backOf (W := 1) (rm1 l Z a0 hw [] b1 i1 i2 (i0 ||| (8192 : Int32)) i3 i4 i5 (.int (0 : Int32)) (.int (0 : Int32)) (.int (0 : Int32)) (.int (0 : Int32)) (.int (0 : Int32)) (.int (0 : Int32)) h1 n0 (Nat.le_trans Z0 K1.1) A1 F1_majorVersion g_b1 F1_minorVersion F1_messageFlag F1_sessionId F1_requestId F1_sequenceNumber) hZ (hw _ (List.mem_of_getElem? (i := 5) rfl)) (hw _ (List.mem_of_getElem? (i := 2) rfl)) (by decide) (by decide)) (g := (mkF m 16 #[.val (.int i0), .val (.int i1), .val (.int i2), .val (.int i3), .val (.int i4), .val (.int i5), .unset, .unset] [(.int i5), (.int i4), (.int i3), (.int (i0 ||| (8192 : Int32))), (.int i2), (.int i1), (.ref b1), (.ref b1)])) rfl (by rw [hml]; rfl) (Steps.refl _) (a := b1) (argsL := [(.int i1), (.int i2), (.int (i0 ||| (8192 : Int32))), (.int i3), (.int i4), (.int i5)]) (rest := [(.ref b1)]) (lenOf pd_2 rfl) rfl (by show 2 * 0 + _ ≤ _; exact Nat.le_of_eq rfl) (hb hby at_16) (fun _ _ => ⟨rfl, e1, (by decide : 1 + 0 ≤ _), (by decide : 6 + 0 ≤ _)⟩)
  dsimp only [Pt.U, Pt.locs, Pt.cells, Pt.slots] at X3 l3 y3 z3 st3 hQ3
  subst l3 y3 z3
  obtain ⟨rfl, N3q, Kc3, F3_0, F3_1, F3_2, F3_3, F3_4, F3_5⟩ := hQ3
  have N3 := Fr.app N0 N3q
  have K3 : Keep h0 T3.heap [] := Keep.trans K1 Kc3 (allS (Or.inr o_b1) all0)
  have P3 : own_Go p e below S0 (T3.setTop (mkF m 19 #[.val (.int i0), .val (.int i1), .val (.int i2), .val (.int i3), .val (.int i4), .val (.int i5), .unset, .unset] [(.ref b1)])) := fun t k => P2 t (st3.trans k)
  have F4 : Exa Z T3.heap b1 "com/example/names_for_good/namesforgood/protocol/Envelope" := A1.keep Kc3
  have P5 : own_Go p e below S0 (T3.setTop (mkF m 21 #[.val (.int i0), .val (.int i1), .val (.int i2), .val (.int i3), .val (.int i4), .val (.int i5), .val (.ref b1), .unset] [])) := fun t k => P3 t (by
    show Steps p.tables e below (T3.setTop (mkF m 19 #[.val (.int i0), .val (.int i1), .val (.int i2), .val (.int i3), .val (.int i4), .val (.int i5), .unset, .unset] [(.ref b1)])) t
    refine XS.astore X3.here hx rfl (hb hby at_19) rfl rfl (l' := #[.val (.int i0), .val (.int i1), .val (.int i2), .val (.int i3), .val (.int i4), .val (.int i5), .val (.ref b1), .unset]) rfl ?_
    show Steps p.tables e below (T3.setTop (mkF m 21 #[.val (.int i0), .val (.int i1), .val (.int i2), .val (.int i3), .val (.int i4), .val (.int i5), .val (.ref b1), .unset] [])) t
    exact k)
  obtain ⟨T6, h6, X6, e6, E6, A6, D6, -, st6⟩ := newO X3 hx hZ hown (hw _ (List.mem_of_getElem? (i := 0) rfl)) (hw _ (List.mem_of_getElem? (i := 1) rfl)) (hw _ (List.mem_of_getElem? (i := 2) rfl)) rfl (g := (mkF m 21 #[.val (.int i0), .val (.int i1), .val (.int i2), .val (.int i3), .val (.int i4), .val (.int i5), .val (.ref b1), .unset] [])) rfl (hb hby at_21) (by decide) (by decide)
  obtain ⟨b6, g6⟩ : ∃ z, z = T3.heap.size := ⟨_, rfl⟩
  rw [← g6] at A6 D6 st6
  have sz_b6 : T3.heap.size ≤ b6 := Nat.le_of_eq g6.symm
  have ne_b1_b6 : b1 ≠ b6 := Nat.ne_of_lt (Nat.lt_of_lt_of_le F4.lt sz_b6)
  have g_b6 : n0 ≤ b6 := Nat.le_trans (Nat.le_trans Z0 K3.1) sz_b6
  have o_b6 : h0.size ≤ b6 := Nat.le_trans K3.1 sz_b6
  have K6 : Keep h0 h6 [] := K3.ext E6
  have F6_majorVersion : Fld Z h6 b6 "com/example/names_for_good/namesforgood/protocol/Envelope" "majorVersion" "I" (.int (0 : Int32)) := D6 (Or.inr (hw _ (List.mem_of_getElem? (i := 15) rfl))) (ty := .int) (by decide)
  have F6_minorVersion : Fld Z h6 b6 "com/example/names_for_good/namesforgood/protocol/Envelope" "minorVersion" "I" (.int (0 : Int32)) := D6 (Or.inr (hw _ (List.mem_of_getElem? (i := 17) rfl))) (ty := .int) (by decide)
  have F6_messageFlag : Fld Z h6 b6 "com/example/names_for_good/namesforgood/protocol/Envelope" "messageFlag" "I" (.int (0 : Int32)) := D6 (Or.inr (hw _ (List.mem_of_getElem? (i := 19) rfl))) (ty := .int) (by decide)
  have F6_sessionId : Fld Z h6 b6 "com/example/names_for_good/namesforgood/protocol/Envelope" "sessionId" "I" (.int (0 : Int32)) := D6 (Or.inr (hw _ (List.mem_of_getElem? (i := 21) rfl))) (ty := .int) (by decide)
  have F6_requestId : Fld Z h6 b6 "com/example/names_for_good/namesforgood/protocol/Envelope" "requestId" "I" (.int (0 : Int32)) := D6 (Or.inr (hw _ (List.mem_of_getElem? (i := 23) rfl))) (ty := .int) (by decide)
  have F6_sequenceNumber : Fld Z h6 b6 "com/example/names_for_good/namesforgood/protocol/Envelope" "sequenceNumber" "I" (.int (0 : Int32)) := D6 (Or.inr (hw _ (List.mem_of_getElem? (i := 25) rfl))) (ty := .int) (by decide)
  have P6 : own_Go p e below S0 (T6.setTop (mkF m 24 #[.val (.int i0), .val (.int i1), .val (.int i2), .val (.int i3), .val (.int i4), .val (.int i5), .val (.ref b1), .unset] [(.ref b6)])) := fun t k => P5 t (st6 _ k)
  have P7 : own_Go p e below S0 (T6.setTop (mkF m 37 #[.val (.int i0), .val (.int i1), .val (.int i2), .val (.int i3), .val (.int i4), .val (.int i5), .val (.ref b1), .unset] [(.int i5), (.int i4), (.int i3), (.int (i0 &&& (-8193 : Int32))), (.int i2), (.int i1), (.ref b6), (.ref b6)])) := fun t k => P6 t (by
    show Steps p.tables e below (T6.setTop (mkF m 24 #[.val (.int i0), .val (.int i1), .val (.int i2), .val (.int i3), .val (.int i4), .val (.int i5), .val (.ref b1), .unset] [(.ref b6)])) t
    refine XS.dup X6.here hx rfl (hb hby at_24) rfl rfl ?_
    refine XS.iloadN X6.here hx rfl (hb hby at_25) rfl ?_
    refine XS.iloadN X6.here hx rfl (hb hby at_26) rfl ?_
    refine XS.iloadN X6.here hx rfl (hb hby at_27) rfl ?_
    refine XS.sipush X6.here hx rfl (hb hby at_28) ?_
    refine XS.iand X6.here hx rfl (hb hby at_31) rfl ?_
    show Steps p.tables e below (T6.setTop (mkF m 32 #[.val (.int i0), .val (.int i1), .val (.int i2), .val (.int i3), .val (.int i4), .val (.int i5), .val (.ref b1), .unset] [(.int (i0 &&& (-8193 : Int32))), (.int i2), (.int i1), (.ref b6), (.ref b6)])) t
    refine XS.iloadN X6.here hx rfl (hb hby at_32) rfl ?_
    refine XS.iload X6.here hx rfl (hb hby at_33) rfl ?_
    refine XS.iload X6.here hx rfl (hb hby at_35) rfl ?_
    show Steps p.tables e below (T6.setTop (mkF m 37 #[.val (.int i0), .val (.int i1), .val (.int i2), .val (.int i3), .val (.int i4), .val (.int i5), .val (.ref b1), .unset] [(.int i5), (.int i4), (.int i3), (.int (i0 &&& (-8193 : Int32))), (.int i2), (.int i1), (.ref b6), (.ref b6)])) t
    exact k)
  obtain ⟨_, _, ⟨T8, L8, k8, n8⟩, -, X8, ⟨Lc8, hQ8, l8, y8, z8⟩, st8⟩ := X6.specialBack hx (y := (⟨"com/example/names_for_good/namesforgood/protocol/Envelope", "<init>", "(IIIIII)V"⟩ : MethodName)) rfl hown (mvT hZ (hw _ (List.mem_of_getElem? (i := 3) rfl))) (mvT hZ (hw _ (List.mem_of_getElem? (i := 4) rfl))) (mvT hZ (hw _ (List.mem_of_getElem? (i := 5) rfl))) (by decide) (backOf (W := 1) (rm1 l Z a0 hw [] b6 i1 i2 (i0 &&& (-8193 : Int32)) i3 i4 i5 (.int (0 : Int32)) (.int (0 : Int32)) (.int (0 : Int32)) (.int (0 : Int32)) (.int (0 : Int32)) (.int (0 : Int32)) h6 n0 (Nat.le_trans Z0 K6.1) A6 F6_majorVersion g_b6 F6_minorVersion F6_messageFlag F6_sessionId F6_requestId F6_sequenceNumber) hZ (hw _ (List.mem_of_getElem? (i := 5) rfl)) (hw _ (List.mem_of_getElem? (i := 2) rfl)) (by decide) (by decide)) (g := (mkF m 37 #[.val (.int i0), .val (.int i1), .val (.int i2), .val (.int i3), .val (.int i4), .val (.int i5), .val (.ref b1), .unset] [(.int i5), (.int i4), (.int i3), (.int (i0 &&& (-8193 : Int32))), (.int i2), (.int i1), (.ref b6), (.ref b6)])) rfl (by rw [hml]; rfl) (Steps.refl _) (a := b6) (argsL := [(.int i1), (.int i2), (.int (i0 &&& (-8193 : Int32))), (.int i3), (.int i4), (.int i5)]) (rest := [(.ref b6)]) (lenOf pd_2 rfl) rfl (by show 2 * 0 + _ ≤ _; exact Nat.le_of_eq rfl) (hb hby at_37) (fun _ _ => ⟨rfl, e6, (by decide : 2 + 0 ≤ _), (by decide : 12 + 0 ≤ _)⟩)
  dsimp only [Pt.U, Pt.locs, Pt.cells, Pt.slots] at X8 l8 y8 z8 st8 hQ8
  subst l8 y8 z8
  obtain ⟨rfl, N8q, Kc8, F8_0, F8_1, F8_2, F8_3, F8_4, F8_5⟩ := hQ8
  have N8 := Fr.app N3 N8q
  have K8 : Keep h0 T8.heap [] := Keep.trans K6 Kc8 (allS (Or.inr o_b6) all0)
  have P8 : own_Go p e below S0 (T8.setTop (mkF m 40 #[.val (.int i0), .val (.int i1), .val (.int i2), .val (.int i3), .val (.int i4), .val (.int i5), .val (.ref b1), .unset] [(.ref b6)])) := fun t k => P7 t (st8.trans k)
  have F9 : Exa Z h6 b1 "com/example/names_for_good/namesforgood/protocol/Envelope" := F4.ext E6
  have F10 : Exa Z T8.heap b1 "com/example/names_for_good/namesforgood/protocol/Envelope" := F9.keep Kc8
  have F11 : Fld Z h6 b1 "com/example/names_for_good/namesforgood/protocol/Envelope" "messageFlag" "I" (.int (i0 ||| (8192 : Int32))) := F3_2.ext E6
  have F12 : Fld Z T8.heap b1 "com/example/names_for_good/namesforgood/protocol/Envelope" "messageFlag" "I" (.int (i0 ||| (8192 : Int32))) := F11.keep Kc8 (ninS ne_b1_b6 nin0)
  have P13 : own_Go p e below S0 (T8.setTop (mkF m 44 #[.val (.int i0), .val (.int i1), .val (.int i2), .val (.int i3), .val (.int i4), .val (.int i5), .val (.ref b1), .val (.ref b6)] [(.ref b1)])) := fun t k => P8 t (by
    show Steps p.tables e below (T8.setTop (mkF m 40 #[.val (.int i0), .val (.int i1), .val (.int i2), .val (.int i3), .val (.int i4), .val (.int i5), .val (.ref b1), .unset] [(.ref b6)])) t
    refine XS.astore X8.here hx rfl (hb hby at_40) rfl rfl (l' := #[.val (.int i0), .val (.int i1), .val (.int i2), .val (.int i3), .val (.int i4), .val (.int i5), .val (.ref b1), .val (.ref b6)]) rfl ?_
    refine XS.aload X8.here hx rfl (hb hby at_42) rfl rfl ?_
    show Steps p.tables e below (T8.setTop (mkF m 44 #[.val (.int i0), .val (.int i1), .val (.int i2), .val (.int i3), .val (.int i4), .val (.int i5), .val (.ref b1), .val (.ref b6)] [(.ref b1)])) t
    exact k)
  obtain ⟨_, _, ⟨T14, L14, k14, n14⟩, -, X14, ⟨Lc14, hQ14, l14, y14, z14⟩, st14⟩ := Jvm.LawKit.callS X8 hx (y := (⟨"com/example/names_for_good/namesforgood/protocol/Message", "isPiece", "(Lcom/example/names_for_good/namesforgood/protocol/Envelope;)Z"⟩ : MethodName)) hown (mvT hZ (hw _ (List.mem_of_getElem? (i := 26) rfl))) (mvT hZ (hw _ (List.mem_of_getElem? (i := 27) rfl))) (mvT hZ (hw _ (List.mem_of_getElem? (i := 28) rfl))) (mvT hZ (hw _ (List.mem_of_getElem? (i := 29) rfl))) (by decide) (backOf (W := 0) (rm4 l Z a0 hw [] b1 (i0 ||| (8192 : Int32)) T8.heap n0 (Nat.le_trans Z0 K8.1) F10 F12) hZ (hw _ (List.mem_of_getElem? (i := 29) rfl)) (hw _ (List.mem_of_getElem? (i := 28) rfl)) (by decide) (by decide)) (g := (mkF m 44 #[.val (.int i0), .val (.int i1), .val (.int i2), .val (.int i3), .val (.int i4), .val (.int i5), .val (.ref b1), .val (.ref b6)] [(.ref b1)])) rfl (by rw [hml]; rfl) (argsL := [(.ref b1)]) (rest := []) (lenOf pd_3 rfl) rfl (by show 2 * 0 + _ ≤ _; exact Nat.le_of_eq rfl) (hb hby at_44) (fun _ _ => ⟨rfl, rfl, (by decide : 2 + 0 ≤ _), (by decide : 12 + 0 ≤ _)⟩)
  dsimp only [Pt.U, Pt.locs, Pt.cells, Pt.slots] at X14 l14 y14 z14 st14 hQ14
  subst l14 y14 z14
  obtain ⟨rfl, N14q, e14⟩ := hQ14
  have N14 := Fr.app N8 N14q
  have P14 : own_Go p e below S0 (T14.setTop (mkF m 47 #[.val (.int i0), .val (.int i1), .val (.int i2), .val (.int i3), .val (.int i4), .val (.int i5), .val (.ref b1), .val (.ref b6)] [(.int (r4 (i0 ||| (8192 : Int32))))])) := fun t k => P13 t (st14 _ k)
  have c15 : ¬ ((r4 (i0 ||| (8192 : Int32))) = (0 : Int32)) := own_set _
  have F16 : Exa Z T8.heap b6 "com/example/names_for_good/namesforgood/protocol/Envelope" := A6.keep Kc8
  have P17 : own_Go p e below S0 (T14.setTop (mkF m 52 #[.val (.int i0), .val (.int i1), .val (.int i2), .val (.int i3), .val (.int i4), .val (.int i5), .val (.ref b1), .val (.ref b6)] [(.ref b6)])) := fun t k => P14 t (by
    show Steps p.tables e below (T14.setTop (mkF m 47 #[.val (.int i0), .val (.int i1), .val (.int i2), .val (.int i3), .val (.int i4), .val (.int i5), .val (.ref b1), .val (.ref b6)] [(.int (r4 (i0 ||| (8192 : Int32))))])) t
    refine XS.ifNo X14.here hx rfl (hb hby at_47) rfl ((if0 _ _).trans (feq c15).1) ?_
    refine XS.aload X14.here hx rfl (hb hby at_50) rfl rfl ?_
    show Steps p.tables e below (T14.setTop (mkF m 52 #[.val (.int i0), .val (.int i1), .val (.int i2), .val (.int i3), .val (.int i4), .val (.int i5), .val (.ref b1), .val (.ref b6)] [(.ref b6)])) t
    exact k)
  obtain ⟨_, _, ⟨T18, L18, k18, n18⟩, -, X18, ⟨Lc18, hQ18, l18, y18, z18⟩, st18⟩ := Jvm.LawKit.callS X14 hx (y := (⟨"com/example/names_for_good/namesforgood/protocol/Message", "isPiece", "(Lcom/example/names_for_good/namesforgood/protocol/Envelope;)Z"⟩ : MethodName)) hown (mvT hZ (hw _ (List.mem_of_getElem? (i := 26) rfl))) (mvT hZ (hw _ (List.mem_of_getElem? (i := 27) rfl))) (mvT hZ (hw _ (List.mem_of_getElem? (i := 28) rfl))) (mvT hZ (hw _ (List.mem_of_getElem? (i := 29) rfl))) (by decide) (backOf (W := 0) (rm4 l Z a0 hw [] b6 (i0 &&& (-8193 : Int32)) T8.heap n0 (Nat.le_trans Z0 K8.1) F16 F8_2) hZ (hw _ (List.mem_of_getElem? (i := 29) rfl)) (hw _ (List.mem_of_getElem? (i := 28) rfl)) (by decide) (by decide)) (g := (mkF m 52 #[.val (.int i0), .val (.int i1), .val (.int i2), .val (.int i3), .val (.int i4), .val (.int i5), .val (.ref b1), .val (.ref b6)] [(.ref b6)])) rfl (by rw [hml]; rfl) (argsL := [(.ref b6)]) (rest := []) (lenOf pd_3 rfl) rfl (by show 2 * 0 + _ ≤ _; exact Nat.le_of_eq rfl) (hb hby at_52) (fun _ _ => ⟨rfl, e14, (by decide : 2 + 0 ≤ _), (by decide : 12 + 0 ≤ _)⟩)
  dsimp only [Pt.U, Pt.locs, Pt.cells, Pt.slots] at X18 l18 y18 z18 st18 hQ18
  subst l18 y18 z18
  obtain ⟨rfl, N18q, e18⟩ := hQ18
  have N18 := Fr.app N14 N18q
  have P18 : own_Go p e below S0 (T18.setTop (mkF m 55 #[.val (.int i0), .val (.int i1), .val (.int i2), .val (.int i3), .val (.int i4), .val (.int i5), .val (.ref b1), .val (.ref b6)] [(.int (r4 (i0 &&& (-8193 : Int32))))])) := fun t k => P17 t (st18 _ k)
  have c19 : (r4 (i0 &&& (-8193 : Int32))) = (0 : Int32) := own_clear _
  have P20 : own_Go p e below S0 (T18.setTop (mkF m 63 #[.val (.int i0), .val (.int i1), .val (.int i2), .val (.int i3), .val (.int i4), .val (.int i5), .val (.ref b1), .val (.ref b6)] [(.int (1 : Int32))])) := fun t k => P18 t (by
    show Steps p.tables e below (T18.setTop (mkF m 55 #[.val (.int i0), .val (.int i1), .val (.int i2), .val (.int i3), .val (.int i4), .val (.int i5), .val (.ref b1), .val (.ref b6)] [(.int (r4 (i0 &&& (-8193 : Int32))))])) t
    refine XS.ifNo X18.here hx rfl (hb hby at_55) rfl ((if0 _ _).trans (teq c19).2) ?_
    refine XS.iconst X18.here hx rfl (hb hby at_58) ?_
    refine XS.goto X18.here hx rfl (pc0 := 59) (pc' := 63) rfl (hb hby at_59) (by decide) (by decide) ?_
    show Steps p.tables e below (T18.setTop (mkF m 63 #[.val (.int i0), .val (.int i1), .val (.int i2), .val (.int i3), .val (.int i4), .val (.int i5), .val (.ref b1), .val (.ref b6)] [(.int (1 : Int32))])) t
    exact k)
  have F21 : Fld Z h6 b1 "com/example/names_for_good/namesforgood/protocol/Envelope" "majorVersion" "I" (.int i1) := F3_0.ext E6
  have F22 : Fld Z T8.heap b1 "com/example/names_for_good/namesforgood/protocol/Envelope" "majorVersion" "I" (.int i1) := F21.keep Kc8 (ninS ne_b1_b6 nin0)
  have F23 : Fld Z h6 b1 "com/example/names_for_good/namesforgood/protocol/Envelope" "minorVersion" "I" (.int i2) := F3_1.ext E6
  have F24 : Fld Z T8.heap b1 "com/example/names_for_good/namesforgood/protocol/Envelope" "minorVersion" "I" (.int i2) := F23.keep Kc8 (ninS ne_b1_b6 nin0)
  have F25 : Fld Z h6 b1 "com/example/names_for_good/namesforgood/protocol/Envelope" "sessionId" "I" (.int i3) := F3_3.ext E6
  have F26 : Fld Z T8.heap b1 "com/example/names_for_good/namesforgood/protocol/Envelope" "sessionId" "I" (.int i3) := F25.keep Kc8 (ninS ne_b1_b6 nin0)
  have F27 : Fld Z h6 b1 "com/example/names_for_good/namesforgood/protocol/Envelope" "requestId" "I" (.int i4) := F3_4.ext E6
  have F28 : Fld Z T8.heap b1 "com/example/names_for_good/namesforgood/protocol/Envelope" "requestId" "I" (.int i4) := F27.keep Kc8 (ninS ne_b1_b6 nin0)
  have F29 : Fld Z h6 b1 "com/example/names_for_good/namesforgood/protocol/Envelope" "sequenceNumber" "I" (.int i5) := F3_5.ext E6
  have F30 : Fld Z T8.heap b1 "com/example/names_for_good/namesforgood/protocol/Envelope" "sequenceNumber" "I" (.int i5) := F29.keep Kc8 (ninS ne_b1_b6 nin0)
  obtain ⟨fs, hr, hrun, hended, hW, hsame⟩ := X18.leave (v := some (.int (1 : Int32))) (fun h => by rw [Bd.returns] at h; cases h)
  refine ⟨_, _, own_from hS0 (P20 _ ?_), hrun, hended, _, _, rfl, ?_, ⟨_, rfl⟩, hW, hsame.mono (by decide) (by decide)⟩
  · show Steps p.tables e below (T18.setTop (mkF m 63 #[.val (.int i0), .val (.int i1), .val (.int i2), .val (.int i3), .val (.int i4), .val (.int i5), .val (.ref b1), .val (.ref b6)] [(.int (1 : Int32))])) _
    exact retN X18 hx (t := .boolean) Bd.returns (by simp) (hb hby at_63) hr
  · show Q0 Z i0 i1 i2 i3 i4 i5 h0 n0 _ T18.heap _
    rw [e18]
    exact ⟨rfl, N18⟩
set_option maxRecDepth 65536 in
set_option maxHeartbeats 40000000 in
theorem comes_1 {Post : Tables → Env → Array Value → State → Outcome → State → Prop} (hpost : ∀ tb e args s v u, (limb_1_1.after args s (.returned v) u = true ∧ limb_1_2.after args s (.returned v) u = true ∧ True) → FrameEnd s (.returned v) u (Jvm.fieldLocs frame_1_writes args s ++ Jvm.arrayLocs frame_1_arrays args s ++ Jvm.staticLocs frame_1_statics s) 16 128 → Post tb e args s (.returned v) u) :
    ArmFor flags0 classFile x code maxLocals ret World_1 tables_1 room_1 Calls_1 rest_1 Pre_1 Post := by
  intro l hfl _ _ p e ha hc hk s m args below hf hA hF happ hP
  obtain ⟨hcalls, hrest, hpre⟩ := hP
  obtain ⟨-, -, -, hnamed, -, -, -, hat⟩ := (Spec.applies_iff hf).mp happ
  obtain ⟨hg, hn⟩ := and_e (Cond.before_iff.mp (show (Jvm.Cond.and given_1 narrow_1).before args s = true from hpre))
  obtain ⟨ga1, gb1⟩ := and_e hg
  obtain ⟨ga2, gb2⟩ := and_e gb1
  obtain ⟨ga3, gb3⟩ := and_e gb2
  obtain ⟨ga4, gb4⟩ := and_e gb3
  obtain ⟨ga5, gb5⟩ := and_e gb4
  obtain ⟨ga6, gb6⟩ := and_e gb5
  obtain ⟨w0, w1, w2, w3, w4, w5, rfl⟩ : ∃ w0 w1 w2 w3 w4 w5 : Value, args = #[w0, w1, w2, w3, w4, w5] := by
    have hs : args.size = 6 := by simpa [Cond.value, given_1] using ga1
    obtain ⟨L⟩ := args
    match L, hs with
    | [w0, w1, w2, w3, w4, w5], _ => exact ⟨w0, w1, w2, w3, w4, w5, rfl⟩
  have hw := fun d (hd : d ∈ tables_1) => atoms_spec (ws := Jvm.Cond.code x code maxLocals ret :: tables_1) hat d (List.mem_cons_of_mem _ hd)
  have hfit : Fit s := fun {y c} hc i hi => by
    obtain ⟨ha, rfl⟩ := Array.getElem?_eq_some_iff.mp hc
    have q := List.all_eq_true.mp ((Array.all_eq_true_iff_forall_mem.mp hF) _ (Array.getElem_mem ha)) i (List.mem_range.mpr hi)
    simpa [Array.getElem?_eq_getElem hi] using q
  obtain ⟨i0, ei0⟩ := is_v ga2
  obtain rfl : w0 = (.int i0) := Option.some.inj ei0
  obtain ⟨i1, ei1⟩ := is_v ga3
  obtain rfl : w1 = (.int i1) := Option.some.inj ei1
  obtain ⟨i2, ei2⟩ := is_v ga4
  obtain rfl : w2 = (.int i2) := Option.some.inj ei2
  obtain ⟨i3, ei3⟩ := is_v ga5
  obtain rfl : w3 = (.int i3) := Option.some.inj ei3
  obtain ⟨i4, ei4⟩ := is_v ga6
  obtain rfl : w4 = (.int i4) := Option.some.inj ei4
  obtain ⟨i5, ei5⟩ := is_v gb6
  obtain rfl : w5 = (.int i5) := Option.some.inj ei5
  obtain ⟨n, o, h1, h2, h3, _, L, rfl, ⟨rfl, N⟩, hq⟩ := rm0 l s _ hw tables_1 i0 i1 i2 i3 i4 i5 s.heap s.heap.size (Nat.le_refl _) p e ha hc hk s m _ below hf ((Spec.applies_iff_loose hf).mp happ).1 ⟨rfl, State.Warmed39.refl s, rfl⟩ trivial
  refine ⟨n, _, h1, h2, h3, hpost _ _ _ _ _ _ ⟨Cond.after_iff.mpr rfl, Cond.after_iff.mpr (eq_i res_at (Term.int_eval (1)) rfl), trivial⟩ ⟨hq.1, hq.2.1, (hq.2.2.sift fun y hy => Or.inr (N y hy)).mono (by decide) (by decide)⟩⟩
theorem main_1_1 : Claimed_1_1 := comes_1 fun _ _ _ _ _ _ h hF => ⟨h.1, hF⟩
theorem main_1_2 : Claimed_1_2 := comes_1 fun _ _ _ _ _ _ h hF => ⟨h.2.1, hF⟩
end Jvm.Pilot.@@N@@
namespace Jvm.Pilot.@@N@@
open Jvm Jvm.ClassFile Sem Op Lib Jvm.Free Jvm.Stand Jvm.Pilot.@@N@@.Jvm.D
/-! MADE BY PROGRAM (witnessworld.py) out of the Statement's table words and the real class files: 11 classes; the members and pool entries that the words name. The judged class is class 1, her method 1. -/
namespace start1
open Jvm.ClassFile
def u (s : String) : CpInfo := .utf8 (stringToUtf16 s)
/-- a pool by its gaps: so many unusable entries, then the entry; so many at the end -/
def gap : Nat → List CpInfo → List CpInfo
  | 0, r => r
  | n + 1, r => .unusable :: gap n r
def poolList (es : List (Nat × CpInfo)) (last : Nat) : List CpInfo := es.foldr (fun e r => gap e.1 (e.2 :: r)) (gap last [])
def pool (es : List (Nat × CpInfo)) (last : Nat) : Array CpInfo := ⟨poolList es last⟩
def fileOf (pool : Array CpInfo) (this : Nat) (attrs : Array Attribute := #[]) (ms : Array MethodInfo := #[]) (fl : Nat := 33) (sup : Nat := 0) (ifs : Array Nat := #[]) (fds : Array FieldInfo := #[]) : ClassFile where
  minorVersion := 0
  majorVersion := 65
  constantPool := pool
  accessFlags := fl
  thisClass := this
  superClass := sup
  interfaces := ifs
  fields := fds
  methods := ms
  attributes := attrs
def plain (name : String) (sup : Option ClassId) : Class where
  name := name
  kind := .ordinary
  loader := none
  accessFlags := 33
  super := sup
  interfaces := #[]
  cf := none
  fields := #[]
  methods := #[]
  instanceTypes := #[]
  staticTypes := #[]
  resolved := #[]
  callSites := []
  init := .initialized
  statics := none
  mirror := none

def pool0 : Array CpInfo := pool [(5, u "<init>"), (0, u "()V"), (1, .class_ 10), (1, u "java/lang/Object")] 113

def k0c0 : Code := { maxStack := 0, maxLocals := 1, code := object_method_1_code, exceptionTable := #[], attributes := #[] }
def k0m0 : Method := { name := "<init>", desc := "()V", sig := { parameters := [], returnType := none }, accessFlags := 1, code := some k0c0 }
/-- java/lang/Object -/
def k0 : Class := { plain "java/lang/Object" none with
  accessFlags := 33
  interfaces := #[]
  cf := some (fileOf pool0 8 #[] #[{ accessFlags := 1, nameIndex := 5, descriptorIndex := 6, attributes := #[] }] 33 0 #[] #[])
  fields := #[]
  methods := #[k0m0]
  instanceTypes := #[]
  staticTypes := #[]
  resolved := Array.replicate 124 none
  statics := none }

def pool1 : Array CpInfo := pool [(2, .class_ 4), (1, u "java/lang/Object"), (0, u "<init>"), (0, u "()V"), (0, .class_ 8), (0, u "com/example/names_for_good/namesforgood/protocol/Envelope"), (0, .methodref 7 10), (0, .nameAndType 5 11), (0, u "(IIIIII)V"), (0, .methodref 13 14), (0, .class_ 15), (0, .nameAndType 16 17), (0, u "com/example/names_for_good/namesforgood/protocol/Message"), (0, u "isPiece"), (0, u "(Lcom/example/names_for_good/namesforgood/protocol/Envelope;)Z"), (0, .class_ 19), (0, u "com/example/names_for_good/namesforgood/protocol/MessageIsPiecePinLaw"), (2, u "law"), (0, u "(IIIIII)Z")] 3

def k1m0 : Method := { name := "<init>", desc := "()V", sig := { parameters := [], returnType := none }, accessFlags := 2, code := none }
def k1c1 : Code := { maxStack := 8, maxLocals := 8, code := code, exceptionTable := #[], attributes := #[] }
def k1m1 : Method := { name := "law", desc := "(IIIIII)Z", sig := { parameters := [.int, .int, .int, .int, .int, .int], returnType := some .boolean }, accessFlags := 9, code := some k1c1 }
/-- com/example/names_for_good/namesforgood/protocol/MessageIsPiecePinLaw -/
def k1 : Class := { plain "com/example/names_for_good/namesforgood/protocol/MessageIsPiecePinLaw" (some 0) with
  accessFlags := 49
  interfaces := #[]
  cf := some (fileOf pool1 18 #[] #[{ accessFlags := 2, nameIndex := 5, descriptorIndex := 6, attributes := #[] }, { accessFlags := 9, nameIndex := 22, descriptorIndex := 23, attributes := #[] }] 49 2 #[] #[])
  fields := #[]
  methods := #[k1m0, k1m1]
  instanceTypes := #[]
  staticTypes := #[]
  resolved := Array.replicate 27 none
  statics := none }

def pool2 : Array CpInfo := pool [(1, .methodref 2 3), (0, .class_ 4), (0, .nameAndType 5 6), (0, u "java/lang/Object"), (0, u "<init>"), (0, u "()V"), (0, .class_ 8), (0, u "java/lang/Record")] 13

def k2c0 : Code := { maxStack := 1, maxLocals := 1, code := jdk_30_method_1_code, exceptionTable := #[], attributes := #[] }
def k2m0 : Method := { name := "<init>", desc := "()V", sig := { parameters := [], returnType := none }, accessFlags := 4, code := some k2c0 }
/-- java/lang/Record -/
def k2 : Class := { plain "java/lang/Record" (some 0) with
  accessFlags := 1057
  interfaces := #[]
  cf := some (fileOf pool2 7 #[] #[{ accessFlags := 4, nameIndex := 5, descriptorIndex := 6, attributes := #[] }] 1057 2 #[] #[])
  fields := #[]
  methods := #[k2m0]
  instanceTypes := #[]
  staticTypes := #[]
  resolved := Array.replicate 22 none
  statics := none }

def pool3 : Array CpInfo := pool [(1, .methodref 2 3), (0, .class_ 4), (0, .nameAndType 5 6), (0, u "java/lang/Record"), (0, u "<init>"), (0, u "()V"), (0, .fieldref 8 9), (0, .class_ 10), (0, .nameAndType 11 12), (0, u "com/example/names_for_good/namesforgood/protocol/Envelope"), (0, u "majorVersion"), (0, u "I"), (0, .fieldref 8 14), (0, .nameAndType 15 12), (0, u "minorVersion"), (0, .fieldref 8 17), (0, .nameAndType 18 12), (0, u "messageFlag"), (0, .fieldref 8 20), (0, .nameAndType 21 12), (0, u "sessionId"), (0, .fieldref 8 23), (0, .nameAndType 24 12), (0, u "requestId"), (0, .fieldref 8 26), (0, .nameAndType 27 12), (0, u "sequenceNumber"), (12, u "LENGTH"), (2, u "(IIIIII)V"), (4, u "()I")] 26

def k3c0 : Code := { maxStack := 2, maxLocals := 7, code := prog_27_method_1_code, exceptionTable := #[], attributes := #[] }
def k3m0 : Method := { name := "<init>", desc := "(IIIIII)V", sig := { parameters := [.int, .int, .int, .int, .int, .int], returnType := none }, accessFlags := 1, code := some k3c0 }
def k3c1 : Code := { maxStack := 1, maxLocals := 1, code := prog_27_method_7_code, exceptionTable := #[], attributes := #[] }
def k3m1 : Method := { name := "messageFlag", desc := "()I", sig := { parameters := [], returnType := some .int }, accessFlags := 1, code := some k3c1 }
/-- com/example/names_for_good/namesforgood/protocol/Envelope -/
def k3 : Class := { plain "com/example/names_for_good/namesforgood/protocol/Envelope" (some 2) with
  accessFlags := 49
  interfaces := #[]
  cf := some (fileOf pool3 8 #[] #[{ accessFlags := 1, nameIndex := 5, descriptorIndex := 43, attributes := #[] }, { accessFlags := 1, nameIndex := 18, descriptorIndex := 48, attributes := #[] }] 49 2 #[] #[{ accessFlags := 18, nameIndex := 11, descriptorIndex := 12, attributes := #[] }, { accessFlags := 18, nameIndex := 15, descriptorIndex := 12, attributes := #[] }, { accessFlags := 18, nameIndex := 18, descriptorIndex := 12, attributes := #[] }, { accessFlags := 18, nameIndex := 21, descriptorIndex := 12, attributes := #[] }, { accessFlags := 18, nameIndex := 24, descriptorIndex := 12, attributes := #[] }, { accessFlags := 18, nameIndex := 27, descriptorIndex := 12, attributes := #[] }, { accessFlags := 25, nameIndex := 40, descriptorIndex := 12, attributes := #[] }])
  fields := #[{ name := "majorVersion", type := .int, accessFlags := 18, slot := 0, constantValue := 0 }, { name := "minorVersion", type := .int, accessFlags := 18, slot := 1, constantValue := 0 }, { name := "messageFlag", type := .int, accessFlags := 18, slot := 2, constantValue := 0 }, { name := "sessionId", type := .int, accessFlags := 18, slot := 3, constantValue := 0 }, { name := "requestId", type := .int, accessFlags := 18, slot := 4, constantValue := 0 }, { name := "sequenceNumber", type := .int, accessFlags := 18, slot := 5, constantValue := 0 }, { name := "LENGTH", type := .int, accessFlags := 25, slot := 0, constantValue := 0 }]
  methods := #[k3m0, k3m1]
  instanceTypes := #[.int, .int, .int, .int, .int, .int]
  staticTypes := #[.int]
  resolved := Array.replicate 75 none
  statics := none }

def pool4 : Array CpInfo := pool [(1, .class_ 2), (0, u "com/example/names_for_good/namesforgood/protocol/Envelope"), (3, .class_ 8), (1, u "java/lang/Record"), (3, .class_ 14), (1, u "com/example/names_for_good/namesforgood/protocol/Message"), (0, u "envelope"), (0, u "Lcom/example/names_for_good/namesforgood/protocol/Envelope;"), (2, u "header"), (0, u "Lcom/example/names_for_good/namesforgood/protocol/MessageHeader;"), (2, u "body"), (0, u "[B"), (2, u "credential"), (10, .methodref 1 39), (0, .nameAndType 40 41), (0, u "messageFlag"), (0, u "()I"), (2, u "isPiece"), (0, u "(Lcom/example/names_for_good/namesforgood/protocol/Envelope;)Z"), (281, u "MAJOR_VERSION"), (0, u "I"), (2, u "MINOR_VERSION"), (1, u "COMPRESSED"), (1, u "ENCRYPTED"), (1, u "TRUNCATED"), (1, u "CREDENTIAL_LENGTH_FIELD"), (1, u "RESPONSE_CODE_OFFSET")] 73

def k4c0 : Code := { maxStack := 2, maxLocals := 1, code := prog_29_method_3_code, exceptionTable := #[], attributes := #[] }
def k4m0 : Method := { name := "isPiece", desc := "(Lcom/example/names_for_good/namesforgood/protocol/Envelope;)Z", sig := { parameters := [(.object "com/example/names_for_good/namesforgood/protocol/Envelope")], returnType := some .boolean }, accessFlags := 9, code := some k4c0 }
/-- com/example/names_for_good/namesforgood/protocol/Message -/
def k4 : Class := { plain "com/example/names_for_good/namesforgood/protocol/Message" (some 2) with
  accessFlags := 49
  interfaces := #[]
  cf := some (fileOf pool4 12 #[] #[{ accessFlags := 9, nameIndex := 44, descriptorIndex := 45, attributes := #[] }] 49 6 #[] #[{ accessFlags := 18, nameIndex := 15, descriptorIndex := 16, attributes := #[] }, { accessFlags := 18, nameIndex := 19, descriptorIndex := 20, attributes := #[] }, { accessFlags := 18, nameIndex := 23, descriptorIndex := 24, attributes := #[] }, { accessFlags := 18, nameIndex := 27, descriptorIndex := 24, attributes := #[] }, { accessFlags := 25, nameIndex := 327, descriptorIndex := 328, attributes := #[] }, { accessFlags := 25, nameIndex := 331, descriptorIndex := 328, attributes := #[] }, { accessFlags := 26, nameIndex := 333, descriptorIndex := 328, attributes := #[] }, { accessFlags := 26, nameIndex := 335, descriptorIndex := 328, attributes := #[] }, { accessFlags := 26, nameIndex := 337, descriptorIndex := 328, attributes := #[] }, { accessFlags := 26, nameIndex := 339, descriptorIndex := 328, attributes := #[] }, { accessFlags := 26, nameIndex := 341, descriptorIndex := 328, attributes := #[] }])
  fields := #[{ name := "envelope", type := (.object "com/example/names_for_good/namesforgood/protocol/Envelope"), accessFlags := 18, slot := 0, constantValue := 0 }, { name := "header", type := (.object "com/example/names_for_good/namesforgood/protocol/MessageHeader"), accessFlags := 18, slot := 1, constantValue := 0 }, { name := "body", type := (.array .byte), accessFlags := 18, slot := 2, constantValue := 0 }, { name := "credential", type := (.array .byte), accessFlags := 18, slot := 3, constantValue := 0 }, { name := "MAJOR_VERSION", type := .int, accessFlags := 25, slot := 0, constantValue := 0 }, { name := "MINOR_VERSION", type := .int, accessFlags := 25, slot := 1, constantValue := 0 }, { name := "COMPRESSED", type := .int, accessFlags := 26, slot := 2, constantValue := 0 }, { name := "ENCRYPTED", type := .int, accessFlags := 26, slot := 3, constantValue := 0 }, { name := "TRUNCATED", type := .int, accessFlags := 26, slot := 4, constantValue := 0 }, { name := "CREDENTIAL_LENGTH_FIELD", type := .int, accessFlags := 26, slot := 5, constantValue := 0 }, { name := "RESPONSE_CODE_OFFSET", type := .int, accessFlags := 26, slot := 6, constantValue := 0 }]
  methods := #[k4m0]
  instanceTypes := #[(.object "com/example/names_for_good/namesforgood/protocol/Envelope"), (.object "com/example/names_for_good/namesforgood/protocol/MessageHeader"), (.array .byte), (.array .byte)]
  staticTypes := #[.int, .int, .int, .int, .int, .int, .int]
  resolved := Array.replicate 415 none
  statics := none }

def pool5 : Array CpInfo := pool [(1, u "java/lang/Cloneable"), (0, .class_ 1), (0, u "java/lang/Object"), (0, .class_ 3)] 3

/-- java/lang/Cloneable -/
def k5 : Class := { plain "java/lang/Cloneable" (some 0) with
  accessFlags := 1537
  interfaces := #[]
  cf := some (fileOf pool5 2 #[] #[] 1537 4 #[] #[])
  fields := #[]
  methods := #[]
  instanceTypes := #[]
  staticTypes := #[]
  resolved := Array.replicate 8 none
  statics := none }

def pool6 : Array CpInfo := pool [(1, u "java/io/Serializable"), (0, .class_ 1), (0, u "java/lang/Object"), (0, .class_ 3)] 3

/-- java/io/Serializable -/
def k6 : Class := { plain "java/io/Serializable" (some 0) with
  accessFlags := 1537
  interfaces := #[]
  cf := some (fileOf pool6 2 #[] #[] 1537 4 #[] #[])
  fields := #[]
  methods := #[]
  instanceTypes := #[]
  staticTypes := #[]
  resolved := Array.replicate 8 none
  statics := none }

/-- the primitive byte -/
def k7 : Class := { plain "byte" none with kind := .primitive 'B', accessFlags := 0x411 }
/-- [B -/
def k8 : Class := { plain "[B" (some 0) with kind := .array 7 .byte, interfaces := #[5, 6], accessFlags := 1041 }

/-- the primitive int -/
def k9 : Class := { plain "int" none with kind := .primitive 'I', accessFlags := 0x411 }
/-- [I -/
def k10 : Class := { plain "[I" (some 0) with kind := .array 9 .int, interfaces := #[5, 6], accessFlags := 1041 }

def heap : Heap := #[]
def classes : Array Class := #[k0, k1, k2, k3, k4, k5, k6, k7, k8, k9, k10]
def interned : List (Array UInt16 × Addr) := []
def slotsUsed : Nat := 0
def theMethod : MethodId := ⟨1, 1⟩
def args0 : Array Value := #[.int 5, .int 3, .int 1, .int 2, .int 4, .int 9]
def aboutOver (below : List Frame) : State where
  vm := { classes := classes, interned := interned.toArray }
  heap := heap
  slotsUsed := slotsUsed
  threads := #[{ frames := .invoking theMethod args0 :: below }]
def below0 : List Frame := [.native { method := ⟨0, 0⟩, args := #[] }]
def about1 : State := aboutOver below0
def p0 : Program := .bare "" "" ""
def e0 : Env := launch0.env 0 0 0
theorem w_frames : about1.frames = Frame.invoking theMethod args0 :: below0 := rfl
set_option maxRecDepth 65536 in
theorem w_args : argsFit about1.vm theMethod args0 = true := by decide +kernel
set_option maxRecDepth 65536 in
theorem w_heap : heapFits about1 = true := by decide +kernel
set_option maxRecDepth 65536 in
theorem w_runnable : about1.curStatus? = some .runnable := by decide +kernel
set_option maxRecDepth 65536 in
theorem w_alone : about1.alone = true := by decide +kernel
set_option maxRecDepth 65536 in
theorem w_named : about1.methodNamed? x = some theMethod := by decide +kernel
set_option maxRecDepth 65536 in
theorem w_hears : about1.hears theMethod below0 = true := by decide +kernel
set_option maxRecDepth 65536 in
theorem w_ripe : about1.ripe theMethod args0 below0 = true := by decide +kernel
theorem w_running : about1.status = .running := rfl
set_option maxRecDepth 65536 in
theorem w_room : about1.hasRoom e0.platform room_1 = true :=
  launch0.hasRoom_least _ room_1 (by decide +kernel) (by decide +kernel) (by decide +kernel) (by decide +kernel) (by decide +kernel) (by decide +kernel)
theorem allAtoms_all (ts : List Jvm.Cond) (a : Array Jvm.Value) (st : Jvm.State) : (allAtoms ts).before a st = ts.all (fun c => c.before a st) := by
  induction ts with
  | nil => rfl
  | cons c t ih =>
    show (Jvm.Cond.and c (allAtoms t)).before a st = _
    rw [Jvm.Cond.before_and, ih, List.all_cons]
def words1 : List Jvm.Cond := Jvm.Cond.code x code maxLocals ret :: tables_1
/-- a 'code' word, met by the world's own term for the bytes: nothing is compared byte by byte -/
theorem code_word {y : MethodName} {bytes : ByteArray} {mx : Nat} {rt : Option FieldType} {a : Array Value} {s : State} {m : MethodId} {meth : Method} {c : Code} (h1 : s.methodNamed? y = some m) (h2 : s.vm.method? m = some meth) (h3 : meth.code = some c) (h4 : c.code = bytes)
    (h5 : (c.maxLocals == mx && c.exceptionTable.isEmpty && decide (c.maxStack ≤ mostOperands) && decide (meth.sig.returnType = rt) && !meth.locks && decide (parseMethodDescriptor y.desc = some meth.sig)) = true) : (Jvm.Cond.code y bytes mx rt).before a s = true := by
  simp only [Bool.and_eq_true, beq_iff_eq, Bool.not_eq_true', decide_eq_true_eq] at h5
  obtain ⟨⟨⟨⟨⟨g1, g2⟩, g3⟩, g4⟩, g5⟩, g6⟩ := h5
  simp [Cond.before, Cond.holds, Cond.value, h1, h2, h3, h4, g1, g2, g3, g4, g5, g6]
def isCode : Jvm.Cond → Bool
  | .code _ _ _ _ => true
  | _ => false
theorem all_split {L : List Jvm.Cond} {P : Jvm.Cond → Bool} (h1 : L.all (fun c => isCode c || P c) = true) (h2 : ∀ c ∈ L.filter isCode, P c = true) : L.all P = true := by
  refine List.all_eq_true.mpr fun c hc => ?_
  have h := List.all_eq_true.mp h1 c hc
  rcases Bool.eq_false_or_eq_true (isCode c) with hi | hi
  · exact h2 c (List.mem_filter.mpr ⟨hc, hi⟩)
  · simpa [hi] using h
set_option maxRecDepth 65536 in
theorem w_c0 : (Jvm.Cond.code x code maxLocals ret).before args0 about1 = true := code_word (m := ⟨1, 1⟩) (meth := k1m1) (c := k1c1) (by decide +kernel) rfl rfl rfl (by decide +kernel)
set_option maxRecDepth 65536 in
theorem w_c1 : (Jvm.Cond.code ({ cls := "com/example/names_for_good/namesforgood/protocol/Envelope", name := "<init>", desc := "(IIIIII)V" } : Jvm.MethodName) prog_27_method_1_code (7 : Nat) (Option.none : Option Jvm.ClassFile.FieldType)).before args0 about1 = true := code_word (m := ⟨3, 0⟩) (meth := k3m0) (c := k3c0) (by decide +kernel) rfl rfl rfl (by decide +kernel)
set_option maxRecDepth 65536 in
theorem w_c2 : (Jvm.Cond.code ({ cls := "java/lang/Record", name := "<init>", desc := "()V" } : Jvm.MethodName) jdk_30_method_1_code (1 : Nat) (Option.none : Option Jvm.ClassFile.FieldType)).before args0 about1 = true := code_word (m := ⟨2, 0⟩) (meth := k2m0) (c := k2c0) (by decide +kernel) rfl rfl rfl (by decide +kernel)
set_option maxRecDepth 65536 in
theorem w_c3 : (Jvm.Cond.code ({ cls := "java/lang/Object", name := "<init>", desc := "()V" } : Jvm.MethodName) object_method_1_code (1 : Nat) (Option.none : Option Jvm.ClassFile.FieldType)).before args0 about1 = true := code_word (m := ⟨0, 0⟩) (meth := k0m0) (c := k0c0) (by decide +kernel) rfl rfl rfl (by decide +kernel)
set_option maxRecDepth 65536 in
theorem w_c4 : (Jvm.Cond.code ({ cls := "com/example/names_for_good/namesforgood/protocol/Message", name := "isPiece", desc := "(Lcom/example/names_for_good/namesforgood/protocol/Envelope;)Z" } : Jvm.MethodName) prog_29_method_3_code (1 : Nat) (Option.some Jvm.ClassFile.FieldType.boolean)).before args0 about1 = true := code_word (m := ⟨4, 0⟩) (meth := k4m0) (c := k4c0) (by decide +kernel) rfl rfl rfl (by decide +kernel)
set_option maxRecDepth 65536 in
theorem w_c5 : (Jvm.Cond.code ({ cls := "com/example/names_for_good/namesforgood/protocol/Envelope", name := "messageFlag", desc := "()I" } : Jvm.MethodName) prog_27_method_7_code (1 : Nat) (Option.some Jvm.ClassFile.FieldType.int)).before args0 about1 = true := code_word (m := ⟨3, 1⟩) (meth := k3m1) (c := k3c1) (by decide +kernel) rfl rfl rfl (by decide +kernel)
def codes1 : List Jvm.Cond := [Jvm.Cond.code x code maxLocals ret, Jvm.Cond.code ({ cls := "com/example/names_for_good/namesforgood/protocol/Envelope", name := "<init>", desc := "(IIIIII)V" } : Jvm.MethodName) prog_27_method_1_code (7 : Nat) (Option.none : Option Jvm.ClassFile.FieldType), Jvm.Cond.code ({ cls := "java/lang/Record", name := "<init>", desc := "()V" } : Jvm.MethodName) jdk_30_method_1_code (1 : Nat) (Option.none : Option Jvm.ClassFile.FieldType), Jvm.Cond.code ({ cls := "java/lang/Object", name := "<init>", desc := "()V" } : Jvm.MethodName) object_method_1_code (1 : Nat) (Option.none : Option Jvm.ClassFile.FieldType), Jvm.Cond.code ({ cls := "com/example/names_for_good/namesforgood/protocol/Message", name := "isPiece", desc := "(Lcom/example/names_for_good/namesforgood/protocol/Envelope;)Z" } : Jvm.MethodName) prog_29_method_3_code (1 : Nat) (Option.some Jvm.ClassFile.FieldType.boolean), Jvm.Cond.code ({ cls := "com/example/names_for_good/namesforgood/protocol/Envelope", name := "messageFlag", desc := "()I" } : Jvm.MethodName) prog_27_method_7_code (1 : Nat) (Option.some Jvm.ClassFile.FieldType.int)]
set_option maxRecDepth 65536 in
theorem codes_eq : words1.filter isCode = codes1 := rfl
theorem w_codes : ∀ c ∈ words1.filter isCode, c.before args0 about1 = true := by
  rw [codes_eq]
  intro c hc
  simp only [codes1, List.mem_cons, List.not_mem_nil, or_false] at hc
  rcases hc with rfl | rfl | rfl | rfl | rfl | rfl
  · exact w_c0
  · exact w_c1
  · exact w_c2
  · exact w_c3
  · exact w_c4
  · exact w_c5
set_option maxRecDepth 65536 in
theorem w_t1 : (words1.take 24).all (fun c => isCode c || c.before args0 about1) = true := by decide +kernel
set_option maxRecDepth 65536 in
theorem w_t2 : (words1.drop 24).all (fun c => isCode c || c.before args0 about1) = true := by decide +kernel
theorem w_tables : (allAtoms (Jvm.Cond.code x code maxLocals ret :: tables_1)).before args0 about1 = true := by
  rw [allAtoms_all]
  show words1.all (fun c => c.before args0 about1) = true
  refine all_split ?_ w_codes
  rw [← List.take_append_drop 24 words1, List.all_append, w_t1, w_t2]
  rfl
set_option maxRecDepth 65536 in
theorem w_case : (Jvm.Cond.and given_1 narrow_1).before args0 about1 = true := by decide +kernel
theorem w_applies : (headSpec (Jvm.Cond.code x code maxLocals ret :: tables_1) room_1).applies x e0.platform about1 = true :=
  (Spec.applies_iff w_frames).mpr ⟨w_running, w_runnable, w_alone, w_named, w_hears, w_ripe, w_room, w_tables⟩
theorem atStart : AtStart classFile x code maxLocals ret World_1 tables_1 room_1 Calls_1 rest_1 Pre_1 launch0 p0 e0 about1 theMethod args0 below0 :=
  ⟨lists_1, trivial, launch0.admits_env _ _ _, launch0.least_env, fairChoices_fair.cas, fairChoices_fair.clock, w_frames, w_args, w_heap, w_applies, trivial, trivial, w_case⟩
end start1
theorem witness_1 : WitnessClaimed_1 := ⟨start1.p0, start1.e0, start1.about1, start1.theMethod, start1.args0, start1.below0, start1.atStart⟩
end Jvm.Pilot.@@N@@
