import JvmDerived
import JvmDerived.Pilot.@@N@@Statement
import JvmDerived.Pilot.@@N@@Code
set_option linter.unusedVariables false
set_option linter.unusedSimpArgs false
namespace Jvm.RoadKit
open Sem ClassFile Op Lib Jvm.Stand Jvm.Free Jvm.LawKit
section New
variable {p : Program} {l : Launch} {e : Env} {R : Room} {s : State} {m : MethodId} {args : Array Value} {below : List Frame} {meth : Method} {c : Code} {T : State} {locs : List Loc} {cells slots : Nat}
theorem retI (X : Stand p l e R s m args below meth c T locs cells slots) (hx : p.tables.exec = Jvm.exec) {pc : Nat} {Ls : Array Slot} {z : Int32} {rest : List Value} (hret : meth.sig.returnType = some .int) (hd : decode c.code pc = .ok (.ireturn, 1)) {fs : List Frame}
    (hl : ∀ (f : JFrame) (acts : List Action), f.method = m → f.locked = none → f.entered = [] → (doReturn e (T.setTop f) acts (some (.int z))).1 = T.setFrames fs) : Steps p.tables e below (T.setTop (mkF m pc Ls (.int z :: rest))) (T.setFrames fs) := by
  have hm' : T.vm.method? m = some meth := X.method'
  have hn : narrow .int (.int z) = .int z := rfl
  show Steps p.tables e below (T.setTop { method := m, pc := pc, locals := Ls, stack := _ :: rest, locked := none }) _
  jvm_step X.here [X.here.top, hx, hd, hm', hret, hn]
  first | (intro acts; rw [hl _ acts rfl rfl rfl]) | rw [hl _ _ rfl rfl rfl]
  exact Steps.refl _
end New
end Jvm.RoadKit
namespace Jvm.Pilot.@@N@@
open Jvm Jvm.ClassFile Sem Op Lib Jvm.Free Jvm.Stand Jvm.LawKit Jvm.RoadKit Bundle Jvm.Pilot.@@N@@.Jvm.D
abbrev own_Go (p : Program) (e : Env) (below : List Frame) (A B : State) : Prop := ∀ t, Steps p.tables e below B t → Steps p.tables e below A t
theorem own_from {p : Program} {e : Env} {below : List Frame} {A B t : State} (h : A = B) (k : Steps p.tables e below A t) : Steps p.tables e below B t := h ▸ k
theorem own_ite1 {P : Prop} [Decidable P] (h : P) : ¬ ((if P then (1 : Int32) else (0 : Int32)) = (0 : Int32)) := by rw [if_pos h]; decide
theorem own_ite0 {P : Prop} [Decidable P] (h : ¬ P) : (if P then (1 : Int32) else (0 : Int32)) = (0 : Int32) := if_neg h
def own_Pl (h : Heap) (a : Addr) : Prop := ∃ c : Cell, h[a]? = some c ∧ c.vm.isStatics = false
theorem own_plE {Z : State} {h : Heap} {a : Addr} {C : String} (F : Exa Z h a C) : own_Pl h a := by obtain ⟨cell, k, h1, _, _, h4, _⟩ := F; exact ⟨cell, h1, h4⟩
theorem own_plF {Z : State} {h : Heap} {a : Addr} {C n d : String} {v : Value} (F : Fld Z h a C n d v) : own_Pl h a := by obtain ⟨cell, cf, k, i, f, h1, _, _, _, h5, _⟩ := F; exact ⟨cell, h1, h5⟩
theorem own_plA {Z : State} {h : Heap} {a : Addr} {k : ClassId} {ty : FieldType} {n : Int32} {vs : List Value} {d : Value} (F : Arv Z h a k ty n vs d) : own_Pl h a := by obtain ⟨c, A, _⟩ := F; exact ⟨c, A.1, A.plain⟩
theorem own_staK {Z : State} {h h' : Heap} {C n d : String} {v : Value} {ws : List Addr} (F : Sta Z h C n d v) (K : Keep h h' ws) (q : ∀ x ∈ ws, own_Pl h x) : Sta Z h' C n d v := by
  obtain ⟨cf, i, k, f, st, cell, h1, h2, h3, h4, h5, h6, h7⟩ := F
  refine ⟨cf, i, k, f, st, cell, h1, h2, h3, h4, K.2.1 st cell h5 fun z => ?_, h6, h7⟩
  obtain ⟨c, q1, q2⟩ := q st z
  cases h5.symm.trans q1
  rw [h6] at q2; cases q2
theorem own_insK {Z : State} {h h' : Heap} {a : Addr} {C : String} {bo : Bool} {ws : List Addr} (F : Ins Z h a C bo) (K : Keep h h' ws) : Ins Z h' a C bo := by
  obtain ⟨cell, cT, h1, h2, h3⟩ := F
  obtain ⟨c', q1, q2, q3, q4⟩ := K.2.2 a cell h1
  exact ⟨c', cT, q1, h2, by rw [q2, q3]; exact h3⟩
theorem own_atI {c : Cell} {vs : List Value} {d : Value} {ty : FieldType} {j : Int32} (H : Has c vs d) (G : ∀ i, i < c.slots.size → fits ty (vs.getD i d) = true) (q : ¬ (j < 0 ∨ c.slots.size ≤ j.toNatClampNeg)) (ht : ty = .int ∨ ty = .boolean ∨ ty = .byte ∨ ty = .char ∨ ty = .short) : ∃ z, c.slots[j.toNatClampNeg]? = some (.int z) := by
  have hlt := Nat.lt_of_not_le fun y => q (Or.inr y)
  obtain ⟨z, hz⟩ := fit_I (G _ hlt) ht
  exact ⟨z, by rw [H _ hlt, hz]⟩
theorem own_cat {v : Value} (h : v.isRef = true) : v.category = 1 := by cases v <;> simp [Value.isRef, Value.category] at h ⊢
theorem own_mod6 (x : Int32) : ((x &&& (2147483647 : Int32)) % (6 : Int32)) = (0 : Int32) ∨ ((x &&& (2147483647 : Int32)) % (6 : Int32)) = (1 : Int32) ∨ ((x &&& (2147483647 : Int32)) % (6 : Int32)) = (2 : Int32) ∨ ((x &&& (2147483647 : Int32)) % (6 : Int32)) = (3 : Int32) ∨ ((x &&& (2147483647 : Int32)) % (6 : Int32)) = (4 : Int32) ∨ ((x &&& (2147483647 : Int32)) % (6 : Int32)) = (5 : Int32) := by
  have h := c_mask x 2147483647 31 (by decide) (by decide)
  have h2 := (c_irem (x &&& (2147483647 : Int32)) 6 6 (by decide)).1 (by omega)
  have e0 : (0 : Int32).toInt = 0 := by decide
  have e1 : (1 : Int32).toInt = 1 := by decide
  have e2 : (2 : Int32).toInt = 2 := by decide
  have e3 : (3 : Int32).toInt = 3 := by decide
  have e4 : (4 : Int32).toInt = 4 := by decide
  have e5 : (5 : Int32).toInt = 5 := by decide
  simp only [← Int32.toInt_inj, e0, e1, e2, e3, e4, e5]
  omega
theorem pn_1 : plainName "com/example/splice/splice/XPath$Keys" = true := by first | (simp [plainName, overriddenIn]; done) | decide +kernel
theorem d1_0 : decode prog_149_method_1_code 0 = .ok (.aload_n 0, 1) := by decide +kernel
theorem d1_1 : decode prog_149_method_1_code 1 = .ok (.invokespecial 1, 3) := by decide +kernel
theorem d1_4 : decode prog_149_method_1_code 4 = .ok (.aload_n 0, 1) := by decide +kernel
theorem d1_5 : decode prog_149_method_1_code 5 = .ok (.bipush 8, 2) := by decide +kernel
theorem d1_7 : decode prog_149_method_1_code 7 = .ok (.newarray .long, 2) := by decide +kernel
theorem d1_9 : decode prog_149_method_1_code 9 = .ok (.putfield 7, 3) := by decide +kernel
theorem d1_12 : decode prog_149_method_1_code 12 = .ok (.return_, 1) := by decide +kernel
theorem ef_1 (m : MethodId) (q1_0 : Addr) : entryFrame m #[(.ref q1_0)] 1 = mkF m 0 #[.val (.ref q1_0)] [] := by first | (simp [entryFrame, mkF, argsToLocals, Value.category]; done) | rfl
def Q1 (Z : State) (q1_0 : Addr) (w1_q1_0_size : Int32) (u1_q1_0_keys : Value) (h0 : Heap) (n0 : Nat) (v : Option Value) (h : Heap) (L : List Loc) : Prop := ∃ (b4 : Addr) (k4 : ClassId), v = none ∧ Fr n0 L ∧ Keep h0 h [q1_0] ∧ h0.size ≤ b4 ∧ Fld Z h q1_0 "com/example/splice/splice/XPath$Keys" "size" "I" (.int w1_q1_0_size) ∧ Arv Z h b4 k4 .long (8 : Int32) [(.long (0 : Int64)), (.long (0 : Int64)), (.long (0 : Int64)), (.long (0 : Int64)), (.long (0 : Int64)), (.long (0 : Int64)), (.long (0 : Int64)), (.long (0 : Int64))] (.long (0 : Int64)) ∧ Fld Z h q1_0 "com/example/splice/splice/XPath$Keys" "keys" "[J" (.ref b4)
set_option maxRecDepth 65536 in
set_option maxHeartbeats 40000000 in
theorem rm1 (l : Launch) (Z : State) (a0 : Array Value) (hw : ∀ d ∈ tables_1, d.before a0 Z = true) (ws : List Jvm.Cond) (q1_0 : Addr) (w1_q1_0_size : Int32) (u1_q1_0_keys : Value) (h0 : Heap) (n0 : Nat) (Z0 : n0 ≤ h0.size) (F_q1_0_size : Fld Z h0 q1_0 "com/example/splice/splice/XPath$Keys" "size" "I" (.int w1_q1_0_size)) (E_q1_0 : Exa Z h0 q1_0 "com/example/splice/splice/XPath$Keys") (F_q1_0_keys : Fld Z h0 q1_0 "com/example/splice/splice/XPath$Keys" "keys" "[J" u1_q1_0_keys) (g_q1_0 : n0 ≤ q1_0) :
    MetFree l (⟨"com/example/splice/splice/XPath$Keys", "<init>", "()V"⟩ : MethodName) (head1 (Jvm.Cond.code (⟨"com/example/splice/splice/XPath$Keys", "<init>", "()V"⟩ : MethodName) prog_149_method_1_code 1 none :: ws) ({ frames := 1, cells := 1, slots := 8, locals := 12 } : Room)) (fun a U => a = #[(.ref q1_0)] ∧ Z.Warmed39 U.vm ∧ U.heap = h0) (fun _ _ _ _ _ => True) (fun _ U o U' => ∃ v L, o = .returned v ∧ Q1 Z q1_0 w1_q1_0_size u1_q1_0_keys h0 n0 v U'.heap L ∧ FrameEnd U o U' L ({ frames := 1, cells := 1, slots := 8, locals := 12 } : Room).cells ({ frames := 1, cells := 1, slots := 8, locals := 12 } : Room).slots) := by
  refine MetFree.of_bodySF (plainFor_of_name pn_1) hisR ?_
  intro p e s m args below meth c s₁ Bd hml0 hP hK
  obtain ⟨rfl, hZ, hh⟩ := hP
  have hx := Bd.exec
  have hby := Bd.bytes
  have hml : c.maxLocals = 1 := hml0
  have hown : s.vm.findClass "com/example/splice/splice/XPath$Keys" = some m.cls := findClass_of_methodNamed Bd.named
  have hnm := (name_of_methodNamed Bd.named Bd.method).1
  have X0 : Stand p l e ({ frames := 1, cells := 1, slots := 8, locals := 12 } : Room) s m #[(.ref q1_0)] below meth c s₁ [] 0 0 := Stand.of_body Bd
  have e0 : s₁.heap = h0 := by rw [← hh, Bd.state]; rfl
  have N0 := Fr.nil n0
  obtain ⟨S0, hS0⟩ : ∃ z, z = s₁.setTop (entryFrame m #[(.ref q1_0)] 1) := ⟨_, rfl⟩
  have P0 : own_Go p e below S0 (s₁.setTop (mkF m 0 #[.val (.ref q1_0)] [])) := fun t k => by rw [hS0]; exact castTop (ef_1 m q1_0) k
  have P1 : own_Go p e below S0 (s₁.setTop (mkF m 1 #[.val (.ref q1_0)] [(.ref q1_0)])) := fun t k => P0 t (by
    show Steps p.tables e below (s₁.setTop (mkF m 0 #[.val (.ref q1_0)] [])) t
    refine XS.aloadN X0.here hx rfl (hb hby d1_0) rfl rfl ?_
    show Steps p.tables e below (s₁.setTop (mkF m 1 #[.val (.ref q1_0)] [(.ref q1_0)])) t
    exact k)
  obtain ⟨T2, X2, e2, st2⟩ := initO X0 hx hZ hown (hw _ (List.mem_of_getElem? (i := 8) rfl)) (hw _ (List.mem_of_getElem? (i := 9) rfl)) (hw _ (List.mem_of_getElem? (i := 10) rfl)) e0 (g := (mkF m 1 #[.val (.ref q1_0)] [(.ref q1_0)])) rfl (by rw [hml]; rfl) rfl (hb hby d1_1) (by decide) (W := 0) (by show 2 * 0 + _ ≤ _; exact Nat.le_of_eq rfl) (by decide)
  have P2 : own_Go p e below S0 (T2.setTop (mkF m 4 #[.val (.ref q1_0)] [])) := fun t k => P1 t (st2 _ k)
  have P3 : own_Go p e below S0 (T2.setTop (mkF m 7 #[.val (.ref q1_0)] [(.int (8 : Int32)), (.ref q1_0)])) := fun t k => P2 t (by
    show Steps p.tables e below (T2.setTop (mkF m 4 #[.val (.ref q1_0)] [])) t
    refine XS.aloadN X2.here hx rfl (hb hby d1_4) rfl rfl ?_
    refine XS.bipush X2.here hx rfl (hb hby d1_5) ?_
    show Steps p.tables e below (T2.setTop (mkF m 7 #[.val (.ref q1_0)] [(.int (8 : Int32)), (.ref q1_0)])) t
    exact k)
  obtain ⟨T4, h4, k4, X4, e4, E4, A4, st4⟩ := newP X2 hx hZ (hw _ (List.mem_of_getElem? (i := 1) rfl)) e2 (g := (mkF m 7 #[.val (.ref q1_0)] [(.int (8 : Int32)), (.ref q1_0)])) rfl (hb hby d1_7) rfl (by decide) (cap := 8) (by decide) (by decide) (by decide) (by decide)
  obtain ⟨b4, g4⟩ : ∃ z, z = h0.size := ⟨_, rfl⟩
  rw [← g4] at A4 st4
  have sz_b4 : h0.size ≤ b4 := Nat.le_of_eq g4.symm
  have ne_q1_0_b4 : q1_0 ≠ b4 := Nat.ne_of_lt (Nat.lt_of_lt_of_le F_q1_0_size.lt sz_b4)
  have g_b4 : n0 ≤ b4 := Nat.le_trans Z0 sz_b4
  have o_b4 : h0.size ≤ b4 := sz_b4
  have K4 : Keep h0 h4 [q1_0] := (Keep.refl h0 [q1_0]).ext E4
  have V4 : Arv Z h4 b4 k4 .long (8 : Int32) [(.long (0 : Int64)), (.long (0 : Int64)), (.long (0 : Int64)), (.long (0 : Int64)), (.long (0 : Int64)), (.long (0 : Int64)), (.long (0 : Int64)), (.long (0 : Int64))] (.long (0 : Int64)) := (Arv.new A4 (by decide)).pad (pad_rep [] (.long (0 : Int64)) 8)
  have P4 : own_Go p e below S0 (T4.setTop (mkF m 9 #[.val (.ref q1_0)] [(.ref b4), (.ref q1_0)])) := fun t k => P3 t (st4 _ k)
  have F5 : Exa Z h4 q1_0 "com/example/splice/splice/XPath$Keys" := E_q1_0.ext E4
  have F6 : Fld Z h4 q1_0 "com/example/splice/splice/XPath$Keys" "keys" "[J" u1_q1_0_keys := F_q1_0_keys.ext E4
  obtain ⟨T7, h7, X7, e7, W7, st7⟩ := putF X4 hx hZ hown (host := "") (Or.inl (hw _ (List.mem_of_getElem? (i := 11) rfl))) Via.refl e4 F6 F5 (Or.inl (hw _ (List.mem_of_getElem? (i := 12) rfl))) (hw _ (List.mem_of_getElem? (i := 3) rfl)) (ty := (.array .long)) (by decide) rfl rfl (g := (mkF m 9 #[.val (.ref q1_0)] [(.ref b4), (.ref q1_0)])) rfl rfl (hb hby d1_9)
  have K7 : Keep h0 h7 [q1_0] := K4.wr W7 (Or.inl (by simp))
  have N7 := Fr.snoc X7 N0 g_q1_0
  have F7w : Fld Z h7 q1_0 "com/example/splice/splice/XPath$Keys" "keys" "[J" (.ref b4) := F6.same W7
  have P7 : own_Go p e below S0 (T7.setTop (mkF m 12 #[.val (.ref q1_0)] [])) := fun t k => P4 t (st7 _ k)
  have F8 : Fld Z h4 q1_0 "com/example/splice/splice/XPath$Keys" "size" "I" (.int w1_q1_0_size) := F_q1_0_size.ext E4
  have F9 : Fld Z h7 q1_0 "com/example/splice/splice/XPath$Keys" "size" "I" (.int w1_q1_0_size) := F8.other W7 (Or.inr (slot_ne (Or.inl (hw _ (List.mem_of_getElem? (i := 15) rfl))) (Or.inl (hw _ (List.mem_of_getElem? (i := 12) rfl))) (by decide) (t := .int) (t' := (.array .long)) (by decide) (by decide)))
  have F10 : Arv Z h7 b4 k4 .long (8 : Int32) [(.long (0 : Int64)), (.long (0 : Int64)), (.long (0 : Int64)), (.long (0 : Int64)), (.long (0 : Int64)), (.long (0 : Int64)), (.long (0 : Int64)), (.long (0 : Int64))] (.long (0 : Int64)) := V4.other W7 (Ne.symm ne_q1_0_b4)
  obtain ⟨fs, hr, hrun, hended, hW, hsame⟩ := X7.leave (v := none) (fun _ => rfl)
  refine ⟨_, _, own_from hS0 (P7 _ ?_), hrun, hended, _, _, rfl, ?_, ⟨_, rfl⟩, hW, hsame.mono (by decide) (by decide)⟩
  · show Steps p.tables e below (T7.setTop (mkF m 12 #[.val (.ref q1_0)] [])) _
    exact X7.returnOut hx Bd.returns (hb hby d1_12) hr
  · show Q1 Z q1_0 w1_q1_0_size u1_q1_0_keys h0 n0 _ T7.heap _
    rw [e7]
    exact ⟨b4, k4, rfl, N7, K7, o_b4, F9, F10, F7w⟩
theorem d3_0 : decode prog_149_method_5_code 0 = .ok (.iconst 0, 1) := by decide +kernel
theorem d3_1 : decode prog_149_method_5_code 1 = .ok (.istore_n 1, 1) := by decide +kernel
theorem d3_2 : decode prog_149_method_5_code 2 = .ok (.aload_n 0, 1) := by decide +kernel
theorem d3_3 : decode prog_149_method_5_code 3 = .ok (.getfield 13, 3) := by decide +kernel
theorem d3_6 : decode prog_149_method_5_code 6 = .ok (.iconst 1, 1) := by decide +kernel
theorem d3_7 : decode prog_149_method_5_code 7 = .ok (.isub, 1) := by decide +kernel
theorem d3_8 : decode prog_149_method_5_code 8 = .ok (.istore_n 2, 1) := by decide +kernel
theorem d3_9 : decode prog_149_method_5_code 9 = .ok (.iload_n 1, 1) := by decide +kernel
theorem d3_10 : decode prog_149_method_5_code 10 = .ok (.iload_n 2, 1) := by decide +kernel
theorem d3_11 : decode prog_149_method_5_code 11 = .ok (.if_icmp .ge 38, 3) := by decide +kernel
theorem d3_49 : decode prog_149_method_5_code 49 = .ok (.return_, 1) := by decide +kernel
theorem ef_3s0 (m : MethodId) (q3s0_0 : Addr) : entryFrame m #[(.ref q3s0_0)] 5 = mkF m 0 #[.val (.ref q3s0_0), .unset, .unset, .unset, .unset] [] := by first | (simp [entryFrame, mkF, argsToLocals, Value.category]; done) | rfl
def Q3s0 (Z : State) (q3s0_0 : Addr) (qa : Addr) (qk : ClassId) (x0 : Int64) (x1 : Int64) (x2 : Int64) (x3 : Int64) (x4 : Int64) (h0 : Heap) (n0 : Nat) (v : Option Value) (h : Heap) (L : List Loc) : Prop := v = none ∧ Fr n0 L ∧ h = h0
set_option maxRecDepth 65536 in
set_option maxHeartbeats 40000000 in
theorem rm3s0 (l : Launch) (Z : State) (a0 : Array Value) (hw : ∀ d ∈ tables_1, d.before a0 Z = true) (ws : List Jvm.Cond) (q3s0_0 : Addr) (qa : Addr) (qk : ClassId) (x0 : Int64) (x1 : Int64) (x2 : Int64) (x3 : Int64) (x4 : Int64) (h0 : Heap) (n0 : Nat) (Z0 : n0 ≤ h0.size) (F_keys : Fld Z h0 q3s0_0 "com/example/splice/splice/XPath$Keys" "keys" "[J" (.ref qa)) (F_size : Fld Z h0 q3s0_0 "com/example/splice/splice/XPath$Keys" "size" "I" (.int (0 : Int32))) (A_qa : Arv Z h0 qa qk .long (5 : Int32) [(.long x0), (.long x1), (.long x2), (.long x3), (.long x4)] (.long (0 : Int64))) :
    MetFree l (⟨"com/example/splice/splice/XPath$Keys", "reverse", "()V"⟩ : MethodName) (head1 (Jvm.Cond.code (⟨"com/example/splice/splice/XPath$Keys", "reverse", "()V"⟩ : MethodName) prog_149_method_5_code 5 none :: ws) ({ frames := 0, cells := 0, slots := 0, locals := 0 } : Room)) (fun a U => a = #[(.ref q3s0_0)] ∧ Z.Warmed39 U.vm ∧ U.heap = h0) (fun _ _ _ _ _ => True) (fun _ U o U' => ∃ v L, o = .returned v ∧ Q3s0 Z q3s0_0 qa qk x0 x1 x2 x3 x4 h0 n0 v U'.heap L ∧ FrameEnd U o U' L ({ frames := 0, cells := 0, slots := 0, locals := 0 } : Room).cells ({ frames := 0, cells := 0, slots := 0, locals := 0 } : Room).slots) := by
  refine MetFree.of_bodySF (plainFor_of_name pn_1) hisR ?_
  intro p e s m args below meth c s₁ Bd hml0 hP hK
  obtain ⟨rfl, hZ, hh⟩ := hP
  have hx := Bd.exec
  have hby := Bd.bytes
  have hml : c.maxLocals = 5 := hml0
  have hown : s.vm.findClass "com/example/splice/splice/XPath$Keys" = some m.cls := findClass_of_methodNamed Bd.named
  have hnm := (name_of_methodNamed Bd.named Bd.method).1
  have X0 : Stand p l e ({ frames := 0, cells := 0, slots := 0, locals := 0 } : Room) s m #[(.ref q3s0_0)] below meth c s₁ [] 0 0 := Stand.of_body Bd
  have e0 : s₁.heap = h0 := by rw [← hh, Bd.state]; rfl
  have N0 := Fr.nil n0
  obtain ⟨S0, hS0⟩ : ∃ z, z = s₁.setTop (entryFrame m #[(.ref q3s0_0)] 5) := ⟨_, rfl⟩
  have P0 : own_Go p e below S0 (s₁.setTop (mkF m 0 #[.val (.ref q3s0_0), .unset, .unset, .unset, .unset] [])) := fun t k => by rw [hS0]; exact castTop (ef_3s0 m q3s0_0) k
  have P1 : own_Go p e below S0 (s₁.setTop (mkF m 3 #[.val (.ref q3s0_0), .val (.int (0 : Int32)), .unset, .unset, .unset] [(.ref q3s0_0)])) := fun t k => P0 t (by
    show Steps p.tables e below (s₁.setTop (mkF m 0 #[.val (.ref q3s0_0), .unset, .unset, .unset, .unset] [])) t
    refine XS.iconst X0.here hx rfl (hb hby d3_0) ?_
    refine XS.istoreN X0.here hx rfl (hb hby d3_1) rfl (l' := #[.val (.ref q3s0_0), .val (.int (0 : Int32)), .unset, .unset, .unset]) rfl ?_
    refine XS.aloadN X0.here hx rfl (hb hby d3_2) rfl rfl ?_
    show Steps p.tables e below (s₁.setTop (mkF m 3 #[.val (.ref q3s0_0), .val (.int (0 : Int32)), .unset, .unset, .unset] [(.ref q3s0_0)])) t
    exact k)
  obtain ⟨T2, X2, e2, st2⟩ := getF X0 hx hZ hown (host := "") (Or.inl (hw _ (List.mem_of_getElem? (i := 21) rfl))) Via.refl e0 F_size (g := (mkF m 3 #[.val (.ref q3s0_0), .val (.int (0 : Int32)), .unset, .unset, .unset] [(.ref q3s0_0)])) rfl rfl (hb hby d3_3)
  have P2 : own_Go p e below S0 (T2.setTop (mkF m 6 #[.val (.ref q3s0_0), .val (.int (0 : Int32)), .unset, .unset, .unset] [(.int (0 : Int32))])) := fun t k => P1 t (st2 _ k)
  have P3 : own_Go p e below S0 (T2.setTop (mkF m 49 #[.val (.ref q3s0_0), .val (.int (0 : Int32)), .val (.int (-1 : Int32)), .unset, .unset] [])) := fun t k => P2 t (by
    show Steps p.tables e below (T2.setTop (mkF m 6 #[.val (.ref q3s0_0), .val (.int (0 : Int32)), .unset, .unset, .unset] [(.int (0 : Int32))])) t
    refine XS.iconst X2.here hx rfl (hb hby d3_6) ?_
    refine XS.isub X2.here hx rfl (hb hby d3_7) rfl ?_
    refine XS.istoreN X2.here hx rfl (hb hby d3_8) rfl (l' := #[.val (.ref q3s0_0), .val (.int (0 : Int32)), .val (.int (-1 : Int32)), .unset, .unset]) rfl ?_
    refine XS.iloadN X2.here hx rfl (hb hby d3_9) rfl ?_
    refine XS.iloadN X2.here hx rfl (hb hby d3_10) rfl ?_
    refine XS.icmpYes X2.here hx rfl (pc0 := 11) (pc' := 49) rfl (hb hby d3_11) rfl (flt (by decide)).2.1 (by decide) (by decide) ?_
    show Steps p.tables e below (T2.setTop (mkF m 49 #[.val (.ref q3s0_0), .val (.int (0 : Int32)), .val (.int (-1 : Int32)), .unset, .unset] [])) t
    exact k)
  obtain ⟨fs, hr, hrun, hended, hW, hsame⟩ := X2.leave (v := none) (fun _ => rfl)
  refine ⟨_, _, own_from hS0 (P3 _ ?_), hrun, hended, _, _, rfl, ?_, ⟨_, rfl⟩, hW, hsame.mono (by decide) (by decide)⟩
  · show Steps p.tables e below (T2.setTop (mkF m 49 #[.val (.ref q3s0_0), .val (.int (0 : Int32)), .val (.int (-1 : Int32)), .unset, .unset] [])) _
    exact X2.returnOut hx Bd.returns (hb hby d3_49) hr
  · show Q3s0 Z q3s0_0 qa qk x0 x1 x2 x3 x4 h0 n0 _ T2.heap _
    rw [e2]
    exact ⟨rfl, N0, rfl⟩
theorem ef_3s1 (m : MethodId) (q3s1_0 : Addr) : entryFrame m #[(.ref q3s1_0)] 5 = mkF m 0 #[.val (.ref q3s1_0), .unset, .unset, .unset, .unset] [] := by first | (simp [entryFrame, mkF, argsToLocals, Value.category]; done) | rfl
def Q3s1 (Z : State) (q3s1_0 : Addr) (qa : Addr) (qk : ClassId) (x0 : Int64) (x1 : Int64) (x2 : Int64) (x3 : Int64) (x4 : Int64) (h0 : Heap) (n0 : Nat) (v : Option Value) (h : Heap) (L : List Loc) : Prop := v = none ∧ Fr n0 L ∧ h = h0
set_option maxRecDepth 65536 in
set_option maxHeartbeats 40000000 in
theorem rm3s1 (l : Launch) (Z : State) (a0 : Array Value) (hw : ∀ d ∈ tables_1, d.before a0 Z = true) (ws : List Jvm.Cond) (q3s1_0 : Addr) (qa : Addr) (qk : ClassId) (x0 : Int64) (x1 : Int64) (x2 : Int64) (x3 : Int64) (x4 : Int64) (h0 : Heap) (n0 : Nat) (Z0 : n0 ≤ h0.size) (F_keys : Fld Z h0 q3s1_0 "com/example/splice/splice/XPath$Keys" "keys" "[J" (.ref qa)) (F_size : Fld Z h0 q3s1_0 "com/example/splice/splice/XPath$Keys" "size" "I" (.int (1 : Int32))) (A_qa : Arv Z h0 qa qk .long (5 : Int32) [(.long x0), (.long x1), (.long x2), (.long x3), (.long x4)] (.long (0 : Int64))) :
    MetFree l (⟨"com/example/splice/splice/XPath$Keys", "reverse", "()V"⟩ : MethodName) (head1 (Jvm.Cond.code (⟨"com/example/splice/splice/XPath$Keys", "reverse", "()V"⟩ : MethodName) prog_149_method_5_code 5 none :: ws) ({ frames := 0, cells := 0, slots := 0, locals := 0 } : Room)) (fun a U => a = #[(.ref q3s1_0)] ∧ Z.Warmed39 U.vm ∧ U.heap = h0) (fun _ _ _ _ _ => True) (fun _ U o U' => ∃ v L, o = .returned v ∧ Q3s1 Z q3s1_0 qa qk x0 x1 x2 x3 x4 h0 n0 v U'.heap L ∧ FrameEnd U o U' L ({ frames := 0, cells := 0, slots := 0, locals := 0 } : Room).cells ({ frames := 0, cells := 0, slots := 0, locals := 0 } : Room).slots) := by
  refine MetFree.of_bodySF (plainFor_of_name pn_1) hisR ?_
  intro p e s m args below meth c s₁ Bd hml0 hP hK
  obtain ⟨rfl, hZ, hh⟩ := hP
  have hx := Bd.exec
  have hby := Bd.bytes
  have hml : c.maxLocals = 5 := hml0
  have hown : s.vm.findClass "com/example/splice/splice/XPath$Keys" = some m.cls := findClass_of_methodNamed Bd.named
  have hnm := (name_of_methodNamed Bd.named Bd.method).1
  have X0 : Stand p l e ({ frames := 0, cells := 0, slots := 0, locals := 0 } : Room) s m #[(.ref q3s1_0)] below meth c s₁ [] 0 0 := Stand.of_body Bd
  have e0 : s₁.heap = h0 := by rw [← hh, Bd.state]; rfl
  have N0 := Fr.nil n0
  obtain ⟨S0, hS0⟩ : ∃ z, z = s₁.setTop (entryFrame m #[(.ref q3s1_0)] 5) := ⟨_, rfl⟩
  have P0 : own_Go p e below S0 (s₁.setTop (mkF m 0 #[.val (.ref q3s1_0), .unset, .unset, .unset, .unset] [])) := fun t k => by rw [hS0]; exact castTop (ef_3s1 m q3s1_0) k
  have P1 : own_Go p e below S0 (s₁.setTop (mkF m 3 #[.val (.ref q3s1_0), .val (.int (0 : Int32)), .unset, .unset, .unset] [(.ref q3s1_0)])) := fun t k => P0 t (by
    show Steps p.tables e below (s₁.setTop (mkF m 0 #[.val (.ref q3s1_0), .unset, .unset, .unset, .unset] [])) t
    refine XS.iconst X0.here hx rfl (hb hby d3_0) ?_
    refine XS.istoreN X0.here hx rfl (hb hby d3_1) rfl (l' := #[.val (.ref q3s1_0), .val (.int (0 : Int32)), .unset, .unset, .unset]) rfl ?_
    refine XS.aloadN X0.here hx rfl (hb hby d3_2) rfl rfl ?_
    show Steps p.tables e below (s₁.setTop (mkF m 3 #[.val (.ref q3s1_0), .val (.int (0 : Int32)), .unset, .unset, .unset] [(.ref q3s1_0)])) t
    exact k)
  obtain ⟨T2, X2, e2, st2⟩ := getF X0 hx hZ hown (host := "") (Or.inl (hw _ (List.mem_of_getElem? (i := 21) rfl))) Via.refl e0 F_size (g := (mkF m 3 #[.val (.ref q3s1_0), .val (.int (0 : Int32)), .unset, .unset, .unset] [(.ref q3s1_0)])) rfl rfl (hb hby d3_3)
  have P2 : own_Go p e below S0 (T2.setTop (mkF m 6 #[.val (.ref q3s1_0), .val (.int (0 : Int32)), .unset, .unset, .unset] [(.int (1 : Int32))])) := fun t k => P1 t (st2 _ k)
  have P3 : own_Go p e below S0 (T2.setTop (mkF m 49 #[.val (.ref q3s1_0), .val (.int (0 : Int32)), .val (.int (0 : Int32)), .unset, .unset] [])) := fun t k => P2 t (by
    show Steps p.tables e below (T2.setTop (mkF m 6 #[.val (.ref q3s1_0), .val (.int (0 : Int32)), .unset, .unset, .unset] [(.int (1 : Int32))])) t
    refine XS.iconst X2.here hx rfl (hb hby d3_6) ?_
    refine XS.isub X2.here hx rfl (hb hby d3_7) rfl ?_
    refine XS.istoreN X2.here hx rfl (hb hby d3_8) rfl (l' := #[.val (.ref q3s1_0), .val (.int (0 : Int32)), .val (.int (0 : Int32)), .unset, .unset]) rfl ?_
    refine XS.iloadN X2.here hx rfl (hb hby d3_9) rfl ?_
    refine XS.iloadN X2.here hx rfl (hb hby d3_10) rfl ?_
    refine XS.icmpYes X2.here hx rfl (pc0 := 11) (pc' := 49) rfl (hb hby d3_11) rfl (flt (by decide)).2.1 (by decide) (by decide) ?_
    show Steps p.tables e below (T2.setTop (mkF m 49 #[.val (.ref q3s1_0), .val (.int (0 : Int32)), .val (.int (0 : Int32)), .unset, .unset] [])) t
    exact k)
  obtain ⟨fs, hr, hrun, hended, hW, hsame⟩ := X2.leave (v := none) (fun _ => rfl)
  refine ⟨_, _, own_from hS0 (P3 _ ?_), hrun, hended, _, _, rfl, ?_, ⟨_, rfl⟩, hW, hsame.mono (by decide) (by decide)⟩
  · show Steps p.tables e below (T2.setTop (mkF m 49 #[.val (.ref q3s1_0), .val (.int (0 : Int32)), .val (.int (0 : Int32)), .unset, .unset] [])) _
    exact X2.returnOut hx Bd.returns (hb hby d3_49) hr
  · show Q3s1 Z q3s1_0 qa qk x0 x1 x2 x3 x4 h0 n0 _ T2.heap _
    rw [e2]
    exact ⟨rfl, N0, rfl⟩
theorem d3_14 : decode prog_149_method_5_code 14 = .ok (.aload_n 0, 1) := by decide +kernel
theorem d3_15 : decode prog_149_method_5_code 15 = .ok (.getfield 7, 3) := by decide +kernel
theorem d3_18 : decode prog_149_method_5_code 18 = .ok (.iload_n 1, 1) := by decide +kernel
theorem d3_19 : decode prog_149_method_5_code 19 = .ok (.laload, 1) := by decide +kernel
theorem d3_20 : decode prog_149_method_5_code 20 = .ok (.lstore_n 3, 1) := by decide +kernel
theorem d3_21 : decode prog_149_method_5_code 21 = .ok (.aload_n 0, 1) := by decide +kernel
theorem d3_22 : decode prog_149_method_5_code 22 = .ok (.getfield 7, 3) := by decide +kernel
theorem d3_25 : decode prog_149_method_5_code 25 = .ok (.iload_n 1, 1) := by decide +kernel
theorem d3_26 : decode prog_149_method_5_code 26 = .ok (.aload_n 0, 1) := by decide +kernel
theorem d3_27 : decode prog_149_method_5_code 27 = .ok (.getfield 7, 3) := by decide +kernel
theorem d3_30 : decode prog_149_method_5_code 30 = .ok (.iload_n 2, 1) := by decide +kernel
theorem d3_31 : decode prog_149_method_5_code 31 = .ok (.laload, 1) := by decide +kernel
theorem d3_32 : decode prog_149_method_5_code 32 = .ok (.lastore, 1) := by decide +kernel
theorem d3_33 : decode prog_149_method_5_code 33 = .ok (.aload_n 0, 1) := by decide +kernel
theorem d3_34 : decode prog_149_method_5_code 34 = .ok (.getfield 7, 3) := by decide +kernel
theorem d3_37 : decode prog_149_method_5_code 37 = .ok (.iload_n 2, 1) := by decide +kernel
theorem d3_38 : decode prog_149_method_5_code 38 = .ok (.lload_n 3, 1) := by decide +kernel
theorem d3_39 : decode prog_149_method_5_code 39 = .ok (.lastore, 1) := by decide +kernel
theorem d3_40 : decode prog_149_method_5_code 40 = .ok (.iinc 1 1, 3) := by decide +kernel
theorem d3_43 : decode prog_149_method_5_code 43 = .ok (.iinc 2 (-1), 3) := by decide +kernel
theorem d3_46 : decode prog_149_method_5_code 46 = .ok (.goto (-37), 3) := by decide +kernel
theorem ef_3s2 (m : MethodId) (q3s2_0 : Addr) : entryFrame m #[(.ref q3s2_0)] 5 = mkF m 0 #[.val (.ref q3s2_0), .unset, .unset, .unset, .unset] [] := by first | (simp [entryFrame, mkF, argsToLocals, Value.category]; done) | rfl
def Q3s2 (Z : State) (q3s2_0 : Addr) (qa : Addr) (qk : ClassId) (x0 : Int64) (x1 : Int64) (x2 : Int64) (x3 : Int64) (x4 : Int64) (h0 : Heap) (n0 : Nat) (v : Option Value) (h : Heap) (L : List Loc) : Prop := v = none ∧ Fr n0 L ∧ Keep h0 h [qa] ∧ Arv Z h qa qk .long (5 : Int32) [(.long x1), (.long x0), (.long x2), (.long x3), (.long x4)] (.long (0 : Int64))
set_option maxRecDepth 65536 in
set_option maxHeartbeats 40000000 in
theorem rm3s2 (l : Launch) (Z : State) (a0 : Array Value) (hw : ∀ d ∈ tables_1, d.before a0 Z = true) (ws : List Jvm.Cond) (q3s2_0 : Addr) (qa : Addr) (qk : ClassId) (x0 : Int64) (x1 : Int64) (x2 : Int64) (x3 : Int64) (x4 : Int64) (h0 : Heap) (n0 : Nat) (Z0 : n0 ≤ h0.size) (F_keys : Fld Z h0 q3s2_0 "com/example/splice/splice/XPath$Keys" "keys" "[J" (.ref qa)) (F_size : Fld Z h0 q3s2_0 "com/example/splice/splice/XPath$Keys" "size" "I" (.int (2 : Int32))) (A_qa : Arv Z h0 qa qk .long (5 : Int32) [(.long x0), (.long x1), (.long x2), (.long x3), (.long x4)] (.long (0 : Int64))) (g_qa : n0 ≤ qa) (hne_q3s2_0_qa : q3s2_0 ≠ qa) :
    MetFree l (⟨"com/example/splice/splice/XPath$Keys", "reverse", "()V"⟩ : MethodName) (head1 (Jvm.Cond.code (⟨"com/example/splice/splice/XPath$Keys", "reverse", "()V"⟩ : MethodName) prog_149_method_5_code 5 none :: ws) ({ frames := 0, cells := 0, slots := 0, locals := 0 } : Room)) (fun a U => a = #[(.ref q3s2_0)] ∧ Z.Warmed39 U.vm ∧ U.heap = h0) (fun _ _ _ _ _ => True) (fun _ U o U' => ∃ v L, o = .returned v ∧ Q3s2 Z q3s2_0 qa qk x0 x1 x2 x3 x4 h0 n0 v U'.heap L ∧ FrameEnd U o U' L ({ frames := 0, cells := 0, slots := 0, locals := 0 } : Room).cells ({ frames := 0, cells := 0, slots := 0, locals := 0 } : Room).slots) := by
  refine MetFree.of_bodySF (plainFor_of_name pn_1) hisR ?_
  intro p e s m args below meth c s₁ Bd hml0 hP hK
  obtain ⟨rfl, hZ, hh⟩ := hP
  have hx := Bd.exec
  have hby := Bd.bytes
  have hml : c.maxLocals = 5 := hml0
  have hown : s.vm.findClass "com/example/splice/splice/XPath$Keys" = some m.cls := findClass_of_methodNamed Bd.named
  have hnm := (name_of_methodNamed Bd.named Bd.method).1
  have X0 : Stand p l e ({ frames := 0, cells := 0, slots := 0, locals := 0 } : Room) s m #[(.ref q3s2_0)] below meth c s₁ [] 0 0 := Stand.of_body Bd
  have e0 : s₁.heap = h0 := by rw [← hh, Bd.state]; rfl
  have N0 := Fr.nil n0
  obtain ⟨S0, hS0⟩ : ∃ z, z = s₁.setTop (entryFrame m #[(.ref q3s2_0)] 5) := ⟨_, rfl⟩
  have P0 : own_Go p e below S0 (s₁.setTop (mkF m 0 #[.val (.ref q3s2_0), .unset, .unset, .unset, .unset] [])) := fun t k => by rw [hS0]; exact castTop (ef_3s2 m q3s2_0) k
  have P1 : own_Go p e below S0 (s₁.setTop (mkF m 3 #[.val (.ref q3s2_0), .val (.int (0 : Int32)), .unset, .unset, .unset] [(.ref q3s2_0)])) := fun t k => P0 t (by
    show Steps p.tables e below (s₁.setTop (mkF m 0 #[.val (.ref q3s2_0), .unset, .unset, .unset, .unset] [])) t
    refine XS.iconst X0.here hx rfl (hb hby d3_0) ?_
    refine XS.istoreN X0.here hx rfl (hb hby d3_1) rfl (l' := #[.val (.ref q3s2_0), .val (.int (0 : Int32)), .unset, .unset, .unset]) rfl ?_
    refine XS.aloadN X0.here hx rfl (hb hby d3_2) rfl rfl ?_
    show Steps p.tables e below (s₁.setTop (mkF m 3 #[.val (.ref q3s2_0), .val (.int (0 : Int32)), .unset, .unset, .unset] [(.ref q3s2_0)])) t
    exact k)
  obtain ⟨T2, X2, e2, st2⟩ := getF X0 hx hZ hown (host := "") (Or.inl (hw _ (List.mem_of_getElem? (i := 21) rfl))) Via.refl e0 F_size (g := (mkF m 3 #[.val (.ref q3s2_0), .val (.int (0 : Int32)), .unset, .unset, .unset] [(.ref q3s2_0)])) rfl rfl (hb hby d3_3)
  have P2 : own_Go p e below S0 (T2.setTop (mkF m 6 #[.val (.ref q3s2_0), .val (.int (0 : Int32)), .unset, .unset, .unset] [(.int (2 : Int32))])) := fun t k => P1 t (st2 _ k)
  have P3 : own_Go p e below S0 (T2.setTop (mkF m 15 #[.val (.ref q3s2_0), .val (.int (0 : Int32)), .val (.int (1 : Int32)), .unset, .unset] [(.ref q3s2_0)])) := fun t k => P2 t (by
    show Steps p.tables e below (T2.setTop (mkF m 6 #[.val (.ref q3s2_0), .val (.int (0 : Int32)), .unset, .unset, .unset] [(.int (2 : Int32))])) t
    refine XS.iconst X2.here hx rfl (hb hby d3_6) ?_
    refine XS.isub X2.here hx rfl (hb hby d3_7) rfl ?_
    refine XS.istoreN X2.here hx rfl (hb hby d3_8) rfl (l' := #[.val (.ref q3s2_0), .val (.int (0 : Int32)), .val (.int (1 : Int32)), .unset, .unset]) rfl ?_
    refine XS.iloadN X2.here hx rfl (hb hby d3_9) rfl ?_
    refine XS.iloadN X2.here hx rfl (hb hby d3_10) rfl ?_
    refine XS.icmpNo X2.here hx rfl (hb hby d3_11) rfl (tlt (by decide)).2.1 ?_
    show Steps p.tables e below (T2.setTop (mkF m 14 #[.val (.ref q3s2_0), .val (.int (0 : Int32)), .val (.int (1 : Int32)), .unset, .unset] [])) t
    refine XS.aloadN X2.here hx rfl (hb hby d3_14) rfl rfl ?_
    show Steps p.tables e below (T2.setTop (mkF m 15 #[.val (.ref q3s2_0), .val (.int (0 : Int32)), .val (.int (1 : Int32)), .unset, .unset] [(.ref q3s2_0)])) t
    exact k)
  obtain ⟨T4, X4, e4, st4⟩ := getF X2 hx hZ hown (host := "") (Or.inl (hw _ (List.mem_of_getElem? (i := 11) rfl))) Via.refl e2 F_keys (g := (mkF m 15 #[.val (.ref q3s2_0), .val (.int (0 : Int32)), .val (.int (1 : Int32)), .unset, .unset] [(.ref q3s2_0)])) rfl rfl (hb hby d3_15)
  have P4 : own_Go p e below S0 (T4.setTop (mkF m 18 #[.val (.ref q3s2_0), .val (.int (0 : Int32)), .val (.int (1 : Int32)), .unset, .unset] [(.ref qa)])) := fun t k => P3 t (st4 _ k)
  obtain ⟨cl5, Ar5, q5, Sz5, Nn5, Hh5, Gg5⟩ := id A_qa
  have hin5 : ¬ ((0 : Int32) < 0 ∨ cl5.slots.size ≤ ((0 : Int32)).toNatClampNeg) := inb_of Sz5 ⟨by decide, by decide⟩
  have hat5 : cl5.slots[((0 : Int32)).toNatClampNeg]? = some (.long x0) := Has.at Hh5 hin5 rfl
  have P6 : own_Go p e below S0 (T4.setTop (mkF m 22 #[.val (.ref q3s2_0), .val (.int (0 : Int32)), .val (.int (1 : Int32)), .val (.long x0), .second] [(.ref q3s2_0)])) := fun t k => P4 t (by
    show Steps p.tables e below (T4.setTop (mkF m 18 #[.val (.ref q3s2_0), .val (.int (0 : Int32)), .val (.int (1 : Int32)), .unset, .unset] [(.ref qa)])) t
    refine XS.iloadN X4.here hx rfl (hb hby d3_18) rfl ?_
    show Steps p.tables e below (T4.setTop (mkF m 19 #[.val (.ref q3s2_0), .val (.int (0 : Int32)), .val (.int (1 : Int32)), .unset, .unset] [(.int (0 : Int32)), (.ref qa)])) t
    refine X4.laload hx (j := (0 : Int32)) (v := (.long x0)) (by rw [e4]; exact Ar5.1) (State.isArrayOf_alike hZ.alike Ar5.2.1) Ar5.2.2 hin5 hat5 (g := (mkF m 19 #[.val (.ref q3s2_0), .val (.int (0 : Int32)), .val (.int (1 : Int32)), .unset, .unset] [(.int (0 : Int32)), (.ref qa)])) rfl rfl (hb hby d3_19) _ ?_
    refine XS.lstoreN X4.here hx rfl (hb hby d3_20) rfl (l' := #[.val (.ref q3s2_0), .val (.int (0 : Int32)), .val (.int (1 : Int32)), .val (.long x0), .second]) rfl ?_
    refine XS.aloadN X4.here hx rfl (hb hby d3_21) rfl rfl ?_
    show Steps p.tables e below (T4.setTop (mkF m 22 #[.val (.ref q3s2_0), .val (.int (0 : Int32)), .val (.int (1 : Int32)), .val (.long x0), .second] [(.ref q3s2_0)])) t
    exact k)
  obtain ⟨T7, X7, e7, st7⟩ := getF X4 hx hZ hown (host := "") (Or.inl (hw _ (List.mem_of_getElem? (i := 11) rfl))) Via.refl e4 F_keys (g := (mkF m 22 #[.val (.ref q3s2_0), .val (.int (0 : Int32)), .val (.int (1 : Int32)), .val (.long x0), .second] [(.ref q3s2_0)])) rfl rfl (hb hby d3_22)
  have P7 : own_Go p e below S0 (T7.setTop (mkF m 25 #[.val (.ref q3s2_0), .val (.int (0 : Int32)), .val (.int (1 : Int32)), .val (.long x0), .second] [(.ref qa)])) := fun t k => P6 t (st7 _ k)
  have P8 : own_Go p e below S0 (T7.setTop (mkF m 27 #[.val (.ref q3s2_0), .val (.int (0 : Int32)), .val (.int (1 : Int32)), .val (.long x0), .second] [(.ref q3s2_0), (.int (0 : Int32)), (.ref qa)])) := fun t k => P7 t (by
    show Steps p.tables e below (T7.setTop (mkF m 25 #[.val (.ref q3s2_0), .val (.int (0 : Int32)), .val (.int (1 : Int32)), .val (.long x0), .second] [(.ref qa)])) t
    refine XS.iloadN X7.here hx rfl (hb hby d3_25) rfl ?_
    refine XS.aloadN X7.here hx rfl (hb hby d3_26) rfl rfl ?_
    show Steps p.tables e below (T7.setTop (mkF m 27 #[.val (.ref q3s2_0), .val (.int (0 : Int32)), .val (.int (1 : Int32)), .val (.long x0), .second] [(.ref q3s2_0), (.int (0 : Int32)), (.ref qa)])) t
    exact k)
  obtain ⟨T9, X9, e9, st9⟩ := getF X7 hx hZ hown (host := "") (Or.inl (hw _ (List.mem_of_getElem? (i := 11) rfl))) Via.refl e7 F_keys (g := (mkF m 27 #[.val (.ref q3s2_0), .val (.int (0 : Int32)), .val (.int (1 : Int32)), .val (.long x0), .second] [(.ref q3s2_0), (.int (0 : Int32)), (.ref qa)])) rfl rfl (hb hby d3_27)
  have P9 : own_Go p e below S0 (T9.setTop (mkF m 30 #[.val (.ref q3s2_0), .val (.int (0 : Int32)), .val (.int (1 : Int32)), .val (.long x0), .second] [(.ref qa), (.int (0 : Int32)), (.ref qa)])) := fun t k => P8 t (st9 _ k)
  obtain ⟨cl10, Ar10, q10, Sz10, Nn10, Hh10, Gg10⟩ := id A_qa
  have hin10 : ¬ ((1 : Int32) < 0 ∨ cl10.slots.size ≤ ((1 : Int32)).toNatClampNeg) := inb_of Sz10 ⟨by decide, by decide⟩
  have hat10 : cl10.slots[((1 : Int32)).toNatClampNeg]? = some (.long x1) := Has.at Hh10 hin10 rfl
  have P11 : own_Go p e below S0 (T9.setTop (mkF m 32 #[.val (.ref q3s2_0), .val (.int (0 : Int32)), .val (.int (1 : Int32)), .val (.long x0), .second] [(.long x1), (.int (0 : Int32)), (.ref qa)])) := fun t k => P9 t (by
    show Steps p.tables e below (T9.setTop (mkF m 30 #[.val (.ref q3s2_0), .val (.int (0 : Int32)), .val (.int (1 : Int32)), .val (.long x0), .second] [(.ref qa), (.int (0 : Int32)), (.ref qa)])) t
    refine XS.iloadN X9.here hx rfl (hb hby d3_30) rfl ?_
    show Steps p.tables e below (T9.setTop (mkF m 31 #[.val (.ref q3s2_0), .val (.int (0 : Int32)), .val (.int (1 : Int32)), .val (.long x0), .second] [(.int (1 : Int32)), (.ref qa), (.int (0 : Int32)), (.ref qa)])) t
    refine X9.laload hx (j := (1 : Int32)) (v := (.long x1)) (by rw [e9]; exact Ar10.1) (State.isArrayOf_alike hZ.alike Ar10.2.1) Ar10.2.2 hin10 hat10 (g := (mkF m 31 #[.val (.ref q3s2_0), .val (.int (0 : Int32)), .val (.int (1 : Int32)), .val (.long x0), .second] [(.int (1 : Int32)), (.ref qa), (.int (0 : Int32)), (.ref qa)])) rfl rfl (hb hby d3_31) _ ?_
    show Steps p.tables e below (T9.setTop (mkF m 32 #[.val (.ref q3s2_0), .val (.int (0 : Int32)), .val (.int (1 : Int32)), .val (.long x0), .second] [(.long x1), (.int (0 : Int32)), (.ref qa)])) t
    exact k)
  obtain ⟨cl13, Ar13, q13, Sz13, Nn13, Hh13, Gg13⟩ := id A_qa
  have hin13 : ¬ ((0 : Int32) < 0 ∨ cl13.slots.size ≤ ((0 : Int32)).toNatClampNeg) := inb_of Sz13 ⟨by decide, by decide⟩
  obtain ⟨T12, h12, X12, e12, W12, st12⟩ := stJ X9 hx hZ e9 Ar13 (j := (0 : Int32)) hin13 (g := (mkF m 32 #[.val (.ref q3s2_0), .val (.int (0 : Int32)), .val (.int (1 : Int32)), .val (.long x0), .second] [(.long x1), (.int (0 : Int32)), (.ref qa)])) rfl rfl (hb hby d3_32)
  have K12 : Keep h0 h12 [qa] := (Keep.refl h0 [qa]).wr W12 (Or.inl (by simp))
  have N12 := Fr.snoc X12 N0 g_qa
  have V12 : Arv Z h12 qa qk .long (5 : Int32) [(.long x1), (.long x1), (.long x2), (.long x3), (.long x4)] (.long (0 : Int64)) := Arv.set Ar13 q13 Sz13 Nn13 Hh13 Gg13 rfl W12 0 rfl (Nat.le_of_ble_eq_true rfl)
  have P12 : own_Go p e below S0 (T12.setTop (mkF m 33 #[.val (.ref q3s2_0), .val (.int (0 : Int32)), .val (.int (1 : Int32)), .val (.long x0), .second] [])) := fun t k => P11 t (st12 _ k)
  have F14 : Fld Z h12 q3s2_0 "com/example/splice/splice/XPath$Keys" "keys" "[J" (.ref qa) := F_keys.other W12 (Or.inl hne_q3s2_0_qa)
  have P15 : own_Go p e below S0 (T12.setTop (mkF m 34 #[.val (.ref q3s2_0), .val (.int (0 : Int32)), .val (.int (1 : Int32)), .val (.long x0), .second] [(.ref q3s2_0)])) := fun t k => P12 t (by
    show Steps p.tables e below (T12.setTop (mkF m 33 #[.val (.ref q3s2_0), .val (.int (0 : Int32)), .val (.int (1 : Int32)), .val (.long x0), .second] [])) t
    refine XS.aloadN X12.here hx rfl (hb hby d3_33) rfl rfl ?_
    show Steps p.tables e below (T12.setTop (mkF m 34 #[.val (.ref q3s2_0), .val (.int (0 : Int32)), .val (.int (1 : Int32)), .val (.long x0), .second] [(.ref q3s2_0)])) t
    exact k)
  obtain ⟨T16, X16, e16, st16⟩ := getF X12 hx hZ hown (host := "") (Or.inl (hw _ (List.mem_of_getElem? (i := 11) rfl))) Via.refl e12 F14 (g := (mkF m 34 #[.val (.ref q3s2_0), .val (.int (0 : Int32)), .val (.int (1 : Int32)), .val (.long x0), .second] [(.ref q3s2_0)])) rfl rfl (hb hby d3_34)
  have P16 : own_Go p e below S0 (T16.setTop (mkF m 37 #[.val (.ref q3s2_0), .val (.int (0 : Int32)), .val (.int (1 : Int32)), .val (.long x0), .second] [(.ref qa)])) := fun t k => P15 t (st16 _ k)
  have P17 : own_Go p e below S0 (T16.setTop (mkF m 39 #[.val (.ref q3s2_0), .val (.int (0 : Int32)), .val (.int (1 : Int32)), .val (.long x0), .second] [(.long x0), (.int (1 : Int32)), (.ref qa)])) := fun t k => P16 t (by
    show Steps p.tables e below (T16.setTop (mkF m 37 #[.val (.ref q3s2_0), .val (.int (0 : Int32)), .val (.int (1 : Int32)), .val (.long x0), .second] [(.ref qa)])) t
    refine XS.iloadN X16.here hx rfl (hb hby d3_37) rfl ?_
    refine XS.lloadN X16.here hx rfl (hb hby d3_38) rfl ?_
    show Steps p.tables e below (T16.setTop (mkF m 39 #[.val (.ref q3s2_0), .val (.int (0 : Int32)), .val (.int (1 : Int32)), .val (.long x0), .second] [(.long x0), (.int (1 : Int32)), (.ref qa)])) t
    exact k)
  obtain ⟨cl19, Ar19, q19, Sz19, Nn19, Hh19, Gg19⟩ := id V12
  have hin19 : ¬ ((1 : Int32) < 0 ∨ cl19.slots.size ≤ ((1 : Int32)).toNatClampNeg) := inb_of Sz19 ⟨by decide, by decide⟩
  obtain ⟨T18, h18, X18, e18, W18, st18⟩ := stJ X16 hx hZ e16 Ar19 (j := (1 : Int32)) hin19 (g := (mkF m 39 #[.val (.ref q3s2_0), .val (.int (0 : Int32)), .val (.int (1 : Int32)), .val (.long x0), .second] [(.long x0), (.int (1 : Int32)), (.ref qa)])) rfl rfl (hb hby d3_39)
  have K18 : Keep h0 h18 [qa] := K12.wr W18 (Or.inl (by simp))
  have N18 := Fr.snoc X18 N12 g_qa
  have V18 : Arv Z h18 qa qk .long (5 : Int32) [(.long x1), (.long x0), (.long x2), (.long x3), (.long x4)] (.long (0 : Int64)) := Arv.set Ar19 q19 Sz19 Nn19 Hh19 Gg19 rfl W18 1 rfl (Nat.le_of_ble_eq_true rfl)
  have P18 : own_Go p e below S0 (T18.setTop (mkF m 40 #[.val (.ref q3s2_0), .val (.int (0 : Int32)), .val (.int (1 : Int32)), .val (.long x0), .second] [])) := fun t k => P17 t (st18 _ k)
  have P20 : own_Go p e below S0 (T18.setTop (mkF m 49 #[.val (.ref q3s2_0), .val (.int (1 : Int32)), .val (.int (0 : Int32)), .val (.long x0), .second] [])) := fun t k => P18 t (by
    show Steps p.tables e below (T18.setTop (mkF m 40 #[.val (.ref q3s2_0), .val (.int (0 : Int32)), .val (.int (1 : Int32)), .val (.long x0), .second] [])) t
    refine XS.iinc X18.here hx rfl (hb hby d3_40) rfl (l' := #[.val (.ref q3s2_0), .val (.int (1 : Int32)), .val (.int (1 : Int32)), .val (.long x0), .second]) rfl ?_
    refine XS.iinc X18.here hx rfl (hb hby d3_43) rfl (l' := #[.val (.ref q3s2_0), .val (.int (1 : Int32)), .val (.int (0 : Int32)), .val (.long x0), .second]) rfl ?_
    refine XS.goto X18.here hx rfl (pc0 := 46) (pc' := 9) rfl (hb hby d3_46) (by decide) (by decide) ?_
    refine XS.iloadN X18.here hx rfl (hb hby d3_9) rfl ?_
    refine XS.iloadN X18.here hx rfl (hb hby d3_10) rfl ?_
    refine XS.icmpYes X18.here hx rfl (pc0 := 11) (pc' := 49) rfl (hb hby d3_11) rfl (flt (by decide)).2.1 (by decide) (by decide) ?_
    show Steps p.tables e below (T18.setTop (mkF m 49 #[.val (.ref q3s2_0), .val (.int (1 : Int32)), .val (.int (0 : Int32)), .val (.long x0), .second] [])) t
    exact k)
  obtain ⟨fs, hr, hrun, hended, hW, hsame⟩ := X18.leave (v := none) (fun _ => rfl)
  refine ⟨_, _, own_from hS0 (P20 _ ?_), hrun, hended, _, _, rfl, ?_, ⟨_, rfl⟩, hW, hsame.mono (by decide) (by decide)⟩
  · show Steps p.tables e below (T18.setTop (mkF m 49 #[.val (.ref q3s2_0), .val (.int (1 : Int32)), .val (.int (0 : Int32)), .val (.long x0), .second] [])) _
    exact X18.returnOut hx Bd.returns (hb hby d3_49) hr
  · show Q3s2 Z q3s2_0 qa qk x0 x1 x2 x3 x4 h0 n0 _ T18.heap _
    rw [e18]
    exact ⟨rfl, N18, K18, V18⟩
theorem ef_3s3 (m : MethodId) (q3s3_0 : Addr) : entryFrame m #[(.ref q3s3_0)] 5 = mkF m 0 #[.val (.ref q3s3_0), .unset, .unset, .unset, .unset] [] := by first | (simp [entryFrame, mkF, argsToLocals, Value.category]; done) | rfl
def Q3s3 (Z : State) (q3s3_0 : Addr) (qa : Addr) (qk : ClassId) (x0 : Int64) (x1 : Int64) (x2 : Int64) (x3 : Int64) (x4 : Int64) (h0 : Heap) (n0 : Nat) (v : Option Value) (h : Heap) (L : List Loc) : Prop := v = none ∧ Fr n0 L ∧ Keep h0 h [qa] ∧ Arv Z h qa qk .long (5 : Int32) [(.long x2), (.long x1), (.long x0), (.long x3), (.long x4)] (.long (0 : Int64))
set_option maxRecDepth 65536 in
set_option maxHeartbeats 40000000 in
theorem rm3s3 (l : Launch) (Z : State) (a0 : Array Value) (hw : ∀ d ∈ tables_1, d.before a0 Z = true) (ws : List Jvm.Cond) (q3s3_0 : Addr) (qa : Addr) (qk : ClassId) (x0 : Int64) (x1 : Int64) (x2 : Int64) (x3 : Int64) (x4 : Int64) (h0 : Heap) (n0 : Nat) (Z0 : n0 ≤ h0.size) (F_keys : Fld Z h0 q3s3_0 "com/example/splice/splice/XPath$Keys" "keys" "[J" (.ref qa)) (F_size : Fld Z h0 q3s3_0 "com/example/splice/splice/XPath$Keys" "size" "I" (.int (3 : Int32))) (A_qa : Arv Z h0 qa qk .long (5 : Int32) [(.long x0), (.long x1), (.long x2), (.long x3), (.long x4)] (.long (0 : Int64))) (g_qa : n0 ≤ qa) (hne_q3s3_0_qa : q3s3_0 ≠ qa) :
    MetFree l (⟨"com/example/splice/splice/XPath$Keys", "reverse", "()V"⟩ : MethodName) (head1 (Jvm.Cond.code (⟨"com/example/splice/splice/XPath$Keys", "reverse", "()V"⟩ : MethodName) prog_149_method_5_code 5 none :: ws) ({ frames := 0, cells := 0, slots := 0, locals := 0 } : Room)) (fun a U => a = #[(.ref q3s3_0)] ∧ Z.Warmed39 U.vm ∧ U.heap = h0) (fun _ _ _ _ _ => True) (fun _ U o U' => ∃ v L, o = .returned v ∧ Q3s3 Z q3s3_0 qa qk x0 x1 x2 x3 x4 h0 n0 v U'.heap L ∧ FrameEnd U o U' L ({ frames := 0, cells := 0, slots := 0, locals := 0 } : Room).cells ({ frames := 0, cells := 0, slots := 0, locals := 0 } : Room).slots) := by
  refine MetFree.of_bodySF (plainFor_of_name pn_1) hisR ?_
  intro p e s m args below meth c s₁ Bd hml0 hP hK
  obtain ⟨rfl, hZ, hh⟩ := hP
  have hx := Bd.exec
  have hby := Bd.bytes
  have hml : c.maxLocals = 5 := hml0
  have hown : s.vm.findClass "com/example/splice/splice/XPath$Keys" = some m.cls := findClass_of_methodNamed Bd.named
  have hnm := (name_of_methodNamed Bd.named Bd.method).1
  have X0 : Stand p l e ({ frames := 0, cells := 0, slots := 0, locals := 0 } : Room) s m #[(.ref q3s3_0)] below meth c s₁ [] 0 0 := Stand.of_body Bd
  have e0 : s₁.heap = h0 := by rw [← hh, Bd.state]; rfl
  have N0 := Fr.nil n0
  obtain ⟨S0, hS0⟩ : ∃ z, z = s₁.setTop (entryFrame m #[(.ref q3s3_0)] 5) := ⟨_, rfl⟩
  have P0 : own_Go p e below S0 (s₁.setTop (mkF m 0 #[.val (.ref q3s3_0), .unset, .unset, .unset, .unset] [])) := fun t k => by rw [hS0]; exact castTop (ef_3s3 m q3s3_0) k
  have P1 : own_Go p e below S0 (s₁.setTop (mkF m 3 #[.val (.ref q3s3_0), .val (.int (0 : Int32)), .unset, .unset, .unset] [(.ref q3s3_0)])) := fun t k => P0 t (by
    show Steps p.tables e below (s₁.setTop (mkF m 0 #[.val (.ref q3s3_0), .unset, .unset, .unset, .unset] [])) t
    refine XS.iconst X0.here hx rfl (hb hby d3_0) ?_
    refine XS.istoreN X0.here hx rfl (hb hby d3_1) rfl (l' := #[.val (.ref q3s3_0), .val (.int (0 : Int32)), .unset, .unset, .unset]) rfl ?_
    refine XS.aloadN X0.here hx rfl (hb hby d3_2) rfl rfl ?_
    show Steps p.tables e below (s₁.setTop (mkF m 3 #[.val (.ref q3s3_0), .val (.int (0 : Int32)), .unset, .unset, .unset] [(.ref q3s3_0)])) t
    exact k)
  obtain ⟨T2, X2, e2, st2⟩ := getF X0 hx hZ hown (host := "") (Or.inl (hw _ (List.mem_of_getElem? (i := 21) rfl))) Via.refl e0 F_size (g := (mkF m 3 #[.val (.ref q3s3_0), .val (.int (0 : Int32)), .unset, .unset, .unset] [(.ref q3s3_0)])) rfl rfl (hb hby d3_3)
  have P2 : own_Go p e below S0 (T2.setTop (mkF m 6 #[.val (.ref q3s3_0), .val (.int (0 : Int32)), .unset, .unset, .unset] [(.int (3 : Int32))])) := fun t k => P1 t (st2 _ k)
  have P3 : own_Go p e below S0 (T2.setTop (mkF m 15 #[.val (.ref q3s3_0), .val (.int (0 : Int32)), .val (.int (2 : Int32)), .unset, .unset] [(.ref q3s3_0)])) := fun t k => P2 t (by
    show Steps p.tables e below (T2.setTop (mkF m 6 #[.val (.ref q3s3_0), .val (.int (0 : Int32)), .unset, .unset, .unset] [(.int (3 : Int32))])) t
    refine XS.iconst X2.here hx rfl (hb hby d3_6) ?_
    refine XS.isub X2.here hx rfl (hb hby d3_7) rfl ?_
    refine XS.istoreN X2.here hx rfl (hb hby d3_8) rfl (l' := #[.val (.ref q3s3_0), .val (.int (0 : Int32)), .val (.int (2 : Int32)), .unset, .unset]) rfl ?_
    refine XS.iloadN X2.here hx rfl (hb hby d3_9) rfl ?_
    refine XS.iloadN X2.here hx rfl (hb hby d3_10) rfl ?_
    refine XS.icmpNo X2.here hx rfl (hb hby d3_11) rfl (tlt (by decide)).2.1 ?_
    show Steps p.tables e below (T2.setTop (mkF m 14 #[.val (.ref q3s3_0), .val (.int (0 : Int32)), .val (.int (2 : Int32)), .unset, .unset] [])) t
    refine XS.aloadN X2.here hx rfl (hb hby d3_14) rfl rfl ?_
    show Steps p.tables e below (T2.setTop (mkF m 15 #[.val (.ref q3s3_0), .val (.int (0 : Int32)), .val (.int (2 : Int32)), .unset, .unset] [(.ref q3s3_0)])) t
    exact k)
  obtain ⟨T4, X4, e4, st4⟩ := getF X2 hx hZ hown (host := "") (Or.inl (hw _ (List.mem_of_getElem? (i := 11) rfl))) Via.refl e2 F_keys (g := (mkF m 15 #[.val (.ref q3s3_0), .val (.int (0 : Int32)), .val (.int (2 : Int32)), .unset, .unset] [(.ref q3s3_0)])) rfl rfl (hb hby d3_15)
  have P4 : own_Go p e below S0 (T4.setTop (mkF m 18 #[.val (.ref q3s3_0), .val (.int (0 : Int32)), .val (.int (2 : Int32)), .unset, .unset] [(.ref qa)])) := fun t k => P3 t (st4 _ k)
  obtain ⟨cl5, Ar5, q5, Sz5, Nn5, Hh5, Gg5⟩ := id A_qa
  have hin5 : ¬ ((0 : Int32) < 0 ∨ cl5.slots.size ≤ ((0 : Int32)).toNatClampNeg) := inb_of Sz5 ⟨by decide, by decide⟩
  have hat5 : cl5.slots[((0 : Int32)).toNatClampNeg]? = some (.long x0) := Has.at Hh5 hin5 rfl
  have P6 : own_Go p e below S0 (T4.setTop (mkF m 22 #[.val (.ref q3s3_0), .val (.int (0 : Int32)), .val (.int (2 : Int32)), .val (.long x0), .second] [(.ref q3s3_0)])) := fun t k => P4 t (by
    show Steps p.tables e below (T4.setTop (mkF m 18 #[.val (.ref q3s3_0), .val (.int (0 : Int32)), .val (.int (2 : Int32)), .unset, .unset] [(.ref qa)])) t
    refine XS.iloadN X4.here hx rfl (hb hby d3_18) rfl ?_
    show Steps p.tables e below (T4.setTop (mkF m 19 #[.val (.ref q3s3_0), .val (.int (0 : Int32)), .val (.int (2 : Int32)), .unset, .unset] [(.int (0 : Int32)), (.ref qa)])) t
    refine X4.laload hx (j := (0 : Int32)) (v := (.long x0)) (by rw [e4]; exact Ar5.1) (State.isArrayOf_alike hZ.alike Ar5.2.1) Ar5.2.2 hin5 hat5 (g := (mkF m 19 #[.val (.ref q3s3_0), .val (.int (0 : Int32)), .val (.int (2 : Int32)), .unset, .unset] [(.int (0 : Int32)), (.ref qa)])) rfl rfl (hb hby d3_19) _ ?_
    refine XS.lstoreN X4.here hx rfl (hb hby d3_20) rfl (l' := #[.val (.ref q3s3_0), .val (.int (0 : Int32)), .val (.int (2 : Int32)), .val (.long x0), .second]) rfl ?_
    refine XS.aloadN X4.here hx rfl (hb hby d3_21) rfl rfl ?_
    show Steps p.tables e below (T4.setTop (mkF m 22 #[.val (.ref q3s3_0), .val (.int (0 : Int32)), .val (.int (2 : Int32)), .val (.long x0), .second] [(.ref q3s3_0)])) t
    exact k)
  obtain ⟨T7, X7, e7, st7⟩ := getF X4 hx hZ hown (host := "") (Or.inl (hw _ (List.mem_of_getElem? (i := 11) rfl))) Via.refl e4 F_keys (g := (mkF m 22 #[.val (.ref q3s3_0), .val (.int (0 : Int32)), .val (.int (2 : Int32)), .val (.long x0), .second] [(.ref q3s3_0)])) rfl rfl (hb hby d3_22)
  have P7 : own_Go p e below S0 (T7.setTop (mkF m 25 #[.val (.ref q3s3_0), .val (.int (0 : Int32)), .val (.int (2 : Int32)), .val (.long x0), .second] [(.ref qa)])) := fun t k => P6 t (st7 _ k)
  have P8 : own_Go p e below S0 (T7.setTop (mkF m 27 #[.val (.ref q3s3_0), .val (.int (0 : Int32)), .val (.int (2 : Int32)), .val (.long x0), .second] [(.ref q3s3_0), (.int (0 : Int32)), (.ref qa)])) := fun t k => P7 t (by
    show Steps p.tables e below (T7.setTop (mkF m 25 #[.val (.ref q3s3_0), .val (.int (0 : Int32)), .val (.int (2 : Int32)), .val (.long x0), .second] [(.ref qa)])) t
    refine XS.iloadN X7.here hx rfl (hb hby d3_25) rfl ?_
    refine XS.aloadN X7.here hx rfl (hb hby d3_26) rfl rfl ?_
    show Steps p.tables e below (T7.setTop (mkF m 27 #[.val (.ref q3s3_0), .val (.int (0 : Int32)), .val (.int (2 : Int32)), .val (.long x0), .second] [(.ref q3s3_0), (.int (0 : Int32)), (.ref qa)])) t
    exact k)
  obtain ⟨T9, X9, e9, st9⟩ := getF X7 hx hZ hown (host := "") (Or.inl (hw _ (List.mem_of_getElem? (i := 11) rfl))) Via.refl e7 F_keys (g := (mkF m 27 #[.val (.ref q3s3_0), .val (.int (0 : Int32)), .val (.int (2 : Int32)), .val (.long x0), .second] [(.ref q3s3_0), (.int (0 : Int32)), (.ref qa)])) rfl rfl (hb hby d3_27)
  have P9 : own_Go p e below S0 (T9.setTop (mkF m 30 #[.val (.ref q3s3_0), .val (.int (0 : Int32)), .val (.int (2 : Int32)), .val (.long x0), .second] [(.ref qa), (.int (0 : Int32)), (.ref qa)])) := fun t k => P8 t (st9 _ k)
  obtain ⟨cl10, Ar10, q10, Sz10, Nn10, Hh10, Gg10⟩ := id A_qa
  have hin10 : ¬ ((2 : Int32) < 0 ∨ cl10.slots.size ≤ ((2 : Int32)).toNatClampNeg) := inb_of Sz10 ⟨by decide, by decide⟩
  have hat10 : cl10.slots[((2 : Int32)).toNatClampNeg]? = some (.long x2) := Has.at Hh10 hin10 rfl
  have P11 : own_Go p e below S0 (T9.setTop (mkF m 32 #[.val (.ref q3s3_0), .val (.int (0 : Int32)), .val (.int (2 : Int32)), .val (.long x0), .second] [(.long x2), (.int (0 : Int32)), (.ref qa)])) := fun t k => P9 t (by
    show Steps p.tables e below (T9.setTop (mkF m 30 #[.val (.ref q3s3_0), .val (.int (0 : Int32)), .val (.int (2 : Int32)), .val (.long x0), .second] [(.ref qa), (.int (0 : Int32)), (.ref qa)])) t
    refine XS.iloadN X9.here hx rfl (hb hby d3_30) rfl ?_
    show Steps p.tables e below (T9.setTop (mkF m 31 #[.val (.ref q3s3_0), .val (.int (0 : Int32)), .val (.int (2 : Int32)), .val (.long x0), .second] [(.int (2 : Int32)), (.ref qa), (.int (0 : Int32)), (.ref qa)])) t
    refine X9.laload hx (j := (2 : Int32)) (v := (.long x2)) (by rw [e9]; exact Ar10.1) (State.isArrayOf_alike hZ.alike Ar10.2.1) Ar10.2.2 hin10 hat10 (g := (mkF m 31 #[.val (.ref q3s3_0), .val (.int (0 : Int32)), .val (.int (2 : Int32)), .val (.long x0), .second] [(.int (2 : Int32)), (.ref qa), (.int (0 : Int32)), (.ref qa)])) rfl rfl (hb hby d3_31) _ ?_
    show Steps p.tables e below (T9.setTop (mkF m 32 #[.val (.ref q3s3_0), .val (.int (0 : Int32)), .val (.int (2 : Int32)), .val (.long x0), .second] [(.long x2), (.int (0 : Int32)), (.ref qa)])) t
    exact k)
  obtain ⟨cl13, Ar13, q13, Sz13, Nn13, Hh13, Gg13⟩ := id A_qa
  have hin13 : ¬ ((0 : Int32) < 0 ∨ cl13.slots.size ≤ ((0 : Int32)).toNatClampNeg) := inb_of Sz13 ⟨by decide, by decide⟩
  obtain ⟨T12, h12, X12, e12, W12, st12⟩ := stJ X9 hx hZ e9 Ar13 (j := (0 : Int32)) hin13 (g := (mkF m 32 #[.val (.ref q3s3_0), .val (.int (0 : Int32)), .val (.int (2 : Int32)), .val (.long x0), .second] [(.long x2), (.int (0 : Int32)), (.ref qa)])) rfl rfl (hb hby d3_32)
  have K12 : Keep h0 h12 [qa] := (Keep.refl h0 [qa]).wr W12 (Or.inl (by simp))
  have N12 := Fr.snoc X12 N0 g_qa
  have V12 : Arv Z h12 qa qk .long (5 : Int32) [(.long x2), (.long x1), (.long x2), (.long x3), (.long x4)] (.long (0 : Int64)) := Arv.set Ar13 q13 Sz13 Nn13 Hh13 Gg13 rfl W12 0 rfl (Nat.le_of_ble_eq_true rfl)
  have P12 : own_Go p e below S0 (T12.setTop (mkF m 33 #[.val (.ref q3s3_0), .val (.int (0 : Int32)), .val (.int (2 : Int32)), .val (.long x0), .second] [])) := fun t k => P11 t (st12 _ k)
  have F14 : Fld Z h12 q3s3_0 "com/example/splice/splice/XPath$Keys" "keys" "[J" (.ref qa) := F_keys.other W12 (Or.inl hne_q3s3_0_qa)
  have P15 : own_Go p e below S0 (T12.setTop (mkF m 34 #[.val (.ref q3s3_0), .val (.int (0 : Int32)), .val (.int (2 : Int32)), .val (.long x0), .second] [(.ref q3s3_0)])) := fun t k => P12 t (by
    show Steps p.tables e below (T12.setTop (mkF m 33 #[.val (.ref q3s3_0), .val (.int (0 : Int32)), .val (.int (2 : Int32)), .val (.long x0), .second] [])) t
    refine XS.aloadN X12.here hx rfl (hb hby d3_33) rfl rfl ?_
    show Steps p.tables e below (T12.setTop (mkF m 34 #[.val (.ref q3s3_0), .val (.int (0 : Int32)), .val (.int (2 : Int32)), .val (.long x0), .second] [(.ref q3s3_0)])) t
    exact k)
  obtain ⟨T16, X16, e16, st16⟩ := getF X12 hx hZ hown (host := "") (Or.inl (hw _ (List.mem_of_getElem? (i := 11) rfl))) Via.refl e12 F14 (g := (mkF m 34 #[.val (.ref q3s3_0), .val (.int (0 : Int32)), .val (.int (2 : Int32)), .val (.long x0), .second] [(.ref q3s3_0)])) rfl rfl (hb hby d3_34)
  have P16 : own_Go p e below S0 (T16.setTop (mkF m 37 #[.val (.ref q3s3_0), .val (.int (0 : Int32)), .val (.int (2 : Int32)), .val (.long x0), .second] [(.ref qa)])) := fun t k => P15 t (st16 _ k)
  have P17 : own_Go p e below S0 (T16.setTop (mkF m 39 #[.val (.ref q3s3_0), .val (.int (0 : Int32)), .val (.int (2 : Int32)), .val (.long x0), .second] [(.long x0), (.int (2 : Int32)), (.ref qa)])) := fun t k => P16 t (by
    show Steps p.tables e below (T16.setTop (mkF m 37 #[.val (.ref q3s3_0), .val (.int (0 : Int32)), .val (.int (2 : Int32)), .val (.long x0), .second] [(.ref qa)])) t
    refine XS.iloadN X16.here hx rfl (hb hby d3_37) rfl ?_
    refine XS.lloadN X16.here hx rfl (hb hby d3_38) rfl ?_
    show Steps p.tables e below (T16.setTop (mkF m 39 #[.val (.ref q3s3_0), .val (.int (0 : Int32)), .val (.int (2 : Int32)), .val (.long x0), .second] [(.long x0), (.int (2 : Int32)), (.ref qa)])) t
    exact k)
  obtain ⟨cl19, Ar19, q19, Sz19, Nn19, Hh19, Gg19⟩ := id V12
  have hin19 : ¬ ((2 : Int32) < 0 ∨ cl19.slots.size ≤ ((2 : Int32)).toNatClampNeg) := inb_of Sz19 ⟨by decide, by decide⟩
  obtain ⟨T18, h18, X18, e18, W18, st18⟩ := stJ X16 hx hZ e16 Ar19 (j := (2 : Int32)) hin19 (g := (mkF m 39 #[.val (.ref q3s3_0), .val (.int (0 : Int32)), .val (.int (2 : Int32)), .val (.long x0), .second] [(.long x0), (.int (2 : Int32)), (.ref qa)])) rfl rfl (hb hby d3_39)
  have K18 : Keep h0 h18 [qa] := K12.wr W18 (Or.inl (by simp))
  have N18 := Fr.snoc X18 N12 g_qa
  have V18 : Arv Z h18 qa qk .long (5 : Int32) [(.long x2), (.long x1), (.long x0), (.long x3), (.long x4)] (.long (0 : Int64)) := Arv.set Ar19 q19 Sz19 Nn19 Hh19 Gg19 rfl W18 2 rfl (Nat.le_of_ble_eq_true rfl)
  have P18 : own_Go p e below S0 (T18.setTop (mkF m 40 #[.val (.ref q3s3_0), .val (.int (0 : Int32)), .val (.int (2 : Int32)), .val (.long x0), .second] [])) := fun t k => P17 t (st18 _ k)
  have P20 : own_Go p e below S0 (T18.setTop (mkF m 49 #[.val (.ref q3s3_0), .val (.int (1 : Int32)), .val (.int (1 : Int32)), .val (.long x0), .second] [])) := fun t k => P18 t (by
    show Steps p.tables e below (T18.setTop (mkF m 40 #[.val (.ref q3s3_0), .val (.int (0 : Int32)), .val (.int (2 : Int32)), .val (.long x0), .second] [])) t
    refine XS.iinc X18.here hx rfl (hb hby d3_40) rfl (l' := #[.val (.ref q3s3_0), .val (.int (1 : Int32)), .val (.int (2 : Int32)), .val (.long x0), .second]) rfl ?_
    refine XS.iinc X18.here hx rfl (hb hby d3_43) rfl (l' := #[.val (.ref q3s3_0), .val (.int (1 : Int32)), .val (.int (1 : Int32)), .val (.long x0), .second]) rfl ?_
    refine XS.goto X18.here hx rfl (pc0 := 46) (pc' := 9) rfl (hb hby d3_46) (by decide) (by decide) ?_
    refine XS.iloadN X18.here hx rfl (hb hby d3_9) rfl ?_
    refine XS.iloadN X18.here hx rfl (hb hby d3_10) rfl ?_
    refine XS.icmpYes X18.here hx rfl (pc0 := 11) (pc' := 49) rfl (hb hby d3_11) rfl (flt (by decide)).2.1 (by decide) (by decide) ?_
    show Steps p.tables e below (T18.setTop (mkF m 49 #[.val (.ref q3s3_0), .val (.int (1 : Int32)), .val (.int (1 : Int32)), .val (.long x0), .second] [])) t
    exact k)
  obtain ⟨fs, hr, hrun, hended, hW, hsame⟩ := X18.leave (v := none) (fun _ => rfl)
  refine ⟨_, _, own_from hS0 (P20 _ ?_), hrun, hended, _, _, rfl, ?_, ⟨_, rfl⟩, hW, hsame.mono (by decide) (by decide)⟩
  · show Steps p.tables e below (T18.setTop (mkF m 49 #[.val (.ref q3s3_0), .val (.int (1 : Int32)), .val (.int (1 : Int32)), .val (.long x0), .second] [])) _
    exact X18.returnOut hx Bd.returns (hb hby d3_49) hr
  · show Q3s3 Z q3s3_0 qa qk x0 x1 x2 x3 x4 h0 n0 _ T18.heap _
    rw [e18]
    exact ⟨rfl, N18, K18, V18⟩
theorem ef_3s4 (m : MethodId) (q3s4_0 : Addr) : entryFrame m #[(.ref q3s4_0)] 5 = mkF m 0 #[.val (.ref q3s4_0), .unset, .unset, .unset, .unset] [] := by first | (simp [entryFrame, mkF, argsToLocals, Value.category]; done) | rfl
def Q3s4 (Z : State) (q3s4_0 : Addr) (qa : Addr) (qk : ClassId) (x0 : Int64) (x1 : Int64) (x2 : Int64) (x3 : Int64) (x4 : Int64) (h0 : Heap) (n0 : Nat) (v : Option Value) (h : Heap) (L : List Loc) : Prop := v = none ∧ Fr n0 L ∧ Keep h0 h [qa] ∧ Arv Z h qa qk .long (5 : Int32) [(.long x3), (.long x2), (.long x1), (.long x0), (.long x4)] (.long (0 : Int64))
set_option maxRecDepth 65536 in
set_option maxHeartbeats 40000000 in
theorem rm3s4 (l : Launch) (Z : State) (a0 : Array Value) (hw : ∀ d ∈ tables_1, d.before a0 Z = true) (ws : List Jvm.Cond) (q3s4_0 : Addr) (qa : Addr) (qk : ClassId) (x0 : Int64) (x1 : Int64) (x2 : Int64) (x3 : Int64) (x4 : Int64) (h0 : Heap) (n0 : Nat) (Z0 : n0 ≤ h0.size) (F_keys : Fld Z h0 q3s4_0 "com/example/splice/splice/XPath$Keys" "keys" "[J" (.ref qa)) (F_size : Fld Z h0 q3s4_0 "com/example/splice/splice/XPath$Keys" "size" "I" (.int (4 : Int32))) (A_qa : Arv Z h0 qa qk .long (5 : Int32) [(.long x0), (.long x1), (.long x2), (.long x3), (.long x4)] (.long (0 : Int64))) (g_qa : n0 ≤ qa) (hne_q3s4_0_qa : q3s4_0 ≠ qa) :
    MetFree l (⟨"com/example/splice/splice/XPath$Keys", "reverse", "()V"⟩ : MethodName) (head1 (Jvm.Cond.code (⟨"com/example/splice/splice/XPath$Keys", "reverse", "()V"⟩ : MethodName) prog_149_method_5_code 5 none :: ws) ({ frames := 0, cells := 0, slots := 0, locals := 0 } : Room)) (fun a U => a = #[(.ref q3s4_0)] ∧ Z.Warmed39 U.vm ∧ U.heap = h0) (fun _ _ _ _ _ => True) (fun _ U o U' => ∃ v L, o = .returned v ∧ Q3s4 Z q3s4_0 qa qk x0 x1 x2 x3 x4 h0 n0 v U'.heap L ∧ FrameEnd U o U' L ({ frames := 0, cells := 0, slots := 0, locals := 0 } : Room).cells ({ frames := 0, cells := 0, slots := 0, locals := 0 } : Room).slots) := by
  refine MetFree.of_bodySF (plainFor_of_name pn_1) hisR ?_
  intro p e s m args below meth c s₁ Bd hml0 hP hK
  obtain ⟨rfl, hZ, hh⟩ := hP
  have hx := Bd.exec
  have hby := Bd.bytes
  have hml : c.maxLocals = 5 := hml0
  have hown : s.vm.findClass "com/example/splice/splice/XPath$Keys" = some m.cls := findClass_of_methodNamed Bd.named
  have hnm := (name_of_methodNamed Bd.named Bd.method).1
  have X0 : Stand p l e ({ frames := 0, cells := 0, slots := 0, locals := 0 } : Room) s m #[(.ref q3s4_0)] below meth c s₁ [] 0 0 := Stand.of_body Bd
  have e0 : s₁.heap = h0 := by rw [← hh, Bd.state]; rfl
  have N0 := Fr.nil n0
  obtain ⟨S0, hS0⟩ : ∃ z, z = s₁.setTop (entryFrame m #[(.ref q3s4_0)] 5) := ⟨_, rfl⟩
  have P0 : own_Go p e below S0 (s₁.setTop (mkF m 0 #[.val (.ref q3s4_0), .unset, .unset, .unset, .unset] [])) := fun t k => by rw [hS0]; exact castTop (ef_3s4 m q3s4_0) k
  have P1 : own_Go p e below S0 (s₁.setTop (mkF m 3 #[.val (.ref q3s4_0), .val (.int (0 : Int32)), .unset, .unset, .unset] [(.ref q3s4_0)])) := fun t k => P0 t (by
    show Steps p.tables e below (s₁.setTop (mkF m 0 #[.val (.ref q3s4_0), .unset, .unset, .unset, .unset] [])) t
    refine XS.iconst X0.here hx rfl (hb hby d3_0) ?_
    refine XS.istoreN X0.here hx rfl (hb hby d3_1) rfl (l' := #[.val (.ref q3s4_0), .val (.int (0 : Int32)), .unset, .unset, .unset]) rfl ?_
    refine XS.aloadN X0.here hx rfl (hb hby d3_2) rfl rfl ?_
    show Steps p.tables e below (s₁.setTop (mkF m 3 #[.val (.ref q3s4_0), .val (.int (0 : Int32)), .unset, .unset, .unset] [(.ref q3s4_0)])) t
    exact k)
  obtain ⟨T2, X2, e2, st2⟩ := getF X0 hx hZ hown (host := "") (Or.inl (hw _ (List.mem_of_getElem? (i := 21) rfl))) Via.refl e0 F_size (g := (mkF m 3 #[.val (.ref q3s4_0), .val (.int (0 : Int32)), .unset, .unset, .unset] [(.ref q3s4_0)])) rfl rfl (hb hby d3_3)
  have P2 : own_Go p e below S0 (T2.setTop (mkF m 6 #[.val (.ref q3s4_0), .val (.int (0 : Int32)), .unset, .unset, .unset] [(.int (4 : Int32))])) := fun t k => P1 t (st2 _ k)
  have P3 : own_Go p e below S0 (T2.setTop (mkF m 15 #[.val (.ref q3s4_0), .val (.int (0 : Int32)), .val (.int (3 : Int32)), .unset, .unset] [(.ref q3s4_0)])) := fun t k => P2 t (by
    show Steps p.tables e below (T2.setTop (mkF m 6 #[.val (.ref q3s4_0), .val (.int (0 : Int32)), .unset, .unset, .unset] [(.int (4 : Int32))])) t
    refine XS.iconst X2.here hx rfl (hb hby d3_6) ?_
    refine XS.isub X2.here hx rfl (hb hby d3_7) rfl ?_
    refine XS.istoreN X2.here hx rfl (hb hby d3_8) rfl (l' := #[.val (.ref q3s4_0), .val (.int (0 : Int32)), .val (.int (3 : Int32)), .unset, .unset]) rfl ?_
    refine XS.iloadN X2.here hx rfl (hb hby d3_9) rfl ?_
    refine XS.iloadN X2.here hx rfl (hb hby d3_10) rfl ?_
    refine XS.icmpNo X2.here hx rfl (hb hby d3_11) rfl (tlt (by decide)).2.1 ?_
    show Steps p.tables e below (T2.setTop (mkF m 14 #[.val (.ref q3s4_0), .val (.int (0 : Int32)), .val (.int (3 : Int32)), .unset, .unset] [])) t
    refine XS.aloadN X2.here hx rfl (hb hby d3_14) rfl rfl ?_
    show Steps p.tables e below (T2.setTop (mkF m 15 #[.val (.ref q3s4_0), .val (.int (0 : Int32)), .val (.int (3 : Int32)), .unset, .unset] [(.ref q3s4_0)])) t
    exact k)
  obtain ⟨T4, X4, e4, st4⟩ := getF X2 hx hZ hown (host := "") (Or.inl (hw _ (List.mem_of_getElem? (i := 11) rfl))) Via.refl e2 F_keys (g := (mkF m 15 #[.val (.ref q3s4_0), .val (.int (0 : Int32)), .val (.int (3 : Int32)), .unset, .unset] [(.ref q3s4_0)])) rfl rfl (hb hby d3_15)
  have P4 : own_Go p e below S0 (T4.setTop (mkF m 18 #[.val (.ref q3s4_0), .val (.int (0 : Int32)), .val (.int (3 : Int32)), .unset, .unset] [(.ref qa)])) := fun t k => P3 t (st4 _ k)
  obtain ⟨cl5, Ar5, q5, Sz5, Nn5, Hh5, Gg5⟩ := id A_qa
  have hin5 : ¬ ((0 : Int32) < 0 ∨ cl5.slots.size ≤ ((0 : Int32)).toNatClampNeg) := inb_of Sz5 ⟨by decide, by decide⟩
  have hat5 : cl5.slots[((0 : Int32)).toNatClampNeg]? = some (.long x0) := Has.at Hh5 hin5 rfl
  have P6 : own_Go p e below S0 (T4.setTop (mkF m 22 #[.val (.ref q3s4_0), .val (.int (0 : Int32)), .val (.int (3 : Int32)), .val (.long x0), .second] [(.ref q3s4_0)])) := fun t k => P4 t (by
    show Steps p.tables e below (T4.setTop (mkF m 18 #[.val (.ref q3s4_0), .val (.int (0 : Int32)), .val (.int (3 : Int32)), .unset, .unset] [(.ref qa)])) t
    refine XS.iloadN X4.here hx rfl (hb hby d3_18) rfl ?_
    show Steps p.tables e below (T4.setTop (mkF m 19 #[.val (.ref q3s4_0), .val (.int (0 : Int32)), .val (.int (3 : Int32)), .unset, .unset] [(.int (0 : Int32)), (.ref qa)])) t
    refine X4.laload hx (j := (0 : Int32)) (v := (.long x0)) (by rw [e4]; exact Ar5.1) (State.isArrayOf_alike hZ.alike Ar5.2.1) Ar5.2.2 hin5 hat5 (g := (mkF m 19 #[.val (.ref q3s4_0), .val (.int (0 : Int32)), .val (.int (3 : Int32)), .unset, .unset] [(.int (0 : Int32)), (.ref qa)])) rfl rfl (hb hby d3_19) _ ?_
    refine XS.lstoreN X4.here hx rfl (hb hby d3_20) rfl (l' := #[.val (.ref q3s4_0), .val (.int (0 : Int32)), .val (.int (3 : Int32)), .val (.long x0), .second]) rfl ?_
    refine XS.aloadN X4.here hx rfl (hb hby d3_21) rfl rfl ?_
    show Steps p.tables e below (T4.setTop (mkF m 22 #[.val (.ref q3s4_0), .val (.int (0 : Int32)), .val (.int (3 : Int32)), .val (.long x0), .second] [(.ref q3s4_0)])) t
    exact k)
  obtain ⟨T7, X7, e7, st7⟩ := getF X4 hx hZ hown (host := "") (Or.inl (hw _ (List.mem_of_getElem? (i := 11) rfl))) Via.refl e4 F_keys (g := (mkF m 22 #[.val (.ref q3s4_0), .val (.int (0 : Int32)), .val (.int (3 : Int32)), .val (.long x0), .second] [(.ref q3s4_0)])) rfl rfl (hb hby d3_22)
  have P7 : own_Go p e below S0 (T7.setTop (mkF m 25 #[.val (.ref q3s4_0), .val (.int (0 : Int32)), .val (.int (3 : Int32)), .val (.long x0), .second] [(.ref qa)])) := fun t k => P6 t (st7 _ k)
  have P8 : own_Go p e below S0 (T7.setTop (mkF m 27 #[.val (.ref q3s4_0), .val (.int (0 : Int32)), .val (.int (3 : Int32)), .val (.long x0), .second] [(.ref q3s4_0), (.int (0 : Int32)), (.ref qa)])) := fun t k => P7 t (by
    show Steps p.tables e below (T7.setTop (mkF m 25 #[.val (.ref q3s4_0), .val (.int (0 : Int32)), .val (.int (3 : Int32)), .val (.long x0), .second] [(.ref qa)])) t
    refine XS.iloadN X7.here hx rfl (hb hby d3_25) rfl ?_
    refine XS.aloadN X7.here hx rfl (hb hby d3_26) rfl rfl ?_
    show Steps p.tables e below (T7.setTop (mkF m 27 #[.val (.ref q3s4_0), .val (.int (0 : Int32)), .val (.int (3 : Int32)), .val (.long x0), .second] [(.ref q3s4_0), (.int (0 : Int32)), (.ref qa)])) t
    exact k)
  obtain ⟨T9, X9, e9, st9⟩ := getF X7 hx hZ hown (host := "") (Or.inl (hw _ (List.mem_of_getElem? (i := 11) rfl))) Via.refl e7 F_keys (g := (mkF m 27 #[.val (.ref q3s4_0), .val (.int (0 : Int32)), .val (.int (3 : Int32)), .val (.long x0), .second] [(.ref q3s4_0), (.int (0 : Int32)), (.ref qa)])) rfl rfl (hb hby d3_27)
  have P9 : own_Go p e below S0 (T9.setTop (mkF m 30 #[.val (.ref q3s4_0), .val (.int (0 : Int32)), .val (.int (3 : Int32)), .val (.long x0), .second] [(.ref qa), (.int (0 : Int32)), (.ref qa)])) := fun t k => P8 t (st9 _ k)
  obtain ⟨cl10, Ar10, q10, Sz10, Nn10, Hh10, Gg10⟩ := id A_qa
  have hin10 : ¬ ((3 : Int32) < 0 ∨ cl10.slots.size ≤ ((3 : Int32)).toNatClampNeg) := inb_of Sz10 ⟨by decide, by decide⟩
  have hat10 : cl10.slots[((3 : Int32)).toNatClampNeg]? = some (.long x3) := Has.at Hh10 hin10 rfl
  have P11 : own_Go p e below S0 (T9.setTop (mkF m 32 #[.val (.ref q3s4_0), .val (.int (0 : Int32)), .val (.int (3 : Int32)), .val (.long x0), .second] [(.long x3), (.int (0 : Int32)), (.ref qa)])) := fun t k => P9 t (by
    show Steps p.tables e below (T9.setTop (mkF m 30 #[.val (.ref q3s4_0), .val (.int (0 : Int32)), .val (.int (3 : Int32)), .val (.long x0), .second] [(.ref qa), (.int (0 : Int32)), (.ref qa)])) t
    refine XS.iloadN X9.here hx rfl (hb hby d3_30) rfl ?_
    show Steps p.tables e below (T9.setTop (mkF m 31 #[.val (.ref q3s4_0), .val (.int (0 : Int32)), .val (.int (3 : Int32)), .val (.long x0), .second] [(.int (3 : Int32)), (.ref qa), (.int (0 : Int32)), (.ref qa)])) t
    refine X9.laload hx (j := (3 : Int32)) (v := (.long x3)) (by rw [e9]; exact Ar10.1) (State.isArrayOf_alike hZ.alike Ar10.2.1) Ar10.2.2 hin10 hat10 (g := (mkF m 31 #[.val (.ref q3s4_0), .val (.int (0 : Int32)), .val (.int (3 : Int32)), .val (.long x0), .second] [(.int (3 : Int32)), (.ref qa), (.int (0 : Int32)), (.ref qa)])) rfl rfl (hb hby d3_31) _ ?_
    show Steps p.tables e below (T9.setTop (mkF m 32 #[.val (.ref q3s4_0), .val (.int (0 : Int32)), .val (.int (3 : Int32)), .val (.long x0), .second] [(.long x3), (.int (0 : Int32)), (.ref qa)])) t
    exact k)
  obtain ⟨cl13, Ar13, q13, Sz13, Nn13, Hh13, Gg13⟩ := id A_qa
  have hin13 : ¬ ((0 : Int32) < 0 ∨ cl13.slots.size ≤ ((0 : Int32)).toNatClampNeg) := inb_of Sz13 ⟨by decide, by decide⟩
  obtain ⟨T12, h12, X12, e12, W12, st12⟩ := stJ X9 hx hZ e9 Ar13 (j := (0 : Int32)) hin13 (g := (mkF m 32 #[.val (.ref q3s4_0), .val (.int (0 : Int32)), .val (.int (3 : Int32)), .val (.long x0), .second] [(.long x3), (.int (0 : Int32)), (.ref qa)])) rfl rfl (hb hby d3_32)
  have K12 : Keep h0 h12 [qa] := (Keep.refl h0 [qa]).wr W12 (Or.inl (by simp))
  have N12 := Fr.snoc X12 N0 g_qa
  have V12 : Arv Z h12 qa qk .long (5 : Int32) [(.long x3), (.long x1), (.long x2), (.long x3), (.long x4)] (.long (0 : Int64)) := Arv.set Ar13 q13 Sz13 Nn13 Hh13 Gg13 rfl W12 0 rfl (Nat.le_of_ble_eq_true rfl)
  have P12 : own_Go p e below S0 (T12.setTop (mkF m 33 #[.val (.ref q3s4_0), .val (.int (0 : Int32)), .val (.int (3 : Int32)), .val (.long x0), .second] [])) := fun t k => P11 t (st12 _ k)
  have F14 : Fld Z h12 q3s4_0 "com/example/splice/splice/XPath$Keys" "keys" "[J" (.ref qa) := F_keys.other W12 (Or.inl hne_q3s4_0_qa)
  have P15 : own_Go p e below S0 (T12.setTop (mkF m 34 #[.val (.ref q3s4_0), .val (.int (0 : Int32)), .val (.int (3 : Int32)), .val (.long x0), .second] [(.ref q3s4_0)])) := fun t k => P12 t (by
    show Steps p.tables e below (T12.setTop (mkF m 33 #[.val (.ref q3s4_0), .val (.int (0 : Int32)), .val (.int (3 : Int32)), .val (.long x0), .second] [])) t
    refine XS.aloadN X12.here hx rfl (hb hby d3_33) rfl rfl ?_
    show Steps p.tables e below (T12.setTop (mkF m 34 #[.val (.ref q3s4_0), .val (.int (0 : Int32)), .val (.int (3 : Int32)), .val (.long x0), .second] [(.ref q3s4_0)])) t
    exact k)
  obtain ⟨T16, X16, e16, st16⟩ := getF X12 hx hZ hown (host := "") (Or.inl (hw _ (List.mem_of_getElem? (i := 11) rfl))) Via.refl e12 F14 (g := (mkF m 34 #[.val (.ref q3s4_0), .val (.int (0 : Int32)), .val (.int (3 : Int32)), .val (.long x0), .second] [(.ref q3s4_0)])) rfl rfl (hb hby d3_34)
  have P16 : own_Go p e below S0 (T16.setTop (mkF m 37 #[.val (.ref q3s4_0), .val (.int (0 : Int32)), .val (.int (3 : Int32)), .val (.long x0), .second] [(.ref qa)])) := fun t k => P15 t (st16 _ k)
  have P17 : own_Go p e below S0 (T16.setTop (mkF m 39 #[.val (.ref q3s4_0), .val (.int (0 : Int32)), .val (.int (3 : Int32)), .val (.long x0), .second] [(.long x0), (.int (3 : Int32)), (.ref qa)])) := fun t k => P16 t (by
    show Steps p.tables e below (T16.setTop (mkF m 37 #[.val (.ref q3s4_0), .val (.int (0 : Int32)), .val (.int (3 : Int32)), .val (.long x0), .second] [(.ref qa)])) t
    refine XS.iloadN X16.here hx rfl (hb hby d3_37) rfl ?_
    refine XS.lloadN X16.here hx rfl (hb hby d3_38) rfl ?_
    show Steps p.tables e below (T16.setTop (mkF m 39 #[.val (.ref q3s4_0), .val (.int (0 : Int32)), .val (.int (3 : Int32)), .val (.long x0), .second] [(.long x0), (.int (3 : Int32)), (.ref qa)])) t
    exact k)
  obtain ⟨cl19, Ar19, q19, Sz19, Nn19, Hh19, Gg19⟩ := id V12
  have hin19 : ¬ ((3 : Int32) < 0 ∨ cl19.slots.size ≤ ((3 : Int32)).toNatClampNeg) := inb_of Sz19 ⟨by decide, by decide⟩
  obtain ⟨T18, h18, X18, e18, W18, st18⟩ := stJ X16 hx hZ e16 Ar19 (j := (3 : Int32)) hin19 (g := (mkF m 39 #[.val (.ref q3s4_0), .val (.int (0 : Int32)), .val (.int (3 : Int32)), .val (.long x0), .second] [(.long x0), (.int (3 : Int32)), (.ref qa)])) rfl rfl (hb hby d3_39)
  have K18 : Keep h0 h18 [qa] := K12.wr W18 (Or.inl (by simp))
  have N18 := Fr.snoc X18 N12 g_qa
  have V18 : Arv Z h18 qa qk .long (5 : Int32) [(.long x3), (.long x1), (.long x2), (.long x0), (.long x4)] (.long (0 : Int64)) := Arv.set Ar19 q19 Sz19 Nn19 Hh19 Gg19 rfl W18 3 rfl (Nat.le_of_ble_eq_true rfl)
  have P18 : own_Go p e below S0 (T18.setTop (mkF m 40 #[.val (.ref q3s4_0), .val (.int (0 : Int32)), .val (.int (3 : Int32)), .val (.long x0), .second] [])) := fun t k => P17 t (st18 _ k)
  have F20 : Fld Z h18 q3s4_0 "com/example/splice/splice/XPath$Keys" "keys" "[J" (.ref qa) := F14.other W18 (Or.inl hne_q3s4_0_qa)
  have P21 : own_Go p e below S0 (T18.setTop (mkF m 15 #[.val (.ref q3s4_0), .val (.int (1 : Int32)), .val (.int (2 : Int32)), .val (.long x0), .second] [(.ref q3s4_0)])) := fun t k => P18 t (by
    show Steps p.tables e below (T18.setTop (mkF m 40 #[.val (.ref q3s4_0), .val (.int (0 : Int32)), .val (.int (3 : Int32)), .val (.long x0), .second] [])) t
    refine XS.iinc X18.here hx rfl (hb hby d3_40) rfl (l' := #[.val (.ref q3s4_0), .val (.int (1 : Int32)), .val (.int (3 : Int32)), .val (.long x0), .second]) rfl ?_
    refine XS.iinc X18.here hx rfl (hb hby d3_43) rfl (l' := #[.val (.ref q3s4_0), .val (.int (1 : Int32)), .val (.int (2 : Int32)), .val (.long x0), .second]) rfl ?_
    refine XS.goto X18.here hx rfl (pc0 := 46) (pc' := 9) rfl (hb hby d3_46) (by decide) (by decide) ?_
    refine XS.iloadN X18.here hx rfl (hb hby d3_9) rfl ?_
    refine XS.iloadN X18.here hx rfl (hb hby d3_10) rfl ?_
    refine XS.icmpNo X18.here hx rfl (hb hby d3_11) rfl (tlt (by decide)).2.1 ?_
    show Steps p.tables e below (T18.setTop (mkF m 14 #[.val (.ref q3s4_0), .val (.int (1 : Int32)), .val (.int (2 : Int32)), .val (.long x0), .second] [])) t
    refine XS.aloadN X18.here hx rfl (hb hby d3_14) rfl rfl ?_
    show Steps p.tables e below (T18.setTop (mkF m 15 #[.val (.ref q3s4_0), .val (.int (1 : Int32)), .val (.int (2 : Int32)), .val (.long x0), .second] [(.ref q3s4_0)])) t
    exact k)
  obtain ⟨T22, X22, e22, st22⟩ := getF X18 hx hZ hown (host := "") (Or.inl (hw _ (List.mem_of_getElem? (i := 11) rfl))) Via.refl e18 F20 (g := (mkF m 15 #[.val (.ref q3s4_0), .val (.int (1 : Int32)), .val (.int (2 : Int32)), .val (.long x0), .second] [(.ref q3s4_0)])) rfl rfl (hb hby d3_15)
  have P22 : own_Go p e below S0 (T22.setTop (mkF m 18 #[.val (.ref q3s4_0), .val (.int (1 : Int32)), .val (.int (2 : Int32)), .val (.long x0), .second] [(.ref qa)])) := fun t k => P21 t (st22 _ k)
  obtain ⟨cl23, Ar23, q23, Sz23, Nn23, Hh23, Gg23⟩ := id V18
  have hin23 : ¬ ((1 : Int32) < 0 ∨ cl23.slots.size ≤ ((1 : Int32)).toNatClampNeg) := inb_of Sz23 ⟨by decide, by decide⟩
  have hat23 : cl23.slots[((1 : Int32)).toNatClampNeg]? = some (.long x1) := Has.at Hh23 hin23 rfl
  have P24 : own_Go p e below S0 (T22.setTop (mkF m 22 #[.val (.ref q3s4_0), .val (.int (1 : Int32)), .val (.int (2 : Int32)), .val (.long x1), .second] [(.ref q3s4_0)])) := fun t k => P22 t (by
    show Steps p.tables e below (T22.setTop (mkF m 18 #[.val (.ref q3s4_0), .val (.int (1 : Int32)), .val (.int (2 : Int32)), .val (.long x0), .second] [(.ref qa)])) t
    refine XS.iloadN X22.here hx rfl (hb hby d3_18) rfl ?_
    show Steps p.tables e below (T22.setTop (mkF m 19 #[.val (.ref q3s4_0), .val (.int (1 : Int32)), .val (.int (2 : Int32)), .val (.long x0), .second] [(.int (1 : Int32)), (.ref qa)])) t
    refine X22.laload hx (j := (1 : Int32)) (v := (.long x1)) (by rw [e22]; exact Ar23.1) (State.isArrayOf_alike hZ.alike Ar23.2.1) Ar23.2.2 hin23 hat23 (g := (mkF m 19 #[.val (.ref q3s4_0), .val (.int (1 : Int32)), .val (.int (2 : Int32)), .val (.long x0), .second] [(.int (1 : Int32)), (.ref qa)])) rfl rfl (hb hby d3_19) _ ?_
    refine XS.lstoreN X22.here hx rfl (hb hby d3_20) rfl (l' := #[.val (.ref q3s4_0), .val (.int (1 : Int32)), .val (.int (2 : Int32)), .val (.long x1), .second]) rfl ?_
    refine XS.aloadN X22.here hx rfl (hb hby d3_21) rfl rfl ?_
    show Steps p.tables e below (T22.setTop (mkF m 22 #[.val (.ref q3s4_0), .val (.int (1 : Int32)), .val (.int (2 : Int32)), .val (.long x1), .second] [(.ref q3s4_0)])) t
    exact k)
  obtain ⟨T25, X25, e25, st25⟩ := getF X22 hx hZ hown (host := "") (Or.inl (hw _ (List.mem_of_getElem? (i := 11) rfl))) Via.refl e22 F20 (g := (mkF m 22 #[.val (.ref q3s4_0), .val (.int (1 : Int32)), .val (.int (2 : Int32)), .val (.long x1), .second] [(.ref q3s4_0)])) rfl rfl (hb hby d3_22)
  have P25 : own_Go p e below S0 (T25.setTop (mkF m 25 #[.val (.ref q3s4_0), .val (.int (1 : Int32)), .val (.int (2 : Int32)), .val (.long x1), .second] [(.ref qa)])) := fun t k => P24 t (st25 _ k)
  have P26 : own_Go p e below S0 (T25.setTop (mkF m 27 #[.val (.ref q3s4_0), .val (.int (1 : Int32)), .val (.int (2 : Int32)), .val (.long x1), .second] [(.ref q3s4_0), (.int (1 : Int32)), (.ref qa)])) := fun t k => P25 t (by
    show Steps p.tables e below (T25.setTop (mkF m 25 #[.val (.ref q3s4_0), .val (.int (1 : Int32)), .val (.int (2 : Int32)), .val (.long x1), .second] [(.ref qa)])) t
    refine XS.iloadN X25.here hx rfl (hb hby d3_25) rfl ?_
    refine XS.aloadN X25.here hx rfl (hb hby d3_26) rfl rfl ?_
    show Steps p.tables e below (T25.setTop (mkF m 27 #[.val (.ref q3s4_0), .val (.int (1 : Int32)), .val (.int (2 : Int32)), .val (.long x1), .second] [(.ref q3s4_0), (.int (1 : Int32)), (.ref qa)])) t
    exact k)
  obtain ⟨T27, X27, e27, st27⟩ := getF X25 hx hZ hown (host := "") (Or.inl (hw _ (List.mem_of_getElem? (i := 11) rfl))) Via.refl e25 F20 (g := (mkF m 27 #[.val (.ref q3s4_0), .val (.int (1 : Int32)), .val (.int (2 : Int32)), .val (.long x1), .second] [(.ref q3s4_0), (.int (1 : Int32)), (.ref qa)])) rfl rfl (hb hby d3_27)
  have P27 : own_Go p e below S0 (T27.setTop (mkF m 30 #[.val (.ref q3s4_0), .val (.int (1 : Int32)), .val (.int (2 : Int32)), .val (.long x1), .second] [(.ref qa), (.int (1 : Int32)), (.ref qa)])) := fun t k => P26 t (st27 _ k)
  obtain ⟨cl28, Ar28, q28, Sz28, Nn28, Hh28, Gg28⟩ := id V18
  have hin28 : ¬ ((2 : Int32) < 0 ∨ cl28.slots.size ≤ ((2 : Int32)).toNatClampNeg) := inb_of Sz28 ⟨by decide, by decide⟩
  have hat28 : cl28.slots[((2 : Int32)).toNatClampNeg]? = some (.long x2) := Has.at Hh28 hin28 rfl
  have P29 : own_Go p e below S0 (T27.setTop (mkF m 32 #[.val (.ref q3s4_0), .val (.int (1 : Int32)), .val (.int (2 : Int32)), .val (.long x1), .second] [(.long x2), (.int (1 : Int32)), (.ref qa)])) := fun t k => P27 t (by
    show Steps p.tables e below (T27.setTop (mkF m 30 #[.val (.ref q3s4_0), .val (.int (1 : Int32)), .val (.int (2 : Int32)), .val (.long x1), .second] [(.ref qa), (.int (1 : Int32)), (.ref qa)])) t
    refine XS.iloadN X27.here hx rfl (hb hby d3_30) rfl ?_
    show Steps p.tables e below (T27.setTop (mkF m 31 #[.val (.ref q3s4_0), .val (.int (1 : Int32)), .val (.int (2 : Int32)), .val (.long x1), .second] [(.int (2 : Int32)), (.ref qa), (.int (1 : Int32)), (.ref qa)])) t
    refine X27.laload hx (j := (2 : Int32)) (v := (.long x2)) (by rw [e27]; exact Ar28.1) (State.isArrayOf_alike hZ.alike Ar28.2.1) Ar28.2.2 hin28 hat28 (g := (mkF m 31 #[.val (.ref q3s4_0), .val (.int (1 : Int32)), .val (.int (2 : Int32)), .val (.long x1), .second] [(.int (2 : Int32)), (.ref qa), (.int (1 : Int32)), (.ref qa)])) rfl rfl (hb hby d3_31) _ ?_
    show Steps p.tables e below (T27.setTop (mkF m 32 #[.val (.ref q3s4_0), .val (.int (1 : Int32)), .val (.int (2 : Int32)), .val (.long x1), .second] [(.long x2), (.int (1 : Int32)), (.ref qa)])) t
    exact k)
  obtain ⟨cl31, Ar31, q31, Sz31, Nn31, Hh31, Gg31⟩ := id V18
  have hin31 : ¬ ((1 : Int32) < 0 ∨ cl31.slots.size ≤ ((1 : Int32)).toNatClampNeg) := inb_of Sz31 ⟨by decide, by decide⟩
  obtain ⟨T30, h30, X30, e30, W30, st30⟩ := stJ X27 hx hZ e27 Ar31 (j := (1 : Int32)) hin31 (g := (mkF m 32 #[.val (.ref q3s4_0), .val (.int (1 : Int32)), .val (.int (2 : Int32)), .val (.long x1), .second] [(.long x2), (.int (1 : Int32)), (.ref qa)])) rfl rfl (hb hby d3_32)
  have K30 : Keep h0 h30 [qa] := K18.wr W30 (Or.inl (by simp))
  have N30 := Fr.snoc X30 N18 g_qa
  have V30 : Arv Z h30 qa qk .long (5 : Int32) [(.long x3), (.long x2), (.long x2), (.long x0), (.long x4)] (.long (0 : Int64)) := Arv.set Ar31 q31 Sz31 Nn31 Hh31 Gg31 rfl W30 1 rfl (Nat.le_of_ble_eq_true rfl)
  have P30 : own_Go p e below S0 (T30.setTop (mkF m 33 #[.val (.ref q3s4_0), .val (.int (1 : Int32)), .val (.int (2 : Int32)), .val (.long x1), .second] [])) := fun t k => P29 t (st30 _ k)
  have F32 : Fld Z h30 q3s4_0 "com/example/splice/splice/XPath$Keys" "keys" "[J" (.ref qa) := F20.other W30 (Or.inl hne_q3s4_0_qa)
  have P33 : own_Go p e below S0 (T30.setTop (mkF m 34 #[.val (.ref q3s4_0), .val (.int (1 : Int32)), .val (.int (2 : Int32)), .val (.long x1), .second] [(.ref q3s4_0)])) := fun t k => P30 t (by
    show Steps p.tables e below (T30.setTop (mkF m 33 #[.val (.ref q3s4_0), .val (.int (1 : Int32)), .val (.int (2 : Int32)), .val (.long x1), .second] [])) t
    refine XS.aloadN X30.here hx rfl (hb hby d3_33) rfl rfl ?_
    show Steps p.tables e below (T30.setTop (mkF m 34 #[.val (.ref q3s4_0), .val (.int (1 : Int32)), .val (.int (2 : Int32)), .val (.long x1), .second] [(.ref q3s4_0)])) t
    exact k)
  obtain ⟨T34, X34, e34, st34⟩ := getF X30 hx hZ hown (host := "") (Or.inl (hw _ (List.mem_of_getElem? (i := 11) rfl))) Via.refl e30 F32 (g := (mkF m 34 #[.val (.ref q3s4_0), .val (.int (1 : Int32)), .val (.int (2 : Int32)), .val (.long x1), .second] [(.ref q3s4_0)])) rfl rfl (hb hby d3_34)
  have P34 : own_Go p e below S0 (T34.setTop (mkF m 37 #[.val (.ref q3s4_0), .val (.int (1 : Int32)), .val (.int (2 : Int32)), .val (.long x1), .second] [(.ref qa)])) := fun t k => P33 t (st34 _ k)
  have P35 : own_Go p e below S0 (T34.setTop (mkF m 39 #[.val (.ref q3s4_0), .val (.int (1 : Int32)), .val (.int (2 : Int32)), .val (.long x1), .second] [(.long x1), (.int (2 : Int32)), (.ref qa)])) := fun t k => P34 t (by
    show Steps p.tables e below (T34.setTop (mkF m 37 #[.val (.ref q3s4_0), .val (.int (1 : Int32)), .val (.int (2 : Int32)), .val (.long x1), .second] [(.ref qa)])) t
    refine XS.iloadN X34.here hx rfl (hb hby d3_37) rfl ?_
    refine XS.lloadN X34.here hx rfl (hb hby d3_38) rfl ?_
    show Steps p.tables e below (T34.setTop (mkF m 39 #[.val (.ref q3s4_0), .val (.int (1 : Int32)), .val (.int (2 : Int32)), .val (.long x1), .second] [(.long x1), (.int (2 : Int32)), (.ref qa)])) t
    exact k)
  obtain ⟨cl37, Ar37, q37, Sz37, Nn37, Hh37, Gg37⟩ := id V30
  have hin37 : ¬ ((2 : Int32) < 0 ∨ cl37.slots.size ≤ ((2 : Int32)).toNatClampNeg) := inb_of Sz37 ⟨by decide, by decide⟩
  obtain ⟨T36, h36, X36, e36, W36, st36⟩ := stJ X34 hx hZ e34 Ar37 (j := (2 : Int32)) hin37 (g := (mkF m 39 #[.val (.ref q3s4_0), .val (.int (1 : Int32)), .val (.int (2 : Int32)), .val (.long x1), .second] [(.long x1), (.int (2 : Int32)), (.ref qa)])) rfl rfl (hb hby d3_39)
  have K36 : Keep h0 h36 [qa] := K30.wr W36 (Or.inl (by simp))
  have N36 := Fr.snoc X36 N30 g_qa
  have V36 : Arv Z h36 qa qk .long (5 : Int32) [(.long x3), (.long x2), (.long x1), (.long x0), (.long x4)] (.long (0 : Int64)) := Arv.set Ar37 q37 Sz37 Nn37 Hh37 Gg37 rfl W36 2 rfl (Nat.le_of_ble_eq_true rfl)
  have P36 : own_Go p e below S0 (T36.setTop (mkF m 40 #[.val (.ref q3s4_0), .val (.int (1 : Int32)), .val (.int (2 : Int32)), .val (.long x1), .second] [])) := fun t k => P35 t (st36 _ k)
  have P38 : own_Go p e below S0 (T36.setTop (mkF m 49 #[.val (.ref q3s4_0), .val (.int (2 : Int32)), .val (.int (1 : Int32)), .val (.long x1), .second] [])) := fun t k => P36 t (by
    show Steps p.tables e below (T36.setTop (mkF m 40 #[.val (.ref q3s4_0), .val (.int (1 : Int32)), .val (.int (2 : Int32)), .val (.long x1), .second] [])) t
    refine XS.iinc X36.here hx rfl (hb hby d3_40) rfl (l' := #[.val (.ref q3s4_0), .val (.int (2 : Int32)), .val (.int (2 : Int32)), .val (.long x1), .second]) rfl ?_
    refine XS.iinc X36.here hx rfl (hb hby d3_43) rfl (l' := #[.val (.ref q3s4_0), .val (.int (2 : Int32)), .val (.int (1 : Int32)), .val (.long x1), .second]) rfl ?_
    refine XS.goto X36.here hx rfl (pc0 := 46) (pc' := 9) rfl (hb hby d3_46) (by decide) (by decide) ?_
    refine XS.iloadN X36.here hx rfl (hb hby d3_9) rfl ?_
    refine XS.iloadN X36.here hx rfl (hb hby d3_10) rfl ?_
    refine XS.icmpYes X36.here hx rfl (pc0 := 11) (pc' := 49) rfl (hb hby d3_11) rfl (flt (by decide)).2.1 (by decide) (by decide) ?_
    show Steps p.tables e below (T36.setTop (mkF m 49 #[.val (.ref q3s4_0), .val (.int (2 : Int32)), .val (.int (1 : Int32)), .val (.long x1), .second] [])) t
    exact k)
  obtain ⟨fs, hr, hrun, hended, hW, hsame⟩ := X36.leave (v := none) (fun _ => rfl)
  refine ⟨_, _, own_from hS0 (P38 _ ?_), hrun, hended, _, _, rfl, ?_, ⟨_, rfl⟩, hW, hsame.mono (by decide) (by decide)⟩
  · show Steps p.tables e below (T36.setTop (mkF m 49 #[.val (.ref q3s4_0), .val (.int (2 : Int32)), .val (.int (1 : Int32)), .val (.long x1), .second] [])) _
    exact X36.returnOut hx Bd.returns (hb hby d3_49) hr
  · show Q3s4 Z q3s4_0 qa qk x0 x1 x2 x3 x4 h0 n0 _ T36.heap _
    rw [e36]
    exact ⟨rfl, N36, K36, V36⟩
theorem ef_3s5 (m : MethodId) (q3s5_0 : Addr) : entryFrame m #[(.ref q3s5_0)] 5 = mkF m 0 #[.val (.ref q3s5_0), .unset, .unset, .unset, .unset] [] := by first | (simp [entryFrame, mkF, argsToLocals, Value.category]; done) | rfl
def Q3s5 (Z : State) (q3s5_0 : Addr) (qa : Addr) (qk : ClassId) (x0 : Int64) (x1 : Int64) (x2 : Int64) (x3 : Int64) (x4 : Int64) (h0 : Heap) (n0 : Nat) (v : Option Value) (h : Heap) (L : List Loc) : Prop := v = none ∧ Fr n0 L ∧ Keep h0 h [qa] ∧ Arv Z h qa qk .long (5 : Int32) [(.long x4), (.long x3), (.long x2), (.long x1), (.long x0)] (.long (0 : Int64))
set_option maxRecDepth 65536 in
set_option maxHeartbeats 40000000 in
theorem rm3s5 (l : Launch) (Z : State) (a0 : Array Value) (hw : ∀ d ∈ tables_1, d.before a0 Z = true) (ws : List Jvm.Cond) (q3s5_0 : Addr) (qa : Addr) (qk : ClassId) (x0 : Int64) (x1 : Int64) (x2 : Int64) (x3 : Int64) (x4 : Int64) (h0 : Heap) (n0 : Nat) (Z0 : n0 ≤ h0.size) (F_keys : Fld Z h0 q3s5_0 "com/example/splice/splice/XPath$Keys" "keys" "[J" (.ref qa)) (F_size : Fld Z h0 q3s5_0 "com/example/splice/splice/XPath$Keys" "size" "I" (.int (5 : Int32))) (A_qa : Arv Z h0 qa qk .long (5 : Int32) [(.long x0), (.long x1), (.long x2), (.long x3), (.long x4)] (.long (0 : Int64))) (g_qa : n0 ≤ qa) (hne_q3s5_0_qa : q3s5_0 ≠ qa) :
    MetFree l (⟨"com/example/splice/splice/XPath$Keys", "reverse", "()V"⟩ : MethodName) (head1 (Jvm.Cond.code (⟨"com/example/splice/splice/XPath$Keys", "reverse", "()V"⟩ : MethodName) prog_149_method_5_code 5 none :: ws) ({ frames := 0, cells := 0, slots := 0, locals := 0 } : Room)) (fun a U => a = #[(.ref q3s5_0)] ∧ Z.Warmed39 U.vm ∧ U.heap = h0) (fun _ _ _ _ _ => True) (fun _ U o U' => ∃ v L, o = .returned v ∧ Q3s5 Z q3s5_0 qa qk x0 x1 x2 x3 x4 h0 n0 v U'.heap L ∧ FrameEnd U o U' L ({ frames := 0, cells := 0, slots := 0, locals := 0 } : Room).cells ({ frames := 0, cells := 0, slots := 0, locals := 0 } : Room).slots) := by
  refine MetFree.of_bodySF (plainFor_of_name pn_1) hisR ?_
  intro p e s m args below meth c s₁ Bd hml0 hP hK
  obtain ⟨rfl, hZ, hh⟩ := hP
  have hx := Bd.exec
  have hby := Bd.bytes
  have hml : c.maxLocals = 5 := hml0
  have hown : s.vm.findClass "com/example/splice/splice/XPath$Keys" = some m.cls := findClass_of_methodNamed Bd.named
  have hnm := (name_of_methodNamed Bd.named Bd.method).1
  have X0 : Stand p l e ({ frames := 0, cells := 0, slots := 0, locals := 0 } : Room) s m #[(.ref q3s5_0)] below meth c s₁ [] 0 0 := Stand.of_body Bd
  have e0 : s₁.heap = h0 := by rw [← hh, Bd.state]; rfl
  have N0 := Fr.nil n0
  obtain ⟨S0, hS0⟩ : ∃ z, z = s₁.setTop (entryFrame m #[(.ref q3s5_0)] 5) := ⟨_, rfl⟩
  have P0 : own_Go p e below S0 (s₁.setTop (mkF m 0 #[.val (.ref q3s5_0), .unset, .unset, .unset, .unset] [])) := fun t k => by rw [hS0]; exact castTop (ef_3s5 m q3s5_0) k
  have P1 : own_Go p e below S0 (s₁.setTop (mkF m 3 #[.val (.ref q3s5_0), .val (.int (0 : Int32)), .unset, .unset, .unset] [(.ref q3s5_0)])) := fun t k => P0 t (by
    show Steps p.tables e below (s₁.setTop (mkF m 0 #[.val (.ref q3s5_0), .unset, .unset, .unset, .unset] [])) t
    refine XS.iconst X0.here hx rfl (hb hby d3_0) ?_
    refine XS.istoreN X0.here hx rfl (hb hby d3_1) rfl (l' := #[.val (.ref q3s5_0), .val (.int (0 : Int32)), .unset, .unset, .unset]) rfl ?_
    refine XS.aloadN X0.here hx rfl (hb hby d3_2) rfl rfl ?_
    show Steps p.tables e below (s₁.setTop (mkF m 3 #[.val (.ref q3s5_0), .val (.int (0 : Int32)), .unset, .unset, .unset] [(.ref q3s5_0)])) t
    exact k)
  obtain ⟨T2, X2, e2, st2⟩ := getF X0 hx hZ hown (host := "") (Or.inl (hw _ (List.mem_of_getElem? (i := 21) rfl))) Via.refl e0 F_size (g := (mkF m 3 #[.val (.ref q3s5_0), .val (.int (0 : Int32)), .unset, .unset, .unset] [(.ref q3s5_0)])) rfl rfl (hb hby d3_3)
  have P2 : own_Go p e below S0 (T2.setTop (mkF m 6 #[.val (.ref q3s5_0), .val (.int (0 : Int32)), .unset, .unset, .unset] [(.int (5 : Int32))])) := fun t k => P1 t (st2 _ k)
  have P3 : own_Go p e below S0 (T2.setTop (mkF m 15 #[.val (.ref q3s5_0), .val (.int (0 : Int32)), .val (.int (4 : Int32)), .unset, .unset] [(.ref q3s5_0)])) := fun t k => P2 t (by
    show Steps p.tables e below (T2.setTop (mkF m 6 #[.val (.ref q3s5_0), .val (.int (0 : Int32)), .unset, .unset, .unset] [(.int (5 : Int32))])) t
    refine XS.iconst X2.here hx rfl (hb hby d3_6) ?_
    refine XS.isub X2.here hx rfl (hb hby d3_7) rfl ?_
    refine XS.istoreN X2.here hx rfl (hb hby d3_8) rfl (l' := #[.val (.ref q3s5_0), .val (.int (0 : Int32)), .val (.int (4 : Int32)), .unset, .unset]) rfl ?_
    refine XS.iloadN X2.here hx rfl (hb hby d3_9) rfl ?_
    refine XS.iloadN X2.here hx rfl (hb hby d3_10) rfl ?_
    refine XS.icmpNo X2.here hx rfl (hb hby d3_11) rfl (tlt (by decide)).2.1 ?_
    show Steps p.tables e below (T2.setTop (mkF m 14 #[.val (.ref q3s5_0), .val (.int (0 : Int32)), .val (.int (4 : Int32)), .unset, .unset] [])) t
    refine XS.aloadN X2.here hx rfl (hb hby d3_14) rfl rfl ?_
    show Steps p.tables e below (T2.setTop (mkF m 15 #[.val (.ref q3s5_0), .val (.int (0 : Int32)), .val (.int (4 : Int32)), .unset, .unset] [(.ref q3s5_0)])) t
    exact k)
  obtain ⟨T4, X4, e4, st4⟩ := getF X2 hx hZ hown (host := "") (Or.inl (hw _ (List.mem_of_getElem? (i := 11) rfl))) Via.refl e2 F_keys (g := (mkF m 15 #[.val (.ref q3s5_0), .val (.int (0 : Int32)), .val (.int (4 : Int32)), .unset, .unset] [(.ref q3s5_0)])) rfl rfl (hb hby d3_15)
  have P4 : own_Go p e below S0 (T4.setTop (mkF m 18 #[.val (.ref q3s5_0), .val (.int (0 : Int32)), .val (.int (4 : Int32)), .unset, .unset] [(.ref qa)])) := fun t k => P3 t (st4 _ k)
  obtain ⟨cl5, Ar5, q5, Sz5, Nn5, Hh5, Gg5⟩ := id A_qa
  have hin5 : ¬ ((0 : Int32) < 0 ∨ cl5.slots.size ≤ ((0 : Int32)).toNatClampNeg) := inb_of Sz5 ⟨by decide, by decide⟩
  have hat5 : cl5.slots[((0 : Int32)).toNatClampNeg]? = some (.long x0) := Has.at Hh5 hin5 rfl
  have P6 : own_Go p e below S0 (T4.setTop (mkF m 22 #[.val (.ref q3s5_0), .val (.int (0 : Int32)), .val (.int (4 : Int32)), .val (.long x0), .second] [(.ref q3s5_0)])) := fun t k => P4 t (by
    show Steps p.tables e below (T4.setTop (mkF m 18 #[.val (.ref q3s5_0), .val (.int (0 : Int32)), .val (.int (4 : Int32)), .unset, .unset] [(.ref qa)])) t
    refine XS.iloadN X4.here hx rfl (hb hby d3_18) rfl ?_
    show Steps p.tables e below (T4.setTop (mkF m 19 #[.val (.ref q3s5_0), .val (.int (0 : Int32)), .val (.int (4 : Int32)), .unset, .unset] [(.int (0 : Int32)), (.ref qa)])) t
    refine X4.laload hx (j := (0 : Int32)) (v := (.long x0)) (by rw [e4]; exact Ar5.1) (State.isArrayOf_alike hZ.alike Ar5.2.1) Ar5.2.2 hin5 hat5 (g := (mkF m 19 #[.val (.ref q3s5_0), .val (.int (0 : Int32)), .val (.int (4 : Int32)), .unset, .unset] [(.int (0 : Int32)), (.ref qa)])) rfl rfl (hb hby d3_19) _ ?_
    refine XS.lstoreN X4.here hx rfl (hb hby d3_20) rfl (l' := #[.val (.ref q3s5_0), .val (.int (0 : Int32)), .val (.int (4 : Int32)), .val (.long x0), .second]) rfl ?_
    refine XS.aloadN X4.here hx rfl (hb hby d3_21) rfl rfl ?_
    show Steps p.tables e below (T4.setTop (mkF m 22 #[.val (.ref q3s5_0), .val (.int (0 : Int32)), .val (.int (4 : Int32)), .val (.long x0), .second] [(.ref q3s5_0)])) t
    exact k)
  obtain ⟨T7, X7, e7, st7⟩ := getF X4 hx hZ hown (host := "") (Or.inl (hw _ (List.mem_of_getElem? (i := 11) rfl))) Via.refl e4 F_keys (g := (mkF m 22 #[.val (.ref q3s5_0), .val (.int (0 : Int32)), .val (.int (4 : Int32)), .val (.long x0), .second] [(.ref q3s5_0)])) rfl rfl (hb hby d3_22)
  have P7 : own_Go p e below S0 (T7.setTop (mkF m 25 #[.val (.ref q3s5_0), .val (.int (0 : Int32)), .val (.int (4 : Int32)), .val (.long x0), .second] [(.ref qa)])) := fun t k => P6 t (st7 _ k)
  have P8 : own_Go p e below S0 (T7.setTop (mkF m 27 #[.val (.ref q3s5_0), .val (.int (0 : Int32)), .val (.int (4 : Int32)), .val (.long x0), .second] [(.ref q3s5_0), (.int (0 : Int32)), (.ref qa)])) := fun t k => P7 t (by
    show Steps p.tables e below (T7.setTop (mkF m 25 #[.val (.ref q3s5_0), .val (.int (0 : Int32)), .val (.int (4 : Int32)), .val (.long x0), .second] [(.ref qa)])) t
    refine XS.iloadN X7.here hx rfl (hb hby d3_25) rfl ?_
    refine XS.aloadN X7.here hx rfl (hb hby d3_26) rfl rfl ?_
    show Steps p.tables e below (T7.setTop (mkF m 27 #[.val (.ref q3s5_0), .val (.int (0 : Int32)), .val (.int (4 : Int32)), .val (.long x0), .second] [(.ref q3s5_0), (.int (0 : Int32)), (.ref qa)])) t
    exact k)
  obtain ⟨T9, X9, e9, st9⟩ := getF X7 hx hZ hown (host := "") (Or.inl (hw _ (List.mem_of_getElem? (i := 11) rfl))) Via.refl e7 F_keys (g := (mkF m 27 #[.val (.ref q3s5_0), .val (.int (0 : Int32)), .val (.int (4 : Int32)), .val (.long x0), .second] [(.ref q3s5_0), (.int (0 : Int32)), (.ref qa)])) rfl rfl (hb hby d3_27)
  have P9 : own_Go p e below S0 (T9.setTop (mkF m 30 #[.val (.ref q3s5_0), .val (.int (0 : Int32)), .val (.int (4 : Int32)), .val (.long x0), .second] [(.ref qa), (.int (0 : Int32)), (.ref qa)])) := fun t k => P8 t (st9 _ k)
  obtain ⟨cl10, Ar10, q10, Sz10, Nn10, Hh10, Gg10⟩ := id A_qa
  have hin10 : ¬ ((4 : Int32) < 0 ∨ cl10.slots.size ≤ ((4 : Int32)).toNatClampNeg) := inb_of Sz10 ⟨by decide, by decide⟩
  have hat10 : cl10.slots[((4 : Int32)).toNatClampNeg]? = some (.long x4) := Has.at Hh10 hin10 rfl
  have P11 : own_Go p e below S0 (T9.setTop (mkF m 32 #[.val (.ref q3s5_0), .val (.int (0 : Int32)), .val (.int (4 : Int32)), .val (.long x0), .second] [(.long x4), (.int (0 : Int32)), (.ref qa)])) := fun t k => P9 t (by
    show Steps p.tables e below (T9.setTop (mkF m 30 #[.val (.ref q3s5_0), .val (.int (0 : Int32)), .val (.int (4 : Int32)), .val (.long x0), .second] [(.ref qa), (.int (0 : Int32)), (.ref qa)])) t
    refine XS.iloadN X9.here hx rfl (hb hby d3_30) rfl ?_
    show Steps p.tables e below (T9.setTop (mkF m 31 #[.val (.ref q3s5_0), .val (.int (0 : Int32)), .val (.int (4 : Int32)), .val (.long x0), .second] [(.int (4 : Int32)), (.ref qa), (.int (0 : Int32)), (.ref qa)])) t
    refine X9.laload hx (j := (4 : Int32)) (v := (.long x4)) (by rw [e9]; exact Ar10.1) (State.isArrayOf_alike hZ.alike Ar10.2.1) Ar10.2.2 hin10 hat10 (g := (mkF m 31 #[.val (.ref q3s5_0), .val (.int (0 : Int32)), .val (.int (4 : Int32)), .val (.long x0), .second] [(.int (4 : Int32)), (.ref qa), (.int (0 : Int32)), (.ref qa)])) rfl rfl (hb hby d3_31) _ ?_
    show Steps p.tables e below (T9.setTop (mkF m 32 #[.val (.ref q3s5_0), .val (.int (0 : Int32)), .val (.int (4 : Int32)), .val (.long x0), .second] [(.long x4), (.int (0 : Int32)), (.ref qa)])) t
    exact k)
  obtain ⟨cl13, Ar13, q13, Sz13, Nn13, Hh13, Gg13⟩ := id A_qa
  have hin13 : ¬ ((0 : Int32) < 0 ∨ cl13.slots.size ≤ ((0 : Int32)).toNatClampNeg) := inb_of Sz13 ⟨by decide, by decide⟩
  obtain ⟨T12, h12, X12, e12, W12, st12⟩ := stJ X9 hx hZ e9 Ar13 (j := (0 : Int32)) hin13 (g := (mkF m 32 #[.val (.ref q3s5_0), .val (.int (0 : Int32)), .val (.int (4 : Int32)), .val (.long x0), .second] [(.long x4), (.int (0 : Int32)), (.ref qa)])) rfl rfl (hb hby d3_32)
  have K12 : Keep h0 h12 [qa] := (Keep.refl h0 [qa]).wr W12 (Or.inl (by simp))
  have N12 := Fr.snoc X12 N0 g_qa
  have V12 : Arv Z h12 qa qk .long (5 : Int32) [(.long x4), (.long x1), (.long x2), (.long x3), (.long x4)] (.long (0 : Int64)) := Arv.set Ar13 q13 Sz13 Nn13 Hh13 Gg13 rfl W12 0 rfl (Nat.le_of_ble_eq_true rfl)
  have P12 : own_Go p e below S0 (T12.setTop (mkF m 33 #[.val (.ref q3s5_0), .val (.int (0 : Int32)), .val (.int (4 : Int32)), .val (.long x0), .second] [])) := fun t k => P11 t (st12 _ k)
  have F14 : Fld Z h12 q3s5_0 "com/example/splice/splice/XPath$Keys" "keys" "[J" (.ref qa) := F_keys.other W12 (Or.inl hne_q3s5_0_qa)
  have P15 : own_Go p e below S0 (T12.setTop (mkF m 34 #[.val (.ref q3s5_0), .val (.int (0 : Int32)), .val (.int (4 : Int32)), .val (.long x0), .second] [(.ref q3s5_0)])) := fun t k => P12 t (by
    show Steps p.tables e below (T12.setTop (mkF m 33 #[.val (.ref q3s5_0), .val (.int (0 : Int32)), .val (.int (4 : Int32)), .val (.long x0), .second] [])) t
    refine XS.aloadN X12.here hx rfl (hb hby d3_33) rfl rfl ?_
    show Steps p.tables e below (T12.setTop (mkF m 34 #[.val (.ref q3s5_0), .val (.int (0 : Int32)), .val (.int (4 : Int32)), .val (.long x0), .second] [(.ref q3s5_0)])) t
    exact k)
  obtain ⟨T16, X16, e16, st16⟩ := getF X12 hx hZ hown (host := "") (Or.inl (hw _ (List.mem_of_getElem? (i := 11) rfl))) Via.refl e12 F14 (g := (mkF m 34 #[.val (.ref q3s5_0), .val (.int (0 : Int32)), .val (.int (4 : Int32)), .val (.long x0), .second] [(.ref q3s5_0)])) rfl rfl (hb hby d3_34)
  have P16 : own_Go p e below S0 (T16.setTop (mkF m 37 #[.val (.ref q3s5_0), .val (.int (0 : Int32)), .val (.int (4 : Int32)), .val (.long x0), .second] [(.ref qa)])) := fun t k => P15 t (st16 _ k)
  have P17 : own_Go p e below S0 (T16.setTop (mkF m 39 #[.val (.ref q3s5_0), .val (.int (0 : Int32)), .val (.int (4 : Int32)), .val (.long x0), .second] [(.long x0), (.int (4 : Int32)), (.ref qa)])) := fun t k => P16 t (by
    show Steps p.tables e below (T16.setTop (mkF m 37 #[.val (.ref q3s5_0), .val (.int (0 : Int32)), .val (.int (4 : Int32)), .val (.long x0), .second] [(.ref qa)])) t
    refine XS.iloadN X16.here hx rfl (hb hby d3_37) rfl ?_
    refine XS.lloadN X16.here hx rfl (hb hby d3_38) rfl ?_
    show Steps p.tables e below (T16.setTop (mkF m 39 #[.val (.ref q3s5_0), .val (.int (0 : Int32)), .val (.int (4 : Int32)), .val (.long x0), .second] [(.long x0), (.int (4 : Int32)), (.ref qa)])) t
    exact k)
  obtain ⟨cl19, Ar19, q19, Sz19, Nn19, Hh19, Gg19⟩ := id V12
  have hin19 : ¬ ((4 : Int32) < 0 ∨ cl19.slots.size ≤ ((4 : Int32)).toNatClampNeg) := inb_of Sz19 ⟨by decide, by decide⟩
  obtain ⟨T18, h18, X18, e18, W18, st18⟩ := stJ X16 hx hZ e16 Ar19 (j := (4 : Int32)) hin19 (g := (mkF m 39 #[.val (.ref q3s5_0), .val (.int (0 : Int32)), .val (.int (4 : Int32)), .val (.long x0), .second] [(.long x0), (.int (4 : Int32)), (.ref qa)])) rfl rfl (hb hby d3_39)
  have K18 : Keep h0 h18 [qa] := K12.wr W18 (Or.inl (by simp))
  have N18 := Fr.snoc X18 N12 g_qa
  have V18 : Arv Z h18 qa qk .long (5 : Int32) [(.long x4), (.long x1), (.long x2), (.long x3), (.long x0)] (.long (0 : Int64)) := Arv.set Ar19 q19 Sz19 Nn19 Hh19 Gg19 rfl W18 4 rfl (Nat.le_of_ble_eq_true rfl)
  have P18 : own_Go p e below S0 (T18.setTop (mkF m 40 #[.val (.ref q3s5_0), .val (.int (0 : Int32)), .val (.int (4 : Int32)), .val (.long x0), .second] [])) := fun t k => P17 t (st18 _ k)
  have F20 : Fld Z h18 q3s5_0 "com/example/splice/splice/XPath$Keys" "keys" "[J" (.ref qa) := F14.other W18 (Or.inl hne_q3s5_0_qa)
  have P21 : own_Go p e below S0 (T18.setTop (mkF m 15 #[.val (.ref q3s5_0), .val (.int (1 : Int32)), .val (.int (3 : Int32)), .val (.long x0), .second] [(.ref q3s5_0)])) := fun t k => P18 t (by
    show Steps p.tables e below (T18.setTop (mkF m 40 #[.val (.ref q3s5_0), .val (.int (0 : Int32)), .val (.int (4 : Int32)), .val (.long x0), .second] [])) t
    refine XS.iinc X18.here hx rfl (hb hby d3_40) rfl (l' := #[.val (.ref q3s5_0), .val (.int (1 : Int32)), .val (.int (4 : Int32)), .val (.long x0), .second]) rfl ?_
    refine XS.iinc X18.here hx rfl (hb hby d3_43) rfl (l' := #[.val (.ref q3s5_0), .val (.int (1 : Int32)), .val (.int (3 : Int32)), .val (.long x0), .second]) rfl ?_
    refine XS.goto X18.here hx rfl (pc0 := 46) (pc' := 9) rfl (hb hby d3_46) (by decide) (by decide) ?_
    refine XS.iloadN X18.here hx rfl (hb hby d3_9) rfl ?_
    refine XS.iloadN X18.here hx rfl (hb hby d3_10) rfl ?_
    refine XS.icmpNo X18.here hx rfl (hb hby d3_11) rfl (tlt (by decide)).2.1 ?_
    show Steps p.tables e below (T18.setTop (mkF m 14 #[.val (.ref q3s5_0), .val (.int (1 : Int32)), .val (.int (3 : Int32)), .val (.long x0), .second] [])) t
    refine XS.aloadN X18.here hx rfl (hb hby d3_14) rfl rfl ?_
    show Steps p.tables e below (T18.setTop (mkF m 15 #[.val (.ref q3s5_0), .val (.int (1 : Int32)), .val (.int (3 : Int32)), .val (.long x0), .second] [(.ref q3s5_0)])) t
    exact k)
  obtain ⟨T22, X22, e22, st22⟩ := getF X18 hx hZ hown (host := "") (Or.inl (hw _ (List.mem_of_getElem? (i := 11) rfl))) Via.refl e18 F20 (g := (mkF m 15 #[.val (.ref q3s5_0), .val (.int (1 : Int32)), .val (.int (3 : Int32)), .val (.long x0), .second] [(.ref q3s5_0)])) rfl rfl (hb hby d3_15)
  have P22 : own_Go p e below S0 (T22.setTop (mkF m 18 #[.val (.ref q3s5_0), .val (.int (1 : Int32)), .val (.int (3 : Int32)), .val (.long x0), .second] [(.ref qa)])) := fun t k => P21 t (st22 _ k)
  obtain ⟨cl23, Ar23, q23, Sz23, Nn23, Hh23, Gg23⟩ := id V18
  have hin23 : ¬ ((1 : Int32) < 0 ∨ cl23.slots.size ≤ ((1 : Int32)).toNatClampNeg) := inb_of Sz23 ⟨by decide, by decide⟩
  have hat23 : cl23.slots[((1 : Int32)).toNatClampNeg]? = some (.long x1) := Has.at Hh23 hin23 rfl
  have P24 : own_Go p e below S0 (T22.setTop (mkF m 22 #[.val (.ref q3s5_0), .val (.int (1 : Int32)), .val (.int (3 : Int32)), .val (.long x1), .second] [(.ref q3s5_0)])) := fun t k => P22 t (by
    show Steps p.tables e below (T22.setTop (mkF m 18 #[.val (.ref q3s5_0), .val (.int (1 : Int32)), .val (.int (3 : Int32)), .val (.long x0), .second] [(.ref qa)])) t
    refine XS.iloadN X22.here hx rfl (hb hby d3_18) rfl ?_
    show Steps p.tables e below (T22.setTop (mkF m 19 #[.val (.ref q3s5_0), .val (.int (1 : Int32)), .val (.int (3 : Int32)), .val (.long x0), .second] [(.int (1 : Int32)), (.ref qa)])) t
    refine X22.laload hx (j := (1 : Int32)) (v := (.long x1)) (by rw [e22]; exact Ar23.1) (State.isArrayOf_alike hZ.alike Ar23.2.1) Ar23.2.2 hin23 hat23 (g := (mkF m 19 #[.val (.ref q3s5_0), .val (.int (1 : Int32)), .val (.int (3 : Int32)), .val (.long x0), .second] [(.int (1 : Int32)), (.ref qa)])) rfl rfl (hb hby d3_19) _ ?_
    refine XS.lstoreN X22.here hx rfl (hb hby d3_20) rfl (l' := #[.val (.ref q3s5_0), .val (.int (1 : Int32)), .val (.int (3 : Int32)), .val (.long x1), .second]) rfl ?_
    refine XS.aloadN X22.here hx rfl (hb hby d3_21) rfl rfl ?_
    show Steps p.tables e below (T22.setTop (mkF m 22 #[.val (.ref q3s5_0), .val (.int (1 : Int32)), .val (.int (3 : Int32)), .val (.long x1), .second] [(.ref q3s5_0)])) t
    exact k)
  obtain ⟨T25, X25, e25, st25⟩ := getF X22 hx hZ hown (host := "") (Or.inl (hw _ (List.mem_of_getElem? (i := 11) rfl))) Via.refl e22 F20 (g := (mkF m 22 #[.val (.ref q3s5_0), .val (.int (1 : Int32)), .val (.int (3 : Int32)), .val (.long x1), .second] [(.ref q3s5_0)])) rfl rfl (hb hby d3_22)
  have P25 : own_Go p e below S0 (T25.setTop (mkF m 25 #[.val (.ref q3s5_0), .val (.int (1 : Int32)), .val (.int (3 : Int32)), .val (.long x1), .second] [(.ref qa)])) := fun t k => P24 t (st25 _ k)
  have P26 : own_Go p e below S0 (T25.setTop (mkF m 27 #[.val (.ref q3s5_0), .val (.int (1 : Int32)), .val (.int (3 : Int32)), .val (.long x1), .second] [(.ref q3s5_0), (.int (1 : Int32)), (.ref qa)])) := fun t k => P25 t (by
    show Steps p.tables e below (T25.setTop (mkF m 25 #[.val (.ref q3s5_0), .val (.int (1 : Int32)), .val (.int (3 : Int32)), .val (.long x1), .second] [(.ref qa)])) t
    refine XS.iloadN X25.here hx rfl (hb hby d3_25) rfl ?_
    refine XS.aloadN X25.here hx rfl (hb hby d3_26) rfl rfl ?_
    show Steps p.tables e below (T25.setTop (mkF m 27 #[.val (.ref q3s5_0), .val (.int (1 : Int32)), .val (.int (3 : Int32)), .val (.long x1), .second] [(.ref q3s5_0), (.int (1 : Int32)), (.ref qa)])) t
    exact k)
  obtain ⟨T27, X27, e27, st27⟩ := getF X25 hx hZ hown (host := "") (Or.inl (hw _ (List.mem_of_getElem? (i := 11) rfl))) Via.refl e25 F20 (g := (mkF m 27 #[.val (.ref q3s5_0), .val (.int (1 : Int32)), .val (.int (3 : Int32)), .val (.long x1), .second] [(.ref q3s5_0), (.int (1 : Int32)), (.ref qa)])) rfl rfl (hb hby d3_27)
  have P27 : own_Go p e below S0 (T27.setTop (mkF m 30 #[.val (.ref q3s5_0), .val (.int (1 : Int32)), .val (.int (3 : Int32)), .val (.long x1), .second] [(.ref qa), (.int (1 : Int32)), (.ref qa)])) := fun t k => P26 t (st27 _ k)
  obtain ⟨cl28, Ar28, q28, Sz28, Nn28, Hh28, Gg28⟩ := id V18
  have hin28 : ¬ ((3 : Int32) < 0 ∨ cl28.slots.size ≤ ((3 : Int32)).toNatClampNeg) := inb_of Sz28 ⟨by decide, by decide⟩
  have hat28 : cl28.slots[((3 : Int32)).toNatClampNeg]? = some (.long x3) := Has.at Hh28 hin28 rfl
  have P29 : own_Go p e below S0 (T27.setTop (mkF m 32 #[.val (.ref q3s5_0), .val (.int (1 : Int32)), .val (.int (3 : Int32)), .val (.long x1), .second] [(.long x3), (.int (1 : Int32)), (.ref qa)])) := fun t k => P27 t (by
    show Steps p.tables e below (T27.setTop (mkF m 30 #[.val (.ref q3s5_0), .val (.int (1 : Int32)), .val (.int (3 : Int32)), .val (.long x1), .second] [(.ref qa), (.int (1 : Int32)), (.ref qa)])) t
    refine XS.iloadN X27.here hx rfl (hb hby d3_30) rfl ?_
    show Steps p.tables e below (T27.setTop (mkF m 31 #[.val (.ref q3s5_0), .val (.int (1 : Int32)), .val (.int (3 : Int32)), .val (.long x1), .second] [(.int (3 : Int32)), (.ref qa), (.int (1 : Int32)), (.ref qa)])) t
    refine X27.laload hx (j := (3 : Int32)) (v := (.long x3)) (by rw [e27]; exact Ar28.1) (State.isArrayOf_alike hZ.alike Ar28.2.1) Ar28.2.2 hin28 hat28 (g := (mkF m 31 #[.val (.ref q3s5_0), .val (.int (1 : Int32)), .val (.int (3 : Int32)), .val (.long x1), .second] [(.int (3 : Int32)), (.ref qa), (.int (1 : Int32)), (.ref qa)])) rfl rfl (hb hby d3_31) _ ?_
    show Steps p.tables e below (T27.setTop (mkF m 32 #[.val (.ref q3s5_0), .val (.int (1 : Int32)), .val (.int (3 : Int32)), .val (.long x1), .second] [(.long x3), (.int (1 : Int32)), (.ref qa)])) t
    exact k)
  obtain ⟨cl31, Ar31, q31, Sz31, Nn31, Hh31, Gg31⟩ := id V18
  have hin31 : ¬ ((1 : Int32) < 0 ∨ cl31.slots.size ≤ ((1 : Int32)).toNatClampNeg) := inb_of Sz31 ⟨by decide, by decide⟩
  obtain ⟨T30, h30, X30, e30, W30, st30⟩ := stJ X27 hx hZ e27 Ar31 (j := (1 : Int32)) hin31 (g := (mkF m 32 #[.val (.ref q3s5_0), .val (.int (1 : Int32)), .val (.int (3 : Int32)), .val (.long x1), .second] [(.long x3), (.int (1 : Int32)), (.ref qa)])) rfl rfl (hb hby d3_32)
  have K30 : Keep h0 h30 [qa] := K18.wr W30 (Or.inl (by simp))
  have N30 := Fr.snoc X30 N18 g_qa
  have V30 : Arv Z h30 qa qk .long (5 : Int32) [(.long x4), (.long x3), (.long x2), (.long x3), (.long x0)] (.long (0 : Int64)) := Arv.set Ar31 q31 Sz31 Nn31 Hh31 Gg31 rfl W30 1 rfl (Nat.le_of_ble_eq_true rfl)
  have P30 : own_Go p e below S0 (T30.setTop (mkF m 33 #[.val (.ref q3s5_0), .val (.int (1 : Int32)), .val (.int (3 : Int32)), .val (.long x1), .second] [])) := fun t k => P29 t (st30 _ k)
  have F32 : Fld Z h30 q3s5_0 "com/example/splice/splice/XPath$Keys" "keys" "[J" (.ref qa) := F20.other W30 (Or.inl hne_q3s5_0_qa)
  have P33 : own_Go p e below S0 (T30.setTop (mkF m 34 #[.val (.ref q3s5_0), .val (.int (1 : Int32)), .val (.int (3 : Int32)), .val (.long x1), .second] [(.ref q3s5_0)])) := fun t k => P30 t (by
    show Steps p.tables e below (T30.setTop (mkF m 33 #[.val (.ref q3s5_0), .val (.int (1 : Int32)), .val (.int (3 : Int32)), .val (.long x1), .second] [])) t
    refine XS.aloadN X30.here hx rfl (hb hby d3_33) rfl rfl ?_
    show Steps p.tables e below (T30.setTop (mkF m 34 #[.val (.ref q3s5_0), .val (.int (1 : Int32)), .val (.int (3 : Int32)), .val (.long x1), .second] [(.ref q3s5_0)])) t
    exact k)
  obtain ⟨T34, X34, e34, st34⟩ := getF X30 hx hZ hown (host := "") (Or.inl (hw _ (List.mem_of_getElem? (i := 11) rfl))) Via.refl e30 F32 (g := (mkF m 34 #[.val (.ref q3s5_0), .val (.int (1 : Int32)), .val (.int (3 : Int32)), .val (.long x1), .second] [(.ref q3s5_0)])) rfl rfl (hb hby d3_34)
  have P34 : own_Go p e below S0 (T34.setTop (mkF m 37 #[.val (.ref q3s5_0), .val (.int (1 : Int32)), .val (.int (3 : Int32)), .val (.long x1), .second] [(.ref qa)])) := fun t k => P33 t (st34 _ k)
  have P35 : own_Go p e below S0 (T34.setTop (mkF m 39 #[.val (.ref q3s5_0), .val (.int (1 : Int32)), .val (.int (3 : Int32)), .val (.long x1), .second] [(.long x1), (.int (3 : Int32)), (.ref qa)])) := fun t k => P34 t (by
    show Steps p.tables e below (T34.setTop (mkF m 37 #[.val (.ref q3s5_0), .val (.int (1 : Int32)), .val (.int (3 : Int32)), .val (.long x1), .second] [(.ref qa)])) t
    refine XS.iloadN X34.here hx rfl (hb hby d3_37) rfl ?_
    refine XS.lloadN X34.here hx rfl (hb hby d3_38) rfl ?_
    show Steps p.tables e below (T34.setTop (mkF m 39 #[.val (.ref q3s5_0), .val (.int (1 : Int32)), .val (.int (3 : Int32)), .val (.long x1), .second] [(.long x1), (.int (3 : Int32)), (.ref qa)])) t
    exact k)
  obtain ⟨cl37, Ar37, q37, Sz37, Nn37, Hh37, Gg37⟩ := id V30
  have hin37 : ¬ ((3 : Int32) < 0 ∨ cl37.slots.size ≤ ((3 : Int32)).toNatClampNeg) := inb_of Sz37 ⟨by decide, by decide⟩
  obtain ⟨T36, h36, X36, e36, W36, st36⟩ := stJ X34 hx hZ e34 Ar37 (j := (3 : Int32)) hin37 (g := (mkF m 39 #[.val (.ref q3s5_0), .val (.int (1 : Int32)), .val (.int (3 : Int32)), .val (.long x1), .second] [(.long x1), (.int (3 : Int32)), (.ref qa)])) rfl rfl (hb hby d3_39)
  have K36 : Keep h0 h36 [qa] := K30.wr W36 (Or.inl (by simp))
  have N36 := Fr.snoc X36 N30 g_qa
  have V36 : Arv Z h36 qa qk .long (5 : Int32) [(.long x4), (.long x3), (.long x2), (.long x1), (.long x0)] (.long (0 : Int64)) := Arv.set Ar37 q37 Sz37 Nn37 Hh37 Gg37 rfl W36 3 rfl (Nat.le_of_ble_eq_true rfl)
  have P36 : own_Go p e below S0 (T36.setTop (mkF m 40 #[.val (.ref q3s5_0), .val (.int (1 : Int32)), .val (.int (3 : Int32)), .val (.long x1), .second] [])) := fun t k => P35 t (st36 _ k)
  have P38 : own_Go p e below S0 (T36.setTop (mkF m 49 #[.val (.ref q3s5_0), .val (.int (2 : Int32)), .val (.int (2 : Int32)), .val (.long x1), .second] [])) := fun t k => P36 t (by
    show Steps p.tables e below (T36.setTop (mkF m 40 #[.val (.ref q3s5_0), .val (.int (1 : Int32)), .val (.int (3 : Int32)), .val (.long x1), .second] [])) t
    refine XS.iinc X36.here hx rfl (hb hby d3_40) rfl (l' := #[.val (.ref q3s5_0), .val (.int (2 : Int32)), .val (.int (3 : Int32)), .val (.long x1), .second]) rfl ?_
    refine XS.iinc X36.here hx rfl (hb hby d3_43) rfl (l' := #[.val (.ref q3s5_0), .val (.int (2 : Int32)), .val (.int (2 : Int32)), .val (.long x1), .second]) rfl ?_
    refine XS.goto X36.here hx rfl (pc0 := 46) (pc' := 9) rfl (hb hby d3_46) (by decide) (by decide) ?_
    refine XS.iloadN X36.here hx rfl (hb hby d3_9) rfl ?_
    refine XS.iloadN X36.here hx rfl (hb hby d3_10) rfl ?_
    refine XS.icmpYes X36.here hx rfl (pc0 := 11) (pc' := 49) rfl (hb hby d3_11) rfl (flt (by decide)).2.1 (by decide) (by decide) ?_
    show Steps p.tables e below (T36.setTop (mkF m 49 #[.val (.ref q3s5_0), .val (.int (2 : Int32)), .val (.int (2 : Int32)), .val (.long x1), .second] [])) t
    exact k)
  obtain ⟨fs, hr, hrun, hended, hW, hsame⟩ := X36.leave (v := none) (fun _ => rfl)
  refine ⟨_, _, own_from hS0 (P38 _ ?_), hrun, hended, _, _, rfl, ?_, ⟨_, rfl⟩, hW, hsame.mono (by decide) (by decide)⟩
  · show Steps p.tables e below (T36.setTop (mkF m 49 #[.val (.ref q3s5_0), .val (.int (2 : Int32)), .val (.int (2 : Int32)), .val (.long x1), .second] [])) _
    exact X36.returnOut hx Bd.returns (hb hby d3_49) hr
  · show Q3s5 Z q3s5_0 qa qk x0 x1 x2 x3 x4 h0 n0 _ T36.heap _
    rw [e36]
    exact ⟨rfl, N36, K36, V36⟩
theorem pn_4 : plainName "com/example/splice/splice/KeysReversePinLaw" = true := by first | (simp [plainName, overriddenIn]; done) | decide +kernel
theorem d4_0 : decode method_2_code 0 = .ok (.iload_n 2, 1) := by decide +kernel
theorem d4_1 : decode method_2_code 1 = .ok (.iload_n 1, 1) := by decide +kernel
theorem d4_2 : decode method_2_code 2 = .ok (.if_icmp .ge 13, 3) := by decide +kernel
theorem d4_15 : decode method_2_code 15 = .ok (.aload_n 0, 1) := by decide +kernel
theorem d4_16 : decode method_2_code 16 = .ok (.iload_n 2, 1) := by decide +kernel
theorem d4_17 : decode method_2_code 17 = .ok (.laload, 1) := by decide +kernel
theorem d4_18 : decode method_2_code 18 = .ok (.lreturn, 1) := by decide +kernel
theorem ef_4_0_0 (m : MethodId) (qa : Addr) : entryFrame m #[(.ref qa), (.int (0 : Int32)), (.int (0 : Int32))] 3 = mkF m 0 #[.val (.ref qa), .val (.int (0 : Int32)), .val (.int (0 : Int32))] [] := by first | (simp [entryFrame, mkF, argsToLocals, Value.category]; done) | rfl
def Q4_0_0 (Z : State) (qa : Addr) (qk : ClassId) (x0 : Int64) (x1 : Int64) (x2 : Int64) (x3 : Int64) (x4 : Int64) (h0 : Heap) (n0 : Nat) (v : Option Value) (h : Heap) (L : List Loc) : Prop := v = some (.long x0) ∧ Fr n0 L ∧ h = h0
set_option maxRecDepth 65536 in
set_option maxHeartbeats 40000000 in
theorem rm4_0_0 (l : Launch) (Z : State) (a0 : Array Value) (hw : ∀ d ∈ tables_1, d.before a0 Z = true) (ws : List Jvm.Cond) (qa : Addr) (qk : ClassId) (x0 : Int64) (x1 : Int64) (x2 : Int64) (x3 : Int64) (x4 : Int64) (h0 : Heap) (n0 : Nat) (Z0 : n0 ≤ h0.size) (A_qa : Arv Z h0 qa qk .long (5 : Int32) [(.long x0), (.long x1), (.long x2), (.long x3), (.long x4)] (.long (0 : Int64))) :
    MetFree l (⟨"com/example/splice/splice/KeysReversePinLaw", "at", "([JII)J"⟩ : MethodName) (head1 (Jvm.Cond.code (⟨"com/example/splice/splice/KeysReversePinLaw", "at", "([JII)J"⟩ : MethodName) method_2_code 3 (some .long) :: ws) ({ frames := 0, cells := 0, slots := 0, locals := 0 } : Room)) (fun a U => a = #[(.ref qa), (.int (0 : Int32)), (.int (0 : Int32))] ∧ Z.Warmed39 U.vm ∧ U.heap = h0) (fun _ _ _ _ _ => True) (fun _ U o U' => ∃ v L, o = .returned v ∧ Q4_0_0 Z qa qk x0 x1 x2 x3 x4 h0 n0 v U'.heap L ∧ FrameEnd U o U' L ({ frames := 0, cells := 0, slots := 0, locals := 0 } : Room).cells ({ frames := 0, cells := 0, slots := 0, locals := 0 } : Room).slots) := by
  refine MetFree.of_bodySF (plainFor_of_name pn_4) hisR ?_
  intro p e s m args below meth c s₁ Bd hml0 hP hK
  obtain ⟨rfl, hZ, hh⟩ := hP
  have hx := Bd.exec
  have hby := Bd.bytes
  have hml : c.maxLocals = 3 := hml0
  have hown : s.vm.findClass "com/example/splice/splice/KeysReversePinLaw" = some m.cls := findClass_of_methodNamed Bd.named
  have hnm := (name_of_methodNamed Bd.named Bd.method).1
  have X0 : Stand p l e ({ frames := 0, cells := 0, slots := 0, locals := 0 } : Room) s m #[(.ref qa), (.int (0 : Int32)), (.int (0 : Int32))] below meth c s₁ [] 0 0 := Stand.of_body Bd
  have e0 : s₁.heap = h0 := by rw [← hh, Bd.state]; rfl
  have N0 := Fr.nil n0
  obtain ⟨S0, hS0⟩ : ∃ z, z = s₁.setTop (entryFrame m #[(.ref qa), (.int (0 : Int32)), (.int (0 : Int32))] 3) := ⟨_, rfl⟩
  have P0 : own_Go p e below S0 (s₁.setTop (mkF m 0 #[.val (.ref qa), .val (.int (0 : Int32)), .val (.int (0 : Int32))] [])) := fun t k => by rw [hS0]; exact castTop (ef_4_0_0 m qa) k
  obtain ⟨cl1, Ar1, q1, Sz1, Nn1, Hh1, Gg1⟩ := id A_qa
  have hin1 : ¬ ((0 : Int32) < 0 ∨ cl1.slots.size ≤ ((0 : Int32)).toNatClampNeg) := inb_of Sz1 ⟨by decide, by decide⟩
  have hat1 : cl1.slots[((0 : Int32)).toNatClampNeg]? = some (.long x0) := Has.at Hh1 hin1 rfl
  have P2 : own_Go p e below S0 (s₁.setTop (mkF m 18 #[.val (.ref qa), .val (.int (0 : Int32)), .val (.int (0 : Int32))] [(.long x0)])) := fun t k => P0 t (by
    show Steps p.tables e below (s₁.setTop (mkF m 0 #[.val (.ref qa), .val (.int (0 : Int32)), .val (.int (0 : Int32))] [])) t
    refine XS.iloadN X0.here hx rfl (hb hby d4_0) rfl ?_
    refine XS.iloadN X0.here hx rfl (hb hby d4_1) rfl ?_
    refine XS.icmpYes X0.here hx rfl (pc0 := 2) (pc' := 15) rfl (hb hby d4_2) rfl (flt (by decide)).2.1 (by decide) (by decide) ?_
    refine XS.aloadN X0.here hx rfl (hb hby d4_15) rfl rfl ?_
    refine XS.iloadN X0.here hx rfl (hb hby d4_16) rfl ?_
    show Steps p.tables e below (s₁.setTop (mkF m 17 #[.val (.ref qa), .val (.int (0 : Int32)), .val (.int (0 : Int32))] [(.int (0 : Int32)), (.ref qa)])) t
    refine X0.laload hx (j := (0 : Int32)) (v := (.long x0)) (by rw [e0]; exact Ar1.1) (State.isArrayOf_alike hZ.alike Ar1.2.1) Ar1.2.2 hin1 hat1 (g := (mkF m 17 #[.val (.ref qa), .val (.int (0 : Int32)), .val (.int (0 : Int32))] [(.int (0 : Int32)), (.ref qa)])) rfl rfl (hb hby d4_17) _ ?_
    show Steps p.tables e below (s₁.setTop (mkF m 18 #[.val (.ref qa), .val (.int (0 : Int32)), .val (.int (0 : Int32))] [(.long x0)])) t
    exact k)
  obtain ⟨fs, hr, hrun, hended, hW, hsame⟩ := X0.leave (v := some (.long x0)) (fun h => by rw [Bd.returns] at h; cases h)
  refine ⟨_, _, own_from hS0 (P2 _ ?_), hrun, hended, _, _, rfl, ?_, ⟨_, rfl⟩, hW, hsame.mono (by decide) (by decide)⟩
  · show Steps p.tables e below (s₁.setTop (mkF m 18 #[.val (.ref qa), .val (.int (0 : Int32)), .val (.int (0 : Int32))] [(.long x0)])) _
    jvm_step X0.here [X0.here.top, hx, (hb hby d4_18), X0.method', Bd.returns, narrow]
    first | (intro acts; rw [hr _ acts rfl rfl rfl]) | rw [hr _ _ rfl rfl rfl]
    exact Steps.refl _
  · show Q4_0_0 Z qa qk x0 x1 x2 x3 x4 h0 n0 _ s₁.heap _
    rw [e0]
    exact ⟨rfl, N0, rfl⟩
theorem ef_4_0_1 (m : MethodId) (qa : Addr) : entryFrame m #[(.ref qa), (.int (0 : Int32)), (.int (1 : Int32))] 3 = mkF m 0 #[.val (.ref qa), .val (.int (0 : Int32)), .val (.int (1 : Int32))] [] := by first | (simp [entryFrame, mkF, argsToLocals, Value.category]; done) | rfl
def Q4_0_1 (Z : State) (qa : Addr) (qk : ClassId) (x0 : Int64) (x1 : Int64) (x2 : Int64) (x3 : Int64) (x4 : Int64) (h0 : Heap) (n0 : Nat) (v : Option Value) (h : Heap) (L : List Loc) : Prop := v = some (.long x1) ∧ Fr n0 L ∧ h = h0
set_option maxRecDepth 65536 in
set_option maxHeartbeats 40000000 in
theorem rm4_0_1 (l : Launch) (Z : State) (a0 : Array Value) (hw : ∀ d ∈ tables_1, d.before a0 Z = true) (ws : List Jvm.Cond) (qa : Addr) (qk : ClassId) (x0 : Int64) (x1 : Int64) (x2 : Int64) (x3 : Int64) (x4 : Int64) (h0 : Heap) (n0 : Nat) (Z0 : n0 ≤ h0.size) (A_qa : Arv Z h0 qa qk .long (5 : Int32) [(.long x0), (.long x1), (.long x2), (.long x3), (.long x4)] (.long (0 : Int64))) :
    MetFree l (⟨"com/example/splice/splice/KeysReversePinLaw", "at", "([JII)J"⟩ : MethodName) (head1 (Jvm.Cond.code (⟨"com/example/splice/splice/KeysReversePinLaw", "at", "([JII)J"⟩ : MethodName) method_2_code 3 (some .long) :: ws) ({ frames := 0, cells := 0, slots := 0, locals := 0 } : Room)) (fun a U => a = #[(.ref qa), (.int (0 : Int32)), (.int (1 : Int32))] ∧ Z.Warmed39 U.vm ∧ U.heap = h0) (fun _ _ _ _ _ => True) (fun _ U o U' => ∃ v L, o = .returned v ∧ Q4_0_1 Z qa qk x0 x1 x2 x3 x4 h0 n0 v U'.heap L ∧ FrameEnd U o U' L ({ frames := 0, cells := 0, slots := 0, locals := 0 } : Room).cells ({ frames := 0, cells := 0, slots := 0, locals := 0 } : Room).slots) := by
  refine MetFree.of_bodySF (plainFor_of_name pn_4) hisR ?_
  intro p e s m args below meth c s₁ Bd hml0 hP hK
  obtain ⟨rfl, hZ, hh⟩ := hP
  have hx := Bd.exec
  have hby := Bd.bytes
  have hml : c.maxLocals = 3 := hml0
  have hown : s.vm.findClass "com/example/splice/splice/KeysReversePinLaw" = some m.cls := findClass_of_methodNamed Bd.named
  have hnm := (name_of_methodNamed Bd.named Bd.method).1
  have X0 : Stand p l e ({ frames := 0, cells := 0, slots := 0, locals := 0 } : Room) s m #[(.ref qa), (.int (0 : Int32)), (.int (1 : Int32))] below meth c s₁ [] 0 0 := Stand.of_body Bd
  have e0 : s₁.heap = h0 := by rw [← hh, Bd.state]; rfl
  have N0 := Fr.nil n0
  obtain ⟨S0, hS0⟩ : ∃ z, z = s₁.setTop (entryFrame m #[(.ref qa), (.int (0 : Int32)), (.int (1 : Int32))] 3) := ⟨_, rfl⟩
  have P0 : own_Go p e below S0 (s₁.setTop (mkF m 0 #[.val (.ref qa), .val (.int (0 : Int32)), .val (.int (1 : Int32))] [])) := fun t k => by rw [hS0]; exact castTop (ef_4_0_1 m qa) k
  obtain ⟨cl1, Ar1, q1, Sz1, Nn1, Hh1, Gg1⟩ := id A_qa
  have hin1 : ¬ ((1 : Int32) < 0 ∨ cl1.slots.size ≤ ((1 : Int32)).toNatClampNeg) := inb_of Sz1 ⟨by decide, by decide⟩
  have hat1 : cl1.slots[((1 : Int32)).toNatClampNeg]? = some (.long x1) := Has.at Hh1 hin1 rfl
  have P2 : own_Go p e below S0 (s₁.setTop (mkF m 18 #[.val (.ref qa), .val (.int (0 : Int32)), .val (.int (1 : Int32))] [(.long x1)])) := fun t k => P0 t (by
    show Steps p.tables e below (s₁.setTop (mkF m 0 #[.val (.ref qa), .val (.int (0 : Int32)), .val (.int (1 : Int32))] [])) t
    refine XS.iloadN X0.here hx rfl (hb hby d4_0) rfl ?_
    refine XS.iloadN X0.here hx rfl (hb hby d4_1) rfl ?_
    refine XS.icmpYes X0.here hx rfl (pc0 := 2) (pc' := 15) rfl (hb hby d4_2) rfl (flt (by decide)).2.1 (by decide) (by decide) ?_
    refine XS.aloadN X0.here hx rfl (hb hby d4_15) rfl rfl ?_
    refine XS.iloadN X0.here hx rfl (hb hby d4_16) rfl ?_
    show Steps p.tables e below (s₁.setTop (mkF m 17 #[.val (.ref qa), .val (.int (0 : Int32)), .val (.int (1 : Int32))] [(.int (1 : Int32)), (.ref qa)])) t
    refine X0.laload hx (j := (1 : Int32)) (v := (.long x1)) (by rw [e0]; exact Ar1.1) (State.isArrayOf_alike hZ.alike Ar1.2.1) Ar1.2.2 hin1 hat1 (g := (mkF m 17 #[.val (.ref qa), .val (.int (0 : Int32)), .val (.int (1 : Int32))] [(.int (1 : Int32)), (.ref qa)])) rfl rfl (hb hby d4_17) _ ?_
    show Steps p.tables e below (s₁.setTop (mkF m 18 #[.val (.ref qa), .val (.int (0 : Int32)), .val (.int (1 : Int32))] [(.long x1)])) t
    exact k)
  obtain ⟨fs, hr, hrun, hended, hW, hsame⟩ := X0.leave (v := some (.long x1)) (fun h => by rw [Bd.returns] at h; cases h)
  refine ⟨_, _, own_from hS0 (P2 _ ?_), hrun, hended, _, _, rfl, ?_, ⟨_, rfl⟩, hW, hsame.mono (by decide) (by decide)⟩
  · show Steps p.tables e below (s₁.setTop (mkF m 18 #[.val (.ref qa), .val (.int (0 : Int32)), .val (.int (1 : Int32))] [(.long x1)])) _
    jvm_step X0.here [X0.here.top, hx, (hb hby d4_18), X0.method', Bd.returns, narrow]
    first | (intro acts; rw [hr _ acts rfl rfl rfl]) | rw [hr _ _ rfl rfl rfl]
    exact Steps.refl _
  · show Q4_0_1 Z qa qk x0 x1 x2 x3 x4 h0 n0 _ s₁.heap _
    rw [e0]
    exact ⟨rfl, N0, rfl⟩
theorem ef_4_0_2 (m : MethodId) (qa : Addr) : entryFrame m #[(.ref qa), (.int (0 : Int32)), (.int (2 : Int32))] 3 = mkF m 0 #[.val (.ref qa), .val (.int (0 : Int32)), .val (.int (2 : Int32))] [] := by first | (simp [entryFrame, mkF, argsToLocals, Value.category]; done) | rfl
def Q4_0_2 (Z : State) (qa : Addr) (qk : ClassId) (x0 : Int64) (x1 : Int64) (x2 : Int64) (x3 : Int64) (x4 : Int64) (h0 : Heap) (n0 : Nat) (v : Option Value) (h : Heap) (L : List Loc) : Prop := v = some (.long x2) ∧ Fr n0 L ∧ h = h0
set_option maxRecDepth 65536 in
set_option maxHeartbeats 40000000 in
theorem rm4_0_2 (l : Launch) (Z : State) (a0 : Array Value) (hw : ∀ d ∈ tables_1, d.before a0 Z = true) (ws : List Jvm.Cond) (qa : Addr) (qk : ClassId) (x0 : Int64) (x1 : Int64) (x2 : Int64) (x3 : Int64) (x4 : Int64) (h0 : Heap) (n0 : Nat) (Z0 : n0 ≤ h0.size) (A_qa : Arv Z h0 qa qk .long (5 : Int32) [(.long x0), (.long x1), (.long x2), (.long x3), (.long x4)] (.long (0 : Int64))) :
    MetFree l (⟨"com/example/splice/splice/KeysReversePinLaw", "at", "([JII)J"⟩ : MethodName) (head1 (Jvm.Cond.code (⟨"com/example/splice/splice/KeysReversePinLaw", "at", "([JII)J"⟩ : MethodName) method_2_code 3 (some .long) :: ws) ({ frames := 0, cells := 0, slots := 0, locals := 0 } : Room)) (fun a U => a = #[(.ref qa), (.int (0 : Int32)), (.int (2 : Int32))] ∧ Z.Warmed39 U.vm ∧ U.heap = h0) (fun _ _ _ _ _ => True) (fun _ U o U' => ∃ v L, o = .returned v ∧ Q4_0_2 Z qa qk x0 x1 x2 x3 x4 h0 n0 v U'.heap L ∧ FrameEnd U o U' L ({ frames := 0, cells := 0, slots := 0, locals := 0 } : Room).cells ({ frames := 0, cells := 0, slots := 0, locals := 0 } : Room).slots) := by
  refine MetFree.of_bodySF (plainFor_of_name pn_4) hisR ?_
  intro p e s m args below meth c s₁ Bd hml0 hP hK
  obtain ⟨rfl, hZ, hh⟩ := hP
  have hx := Bd.exec
  have hby := Bd.bytes
  have hml : c.maxLocals = 3 := hml0
  have hown : s.vm.findClass "com/example/splice/splice/KeysReversePinLaw" = some m.cls := findClass_of_methodNamed Bd.named
  have hnm := (name_of_methodNamed Bd.named Bd.method).1
  have X0 : Stand p l e ({ frames := 0, cells := 0, slots := 0, locals := 0 } : Room) s m #[(.ref qa), (.int (0 : Int32)), (.int (2 : Int32))] below meth c s₁ [] 0 0 := Stand.of_body Bd
  have e0 : s₁.heap = h0 := by rw [← hh, Bd.state]; rfl
  have N0 := Fr.nil n0
  obtain ⟨S0, hS0⟩ : ∃ z, z = s₁.setTop (entryFrame m #[(.ref qa), (.int (0 : Int32)), (.int (2 : Int32))] 3) := ⟨_, rfl⟩
  have P0 : own_Go p e below S0 (s₁.setTop (mkF m 0 #[.val (.ref qa), .val (.int (0 : Int32)), .val (.int (2 : Int32))] [])) := fun t k => by rw [hS0]; exact castTop (ef_4_0_2 m qa) k
  obtain ⟨cl1, Ar1, q1, Sz1, Nn1, Hh1, Gg1⟩ := id A_qa
  have hin1 : ¬ ((2 : Int32) < 0 ∨ cl1.slots.size ≤ ((2 : Int32)).toNatClampNeg) := inb_of Sz1 ⟨by decide, by decide⟩
  have hat1 : cl1.slots[((2 : Int32)).toNatClampNeg]? = some (.long x2) := Has.at Hh1 hin1 rfl
  have P2 : own_Go p e below S0 (s₁.setTop (mkF m 18 #[.val (.ref qa), .val (.int (0 : Int32)), .val (.int (2 : Int32))] [(.long x2)])) := fun t k => P0 t (by
    show Steps p.tables e below (s₁.setTop (mkF m 0 #[.val (.ref qa), .val (.int (0 : Int32)), .val (.int (2 : Int32))] [])) t
    refine XS.iloadN X0.here hx rfl (hb hby d4_0) rfl ?_
    refine XS.iloadN X0.here hx rfl (hb hby d4_1) rfl ?_
    refine XS.icmpYes X0.here hx rfl (pc0 := 2) (pc' := 15) rfl (hb hby d4_2) rfl (flt (by decide)).2.1 (by decide) (by decide) ?_
    refine XS.aloadN X0.here hx rfl (hb hby d4_15) rfl rfl ?_
    refine XS.iloadN X0.here hx rfl (hb hby d4_16) rfl ?_
    show Steps p.tables e below (s₁.setTop (mkF m 17 #[.val (.ref qa), .val (.int (0 : Int32)), .val (.int (2 : Int32))] [(.int (2 : Int32)), (.ref qa)])) t
    refine X0.laload hx (j := (2 : Int32)) (v := (.long x2)) (by rw [e0]; exact Ar1.1) (State.isArrayOf_alike hZ.alike Ar1.2.1) Ar1.2.2 hin1 hat1 (g := (mkF m 17 #[.val (.ref qa), .val (.int (0 : Int32)), .val (.int (2 : Int32))] [(.int (2 : Int32)), (.ref qa)])) rfl rfl (hb hby d4_17) _ ?_
    show Steps p.tables e below (s₁.setTop (mkF m 18 #[.val (.ref qa), .val (.int (0 : Int32)), .val (.int (2 : Int32))] [(.long x2)])) t
    exact k)
  obtain ⟨fs, hr, hrun, hended, hW, hsame⟩ := X0.leave (v := some (.long x2)) (fun h => by rw [Bd.returns] at h; cases h)
  refine ⟨_, _, own_from hS0 (P2 _ ?_), hrun, hended, _, _, rfl, ?_, ⟨_, rfl⟩, hW, hsame.mono (by decide) (by decide)⟩
  · show Steps p.tables e below (s₁.setTop (mkF m 18 #[.val (.ref qa), .val (.int (0 : Int32)), .val (.int (2 : Int32))] [(.long x2)])) _
    jvm_step X0.here [X0.here.top, hx, (hb hby d4_18), X0.method', Bd.returns, narrow]
    first | (intro acts; rw [hr _ acts rfl rfl rfl]) | rw [hr _ _ rfl rfl rfl]
    exact Steps.refl _
  · show Q4_0_2 Z qa qk x0 x1 x2 x3 x4 h0 n0 _ s₁.heap _
    rw [e0]
    exact ⟨rfl, N0, rfl⟩
theorem ef_4_0_3 (m : MethodId) (qa : Addr) : entryFrame m #[(.ref qa), (.int (0 : Int32)), (.int (3 : Int32))] 3 = mkF m 0 #[.val (.ref qa), .val (.int (0 : Int32)), .val (.int (3 : Int32))] [] := by first | (simp [entryFrame, mkF, argsToLocals, Value.category]; done) | rfl
def Q4_0_3 (Z : State) (qa : Addr) (qk : ClassId) (x0 : Int64) (x1 : Int64) (x2 : Int64) (x3 : Int64) (x4 : Int64) (h0 : Heap) (n0 : Nat) (v : Option Value) (h : Heap) (L : List Loc) : Prop := v = some (.long x3) ∧ Fr n0 L ∧ h = h0
set_option maxRecDepth 65536 in
set_option maxHeartbeats 40000000 in
theorem rm4_0_3 (l : Launch) (Z : State) (a0 : Array Value) (hw : ∀ d ∈ tables_1, d.before a0 Z = true) (ws : List Jvm.Cond) (qa : Addr) (qk : ClassId) (x0 : Int64) (x1 : Int64) (x2 : Int64) (x3 : Int64) (x4 : Int64) (h0 : Heap) (n0 : Nat) (Z0 : n0 ≤ h0.size) (A_qa : Arv Z h0 qa qk .long (5 : Int32) [(.long x0), (.long x1), (.long x2), (.long x3), (.long x4)] (.long (0 : Int64))) :
    MetFree l (⟨"com/example/splice/splice/KeysReversePinLaw", "at", "([JII)J"⟩ : MethodName) (head1 (Jvm.Cond.code (⟨"com/example/splice/splice/KeysReversePinLaw", "at", "([JII)J"⟩ : MethodName) method_2_code 3 (some .long) :: ws) ({ frames := 0, cells := 0, slots := 0, locals := 0 } : Room)) (fun a U => a = #[(.ref qa), (.int (0 : Int32)), (.int (3 : Int32))] ∧ Z.Warmed39 U.vm ∧ U.heap = h0) (fun _ _ _ _ _ => True) (fun _ U o U' => ∃ v L, o = .returned v ∧ Q4_0_3 Z qa qk x0 x1 x2 x3 x4 h0 n0 v U'.heap L ∧ FrameEnd U o U' L ({ frames := 0, cells := 0, slots := 0, locals := 0 } : Room).cells ({ frames := 0, cells := 0, slots := 0, locals := 0 } : Room).slots) := by
  refine MetFree.of_bodySF (plainFor_of_name pn_4) hisR ?_
  intro p e s m args below meth c s₁ Bd hml0 hP hK
  obtain ⟨rfl, hZ, hh⟩ := hP
  have hx := Bd.exec
  have hby := Bd.bytes
  have hml : c.maxLocals = 3 := hml0
  have hown : s.vm.findClass "com/example/splice/splice/KeysReversePinLaw" = some m.cls := findClass_of_methodNamed Bd.named
  have hnm := (name_of_methodNamed Bd.named Bd.method).1
  have X0 : Stand p l e ({ frames := 0, cells := 0, slots := 0, locals := 0 } : Room) s m #[(.ref qa), (.int (0 : Int32)), (.int (3 : Int32))] below meth c s₁ [] 0 0 := Stand.of_body Bd
  have e0 : s₁.heap = h0 := by rw [← hh, Bd.state]; rfl
  have N0 := Fr.nil n0
  obtain ⟨S0, hS0⟩ : ∃ z, z = s₁.setTop (entryFrame m #[(.ref qa), (.int (0 : Int32)), (.int (3 : Int32))] 3) := ⟨_, rfl⟩
  have P0 : own_Go p e below S0 (s₁.setTop (mkF m 0 #[.val (.ref qa), .val (.int (0 : Int32)), .val (.int (3 : Int32))] [])) := fun t k => by rw [hS0]; exact castTop (ef_4_0_3 m qa) k
  obtain ⟨cl1, Ar1, q1, Sz1, Nn1, Hh1, Gg1⟩ := id A_qa
  have hin1 : ¬ ((3 : Int32) < 0 ∨ cl1.slots.size ≤ ((3 : Int32)).toNatClampNeg) := inb_of Sz1 ⟨by decide, by decide⟩
  have hat1 : cl1.slots[((3 : Int32)).toNatClampNeg]? = some (.long x3) := Has.at Hh1 hin1 rfl
  have P2 : own_Go p e below S0 (s₁.setTop (mkF m 18 #[.val (.ref qa), .val (.int (0 : Int32)), .val (.int (3 : Int32))] [(.long x3)])) := fun t k => P0 t (by
    show Steps p.tables e below (s₁.setTop (mkF m 0 #[.val (.ref qa), .val (.int (0 : Int32)), .val (.int (3 : Int32))] [])) t
    refine XS.iloadN X0.here hx rfl (hb hby d4_0) rfl ?_
    refine XS.iloadN X0.here hx rfl (hb hby d4_1) rfl ?_
    refine XS.icmpYes X0.here hx rfl (pc0 := 2) (pc' := 15) rfl (hb hby d4_2) rfl (flt (by decide)).2.1 (by decide) (by decide) ?_
    refine XS.aloadN X0.here hx rfl (hb hby d4_15) rfl rfl ?_
    refine XS.iloadN X0.here hx rfl (hb hby d4_16) rfl ?_
    show Steps p.tables e below (s₁.setTop (mkF m 17 #[.val (.ref qa), .val (.int (0 : Int32)), .val (.int (3 : Int32))] [(.int (3 : Int32)), (.ref qa)])) t
    refine X0.laload hx (j := (3 : Int32)) (v := (.long x3)) (by rw [e0]; exact Ar1.1) (State.isArrayOf_alike hZ.alike Ar1.2.1) Ar1.2.2 hin1 hat1 (g := (mkF m 17 #[.val (.ref qa), .val (.int (0 : Int32)), .val (.int (3 : Int32))] [(.int (3 : Int32)), (.ref qa)])) rfl rfl (hb hby d4_17) _ ?_
    show Steps p.tables e below (s₁.setTop (mkF m 18 #[.val (.ref qa), .val (.int (0 : Int32)), .val (.int (3 : Int32))] [(.long x3)])) t
    exact k)
  obtain ⟨fs, hr, hrun, hended, hW, hsame⟩ := X0.leave (v := some (.long x3)) (fun h => by rw [Bd.returns] at h; cases h)
  refine ⟨_, _, own_from hS0 (P2 _ ?_), hrun, hended, _, _, rfl, ?_, ⟨_, rfl⟩, hW, hsame.mono (by decide) (by decide)⟩
  · show Steps p.tables e below (s₁.setTop (mkF m 18 #[.val (.ref qa), .val (.int (0 : Int32)), .val (.int (3 : Int32))] [(.long x3)])) _
    jvm_step X0.here [X0.here.top, hx, (hb hby d4_18), X0.method', Bd.returns, narrow]
    first | (intro acts; rw [hr _ acts rfl rfl rfl]) | rw [hr _ _ rfl rfl rfl]
    exact Steps.refl _
  · show Q4_0_3 Z qa qk x0 x1 x2 x3 x4 h0 n0 _ s₁.heap _
    rw [e0]
    exact ⟨rfl, N0, rfl⟩
theorem ef_4_0_4 (m : MethodId) (qa : Addr) : entryFrame m #[(.ref qa), (.int (0 : Int32)), (.int (4 : Int32))] 3 = mkF m 0 #[.val (.ref qa), .val (.int (0 : Int32)), .val (.int (4 : Int32))] [] := by first | (simp [entryFrame, mkF, argsToLocals, Value.category]; done) | rfl
def Q4_0_4 (Z : State) (qa : Addr) (qk : ClassId) (x0 : Int64) (x1 : Int64) (x2 : Int64) (x3 : Int64) (x4 : Int64) (h0 : Heap) (n0 : Nat) (v : Option Value) (h : Heap) (L : List Loc) : Prop := v = some (.long x4) ∧ Fr n0 L ∧ h = h0
set_option maxRecDepth 65536 in
set_option maxHeartbeats 40000000 in
theorem rm4_0_4 (l : Launch) (Z : State) (a0 : Array Value) (hw : ∀ d ∈ tables_1, d.before a0 Z = true) (ws : List Jvm.Cond) (qa : Addr) (qk : ClassId) (x0 : Int64) (x1 : Int64) (x2 : Int64) (x3 : Int64) (x4 : Int64) (h0 : Heap) (n0 : Nat) (Z0 : n0 ≤ h0.size) (A_qa : Arv Z h0 qa qk .long (5 : Int32) [(.long x0), (.long x1), (.long x2), (.long x3), (.long x4)] (.long (0 : Int64))) :
    MetFree l (⟨"com/example/splice/splice/KeysReversePinLaw", "at", "([JII)J"⟩ : MethodName) (head1 (Jvm.Cond.code (⟨"com/example/splice/splice/KeysReversePinLaw", "at", "([JII)J"⟩ : MethodName) method_2_code 3 (some .long) :: ws) ({ frames := 0, cells := 0, slots := 0, locals := 0 } : Room)) (fun a U => a = #[(.ref qa), (.int (0 : Int32)), (.int (4 : Int32))] ∧ Z.Warmed39 U.vm ∧ U.heap = h0) (fun _ _ _ _ _ => True) (fun _ U o U' => ∃ v L, o = .returned v ∧ Q4_0_4 Z qa qk x0 x1 x2 x3 x4 h0 n0 v U'.heap L ∧ FrameEnd U o U' L ({ frames := 0, cells := 0, slots := 0, locals := 0 } : Room).cells ({ frames := 0, cells := 0, slots := 0, locals := 0 } : Room).slots) := by
  refine MetFree.of_bodySF (plainFor_of_name pn_4) hisR ?_
  intro p e s m args below meth c s₁ Bd hml0 hP hK
  obtain ⟨rfl, hZ, hh⟩ := hP
  have hx := Bd.exec
  have hby := Bd.bytes
  have hml : c.maxLocals = 3 := hml0
  have hown : s.vm.findClass "com/example/splice/splice/KeysReversePinLaw" = some m.cls := findClass_of_methodNamed Bd.named
  have hnm := (name_of_methodNamed Bd.named Bd.method).1
  have X0 : Stand p l e ({ frames := 0, cells := 0, slots := 0, locals := 0 } : Room) s m #[(.ref qa), (.int (0 : Int32)), (.int (4 : Int32))] below meth c s₁ [] 0 0 := Stand.of_body Bd
  have e0 : s₁.heap = h0 := by rw [← hh, Bd.state]; rfl
  have N0 := Fr.nil n0
  obtain ⟨S0, hS0⟩ : ∃ z, z = s₁.setTop (entryFrame m #[(.ref qa), (.int (0 : Int32)), (.int (4 : Int32))] 3) := ⟨_, rfl⟩
  have P0 : own_Go p e below S0 (s₁.setTop (mkF m 0 #[.val (.ref qa), .val (.int (0 : Int32)), .val (.int (4 : Int32))] [])) := fun t k => by rw [hS0]; exact castTop (ef_4_0_4 m qa) k
  obtain ⟨cl1, Ar1, q1, Sz1, Nn1, Hh1, Gg1⟩ := id A_qa
  have hin1 : ¬ ((4 : Int32) < 0 ∨ cl1.slots.size ≤ ((4 : Int32)).toNatClampNeg) := inb_of Sz1 ⟨by decide, by decide⟩
  have hat1 : cl1.slots[((4 : Int32)).toNatClampNeg]? = some (.long x4) := Has.at Hh1 hin1 rfl
  have P2 : own_Go p e below S0 (s₁.setTop (mkF m 18 #[.val (.ref qa), .val (.int (0 : Int32)), .val (.int (4 : Int32))] [(.long x4)])) := fun t k => P0 t (by
    show Steps p.tables e below (s₁.setTop (mkF m 0 #[.val (.ref qa), .val (.int (0 : Int32)), .val (.int (4 : Int32))] [])) t
    refine XS.iloadN X0.here hx rfl (hb hby d4_0) rfl ?_
    refine XS.iloadN X0.here hx rfl (hb hby d4_1) rfl ?_
    refine XS.icmpYes X0.here hx rfl (pc0 := 2) (pc' := 15) rfl (hb hby d4_2) rfl (flt (by decide)).2.1 (by decide) (by decide) ?_
    refine XS.aloadN X0.here hx rfl (hb hby d4_15) rfl rfl ?_
    refine XS.iloadN X0.here hx rfl (hb hby d4_16) rfl ?_
    show Steps p.tables e below (s₁.setTop (mkF m 17 #[.val (.ref qa), .val (.int (0 : Int32)), .val (.int (4 : Int32))] [(.int (4 : Int32)), (.ref qa)])) t
    refine X0.laload hx (j := (4 : Int32)) (v := (.long x4)) (by rw [e0]; exact Ar1.1) (State.isArrayOf_alike hZ.alike Ar1.2.1) Ar1.2.2 hin1 hat1 (g := (mkF m 17 #[.val (.ref qa), .val (.int (0 : Int32)), .val (.int (4 : Int32))] [(.int (4 : Int32)), (.ref qa)])) rfl rfl (hb hby d4_17) _ ?_
    show Steps p.tables e below (s₁.setTop (mkF m 18 #[.val (.ref qa), .val (.int (0 : Int32)), .val (.int (4 : Int32))] [(.long x4)])) t
    exact k)
  obtain ⟨fs, hr, hrun, hended, hW, hsame⟩ := X0.leave (v := some (.long x4)) (fun h => by rw [Bd.returns] at h; cases h)
  refine ⟨_, _, own_from hS0 (P2 _ ?_), hrun, hended, _, _, rfl, ?_, ⟨_, rfl⟩, hW, hsame.mono (by decide) (by decide)⟩
  · show Steps p.tables e below (s₁.setTop (mkF m 18 #[.val (.ref qa), .val (.int (0 : Int32)), .val (.int (4 : Int32))] [(.long x4)])) _
    jvm_step X0.here [X0.here.top, hx, (hb hby d4_18), X0.method', Bd.returns, narrow]
    first | (intro acts; rw [hr _ acts rfl rfl rfl]) | rw [hr _ _ rfl rfl rfl]
    exact Steps.refl _
  · show Q4_0_4 Z qa qk x0 x1 x2 x3 x4 h0 n0 _ s₁.heap _
    rw [e0]
    exact ⟨rfl, N0, rfl⟩
theorem d4_5 : decode method_2_code 5 = .ok (.aload_n 0, 1) := by decide +kernel
theorem d4_6 : decode method_2_code 6 = .ok (.iload_n 1, 1) := by decide +kernel
theorem d4_7 : decode method_2_code 7 = .ok (.iconst 1, 1) := by decide +kernel
theorem d4_8 : decode method_2_code 8 = .ok (.isub, 1) := by decide +kernel
theorem d4_9 : decode method_2_code 9 = .ok (.iload_n 2, 1) := by decide +kernel
theorem d4_10 : decode method_2_code 10 = .ok (.isub, 1) := by decide +kernel
theorem d4_11 : decode method_2_code 11 = .ok (.laload, 1) := by decide +kernel
theorem d4_12 : decode method_2_code 12 = .ok (.goto 6, 3) := by decide +kernel
theorem ef_4_1_0 (m : MethodId) (qa : Addr) : entryFrame m #[(.ref qa), (.int (1 : Int32)), (.int (0 : Int32))] 3 = mkF m 0 #[.val (.ref qa), .val (.int (1 : Int32)), .val (.int (0 : Int32))] [] := by first | (simp [entryFrame, mkF, argsToLocals, Value.category]; done) | rfl
def Q4_1_0 (Z : State) (qa : Addr) (qk : ClassId) (x0 : Int64) (x1 : Int64) (x2 : Int64) (x3 : Int64) (x4 : Int64) (h0 : Heap) (n0 : Nat) (v : Option Value) (h : Heap) (L : List Loc) : Prop := v = some (.long x0) ∧ Fr n0 L ∧ h = h0
set_option maxRecDepth 65536 in
set_option maxHeartbeats 40000000 in
theorem rm4_1_0 (l : Launch) (Z : State) (a0 : Array Value) (hw : ∀ d ∈ tables_1, d.before a0 Z = true) (ws : List Jvm.Cond) (qa : Addr) (qk : ClassId) (x0 : Int64) (x1 : Int64) (x2 : Int64) (x3 : Int64) (x4 : Int64) (h0 : Heap) (n0 : Nat) (Z0 : n0 ≤ h0.size) (A_qa : Arv Z h0 qa qk .long (5 : Int32) [(.long x0), (.long x1), (.long x2), (.long x3), (.long x4)] (.long (0 : Int64))) :
    MetFree l (⟨"com/example/splice/splice/KeysReversePinLaw", "at", "([JII)J"⟩ : MethodName) (head1 (Jvm.Cond.code (⟨"com/example/splice/splice/KeysReversePinLaw", "at", "([JII)J"⟩ : MethodName) method_2_code 3 (some .long) :: ws) ({ frames := 0, cells := 0, slots := 0, locals := 0 } : Room)) (fun a U => a = #[(.ref qa), (.int (1 : Int32)), (.int (0 : Int32))] ∧ Z.Warmed39 U.vm ∧ U.heap = h0) (fun _ _ _ _ _ => True) (fun _ U o U' => ∃ v L, o = .returned v ∧ Q4_1_0 Z qa qk x0 x1 x2 x3 x4 h0 n0 v U'.heap L ∧ FrameEnd U o U' L ({ frames := 0, cells := 0, slots := 0, locals := 0 } : Room).cells ({ frames := 0, cells := 0, slots := 0, locals := 0 } : Room).slots) := by
  refine MetFree.of_bodySF (plainFor_of_name pn_4) hisR ?_
  intro p e s m args below meth c s₁ Bd hml0 hP hK
  obtain ⟨rfl, hZ, hh⟩ := hP
  have hx := Bd.exec
  have hby := Bd.bytes
  have hml : c.maxLocals = 3 := hml0
  have hown : s.vm.findClass "com/example/splice/splice/KeysReversePinLaw" = some m.cls := findClass_of_methodNamed Bd.named
  have hnm := (name_of_methodNamed Bd.named Bd.method).1
  have X0 : Stand p l e ({ frames := 0, cells := 0, slots := 0, locals := 0 } : Room) s m #[(.ref qa), (.int (1 : Int32)), (.int (0 : Int32))] below meth c s₁ [] 0 0 := Stand.of_body Bd
  have e0 : s₁.heap = h0 := by rw [← hh, Bd.state]; rfl
  have N0 := Fr.nil n0
  obtain ⟨S0, hS0⟩ : ∃ z, z = s₁.setTop (entryFrame m #[(.ref qa), (.int (1 : Int32)), (.int (0 : Int32))] 3) := ⟨_, rfl⟩
  have P0 : own_Go p e below S0 (s₁.setTop (mkF m 0 #[.val (.ref qa), .val (.int (1 : Int32)), .val (.int (0 : Int32))] [])) := fun t k => by rw [hS0]; exact castTop (ef_4_1_0 m qa) k
  obtain ⟨cl1, Ar1, q1, Sz1, Nn1, Hh1, Gg1⟩ := id A_qa
  have hin1 : ¬ ((0 : Int32) < 0 ∨ cl1.slots.size ≤ ((0 : Int32)).toNatClampNeg) := inb_of Sz1 ⟨by decide, by decide⟩
  have hat1 : cl1.slots[((0 : Int32)).toNatClampNeg]? = some (.long x0) := Has.at Hh1 hin1 rfl
  have P2 : own_Go p e below S0 (s₁.setTop (mkF m 18 #[.val (.ref qa), .val (.int (1 : Int32)), .val (.int (0 : Int32))] [(.long x0)])) := fun t k => P0 t (by
    show Steps p.tables e below (s₁.setTop (mkF m 0 #[.val (.ref qa), .val (.int (1 : Int32)), .val (.int (0 : Int32))] [])) t
    refine XS.iloadN X0.here hx rfl (hb hby d4_0) rfl ?_
    refine XS.iloadN X0.here hx rfl (hb hby d4_1) rfl ?_
    refine XS.icmpNo X0.here hx rfl (hb hby d4_2) rfl (tlt (by decide)).2.1 ?_
    refine XS.aloadN X0.here hx rfl (hb hby d4_5) rfl rfl ?_
    refine XS.iloadN X0.here hx rfl (hb hby d4_6) rfl ?_
    refine XS.iconst X0.here hx rfl (hb hby d4_7) ?_
    show Steps p.tables e below (s₁.setTop (mkF m 8 #[.val (.ref qa), .val (.int (1 : Int32)), .val (.int (0 : Int32))] [(.int (1 : Int32)), (.int (1 : Int32)), (.ref qa)])) t
    refine XS.isub X0.here hx rfl (hb hby d4_8) rfl ?_
    refine XS.iloadN X0.here hx rfl (hb hby d4_9) rfl ?_
    refine XS.isub X0.here hx rfl (hb hby d4_10) rfl ?_
    show Steps p.tables e below (s₁.setTop (mkF m 11 #[.val (.ref qa), .val (.int (1 : Int32)), .val (.int (0 : Int32))] [(.int (0 : Int32)), (.ref qa)])) t
    refine X0.laload hx (j := (0 : Int32)) (v := (.long x0)) (by rw [e0]; exact Ar1.1) (State.isArrayOf_alike hZ.alike Ar1.2.1) Ar1.2.2 hin1 hat1 (g := (mkF m 11 #[.val (.ref qa), .val (.int (1 : Int32)), .val (.int (0 : Int32))] [(.int (0 : Int32)), (.ref qa)])) rfl rfl (hb hby d4_11) _ ?_
    refine XS.goto X0.here hx rfl (pc0 := 12) (pc' := 18) rfl (hb hby d4_12) (by decide) (by decide) ?_
    show Steps p.tables e below (s₁.setTop (mkF m 18 #[.val (.ref qa), .val (.int (1 : Int32)), .val (.int (0 : Int32))] [(.long x0)])) t
    exact k)
  obtain ⟨fs, hr, hrun, hended, hW, hsame⟩ := X0.leave (v := some (.long x0)) (fun h => by rw [Bd.returns] at h; cases h)
  refine ⟨_, _, own_from hS0 (P2 _ ?_), hrun, hended, _, _, rfl, ?_, ⟨_, rfl⟩, hW, hsame.mono (by decide) (by decide)⟩
  · show Steps p.tables e below (s₁.setTop (mkF m 18 #[.val (.ref qa), .val (.int (1 : Int32)), .val (.int (0 : Int32))] [(.long x0)])) _
    jvm_step X0.here [X0.here.top, hx, (hb hby d4_18), X0.method', Bd.returns, narrow]
    first | (intro acts; rw [hr _ acts rfl rfl rfl]) | rw [hr _ _ rfl rfl rfl]
    exact Steps.refl _
  · show Q4_1_0 Z qa qk x0 x1 x2 x3 x4 h0 n0 _ s₁.heap _
    rw [e0]
    exact ⟨rfl, N0, rfl⟩
theorem ef_4_1_1 (m : MethodId) (qa : Addr) : entryFrame m #[(.ref qa), (.int (1 : Int32)), (.int (1 : Int32))] 3 = mkF m 0 #[.val (.ref qa), .val (.int (1 : Int32)), .val (.int (1 : Int32))] [] := by first | (simp [entryFrame, mkF, argsToLocals, Value.category]; done) | rfl
def Q4_1_1 (Z : State) (qa : Addr) (qk : ClassId) (x0 : Int64) (x1 : Int64) (x2 : Int64) (x3 : Int64) (x4 : Int64) (h0 : Heap) (n0 : Nat) (v : Option Value) (h : Heap) (L : List Loc) : Prop := v = some (.long x1) ∧ Fr n0 L ∧ h = h0
set_option maxRecDepth 65536 in
set_option maxHeartbeats 40000000 in
theorem rm4_1_1 (l : Launch) (Z : State) (a0 : Array Value) (hw : ∀ d ∈ tables_1, d.before a0 Z = true) (ws : List Jvm.Cond) (qa : Addr) (qk : ClassId) (x0 : Int64) (x1 : Int64) (x2 : Int64) (x3 : Int64) (x4 : Int64) (h0 : Heap) (n0 : Nat) (Z0 : n0 ≤ h0.size) (A_qa : Arv Z h0 qa qk .long (5 : Int32) [(.long x0), (.long x1), (.long x2), (.long x3), (.long x4)] (.long (0 : Int64))) :
    MetFree l (⟨"com/example/splice/splice/KeysReversePinLaw", "at", "([JII)J"⟩ : MethodName) (head1 (Jvm.Cond.code (⟨"com/example/splice/splice/KeysReversePinLaw", "at", "([JII)J"⟩ : MethodName) method_2_code 3 (some .long) :: ws) ({ frames := 0, cells := 0, slots := 0, locals := 0 } : Room)) (fun a U => a = #[(.ref qa), (.int (1 : Int32)), (.int (1 : Int32))] ∧ Z.Warmed39 U.vm ∧ U.heap = h0) (fun _ _ _ _ _ => True) (fun _ U o U' => ∃ v L, o = .returned v ∧ Q4_1_1 Z qa qk x0 x1 x2 x3 x4 h0 n0 v U'.heap L ∧ FrameEnd U o U' L ({ frames := 0, cells := 0, slots := 0, locals := 0 } : Room).cells ({ frames := 0, cells := 0, slots := 0, locals := 0 } : Room).slots) := by
  refine MetFree.of_bodySF (plainFor_of_name pn_4) hisR ?_
  intro p e s m args below meth c s₁ Bd hml0 hP hK
  obtain ⟨rfl, hZ, hh⟩ := hP
  have hx := Bd.exec
  have hby := Bd.bytes
  have hml : c.maxLocals = 3 := hml0
  have hown : s.vm.findClass "com/example/splice/splice/KeysReversePinLaw" = some m.cls := findClass_of_methodNamed Bd.named
  have hnm := (name_of_methodNamed Bd.named Bd.method).1
  have X0 : Stand p l e ({ frames := 0, cells := 0, slots := 0, locals := 0 } : Room) s m #[(.ref qa), (.int (1 : Int32)), (.int (1 : Int32))] below meth c s₁ [] 0 0 := Stand.of_body Bd
  have e0 : s₁.heap = h0 := by rw [← hh, Bd.state]; rfl
  have N0 := Fr.nil n0
  obtain ⟨S0, hS0⟩ : ∃ z, z = s₁.setTop (entryFrame m #[(.ref qa), (.int (1 : Int32)), (.int (1 : Int32))] 3) := ⟨_, rfl⟩
  have P0 : own_Go p e below S0 (s₁.setTop (mkF m 0 #[.val (.ref qa), .val (.int (1 : Int32)), .val (.int (1 : Int32))] [])) := fun t k => by rw [hS0]; exact castTop (ef_4_1_1 m qa) k
  obtain ⟨cl1, Ar1, q1, Sz1, Nn1, Hh1, Gg1⟩ := id A_qa
  have hin1 : ¬ ((1 : Int32) < 0 ∨ cl1.slots.size ≤ ((1 : Int32)).toNatClampNeg) := inb_of Sz1 ⟨by decide, by decide⟩
  have hat1 : cl1.slots[((1 : Int32)).toNatClampNeg]? = some (.long x1) := Has.at Hh1 hin1 rfl
  have P2 : own_Go p e below S0 (s₁.setTop (mkF m 18 #[.val (.ref qa), .val (.int (1 : Int32)), .val (.int (1 : Int32))] [(.long x1)])) := fun t k => P0 t (by
    show Steps p.tables e below (s₁.setTop (mkF m 0 #[.val (.ref qa), .val (.int (1 : Int32)), .val (.int (1 : Int32))] [])) t
    refine XS.iloadN X0.here hx rfl (hb hby d4_0) rfl ?_
    refine XS.iloadN X0.here hx rfl (hb hby d4_1) rfl ?_
    refine XS.icmpYes X0.here hx rfl (pc0 := 2) (pc' := 15) rfl (hb hby d4_2) rfl (flt (by decide)).2.1 (by decide) (by decide) ?_
    refine XS.aloadN X0.here hx rfl (hb hby d4_15) rfl rfl ?_
    refine XS.iloadN X0.here hx rfl (hb hby d4_16) rfl ?_
    show Steps p.tables e below (s₁.setTop (mkF m 17 #[.val (.ref qa), .val (.int (1 : Int32)), .val (.int (1 : Int32))] [(.int (1 : Int32)), (.ref qa)])) t
    refine X0.laload hx (j := (1 : Int32)) (v := (.long x1)) (by rw [e0]; exact Ar1.1) (State.isArrayOf_alike hZ.alike Ar1.2.1) Ar1.2.2 hin1 hat1 (g := (mkF m 17 #[.val (.ref qa), .val (.int (1 : Int32)), .val (.int (1 : Int32))] [(.int (1 : Int32)), (.ref qa)])) rfl rfl (hb hby d4_17) _ ?_
    show Steps p.tables e below (s₁.setTop (mkF m 18 #[.val (.ref qa), .val (.int (1 : Int32)), .val (.int (1 : Int32))] [(.long x1)])) t
    exact k)
  obtain ⟨fs, hr, hrun, hended, hW, hsame⟩ := X0.leave (v := some (.long x1)) (fun h => by rw [Bd.returns] at h; cases h)
  refine ⟨_, _, own_from hS0 (P2 _ ?_), hrun, hended, _, _, rfl, ?_, ⟨_, rfl⟩, hW, hsame.mono (by decide) (by decide)⟩
  · show Steps p.tables e below (s₁.setTop (mkF m 18 #[.val (.ref qa), .val (.int (1 : Int32)), .val (.int (1 : Int32))] [(.long x1)])) _
    jvm_step X0.here [X0.here.top, hx, (hb hby d4_18), X0.method', Bd.returns, narrow]
    first | (intro acts; rw [hr _ acts rfl rfl rfl]) | rw [hr _ _ rfl rfl rfl]
    exact Steps.refl _
  · show Q4_1_1 Z qa qk x0 x1 x2 x3 x4 h0 n0 _ s₁.heap _
    rw [e0]
    exact ⟨rfl, N0, rfl⟩
theorem ef_4_1_2 (m : MethodId) (qa : Addr) : entryFrame m #[(.ref qa), (.int (1 : Int32)), (.int (2 : Int32))] 3 = mkF m 0 #[.val (.ref qa), .val (.int (1 : Int32)), .val (.int (2 : Int32))] [] := by first | (simp [entryFrame, mkF, argsToLocals, Value.category]; done) | rfl
def Q4_1_2 (Z : State) (qa : Addr) (qk : ClassId) (x0 : Int64) (x1 : Int64) (x2 : Int64) (x3 : Int64) (x4 : Int64) (h0 : Heap) (n0 : Nat) (v : Option Value) (h : Heap) (L : List Loc) : Prop := v = some (.long x2) ∧ Fr n0 L ∧ h = h0
set_option maxRecDepth 65536 in
set_option maxHeartbeats 40000000 in
theorem rm4_1_2 (l : Launch) (Z : State) (a0 : Array Value) (hw : ∀ d ∈ tables_1, d.before a0 Z = true) (ws : List Jvm.Cond) (qa : Addr) (qk : ClassId) (x0 : Int64) (x1 : Int64) (x2 : Int64) (x3 : Int64) (x4 : Int64) (h0 : Heap) (n0 : Nat) (Z0 : n0 ≤ h0.size) (A_qa : Arv Z h0 qa qk .long (5 : Int32) [(.long x0), (.long x1), (.long x2), (.long x3), (.long x4)] (.long (0 : Int64))) :
    MetFree l (⟨"com/example/splice/splice/KeysReversePinLaw", "at", "([JII)J"⟩ : MethodName) (head1 (Jvm.Cond.code (⟨"com/example/splice/splice/KeysReversePinLaw", "at", "([JII)J"⟩ : MethodName) method_2_code 3 (some .long) :: ws) ({ frames := 0, cells := 0, slots := 0, locals := 0 } : Room)) (fun a U => a = #[(.ref qa), (.int (1 : Int32)), (.int (2 : Int32))] ∧ Z.Warmed39 U.vm ∧ U.heap = h0) (fun _ _ _ _ _ => True) (fun _ U o U' => ∃ v L, o = .returned v ∧ Q4_1_2 Z qa qk x0 x1 x2 x3 x4 h0 n0 v U'.heap L ∧ FrameEnd U o U' L ({ frames := 0, cells := 0, slots := 0, locals := 0 } : Room).cells ({ frames := 0, cells := 0, slots := 0, locals := 0 } : Room).slots) := by
  refine MetFree.of_bodySF (plainFor_of_name pn_4) hisR ?_
  intro p e s m args below meth c s₁ Bd hml0 hP hK
  obtain ⟨rfl, hZ, hh⟩ := hP
  have hx := Bd.exec
  have hby := Bd.bytes
  have hml : c.maxLocals = 3 := hml0
  have hown : s.vm.findClass "com/example/splice/splice/KeysReversePinLaw" = some m.cls := findClass_of_methodNamed Bd.named
  have hnm := (name_of_methodNamed Bd.named Bd.method).1
  have X0 : Stand p l e ({ frames := 0, cells := 0, slots := 0, locals := 0 } : Room) s m #[(.ref qa), (.int (1 : Int32)), (.int (2 : Int32))] below meth c s₁ [] 0 0 := Stand.of_body Bd
  have e0 : s₁.heap = h0 := by rw [← hh, Bd.state]; rfl
  have N0 := Fr.nil n0
  obtain ⟨S0, hS0⟩ : ∃ z, z = s₁.setTop (entryFrame m #[(.ref qa), (.int (1 : Int32)), (.int (2 : Int32))] 3) := ⟨_, rfl⟩
  have P0 : own_Go p e below S0 (s₁.setTop (mkF m 0 #[.val (.ref qa), .val (.int (1 : Int32)), .val (.int (2 : Int32))] [])) := fun t k => by rw [hS0]; exact castTop (ef_4_1_2 m qa) k
  obtain ⟨cl1, Ar1, q1, Sz1, Nn1, Hh1, Gg1⟩ := id A_qa
  have hin1 : ¬ ((2 : Int32) < 0 ∨ cl1.slots.size ≤ ((2 : Int32)).toNatClampNeg) := inb_of Sz1 ⟨by decide, by decide⟩
  have hat1 : cl1.slots[((2 : Int32)).toNatClampNeg]? = some (.long x2) := Has.at Hh1 hin1 rfl
  have P2 : own_Go p e below S0 (s₁.setTop (mkF m 18 #[.val (.ref qa), .val (.int (1 : Int32)), .val (.int (2 : Int32))] [(.long x2)])) := fun t k => P0 t (by
    show Steps p.tables e below (s₁.setTop (mkF m 0 #[.val (.ref qa), .val (.int (1 : Int32)), .val (.int (2 : Int32))] [])) t
    refine XS.iloadN X0.here hx rfl (hb hby d4_0) rfl ?_
    refine XS.iloadN X0.here hx rfl (hb hby d4_1) rfl ?_
    refine XS.icmpYes X0.here hx rfl (pc0 := 2) (pc' := 15) rfl (hb hby d4_2) rfl (flt (by decide)).2.1 (by decide) (by decide) ?_
    refine XS.aloadN X0.here hx rfl (hb hby d4_15) rfl rfl ?_
    refine XS.iloadN X0.here hx rfl (hb hby d4_16) rfl ?_
    show Steps p.tables e below (s₁.setTop (mkF m 17 #[.val (.ref qa), .val (.int (1 : Int32)), .val (.int (2 : Int32))] [(.int (2 : Int32)), (.ref qa)])) t
    refine X0.laload hx (j := (2 : Int32)) (v := (.long x2)) (by rw [e0]; exact Ar1.1) (State.isArrayOf_alike hZ.alike Ar1.2.1) Ar1.2.2 hin1 hat1 (g := (mkF m 17 #[.val (.ref qa), .val (.int (1 : Int32)), .val (.int (2 : Int32))] [(.int (2 : Int32)), (.ref qa)])) rfl rfl (hb hby d4_17) _ ?_
    show Steps p.tables e below (s₁.setTop (mkF m 18 #[.val (.ref qa), .val (.int (1 : Int32)), .val (.int (2 : Int32))] [(.long x2)])) t
    exact k)
  obtain ⟨fs, hr, hrun, hended, hW, hsame⟩ := X0.leave (v := some (.long x2)) (fun h => by rw [Bd.returns] at h; cases h)
  refine ⟨_, _, own_from hS0 (P2 _ ?_), hrun, hended, _, _, rfl, ?_, ⟨_, rfl⟩, hW, hsame.mono (by decide) (by decide)⟩
  · show Steps p.tables e below (s₁.setTop (mkF m 18 #[.val (.ref qa), .val (.int (1 : Int32)), .val (.int (2 : Int32))] [(.long x2)])) _
    jvm_step X0.here [X0.here.top, hx, (hb hby d4_18), X0.method', Bd.returns, narrow]
    first | (intro acts; rw [hr _ acts rfl rfl rfl]) | rw [hr _ _ rfl rfl rfl]
    exact Steps.refl _
  · show Q4_1_2 Z qa qk x0 x1 x2 x3 x4 h0 n0 _ s₁.heap _
    rw [e0]
    exact ⟨rfl, N0, rfl⟩
theorem ef_4_1_3 (m : MethodId) (qa : Addr) : entryFrame m #[(.ref qa), (.int (1 : Int32)), (.int (3 : Int32))] 3 = mkF m 0 #[.val (.ref qa), .val (.int (1 : Int32)), .val (.int (3 : Int32))] [] := by first | (simp [entryFrame, mkF, argsToLocals, Value.category]; done) | rfl
def Q4_1_3 (Z : State) (qa : Addr) (qk : ClassId) (x0 : Int64) (x1 : Int64) (x2 : Int64) (x3 : Int64) (x4 : Int64) (h0 : Heap) (n0 : Nat) (v : Option Value) (h : Heap) (L : List Loc) : Prop := v = some (.long x3) ∧ Fr n0 L ∧ h = h0
set_option maxRecDepth 65536 in
set_option maxHeartbeats 40000000 in
theorem rm4_1_3 (l : Launch) (Z : State) (a0 : Array Value) (hw : ∀ d ∈ tables_1, d.before a0 Z = true) (ws : List Jvm.Cond) (qa : Addr) (qk : ClassId) (x0 : Int64) (x1 : Int64) (x2 : Int64) (x3 : Int64) (x4 : Int64) (h0 : Heap) (n0 : Nat) (Z0 : n0 ≤ h0.size) (A_qa : Arv Z h0 qa qk .long (5 : Int32) [(.long x0), (.long x1), (.long x2), (.long x3), (.long x4)] (.long (0 : Int64))) :
    MetFree l (⟨"com/example/splice/splice/KeysReversePinLaw", "at", "([JII)J"⟩ : MethodName) (head1 (Jvm.Cond.code (⟨"com/example/splice/splice/KeysReversePinLaw", "at", "([JII)J"⟩ : MethodName) method_2_code 3 (some .long) :: ws) ({ frames := 0, cells := 0, slots := 0, locals := 0 } : Room)) (fun a U => a = #[(.ref qa), (.int (1 : Int32)), (.int (3 : Int32))] ∧ Z.Warmed39 U.vm ∧ U.heap = h0) (fun _ _ _ _ _ => True) (fun _ U o U' => ∃ v L, o = .returned v ∧ Q4_1_3 Z qa qk x0 x1 x2 x3 x4 h0 n0 v U'.heap L ∧ FrameEnd U o U' L ({ frames := 0, cells := 0, slots := 0, locals := 0 } : Room).cells ({ frames := 0, cells := 0, slots := 0, locals := 0 } : Room).slots) := by
  refine MetFree.of_bodySF (plainFor_of_name pn_4) hisR ?_
  intro p e s m args below meth c s₁ Bd hml0 hP hK
  obtain ⟨rfl, hZ, hh⟩ := hP
  have hx := Bd.exec
  have hby := Bd.bytes
  have hml : c.maxLocals = 3 := hml0
  have hown : s.vm.findClass "com/example/splice/splice/KeysReversePinLaw" = some m.cls := findClass_of_methodNamed Bd.named
  have hnm := (name_of_methodNamed Bd.named Bd.method).1
  have X0 : Stand p l e ({ frames := 0, cells := 0, slots := 0, locals := 0 } : Room) s m #[(.ref qa), (.int (1 : Int32)), (.int (3 : Int32))] below meth c s₁ [] 0 0 := Stand.of_body Bd
  have e0 : s₁.heap = h0 := by rw [← hh, Bd.state]; rfl
  have N0 := Fr.nil n0
  obtain ⟨S0, hS0⟩ : ∃ z, z = s₁.setTop (entryFrame m #[(.ref qa), (.int (1 : Int32)), (.int (3 : Int32))] 3) := ⟨_, rfl⟩
  have P0 : own_Go p e below S0 (s₁.setTop (mkF m 0 #[.val (.ref qa), .val (.int (1 : Int32)), .val (.int (3 : Int32))] [])) := fun t k => by rw [hS0]; exact castTop (ef_4_1_3 m qa) k
  obtain ⟨cl1, Ar1, q1, Sz1, Nn1, Hh1, Gg1⟩ := id A_qa
  have hin1 : ¬ ((3 : Int32) < 0 ∨ cl1.slots.size ≤ ((3 : Int32)).toNatClampNeg) := inb_of Sz1 ⟨by decide, by decide⟩
  have hat1 : cl1.slots[((3 : Int32)).toNatClampNeg]? = some (.long x3) := Has.at Hh1 hin1 rfl
  have P2 : own_Go p e below S0 (s₁.setTop (mkF m 18 #[.val (.ref qa), .val (.int (1 : Int32)), .val (.int (3 : Int32))] [(.long x3)])) := fun t k => P0 t (by
    show Steps p.tables e below (s₁.setTop (mkF m 0 #[.val (.ref qa), .val (.int (1 : Int32)), .val (.int (3 : Int32))] [])) t
    refine XS.iloadN X0.here hx rfl (hb hby d4_0) rfl ?_
    refine XS.iloadN X0.here hx rfl (hb hby d4_1) rfl ?_
    refine XS.icmpYes X0.here hx rfl (pc0 := 2) (pc' := 15) rfl (hb hby d4_2) rfl (flt (by decide)).2.1 (by decide) (by decide) ?_
    refine XS.aloadN X0.here hx rfl (hb hby d4_15) rfl rfl ?_
    refine XS.iloadN X0.here hx rfl (hb hby d4_16) rfl ?_
    show Steps p.tables e below (s₁.setTop (mkF m 17 #[.val (.ref qa), .val (.int (1 : Int32)), .val (.int (3 : Int32))] [(.int (3 : Int32)), (.ref qa)])) t
    refine X0.laload hx (j := (3 : Int32)) (v := (.long x3)) (by rw [e0]; exact Ar1.1) (State.isArrayOf_alike hZ.alike Ar1.2.1) Ar1.2.2 hin1 hat1 (g := (mkF m 17 #[.val (.ref qa), .val (.int (1 : Int32)), .val (.int (3 : Int32))] [(.int (3 : Int32)), (.ref qa)])) rfl rfl (hb hby d4_17) _ ?_
    show Steps p.tables e below (s₁.setTop (mkF m 18 #[.val (.ref qa), .val (.int (1 : Int32)), .val (.int (3 : Int32))] [(.long x3)])) t
    exact k)
  obtain ⟨fs, hr, hrun, hended, hW, hsame⟩ := X0.leave (v := some (.long x3)) (fun h => by rw [Bd.returns] at h; cases h)
  refine ⟨_, _, own_from hS0 (P2 _ ?_), hrun, hended, _, _, rfl, ?_, ⟨_, rfl⟩, hW, hsame.mono (by decide) (by decide)⟩
  · show Steps p.tables e below (s₁.setTop (mkF m 18 #[.val (.ref qa), .val (.int (1 : Int32)), .val (.int (3 : Int32))] [(.long x3)])) _
    jvm_step X0.here [X0.here.top, hx, (hb hby d4_18), X0.method', Bd.returns, narrow]
    first | (intro acts; rw [hr _ acts rfl rfl rfl]) | rw [hr _ _ rfl rfl rfl]
    exact Steps.refl _
  · show Q4_1_3 Z qa qk x0 x1 x2 x3 x4 h0 n0 _ s₁.heap _
    rw [e0]
    exact ⟨rfl, N0, rfl⟩
theorem ef_4_1_4 (m : MethodId) (qa : Addr) : entryFrame m #[(.ref qa), (.int (1 : Int32)), (.int (4 : Int32))] 3 = mkF m 0 #[.val (.ref qa), .val (.int (1 : Int32)), .val (.int (4 : Int32))] [] := by first | (simp [entryFrame, mkF, argsToLocals, Value.category]; done) | rfl
def Q4_1_4 (Z : State) (qa : Addr) (qk : ClassId) (x0 : Int64) (x1 : Int64) (x2 : Int64) (x3 : Int64) (x4 : Int64) (h0 : Heap) (n0 : Nat) (v : Option Value) (h : Heap) (L : List Loc) : Prop := v = some (.long x4) ∧ Fr n0 L ∧ h = h0
set_option maxRecDepth 65536 in
set_option maxHeartbeats 40000000 in
theorem rm4_1_4 (l : Launch) (Z : State) (a0 : Array Value) (hw : ∀ d ∈ tables_1, d.before a0 Z = true) (ws : List Jvm.Cond) (qa : Addr) (qk : ClassId) (x0 : Int64) (x1 : Int64) (x2 : Int64) (x3 : Int64) (x4 : Int64) (h0 : Heap) (n0 : Nat) (Z0 : n0 ≤ h0.size) (A_qa : Arv Z h0 qa qk .long (5 : Int32) [(.long x0), (.long x1), (.long x2), (.long x3), (.long x4)] (.long (0 : Int64))) :
    MetFree l (⟨"com/example/splice/splice/KeysReversePinLaw", "at", "([JII)J"⟩ : MethodName) (head1 (Jvm.Cond.code (⟨"com/example/splice/splice/KeysReversePinLaw", "at", "([JII)J"⟩ : MethodName) method_2_code 3 (some .long) :: ws) ({ frames := 0, cells := 0, slots := 0, locals := 0 } : Room)) (fun a U => a = #[(.ref qa), (.int (1 : Int32)), (.int (4 : Int32))] ∧ Z.Warmed39 U.vm ∧ U.heap = h0) (fun _ _ _ _ _ => True) (fun _ U o U' => ∃ v L, o = .returned v ∧ Q4_1_4 Z qa qk x0 x1 x2 x3 x4 h0 n0 v U'.heap L ∧ FrameEnd U o U' L ({ frames := 0, cells := 0, slots := 0, locals := 0 } : Room).cells ({ frames := 0, cells := 0, slots := 0, locals := 0 } : Room).slots) := by
  refine MetFree.of_bodySF (plainFor_of_name pn_4) hisR ?_
  intro p e s m args below meth c s₁ Bd hml0 hP hK
  obtain ⟨rfl, hZ, hh⟩ := hP
  have hx := Bd.exec
  have hby := Bd.bytes
  have hml : c.maxLocals = 3 := hml0
  have hown : s.vm.findClass "com/example/splice/splice/KeysReversePinLaw" = some m.cls := findClass_of_methodNamed Bd.named
  have hnm := (name_of_methodNamed Bd.named Bd.method).1
  have X0 : Stand p l e ({ frames := 0, cells := 0, slots := 0, locals := 0 } : Room) s m #[(.ref qa), (.int (1 : Int32)), (.int (4 : Int32))] below meth c s₁ [] 0 0 := Stand.of_body Bd
  have e0 : s₁.heap = h0 := by rw [← hh, Bd.state]; rfl
  have N0 := Fr.nil n0
  obtain ⟨S0, hS0⟩ : ∃ z, z = s₁.setTop (entryFrame m #[(.ref qa), (.int (1 : Int32)), (.int (4 : Int32))] 3) := ⟨_, rfl⟩
  have P0 : own_Go p e below S0 (s₁.setTop (mkF m 0 #[.val (.ref qa), .val (.int (1 : Int32)), .val (.int (4 : Int32))] [])) := fun t k => by rw [hS0]; exact castTop (ef_4_1_4 m qa) k
  obtain ⟨cl1, Ar1, q1, Sz1, Nn1, Hh1, Gg1⟩ := id A_qa
  have hin1 : ¬ ((4 : Int32) < 0 ∨ cl1.slots.size ≤ ((4 : Int32)).toNatClampNeg) := inb_of Sz1 ⟨by decide, by decide⟩
  have hat1 : cl1.slots[((4 : Int32)).toNatClampNeg]? = some (.long x4) := Has.at Hh1 hin1 rfl
  have P2 : own_Go p e below S0 (s₁.setTop (mkF m 18 #[.val (.ref qa), .val (.int (1 : Int32)), .val (.int (4 : Int32))] [(.long x4)])) := fun t k => P0 t (by
    show Steps p.tables e below (s₁.setTop (mkF m 0 #[.val (.ref qa), .val (.int (1 : Int32)), .val (.int (4 : Int32))] [])) t
    refine XS.iloadN X0.here hx rfl (hb hby d4_0) rfl ?_
    refine XS.iloadN X0.here hx rfl (hb hby d4_1) rfl ?_
    refine XS.icmpYes X0.here hx rfl (pc0 := 2) (pc' := 15) rfl (hb hby d4_2) rfl (flt (by decide)).2.1 (by decide) (by decide) ?_
    refine XS.aloadN X0.here hx rfl (hb hby d4_15) rfl rfl ?_
    refine XS.iloadN X0.here hx rfl (hb hby d4_16) rfl ?_
    show Steps p.tables e below (s₁.setTop (mkF m 17 #[.val (.ref qa), .val (.int (1 : Int32)), .val (.int (4 : Int32))] [(.int (4 : Int32)), (.ref qa)])) t
    refine X0.laload hx (j := (4 : Int32)) (v := (.long x4)) (by rw [e0]; exact Ar1.1) (State.isArrayOf_alike hZ.alike Ar1.2.1) Ar1.2.2 hin1 hat1 (g := (mkF m 17 #[.val (.ref qa), .val (.int (1 : Int32)), .val (.int (4 : Int32))] [(.int (4 : Int32)), (.ref qa)])) rfl rfl (hb hby d4_17) _ ?_
    show Steps p.tables e below (s₁.setTop (mkF m 18 #[.val (.ref qa), .val (.int (1 : Int32)), .val (.int (4 : Int32))] [(.long x4)])) t
    exact k)
  obtain ⟨fs, hr, hrun, hended, hW, hsame⟩ := X0.leave (v := some (.long x4)) (fun h => by rw [Bd.returns] at h; cases h)
  refine ⟨_, _, own_from hS0 (P2 _ ?_), hrun, hended, _, _, rfl, ?_, ⟨_, rfl⟩, hW, hsame.mono (by decide) (by decide)⟩
  · show Steps p.tables e below (s₁.setTop (mkF m 18 #[.val (.ref qa), .val (.int (1 : Int32)), .val (.int (4 : Int32))] [(.long x4)])) _
    jvm_step X0.here [X0.here.top, hx, (hb hby d4_18), X0.method', Bd.returns, narrow]
    first | (intro acts; rw [hr _ acts rfl rfl rfl]) | rw [hr _ _ rfl rfl rfl]
    exact Steps.refl _
  · show Q4_1_4 Z qa qk x0 x1 x2 x3 x4 h0 n0 _ s₁.heap _
    rw [e0]
    exact ⟨rfl, N0, rfl⟩
theorem ef_4_2_0 (m : MethodId) (qa : Addr) : entryFrame m #[(.ref qa), (.int (2 : Int32)), (.int (0 : Int32))] 3 = mkF m 0 #[.val (.ref qa), .val (.int (2 : Int32)), .val (.int (0 : Int32))] [] := by first | (simp [entryFrame, mkF, argsToLocals, Value.category]; done) | rfl
def Q4_2_0 (Z : State) (qa : Addr) (qk : ClassId) (x0 : Int64) (x1 : Int64) (x2 : Int64) (x3 : Int64) (x4 : Int64) (h0 : Heap) (n0 : Nat) (v : Option Value) (h : Heap) (L : List Loc) : Prop := v = some (.long x1) ∧ Fr n0 L ∧ h = h0
set_option maxRecDepth 65536 in
set_option maxHeartbeats 40000000 in
theorem rm4_2_0 (l : Launch) (Z : State) (a0 : Array Value) (hw : ∀ d ∈ tables_1, d.before a0 Z = true) (ws : List Jvm.Cond) (qa : Addr) (qk : ClassId) (x0 : Int64) (x1 : Int64) (x2 : Int64) (x3 : Int64) (x4 : Int64) (h0 : Heap) (n0 : Nat) (Z0 : n0 ≤ h0.size) (A_qa : Arv Z h0 qa qk .long (5 : Int32) [(.long x0), (.long x1), (.long x2), (.long x3), (.long x4)] (.long (0 : Int64))) :
    MetFree l (⟨"com/example/splice/splice/KeysReversePinLaw", "at", "([JII)J"⟩ : MethodName) (head1 (Jvm.Cond.code (⟨"com/example/splice/splice/KeysReversePinLaw", "at", "([JII)J"⟩ : MethodName) method_2_code 3 (some .long) :: ws) ({ frames := 0, cells := 0, slots := 0, locals := 0 } : Room)) (fun a U => a = #[(.ref qa), (.int (2 : Int32)), (.int (0 : Int32))] ∧ Z.Warmed39 U.vm ∧ U.heap = h0) (fun _ _ _ _ _ => True) (fun _ U o U' => ∃ v L, o = .returned v ∧ Q4_2_0 Z qa qk x0 x1 x2 x3 x4 h0 n0 v U'.heap L ∧ FrameEnd U o U' L ({ frames := 0, cells := 0, slots := 0, locals := 0 } : Room).cells ({ frames := 0, cells := 0, slots := 0, locals := 0 } : Room).slots) := by
  refine MetFree.of_bodySF (plainFor_of_name pn_4) hisR ?_
  intro p e s m args below meth c s₁ Bd hml0 hP hK
  obtain ⟨rfl, hZ, hh⟩ := hP
  have hx := Bd.exec
  have hby := Bd.bytes
  have hml : c.maxLocals = 3 := hml0
  have hown : s.vm.findClass "com/example/splice/splice/KeysReversePinLaw" = some m.cls := findClass_of_methodNamed Bd.named
  have hnm := (name_of_methodNamed Bd.named Bd.method).1
  have X0 : Stand p l e ({ frames := 0, cells := 0, slots := 0, locals := 0 } : Room) s m #[(.ref qa), (.int (2 : Int32)), (.int (0 : Int32))] below meth c s₁ [] 0 0 := Stand.of_body Bd
  have e0 : s₁.heap = h0 := by rw [← hh, Bd.state]; rfl
  have N0 := Fr.nil n0
  obtain ⟨S0, hS0⟩ : ∃ z, z = s₁.setTop (entryFrame m #[(.ref qa), (.int (2 : Int32)), (.int (0 : Int32))] 3) := ⟨_, rfl⟩
  have P0 : own_Go p e below S0 (s₁.setTop (mkF m 0 #[.val (.ref qa), .val (.int (2 : Int32)), .val (.int (0 : Int32))] [])) := fun t k => by rw [hS0]; exact castTop (ef_4_2_0 m qa) k
  obtain ⟨cl1, Ar1, q1, Sz1, Nn1, Hh1, Gg1⟩ := id A_qa
  have hin1 : ¬ ((1 : Int32) < 0 ∨ cl1.slots.size ≤ ((1 : Int32)).toNatClampNeg) := inb_of Sz1 ⟨by decide, by decide⟩
  have hat1 : cl1.slots[((1 : Int32)).toNatClampNeg]? = some (.long x1) := Has.at Hh1 hin1 rfl
  have P2 : own_Go p e below S0 (s₁.setTop (mkF m 18 #[.val (.ref qa), .val (.int (2 : Int32)), .val (.int (0 : Int32))] [(.long x1)])) := fun t k => P0 t (by
    show Steps p.tables e below (s₁.setTop (mkF m 0 #[.val (.ref qa), .val (.int (2 : Int32)), .val (.int (0 : Int32))] [])) t
    refine XS.iloadN X0.here hx rfl (hb hby d4_0) rfl ?_
    refine XS.iloadN X0.here hx rfl (hb hby d4_1) rfl ?_
    refine XS.icmpNo X0.here hx rfl (hb hby d4_2) rfl (tlt (by decide)).2.1 ?_
    refine XS.aloadN X0.here hx rfl (hb hby d4_5) rfl rfl ?_
    refine XS.iloadN X0.here hx rfl (hb hby d4_6) rfl ?_
    refine XS.iconst X0.here hx rfl (hb hby d4_7) ?_
    show Steps p.tables e below (s₁.setTop (mkF m 8 #[.val (.ref qa), .val (.int (2 : Int32)), .val (.int (0 : Int32))] [(.int (1 : Int32)), (.int (2 : Int32)), (.ref qa)])) t
    refine XS.isub X0.here hx rfl (hb hby d4_8) rfl ?_
    refine XS.iloadN X0.here hx rfl (hb hby d4_9) rfl ?_
    refine XS.isub X0.here hx rfl (hb hby d4_10) rfl ?_
    show Steps p.tables e below (s₁.setTop (mkF m 11 #[.val (.ref qa), .val (.int (2 : Int32)), .val (.int (0 : Int32))] [(.int (1 : Int32)), (.ref qa)])) t
    refine X0.laload hx (j := (1 : Int32)) (v := (.long x1)) (by rw [e0]; exact Ar1.1) (State.isArrayOf_alike hZ.alike Ar1.2.1) Ar1.2.2 hin1 hat1 (g := (mkF m 11 #[.val (.ref qa), .val (.int (2 : Int32)), .val (.int (0 : Int32))] [(.int (1 : Int32)), (.ref qa)])) rfl rfl (hb hby d4_11) _ ?_
    refine XS.goto X0.here hx rfl (pc0 := 12) (pc' := 18) rfl (hb hby d4_12) (by decide) (by decide) ?_
    show Steps p.tables e below (s₁.setTop (mkF m 18 #[.val (.ref qa), .val (.int (2 : Int32)), .val (.int (0 : Int32))] [(.long x1)])) t
    exact k)
  obtain ⟨fs, hr, hrun, hended, hW, hsame⟩ := X0.leave (v := some (.long x1)) (fun h => by rw [Bd.returns] at h; cases h)
  refine ⟨_, _, own_from hS0 (P2 _ ?_), hrun, hended, _, _, rfl, ?_, ⟨_, rfl⟩, hW, hsame.mono (by decide) (by decide)⟩
  · show Steps p.tables e below (s₁.setTop (mkF m 18 #[.val (.ref qa), .val (.int (2 : Int32)), .val (.int (0 : Int32))] [(.long x1)])) _
    jvm_step X0.here [X0.here.top, hx, (hb hby d4_18), X0.method', Bd.returns, narrow]
    first | (intro acts; rw [hr _ acts rfl rfl rfl]) | rw [hr _ _ rfl rfl rfl]
    exact Steps.refl _
  · show Q4_2_0 Z qa qk x0 x1 x2 x3 x4 h0 n0 _ s₁.heap _
    rw [e0]
    exact ⟨rfl, N0, rfl⟩
theorem ef_4_2_1 (m : MethodId) (qa : Addr) : entryFrame m #[(.ref qa), (.int (2 : Int32)), (.int (1 : Int32))] 3 = mkF m 0 #[.val (.ref qa), .val (.int (2 : Int32)), .val (.int (1 : Int32))] [] := by first | (simp [entryFrame, mkF, argsToLocals, Value.category]; done) | rfl
def Q4_2_1 (Z : State) (qa : Addr) (qk : ClassId) (x0 : Int64) (x1 : Int64) (x2 : Int64) (x3 : Int64) (x4 : Int64) (h0 : Heap) (n0 : Nat) (v : Option Value) (h : Heap) (L : List Loc) : Prop := v = some (.long x0) ∧ Fr n0 L ∧ h = h0
set_option maxRecDepth 65536 in
set_option maxHeartbeats 40000000 in
theorem rm4_2_1 (l : Launch) (Z : State) (a0 : Array Value) (hw : ∀ d ∈ tables_1, d.before a0 Z = true) (ws : List Jvm.Cond) (qa : Addr) (qk : ClassId) (x0 : Int64) (x1 : Int64) (x2 : Int64) (x3 : Int64) (x4 : Int64) (h0 : Heap) (n0 : Nat) (Z0 : n0 ≤ h0.size) (A_qa : Arv Z h0 qa qk .long (5 : Int32) [(.long x0), (.long x1), (.long x2), (.long x3), (.long x4)] (.long (0 : Int64))) :
    MetFree l (⟨"com/example/splice/splice/KeysReversePinLaw", "at", "([JII)J"⟩ : MethodName) (head1 (Jvm.Cond.code (⟨"com/example/splice/splice/KeysReversePinLaw", "at", "([JII)J"⟩ : MethodName) method_2_code 3 (some .long) :: ws) ({ frames := 0, cells := 0, slots := 0, locals := 0 } : Room)) (fun a U => a = #[(.ref qa), (.int (2 : Int32)), (.int (1 : Int32))] ∧ Z.Warmed39 U.vm ∧ U.heap = h0) (fun _ _ _ _ _ => True) (fun _ U o U' => ∃ v L, o = .returned v ∧ Q4_2_1 Z qa qk x0 x1 x2 x3 x4 h0 n0 v U'.heap L ∧ FrameEnd U o U' L ({ frames := 0, cells := 0, slots := 0, locals := 0 } : Room).cells ({ frames := 0, cells := 0, slots := 0, locals := 0 } : Room).slots) := by
  refine MetFree.of_bodySF (plainFor_of_name pn_4) hisR ?_
  intro p e s m args below meth c s₁ Bd hml0 hP hK
  obtain ⟨rfl, hZ, hh⟩ := hP
  have hx := Bd.exec
  have hby := Bd.bytes
  have hml : c.maxLocals = 3 := hml0
  have hown : s.vm.findClass "com/example/splice/splice/KeysReversePinLaw" = some m.cls := findClass_of_methodNamed Bd.named
  have hnm := (name_of_methodNamed Bd.named Bd.method).1
  have X0 : Stand p l e ({ frames := 0, cells := 0, slots := 0, locals := 0 } : Room) s m #[(.ref qa), (.int (2 : Int32)), (.int (1 : Int32))] below meth c s₁ [] 0 0 := Stand.of_body Bd
  have e0 : s₁.heap = h0 := by rw [← hh, Bd.state]; rfl
  have N0 := Fr.nil n0
  obtain ⟨S0, hS0⟩ : ∃ z, z = s₁.setTop (entryFrame m #[(.ref qa), (.int (2 : Int32)), (.int (1 : Int32))] 3) := ⟨_, rfl⟩
  have P0 : own_Go p e below S0 (s₁.setTop (mkF m 0 #[.val (.ref qa), .val (.int (2 : Int32)), .val (.int (1 : Int32))] [])) := fun t k => by rw [hS0]; exact castTop (ef_4_2_1 m qa) k
  obtain ⟨cl1, Ar1, q1, Sz1, Nn1, Hh1, Gg1⟩ := id A_qa
  have hin1 : ¬ ((0 : Int32) < 0 ∨ cl1.slots.size ≤ ((0 : Int32)).toNatClampNeg) := inb_of Sz1 ⟨by decide, by decide⟩
  have hat1 : cl1.slots[((0 : Int32)).toNatClampNeg]? = some (.long x0) := Has.at Hh1 hin1 rfl
  have P2 : own_Go p e below S0 (s₁.setTop (mkF m 18 #[.val (.ref qa), .val (.int (2 : Int32)), .val (.int (1 : Int32))] [(.long x0)])) := fun t k => P0 t (by
    show Steps p.tables e below (s₁.setTop (mkF m 0 #[.val (.ref qa), .val (.int (2 : Int32)), .val (.int (1 : Int32))] [])) t
    refine XS.iloadN X0.here hx rfl (hb hby d4_0) rfl ?_
    refine XS.iloadN X0.here hx rfl (hb hby d4_1) rfl ?_
    refine XS.icmpNo X0.here hx rfl (hb hby d4_2) rfl (tlt (by decide)).2.1 ?_
    refine XS.aloadN X0.here hx rfl (hb hby d4_5) rfl rfl ?_
    refine XS.iloadN X0.here hx rfl (hb hby d4_6) rfl ?_
    refine XS.iconst X0.here hx rfl (hb hby d4_7) ?_
    show Steps p.tables e below (s₁.setTop (mkF m 8 #[.val (.ref qa), .val (.int (2 : Int32)), .val (.int (1 : Int32))] [(.int (1 : Int32)), (.int (2 : Int32)), (.ref qa)])) t
    refine XS.isub X0.here hx rfl (hb hby d4_8) rfl ?_
    refine XS.iloadN X0.here hx rfl (hb hby d4_9) rfl ?_
    refine XS.isub X0.here hx rfl (hb hby d4_10) rfl ?_
    show Steps p.tables e below (s₁.setTop (mkF m 11 #[.val (.ref qa), .val (.int (2 : Int32)), .val (.int (1 : Int32))] [(.int (0 : Int32)), (.ref qa)])) t
    refine X0.laload hx (j := (0 : Int32)) (v := (.long x0)) (by rw [e0]; exact Ar1.1) (State.isArrayOf_alike hZ.alike Ar1.2.1) Ar1.2.2 hin1 hat1 (g := (mkF m 11 #[.val (.ref qa), .val (.int (2 : Int32)), .val (.int (1 : Int32))] [(.int (0 : Int32)), (.ref qa)])) rfl rfl (hb hby d4_11) _ ?_
    refine XS.goto X0.here hx rfl (pc0 := 12) (pc' := 18) rfl (hb hby d4_12) (by decide) (by decide) ?_
    show Steps p.tables e below (s₁.setTop (mkF m 18 #[.val (.ref qa), .val (.int (2 : Int32)), .val (.int (1 : Int32))] [(.long x0)])) t
    exact k)
  obtain ⟨fs, hr, hrun, hended, hW, hsame⟩ := X0.leave (v := some (.long x0)) (fun h => by rw [Bd.returns] at h; cases h)
  refine ⟨_, _, own_from hS0 (P2 _ ?_), hrun, hended, _, _, rfl, ?_, ⟨_, rfl⟩, hW, hsame.mono (by decide) (by decide)⟩
  · show Steps p.tables e below (s₁.setTop (mkF m 18 #[.val (.ref qa), .val (.int (2 : Int32)), .val (.int (1 : Int32))] [(.long x0)])) _
    jvm_step X0.here [X0.here.top, hx, (hb hby d4_18), X0.method', Bd.returns, narrow]
    first | (intro acts; rw [hr _ acts rfl rfl rfl]) | rw [hr _ _ rfl rfl rfl]
    exact Steps.refl _
  · show Q4_2_1 Z qa qk x0 x1 x2 x3 x4 h0 n0 _ s₁.heap _
    rw [e0]
    exact ⟨rfl, N0, rfl⟩
theorem ef_4_2_2 (m : MethodId) (qa : Addr) : entryFrame m #[(.ref qa), (.int (2 : Int32)), (.int (2 : Int32))] 3 = mkF m 0 #[.val (.ref qa), .val (.int (2 : Int32)), .val (.int (2 : Int32))] [] := by first | (simp [entryFrame, mkF, argsToLocals, Value.category]; done) | rfl
def Q4_2_2 (Z : State) (qa : Addr) (qk : ClassId) (x0 : Int64) (x1 : Int64) (x2 : Int64) (x3 : Int64) (x4 : Int64) (h0 : Heap) (n0 : Nat) (v : Option Value) (h : Heap) (L : List Loc) : Prop := v = some (.long x2) ∧ Fr n0 L ∧ h = h0
set_option maxRecDepth 65536 in
set_option maxHeartbeats 40000000 in
theorem rm4_2_2 (l : Launch) (Z : State) (a0 : Array Value) (hw : ∀ d ∈ tables_1, d.before a0 Z = true) (ws : List Jvm.Cond) (qa : Addr) (qk : ClassId) (x0 : Int64) (x1 : Int64) (x2 : Int64) (x3 : Int64) (x4 : Int64) (h0 : Heap) (n0 : Nat) (Z0 : n0 ≤ h0.size) (A_qa : Arv Z h0 qa qk .long (5 : Int32) [(.long x0), (.long x1), (.long x2), (.long x3), (.long x4)] (.long (0 : Int64))) :
    MetFree l (⟨"com/example/splice/splice/KeysReversePinLaw", "at", "([JII)J"⟩ : MethodName) (head1 (Jvm.Cond.code (⟨"com/example/splice/splice/KeysReversePinLaw", "at", "([JII)J"⟩ : MethodName) method_2_code 3 (some .long) :: ws) ({ frames := 0, cells := 0, slots := 0, locals := 0 } : Room)) (fun a U => a = #[(.ref qa), (.int (2 : Int32)), (.int (2 : Int32))] ∧ Z.Warmed39 U.vm ∧ U.heap = h0) (fun _ _ _ _ _ => True) (fun _ U o U' => ∃ v L, o = .returned v ∧ Q4_2_2 Z qa qk x0 x1 x2 x3 x4 h0 n0 v U'.heap L ∧ FrameEnd U o U' L ({ frames := 0, cells := 0, slots := 0, locals := 0 } : Room).cells ({ frames := 0, cells := 0, slots := 0, locals := 0 } : Room).slots) := by
  refine MetFree.of_bodySF (plainFor_of_name pn_4) hisR ?_
  intro p e s m args below meth c s₁ Bd hml0 hP hK
  obtain ⟨rfl, hZ, hh⟩ := hP
  have hx := Bd.exec
  have hby := Bd.bytes
  have hml : c.maxLocals = 3 := hml0
  have hown : s.vm.findClass "com/example/splice/splice/KeysReversePinLaw" = some m.cls := findClass_of_methodNamed Bd.named
  have hnm := (name_of_methodNamed Bd.named Bd.method).1
  have X0 : Stand p l e ({ frames := 0, cells := 0, slots := 0, locals := 0 } : Room) s m #[(.ref qa), (.int (2 : Int32)), (.int (2 : Int32))] below meth c s₁ [] 0 0 := Stand.of_body Bd
  have e0 : s₁.heap = h0 := by rw [← hh, Bd.state]; rfl
  have N0 := Fr.nil n0
  obtain ⟨S0, hS0⟩ : ∃ z, z = s₁.setTop (entryFrame m #[(.ref qa), (.int (2 : Int32)), (.int (2 : Int32))] 3) := ⟨_, rfl⟩
  have P0 : own_Go p e below S0 (s₁.setTop (mkF m 0 #[.val (.ref qa), .val (.int (2 : Int32)), .val (.int (2 : Int32))] [])) := fun t k => by rw [hS0]; exact castTop (ef_4_2_2 m qa) k
  obtain ⟨cl1, Ar1, q1, Sz1, Nn1, Hh1, Gg1⟩ := id A_qa
  have hin1 : ¬ ((2 : Int32) < 0 ∨ cl1.slots.size ≤ ((2 : Int32)).toNatClampNeg) := inb_of Sz1 ⟨by decide, by decide⟩
  have hat1 : cl1.slots[((2 : Int32)).toNatClampNeg]? = some (.long x2) := Has.at Hh1 hin1 rfl
  have P2 : own_Go p e below S0 (s₁.setTop (mkF m 18 #[.val (.ref qa), .val (.int (2 : Int32)), .val (.int (2 : Int32))] [(.long x2)])) := fun t k => P0 t (by
    show Steps p.tables e below (s₁.setTop (mkF m 0 #[.val (.ref qa), .val (.int (2 : Int32)), .val (.int (2 : Int32))] [])) t
    refine XS.iloadN X0.here hx rfl (hb hby d4_0) rfl ?_
    refine XS.iloadN X0.here hx rfl (hb hby d4_1) rfl ?_
    refine XS.icmpYes X0.here hx rfl (pc0 := 2) (pc' := 15) rfl (hb hby d4_2) rfl (flt (by decide)).2.1 (by decide) (by decide) ?_
    refine XS.aloadN X0.here hx rfl (hb hby d4_15) rfl rfl ?_
    refine XS.iloadN X0.here hx rfl (hb hby d4_16) rfl ?_
    show Steps p.tables e below (s₁.setTop (mkF m 17 #[.val (.ref qa), .val (.int (2 : Int32)), .val (.int (2 : Int32))] [(.int (2 : Int32)), (.ref qa)])) t
    refine X0.laload hx (j := (2 : Int32)) (v := (.long x2)) (by rw [e0]; exact Ar1.1) (State.isArrayOf_alike hZ.alike Ar1.2.1) Ar1.2.2 hin1 hat1 (g := (mkF m 17 #[.val (.ref qa), .val (.int (2 : Int32)), .val (.int (2 : Int32))] [(.int (2 : Int32)), (.ref qa)])) rfl rfl (hb hby d4_17) _ ?_
    show Steps p.tables e below (s₁.setTop (mkF m 18 #[.val (.ref qa), .val (.int (2 : Int32)), .val (.int (2 : Int32))] [(.long x2)])) t
    exact k)
  obtain ⟨fs, hr, hrun, hended, hW, hsame⟩ := X0.leave (v := some (.long x2)) (fun h => by rw [Bd.returns] at h; cases h)
  refine ⟨_, _, own_from hS0 (P2 _ ?_), hrun, hended, _, _, rfl, ?_, ⟨_, rfl⟩, hW, hsame.mono (by decide) (by decide)⟩
  · show Steps p.tables e below (s₁.setTop (mkF m 18 #[.val (.ref qa), .val (.int (2 : Int32)), .val (.int (2 : Int32))] [(.long x2)])) _
    jvm_step X0.here [X0.here.top, hx, (hb hby d4_18), X0.method', Bd.returns, narrow]
    first | (intro acts; rw [hr _ acts rfl rfl rfl]) | rw [hr _ _ rfl rfl rfl]
    exact Steps.refl _
  · show Q4_2_2 Z qa qk x0 x1 x2 x3 x4 h0 n0 _ s₁.heap _
    rw [e0]
    exact ⟨rfl, N0, rfl⟩
theorem ef_4_2_3 (m : MethodId) (qa : Addr) : entryFrame m #[(.ref qa), (.int (2 : Int32)), (.int (3 : Int32))] 3 = mkF m 0 #[.val (.ref qa), .val (.int (2 : Int32)), .val (.int (3 : Int32))] [] := by first | (simp [entryFrame, mkF, argsToLocals, Value.category]; done) | rfl
def Q4_2_3 (Z : State) (qa : Addr) (qk : ClassId) (x0 : Int64) (x1 : Int64) (x2 : Int64) (x3 : Int64) (x4 : Int64) (h0 : Heap) (n0 : Nat) (v : Option Value) (h : Heap) (L : List Loc) : Prop := v = some (.long x3) ∧ Fr n0 L ∧ h = h0
set_option maxRecDepth 65536 in
set_option maxHeartbeats 40000000 in
theorem rm4_2_3 (l : Launch) (Z : State) (a0 : Array Value) (hw : ∀ d ∈ tables_1, d.before a0 Z = true) (ws : List Jvm.Cond) (qa : Addr) (qk : ClassId) (x0 : Int64) (x1 : Int64) (x2 : Int64) (x3 : Int64) (x4 : Int64) (h0 : Heap) (n0 : Nat) (Z0 : n0 ≤ h0.size) (A_qa : Arv Z h0 qa qk .long (5 : Int32) [(.long x0), (.long x1), (.long x2), (.long x3), (.long x4)] (.long (0 : Int64))) :
    MetFree l (⟨"com/example/splice/splice/KeysReversePinLaw", "at", "([JII)J"⟩ : MethodName) (head1 (Jvm.Cond.code (⟨"com/example/splice/splice/KeysReversePinLaw", "at", "([JII)J"⟩ : MethodName) method_2_code 3 (some .long) :: ws) ({ frames := 0, cells := 0, slots := 0, locals := 0 } : Room)) (fun a U => a = #[(.ref qa), (.int (2 : Int32)), (.int (3 : Int32))] ∧ Z.Warmed39 U.vm ∧ U.heap = h0) (fun _ _ _ _ _ => True) (fun _ U o U' => ∃ v L, o = .returned v ∧ Q4_2_3 Z qa qk x0 x1 x2 x3 x4 h0 n0 v U'.heap L ∧ FrameEnd U o U' L ({ frames := 0, cells := 0, slots := 0, locals := 0 } : Room).cells ({ frames := 0, cells := 0, slots := 0, locals := 0 } : Room).slots) := by
  refine MetFree.of_bodySF (plainFor_of_name pn_4) hisR ?_
  intro p e s m args below meth c s₁ Bd hml0 hP hK
  obtain ⟨rfl, hZ, hh⟩ := hP
  have hx := Bd.exec
  have hby := Bd.bytes
  have hml : c.maxLocals = 3 := hml0
  have hown : s.vm.findClass "com/example/splice/splice/KeysReversePinLaw" = some m.cls := findClass_of_methodNamed Bd.named
  have hnm := (name_of_methodNamed Bd.named Bd.method).1
  have X0 : Stand p l e ({ frames := 0, cells := 0, slots := 0, locals := 0 } : Room) s m #[(.ref qa), (.int (2 : Int32)), (.int (3 : Int32))] below meth c s₁ [] 0 0 := Stand.of_body Bd
  have e0 : s₁.heap = h0 := by rw [← hh, Bd.state]; rfl
  have N0 := Fr.nil n0
  obtain ⟨S0, hS0⟩ : ∃ z, z = s₁.setTop (entryFrame m #[(.ref qa), (.int (2 : Int32)), (.int (3 : Int32))] 3) := ⟨_, rfl⟩
  have P0 : own_Go p e below S0 (s₁.setTop (mkF m 0 #[.val (.ref qa), .val (.int (2 : Int32)), .val (.int (3 : Int32))] [])) := fun t k => by rw [hS0]; exact castTop (ef_4_2_3 m qa) k
  obtain ⟨cl1, Ar1, q1, Sz1, Nn1, Hh1, Gg1⟩ := id A_qa
  have hin1 : ¬ ((3 : Int32) < 0 ∨ cl1.slots.size ≤ ((3 : Int32)).toNatClampNeg) := inb_of Sz1 ⟨by decide, by decide⟩
  have hat1 : cl1.slots[((3 : Int32)).toNatClampNeg]? = some (.long x3) := Has.at Hh1 hin1 rfl
  have P2 : own_Go p e below S0 (s₁.setTop (mkF m 18 #[.val (.ref qa), .val (.int (2 : Int32)), .val (.int (3 : Int32))] [(.long x3)])) := fun t k => P0 t (by
    show Steps p.tables e below (s₁.setTop (mkF m 0 #[.val (.ref qa), .val (.int (2 : Int32)), .val (.int (3 : Int32))] [])) t
    refine XS.iloadN X0.here hx rfl (hb hby d4_0) rfl ?_
    refine XS.iloadN X0.here hx rfl (hb hby d4_1) rfl ?_
    refine XS.icmpYes X0.here hx rfl (pc0 := 2) (pc' := 15) rfl (hb hby d4_2) rfl (flt (by decide)).2.1 (by decide) (by decide) ?_
    refine XS.aloadN X0.here hx rfl (hb hby d4_15) rfl rfl ?_
    refine XS.iloadN X0.here hx rfl (hb hby d4_16) rfl ?_
    show Steps p.tables e below (s₁.setTop (mkF m 17 #[.val (.ref qa), .val (.int (2 : Int32)), .val (.int (3 : Int32))] [(.int (3 : Int32)), (.ref qa)])) t
    refine X0.laload hx (j := (3 : Int32)) (v := (.long x3)) (by rw [e0]; exact Ar1.1) (State.isArrayOf_alike hZ.alike Ar1.2.1) Ar1.2.2 hin1 hat1 (g := (mkF m 17 #[.val (.ref qa), .val (.int (2 : Int32)), .val (.int (3 : Int32))] [(.int (3 : Int32)), (.ref qa)])) rfl rfl (hb hby d4_17) _ ?_
    show Steps p.tables e below (s₁.setTop (mkF m 18 #[.val (.ref qa), .val (.int (2 : Int32)), .val (.int (3 : Int32))] [(.long x3)])) t
    exact k)
  obtain ⟨fs, hr, hrun, hended, hW, hsame⟩ := X0.leave (v := some (.long x3)) (fun h => by rw [Bd.returns] at h; cases h)
  refine ⟨_, _, own_from hS0 (P2 _ ?_), hrun, hended, _, _, rfl, ?_, ⟨_, rfl⟩, hW, hsame.mono (by decide) (by decide)⟩
  · show Steps p.tables e below (s₁.setTop (mkF m 18 #[.val (.ref qa), .val (.int (2 : Int32)), .val (.int (3 : Int32))] [(.long x3)])) _
    jvm_step X0.here [X0.here.top, hx, (hb hby d4_18), X0.method', Bd.returns, narrow]
    first | (intro acts; rw [hr _ acts rfl rfl rfl]) | rw [hr _ _ rfl rfl rfl]
    exact Steps.refl _
  · show Q4_2_3 Z qa qk x0 x1 x2 x3 x4 h0 n0 _ s₁.heap _
    rw [e0]
    exact ⟨rfl, N0, rfl⟩
theorem ef_4_2_4 (m : MethodId) (qa : Addr) : entryFrame m #[(.ref qa), (.int (2 : Int32)), (.int (4 : Int32))] 3 = mkF m 0 #[.val (.ref qa), .val (.int (2 : Int32)), .val (.int (4 : Int32))] [] := by first | (simp [entryFrame, mkF, argsToLocals, Value.category]; done) | rfl
def Q4_2_4 (Z : State) (qa : Addr) (qk : ClassId) (x0 : Int64) (x1 : Int64) (x2 : Int64) (x3 : Int64) (x4 : Int64) (h0 : Heap) (n0 : Nat) (v : Option Value) (h : Heap) (L : List Loc) : Prop := v = some (.long x4) ∧ Fr n0 L ∧ h = h0
set_option maxRecDepth 65536 in
set_option maxHeartbeats 40000000 in
theorem rm4_2_4 (l : Launch) (Z : State) (a0 : Array Value) (hw : ∀ d ∈ tables_1, d.before a0 Z = true) (ws : List Jvm.Cond) (qa : Addr) (qk : ClassId) (x0 : Int64) (x1 : Int64) (x2 : Int64) (x3 : Int64) (x4 : Int64) (h0 : Heap) (n0 : Nat) (Z0 : n0 ≤ h0.size) (A_qa : Arv Z h0 qa qk .long (5 : Int32) [(.long x0), (.long x1), (.long x2), (.long x3), (.long x4)] (.long (0 : Int64))) :
    MetFree l (⟨"com/example/splice/splice/KeysReversePinLaw", "at", "([JII)J"⟩ : MethodName) (head1 (Jvm.Cond.code (⟨"com/example/splice/splice/KeysReversePinLaw", "at", "([JII)J"⟩ : MethodName) method_2_code 3 (some .long) :: ws) ({ frames := 0, cells := 0, slots := 0, locals := 0 } : Room)) (fun a U => a = #[(.ref qa), (.int (2 : Int32)), (.int (4 : Int32))] ∧ Z.Warmed39 U.vm ∧ U.heap = h0) (fun _ _ _ _ _ => True) (fun _ U o U' => ∃ v L, o = .returned v ∧ Q4_2_4 Z qa qk x0 x1 x2 x3 x4 h0 n0 v U'.heap L ∧ FrameEnd U o U' L ({ frames := 0, cells := 0, slots := 0, locals := 0 } : Room).cells ({ frames := 0, cells := 0, slots := 0, locals := 0 } : Room).slots) := by
  refine MetFree.of_bodySF (plainFor_of_name pn_4) hisR ?_
  intro p e s m args below meth c s₁ Bd hml0 hP hK
  obtain ⟨rfl, hZ, hh⟩ := hP
  have hx := Bd.exec
  have hby := Bd.bytes
  have hml : c.maxLocals = 3 := hml0
  have hown : s.vm.findClass "com/example/splice/splice/KeysReversePinLaw" = some m.cls := findClass_of_methodNamed Bd.named
  have hnm := (name_of_methodNamed Bd.named Bd.method).1
  have X0 : Stand p l e ({ frames := 0, cells := 0, slots := 0, locals := 0 } : Room) s m #[(.ref qa), (.int (2 : Int32)), (.int (4 : Int32))] below meth c s₁ [] 0 0 := Stand.of_body Bd
  have e0 : s₁.heap = h0 := by rw [← hh, Bd.state]; rfl
  have N0 := Fr.nil n0
  obtain ⟨S0, hS0⟩ : ∃ z, z = s₁.setTop (entryFrame m #[(.ref qa), (.int (2 : Int32)), (.int (4 : Int32))] 3) := ⟨_, rfl⟩
  have P0 : own_Go p e below S0 (s₁.setTop (mkF m 0 #[.val (.ref qa), .val (.int (2 : Int32)), .val (.int (4 : Int32))] [])) := fun t k => by rw [hS0]; exact castTop (ef_4_2_4 m qa) k
  obtain ⟨cl1, Ar1, q1, Sz1, Nn1, Hh1, Gg1⟩ := id A_qa
  have hin1 : ¬ ((4 : Int32) < 0 ∨ cl1.slots.size ≤ ((4 : Int32)).toNatClampNeg) := inb_of Sz1 ⟨by decide, by decide⟩
  have hat1 : cl1.slots[((4 : Int32)).toNatClampNeg]? = some (.long x4) := Has.at Hh1 hin1 rfl
  have P2 : own_Go p e below S0 (s₁.setTop (mkF m 18 #[.val (.ref qa), .val (.int (2 : Int32)), .val (.int (4 : Int32))] [(.long x4)])) := fun t k => P0 t (by
    show Steps p.tables e below (s₁.setTop (mkF m 0 #[.val (.ref qa), .val (.int (2 : Int32)), .val (.int (4 : Int32))] [])) t
    refine XS.iloadN X0.here hx rfl (hb hby d4_0) rfl ?_
    refine XS.iloadN X0.here hx rfl (hb hby d4_1) rfl ?_
    refine XS.icmpYes X0.here hx rfl (pc0 := 2) (pc' := 15) rfl (hb hby d4_2) rfl (flt (by decide)).2.1 (by decide) (by decide) ?_
    refine XS.aloadN X0.here hx rfl (hb hby d4_15) rfl rfl ?_
    refine XS.iloadN X0.here hx rfl (hb hby d4_16) rfl ?_
    show Steps p.tables e below (s₁.setTop (mkF m 17 #[.val (.ref qa), .val (.int (2 : Int32)), .val (.int (4 : Int32))] [(.int (4 : Int32)), (.ref qa)])) t
    refine X0.laload hx (j := (4 : Int32)) (v := (.long x4)) (by rw [e0]; exact Ar1.1) (State.isArrayOf_alike hZ.alike Ar1.2.1) Ar1.2.2 hin1 hat1 (g := (mkF m 17 #[.val (.ref qa), .val (.int (2 : Int32)), .val (.int (4 : Int32))] [(.int (4 : Int32)), (.ref qa)])) rfl rfl (hb hby d4_17) _ ?_
    show Steps p.tables e below (s₁.setTop (mkF m 18 #[.val (.ref qa), .val (.int (2 : Int32)), .val (.int (4 : Int32))] [(.long x4)])) t
    exact k)
  obtain ⟨fs, hr, hrun, hended, hW, hsame⟩ := X0.leave (v := some (.long x4)) (fun h => by rw [Bd.returns] at h; cases h)
  refine ⟨_, _, own_from hS0 (P2 _ ?_), hrun, hended, _, _, rfl, ?_, ⟨_, rfl⟩, hW, hsame.mono (by decide) (by decide)⟩
  · show Steps p.tables e below (s₁.setTop (mkF m 18 #[.val (.ref qa), .val (.int (2 : Int32)), .val (.int (4 : Int32))] [(.long x4)])) _
    jvm_step X0.here [X0.here.top, hx, (hb hby d4_18), X0.method', Bd.returns, narrow]
    first | (intro acts; rw [hr _ acts rfl rfl rfl]) | rw [hr _ _ rfl rfl rfl]
    exact Steps.refl _
  · show Q4_2_4 Z qa qk x0 x1 x2 x3 x4 h0 n0 _ s₁.heap _
    rw [e0]
    exact ⟨rfl, N0, rfl⟩
theorem ef_4_3_0 (m : MethodId) (qa : Addr) : entryFrame m #[(.ref qa), (.int (3 : Int32)), (.int (0 : Int32))] 3 = mkF m 0 #[.val (.ref qa), .val (.int (3 : Int32)), .val (.int (0 : Int32))] [] := by first | (simp [entryFrame, mkF, argsToLocals, Value.category]; done) | rfl
def Q4_3_0 (Z : State) (qa : Addr) (qk : ClassId) (x0 : Int64) (x1 : Int64) (x2 : Int64) (x3 : Int64) (x4 : Int64) (h0 : Heap) (n0 : Nat) (v : Option Value) (h : Heap) (L : List Loc) : Prop := v = some (.long x2) ∧ Fr n0 L ∧ h = h0
set_option maxRecDepth 65536 in
set_option maxHeartbeats 40000000 in
theorem rm4_3_0 (l : Launch) (Z : State) (a0 : Array Value) (hw : ∀ d ∈ tables_1, d.before a0 Z = true) (ws : List Jvm.Cond) (qa : Addr) (qk : ClassId) (x0 : Int64) (x1 : Int64) (x2 : Int64) (x3 : Int64) (x4 : Int64) (h0 : Heap) (n0 : Nat) (Z0 : n0 ≤ h0.size) (A_qa : Arv Z h0 qa qk .long (5 : Int32) [(.long x0), (.long x1), (.long x2), (.long x3), (.long x4)] (.long (0 : Int64))) :
    MetFree l (⟨"com/example/splice/splice/KeysReversePinLaw", "at", "([JII)J"⟩ : MethodName) (head1 (Jvm.Cond.code (⟨"com/example/splice/splice/KeysReversePinLaw", "at", "([JII)J"⟩ : MethodName) method_2_code 3 (some .long) :: ws) ({ frames := 0, cells := 0, slots := 0, locals := 0 } : Room)) (fun a U => a = #[(.ref qa), (.int (3 : Int32)), (.int (0 : Int32))] ∧ Z.Warmed39 U.vm ∧ U.heap = h0) (fun _ _ _ _ _ => True) (fun _ U o U' => ∃ v L, o = .returned v ∧ Q4_3_0 Z qa qk x0 x1 x2 x3 x4 h0 n0 v U'.heap L ∧ FrameEnd U o U' L ({ frames := 0, cells := 0, slots := 0, locals := 0 } : Room).cells ({ frames := 0, cells := 0, slots := 0, locals := 0 } : Room).slots) := by
  refine MetFree.of_bodySF (plainFor_of_name pn_4) hisR ?_
  intro p e s m args below meth c s₁ Bd hml0 hP hK
  obtain ⟨rfl, hZ, hh⟩ := hP
  have hx := Bd.exec
  have hby := Bd.bytes
  have hml : c.maxLocals = 3 := hml0
  have hown : s.vm.findClass "com/example/splice/splice/KeysReversePinLaw" = some m.cls := findClass_of_methodNamed Bd.named
  have hnm := (name_of_methodNamed Bd.named Bd.method).1
  have X0 : Stand p l e ({ frames := 0, cells := 0, slots := 0, locals := 0 } : Room) s m #[(.ref qa), (.int (3 : Int32)), (.int (0 : Int32))] below meth c s₁ [] 0 0 := Stand.of_body Bd
  have e0 : s₁.heap = h0 := by rw [← hh, Bd.state]; rfl
  have N0 := Fr.nil n0
  obtain ⟨S0, hS0⟩ : ∃ z, z = s₁.setTop (entryFrame m #[(.ref qa), (.int (3 : Int32)), (.int (0 : Int32))] 3) := ⟨_, rfl⟩
  have P0 : own_Go p e below S0 (s₁.setTop (mkF m 0 #[.val (.ref qa), .val (.int (3 : Int32)), .val (.int (0 : Int32))] [])) := fun t k => by rw [hS0]; exact castTop (ef_4_3_0 m qa) k
  obtain ⟨cl1, Ar1, q1, Sz1, Nn1, Hh1, Gg1⟩ := id A_qa
  have hin1 : ¬ ((2 : Int32) < 0 ∨ cl1.slots.size ≤ ((2 : Int32)).toNatClampNeg) := inb_of Sz1 ⟨by decide, by decide⟩
  have hat1 : cl1.slots[((2 : Int32)).toNatClampNeg]? = some (.long x2) := Has.at Hh1 hin1 rfl
  have P2 : own_Go p e below S0 (s₁.setTop (mkF m 18 #[.val (.ref qa), .val (.int (3 : Int32)), .val (.int (0 : Int32))] [(.long x2)])) := fun t k => P0 t (by
    show Steps p.tables e below (s₁.setTop (mkF m 0 #[.val (.ref qa), .val (.int (3 : Int32)), .val (.int (0 : Int32))] [])) t
    refine XS.iloadN X0.here hx rfl (hb hby d4_0) rfl ?_
    refine XS.iloadN X0.here hx rfl (hb hby d4_1) rfl ?_
    refine XS.icmpNo X0.here hx rfl (hb hby d4_2) rfl (tlt (by decide)).2.1 ?_
    refine XS.aloadN X0.here hx rfl (hb hby d4_5) rfl rfl ?_
    refine XS.iloadN X0.here hx rfl (hb hby d4_6) rfl ?_
    refine XS.iconst X0.here hx rfl (hb hby d4_7) ?_
    show Steps p.tables e below (s₁.setTop (mkF m 8 #[.val (.ref qa), .val (.int (3 : Int32)), .val (.int (0 : Int32))] [(.int (1 : Int32)), (.int (3 : Int32)), (.ref qa)])) t
    refine XS.isub X0.here hx rfl (hb hby d4_8) rfl ?_
    refine XS.iloadN X0.here hx rfl (hb hby d4_9) rfl ?_
    refine XS.isub X0.here hx rfl (hb hby d4_10) rfl ?_
    show Steps p.tables e below (s₁.setTop (mkF m 11 #[.val (.ref qa), .val (.int (3 : Int32)), .val (.int (0 : Int32))] [(.int (2 : Int32)), (.ref qa)])) t
    refine X0.laload hx (j := (2 : Int32)) (v := (.long x2)) (by rw [e0]; exact Ar1.1) (State.isArrayOf_alike hZ.alike Ar1.2.1) Ar1.2.2 hin1 hat1 (g := (mkF m 11 #[.val (.ref qa), .val (.int (3 : Int32)), .val (.int (0 : Int32))] [(.int (2 : Int32)), (.ref qa)])) rfl rfl (hb hby d4_11) _ ?_
    refine XS.goto X0.here hx rfl (pc0 := 12) (pc' := 18) rfl (hb hby d4_12) (by decide) (by decide) ?_
    show Steps p.tables e below (s₁.setTop (mkF m 18 #[.val (.ref qa), .val (.int (3 : Int32)), .val (.int (0 : Int32))] [(.long x2)])) t
    exact k)
  obtain ⟨fs, hr, hrun, hended, hW, hsame⟩ := X0.leave (v := some (.long x2)) (fun h => by rw [Bd.returns] at h; cases h)
  refine ⟨_, _, own_from hS0 (P2 _ ?_), hrun, hended, _, _, rfl, ?_, ⟨_, rfl⟩, hW, hsame.mono (by decide) (by decide)⟩
  · show Steps p.tables e below (s₁.setTop (mkF m 18 #[.val (.ref qa), .val (.int (3 : Int32)), .val (.int (0 : Int32))] [(.long x2)])) _
    jvm_step X0.here [X0.here.top, hx, (hb hby d4_18), X0.method', Bd.returns, narrow]
    first | (intro acts; rw [hr _ acts rfl rfl rfl]) | rw [hr _ _ rfl rfl rfl]
    exact Steps.refl _
  · show Q4_3_0 Z qa qk x0 x1 x2 x3 x4 h0 n0 _ s₁.heap _
    rw [e0]
    exact ⟨rfl, N0, rfl⟩
theorem ef_4_3_1 (m : MethodId) (qa : Addr) : entryFrame m #[(.ref qa), (.int (3 : Int32)), (.int (1 : Int32))] 3 = mkF m 0 #[.val (.ref qa), .val (.int (3 : Int32)), .val (.int (1 : Int32))] [] := by first | (simp [entryFrame, mkF, argsToLocals, Value.category]; done) | rfl
def Q4_3_1 (Z : State) (qa : Addr) (qk : ClassId) (x0 : Int64) (x1 : Int64) (x2 : Int64) (x3 : Int64) (x4 : Int64) (h0 : Heap) (n0 : Nat) (v : Option Value) (h : Heap) (L : List Loc) : Prop := v = some (.long x1) ∧ Fr n0 L ∧ h = h0
set_option maxRecDepth 65536 in
set_option maxHeartbeats 40000000 in
theorem rm4_3_1 (l : Launch) (Z : State) (a0 : Array Value) (hw : ∀ d ∈ tables_1, d.before a0 Z = true) (ws : List Jvm.Cond) (qa : Addr) (qk : ClassId) (x0 : Int64) (x1 : Int64) (x2 : Int64) (x3 : Int64) (x4 : Int64) (h0 : Heap) (n0 : Nat) (Z0 : n0 ≤ h0.size) (A_qa : Arv Z h0 qa qk .long (5 : Int32) [(.long x0), (.long x1), (.long x2), (.long x3), (.long x4)] (.long (0 : Int64))) :
    MetFree l (⟨"com/example/splice/splice/KeysReversePinLaw", "at", "([JII)J"⟩ : MethodName) (head1 (Jvm.Cond.code (⟨"com/example/splice/splice/KeysReversePinLaw", "at", "([JII)J"⟩ : MethodName) method_2_code 3 (some .long) :: ws) ({ frames := 0, cells := 0, slots := 0, locals := 0 } : Room)) (fun a U => a = #[(.ref qa), (.int (3 : Int32)), (.int (1 : Int32))] ∧ Z.Warmed39 U.vm ∧ U.heap = h0) (fun _ _ _ _ _ => True) (fun _ U o U' => ∃ v L, o = .returned v ∧ Q4_3_1 Z qa qk x0 x1 x2 x3 x4 h0 n0 v U'.heap L ∧ FrameEnd U o U' L ({ frames := 0, cells := 0, slots := 0, locals := 0 } : Room).cells ({ frames := 0, cells := 0, slots := 0, locals := 0 } : Room).slots) := by
  refine MetFree.of_bodySF (plainFor_of_name pn_4) hisR ?_
  intro p e s m args below meth c s₁ Bd hml0 hP hK
  obtain ⟨rfl, hZ, hh⟩ := hP
  have hx := Bd.exec
  have hby := Bd.bytes
  have hml : c.maxLocals = 3 := hml0
  have hown : s.vm.findClass "com/example/splice/splice/KeysReversePinLaw" = some m.cls := findClass_of_methodNamed Bd.named
  have hnm := (name_of_methodNamed Bd.named Bd.method).1
  have X0 : Stand p l e ({ frames := 0, cells := 0, slots := 0, locals := 0 } : Room) s m #[(.ref qa), (.int (3 : Int32)), (.int (1 : Int32))] below meth c s₁ [] 0 0 := Stand.of_body Bd
  have e0 : s₁.heap = h0 := by rw [← hh, Bd.state]; rfl
  have N0 := Fr.nil n0
  obtain ⟨S0, hS0⟩ : ∃ z, z = s₁.setTop (entryFrame m #[(.ref qa), (.int (3 : Int32)), (.int (1 : Int32))] 3) := ⟨_, rfl⟩
  have P0 : own_Go p e below S0 (s₁.setTop (mkF m 0 #[.val (.ref qa), .val (.int (3 : Int32)), .val (.int (1 : Int32))] [])) := fun t k => by rw [hS0]; exact castTop (ef_4_3_1 m qa) k
  obtain ⟨cl1, Ar1, q1, Sz1, Nn1, Hh1, Gg1⟩ := id A_qa
  have hin1 : ¬ ((1 : Int32) < 0 ∨ cl1.slots.size ≤ ((1 : Int32)).toNatClampNeg) := inb_of Sz1 ⟨by decide, by decide⟩
  have hat1 : cl1.slots[((1 : Int32)).toNatClampNeg]? = some (.long x1) := Has.at Hh1 hin1 rfl
  have P2 : own_Go p e below S0 (s₁.setTop (mkF m 18 #[.val (.ref qa), .val (.int (3 : Int32)), .val (.int (1 : Int32))] [(.long x1)])) := fun t k => P0 t (by
    show Steps p.tables e below (s₁.setTop (mkF m 0 #[.val (.ref qa), .val (.int (3 : Int32)), .val (.int (1 : Int32))] [])) t
    refine XS.iloadN X0.here hx rfl (hb hby d4_0) rfl ?_
    refine XS.iloadN X0.here hx rfl (hb hby d4_1) rfl ?_
    refine XS.icmpNo X0.here hx rfl (hb hby d4_2) rfl (tlt (by decide)).2.1 ?_
    refine XS.aloadN X0.here hx rfl (hb hby d4_5) rfl rfl ?_
    refine XS.iloadN X0.here hx rfl (hb hby d4_6) rfl ?_
    refine XS.iconst X0.here hx rfl (hb hby d4_7) ?_
    show Steps p.tables e below (s₁.setTop (mkF m 8 #[.val (.ref qa), .val (.int (3 : Int32)), .val (.int (1 : Int32))] [(.int (1 : Int32)), (.int (3 : Int32)), (.ref qa)])) t
    refine XS.isub X0.here hx rfl (hb hby d4_8) rfl ?_
    refine XS.iloadN X0.here hx rfl (hb hby d4_9) rfl ?_
    refine XS.isub X0.here hx rfl (hb hby d4_10) rfl ?_
    show Steps p.tables e below (s₁.setTop (mkF m 11 #[.val (.ref qa), .val (.int (3 : Int32)), .val (.int (1 : Int32))] [(.int (1 : Int32)), (.ref qa)])) t
    refine X0.laload hx (j := (1 : Int32)) (v := (.long x1)) (by rw [e0]; exact Ar1.1) (State.isArrayOf_alike hZ.alike Ar1.2.1) Ar1.2.2 hin1 hat1 (g := (mkF m 11 #[.val (.ref qa), .val (.int (3 : Int32)), .val (.int (1 : Int32))] [(.int (1 : Int32)), (.ref qa)])) rfl rfl (hb hby d4_11) _ ?_
    refine XS.goto X0.here hx rfl (pc0 := 12) (pc' := 18) rfl (hb hby d4_12) (by decide) (by decide) ?_
    show Steps p.tables e below (s₁.setTop (mkF m 18 #[.val (.ref qa), .val (.int (3 : Int32)), .val (.int (1 : Int32))] [(.long x1)])) t
    exact k)
  obtain ⟨fs, hr, hrun, hended, hW, hsame⟩ := X0.leave (v := some (.long x1)) (fun h => by rw [Bd.returns] at h; cases h)
  refine ⟨_, _, own_from hS0 (P2 _ ?_), hrun, hended, _, _, rfl, ?_, ⟨_, rfl⟩, hW, hsame.mono (by decide) (by decide)⟩
  · show Steps p.tables e below (s₁.setTop (mkF m 18 #[.val (.ref qa), .val (.int (3 : Int32)), .val (.int (1 : Int32))] [(.long x1)])) _
    jvm_step X0.here [X0.here.top, hx, (hb hby d4_18), X0.method', Bd.returns, narrow]
    first | (intro acts; rw [hr _ acts rfl rfl rfl]) | rw [hr _ _ rfl rfl rfl]
    exact Steps.refl _
  · show Q4_3_1 Z qa qk x0 x1 x2 x3 x4 h0 n0 _ s₁.heap _
    rw [e0]
    exact ⟨rfl, N0, rfl⟩
theorem ef_4_3_2 (m : MethodId) (qa : Addr) : entryFrame m #[(.ref qa), (.int (3 : Int32)), (.int (2 : Int32))] 3 = mkF m 0 #[.val (.ref qa), .val (.int (3 : Int32)), .val (.int (2 : Int32))] [] := by first | (simp [entryFrame, mkF, argsToLocals, Value.category]; done) | rfl
def Q4_3_2 (Z : State) (qa : Addr) (qk : ClassId) (x0 : Int64) (x1 : Int64) (x2 : Int64) (x3 : Int64) (x4 : Int64) (h0 : Heap) (n0 : Nat) (v : Option Value) (h : Heap) (L : List Loc) : Prop := v = some (.long x0) ∧ Fr n0 L ∧ h = h0
set_option maxRecDepth 65536 in
set_option maxHeartbeats 40000000 in
theorem rm4_3_2 (l : Launch) (Z : State) (a0 : Array Value) (hw : ∀ d ∈ tables_1, d.before a0 Z = true) (ws : List Jvm.Cond) (qa : Addr) (qk : ClassId) (x0 : Int64) (x1 : Int64) (x2 : Int64) (x3 : Int64) (x4 : Int64) (h0 : Heap) (n0 : Nat) (Z0 : n0 ≤ h0.size) (A_qa : Arv Z h0 qa qk .long (5 : Int32) [(.long x0), (.long x1), (.long x2), (.long x3), (.long x4)] (.long (0 : Int64))) :
    MetFree l (⟨"com/example/splice/splice/KeysReversePinLaw", "at", "([JII)J"⟩ : MethodName) (head1 (Jvm.Cond.code (⟨"com/example/splice/splice/KeysReversePinLaw", "at", "([JII)J"⟩ : MethodName) method_2_code 3 (some .long) :: ws) ({ frames := 0, cells := 0, slots := 0, locals := 0 } : Room)) (fun a U => a = #[(.ref qa), (.int (3 : Int32)), (.int (2 : Int32))] ∧ Z.Warmed39 U.vm ∧ U.heap = h0) (fun _ _ _ _ _ => True) (fun _ U o U' => ∃ v L, o = .returned v ∧ Q4_3_2 Z qa qk x0 x1 x2 x3 x4 h0 n0 v U'.heap L ∧ FrameEnd U o U' L ({ frames := 0, cells := 0, slots := 0, locals := 0 } : Room).cells ({ frames := 0, cells := 0, slots := 0, locals := 0 } : Room).slots) := by
  refine MetFree.of_bodySF (plainFor_of_name pn_4) hisR ?_
  intro p e s m args below meth c s₁ Bd hml0 hP hK
  obtain ⟨rfl, hZ, hh⟩ := hP
  have hx := Bd.exec
  have hby := Bd.bytes
  have hml : c.maxLocals = 3 := hml0
  have hown : s.vm.findClass "com/example/splice/splice/KeysReversePinLaw" = some m.cls := findClass_of_methodNamed Bd.named
  have hnm := (name_of_methodNamed Bd.named Bd.method).1
  have X0 : Stand p l e ({ frames := 0, cells := 0, slots := 0, locals := 0 } : Room) s m #[(.ref qa), (.int (3 : Int32)), (.int (2 : Int32))] below meth c s₁ [] 0 0 := Stand.of_body Bd
  have e0 : s₁.heap = h0 := by rw [← hh, Bd.state]; rfl
  have N0 := Fr.nil n0
  obtain ⟨S0, hS0⟩ : ∃ z, z = s₁.setTop (entryFrame m #[(.ref qa), (.int (3 : Int32)), (.int (2 : Int32))] 3) := ⟨_, rfl⟩
  have P0 : own_Go p e below S0 (s₁.setTop (mkF m 0 #[.val (.ref qa), .val (.int (3 : Int32)), .val (.int (2 : Int32))] [])) := fun t k => by rw [hS0]; exact castTop (ef_4_3_2 m qa) k
  obtain ⟨cl1, Ar1, q1, Sz1, Nn1, Hh1, Gg1⟩ := id A_qa
  have hin1 : ¬ ((0 : Int32) < 0 ∨ cl1.slots.size ≤ ((0 : Int32)).toNatClampNeg) := inb_of Sz1 ⟨by decide, by decide⟩
  have hat1 : cl1.slots[((0 : Int32)).toNatClampNeg]? = some (.long x0) := Has.at Hh1 hin1 rfl
  have P2 : own_Go p e below S0 (s₁.setTop (mkF m 18 #[.val (.ref qa), .val (.int (3 : Int32)), .val (.int (2 : Int32))] [(.long x0)])) := fun t k => P0 t (by
    show Steps p.tables e below (s₁.setTop (mkF m 0 #[.val (.ref qa), .val (.int (3 : Int32)), .val (.int (2 : Int32))] [])) t
    refine XS.iloadN X0.here hx rfl (hb hby d4_0) rfl ?_
    refine XS.iloadN X0.here hx rfl (hb hby d4_1) rfl ?_
    refine XS.icmpNo X0.here hx rfl (hb hby d4_2) rfl (tlt (by decide)).2.1 ?_
    refine XS.aloadN X0.here hx rfl (hb hby d4_5) rfl rfl ?_
    refine XS.iloadN X0.here hx rfl (hb hby d4_6) rfl ?_
    refine XS.iconst X0.here hx rfl (hb hby d4_7) ?_
    show Steps p.tables e below (s₁.setTop (mkF m 8 #[.val (.ref qa), .val (.int (3 : Int32)), .val (.int (2 : Int32))] [(.int (1 : Int32)), (.int (3 : Int32)), (.ref qa)])) t
    refine XS.isub X0.here hx rfl (hb hby d4_8) rfl ?_
    refine XS.iloadN X0.here hx rfl (hb hby d4_9) rfl ?_
    refine XS.isub X0.here hx rfl (hb hby d4_10) rfl ?_
    show Steps p.tables e below (s₁.setTop (mkF m 11 #[.val (.ref qa), .val (.int (3 : Int32)), .val (.int (2 : Int32))] [(.int (0 : Int32)), (.ref qa)])) t
    refine X0.laload hx (j := (0 : Int32)) (v := (.long x0)) (by rw [e0]; exact Ar1.1) (State.isArrayOf_alike hZ.alike Ar1.2.1) Ar1.2.2 hin1 hat1 (g := (mkF m 11 #[.val (.ref qa), .val (.int (3 : Int32)), .val (.int (2 : Int32))] [(.int (0 : Int32)), (.ref qa)])) rfl rfl (hb hby d4_11) _ ?_
    refine XS.goto X0.here hx rfl (pc0 := 12) (pc' := 18) rfl (hb hby d4_12) (by decide) (by decide) ?_
    show Steps p.tables e below (s₁.setTop (mkF m 18 #[.val (.ref qa), .val (.int (3 : Int32)), .val (.int (2 : Int32))] [(.long x0)])) t
    exact k)
  obtain ⟨fs, hr, hrun, hended, hW, hsame⟩ := X0.leave (v := some (.long x0)) (fun h => by rw [Bd.returns] at h; cases h)
  refine ⟨_, _, own_from hS0 (P2 _ ?_), hrun, hended, _, _, rfl, ?_, ⟨_, rfl⟩, hW, hsame.mono (by decide) (by decide)⟩
  · show Steps p.tables e below (s₁.setTop (mkF m 18 #[.val (.ref qa), .val (.int (3 : Int32)), .val (.int (2 : Int32))] [(.long x0)])) _
    jvm_step X0.here [X0.here.top, hx, (hb hby d4_18), X0.method', Bd.returns, narrow]
    first | (intro acts; rw [hr _ acts rfl rfl rfl]) | rw [hr _ _ rfl rfl rfl]
    exact Steps.refl _
  · show Q4_3_2 Z qa qk x0 x1 x2 x3 x4 h0 n0 _ s₁.heap _
    rw [e0]
    exact ⟨rfl, N0, rfl⟩
theorem ef_4_3_3 (m : MethodId) (qa : Addr) : entryFrame m #[(.ref qa), (.int (3 : Int32)), (.int (3 : Int32))] 3 = mkF m 0 #[.val (.ref qa), .val (.int (3 : Int32)), .val (.int (3 : Int32))] [] := by first | (simp [entryFrame, mkF, argsToLocals, Value.category]; done) | rfl
def Q4_3_3 (Z : State) (qa : Addr) (qk : ClassId) (x0 : Int64) (x1 : Int64) (x2 : Int64) (x3 : Int64) (x4 : Int64) (h0 : Heap) (n0 : Nat) (v : Option Value) (h : Heap) (L : List Loc) : Prop := v = some (.long x3) ∧ Fr n0 L ∧ h = h0
set_option maxRecDepth 65536 in
set_option maxHeartbeats 40000000 in
theorem rm4_3_3 (l : Launch) (Z : State) (a0 : Array Value) (hw : ∀ d ∈ tables_1, d.before a0 Z = true) (ws : List Jvm.Cond) (qa : Addr) (qk : ClassId) (x0 : Int64) (x1 : Int64) (x2 : Int64) (x3 : Int64) (x4 : Int64) (h0 : Heap) (n0 : Nat) (Z0 : n0 ≤ h0.size) (A_qa : Arv Z h0 qa qk .long (5 : Int32) [(.long x0), (.long x1), (.long x2), (.long x3), (.long x4)] (.long (0 : Int64))) :
    MetFree l (⟨"com/example/splice/splice/KeysReversePinLaw", "at", "([JII)J"⟩ : MethodName) (head1 (Jvm.Cond.code (⟨"com/example/splice/splice/KeysReversePinLaw", "at", "([JII)J"⟩ : MethodName) method_2_code 3 (some .long) :: ws) ({ frames := 0, cells := 0, slots := 0, locals := 0 } : Room)) (fun a U => a = #[(.ref qa), (.int (3 : Int32)), (.int (3 : Int32))] ∧ Z.Warmed39 U.vm ∧ U.heap = h0) (fun _ _ _ _ _ => True) (fun _ U o U' => ∃ v L, o = .returned v ∧ Q4_3_3 Z qa qk x0 x1 x2 x3 x4 h0 n0 v U'.heap L ∧ FrameEnd U o U' L ({ frames := 0, cells := 0, slots := 0, locals := 0 } : Room).cells ({ frames := 0, cells := 0, slots := 0, locals := 0 } : Room).slots) := by
  refine MetFree.of_bodySF (plainFor_of_name pn_4) hisR ?_
  intro p e s m args below meth c s₁ Bd hml0 hP hK
  obtain ⟨rfl, hZ, hh⟩ := hP
  have hx := Bd.exec
  have hby := Bd.bytes
  have hml : c.maxLocals = 3 := hml0
  have hown : s.vm.findClass "com/example/splice/splice/KeysReversePinLaw" = some m.cls := findClass_of_methodNamed Bd.named
  have hnm := (name_of_methodNamed Bd.named Bd.method).1
  have X0 : Stand p l e ({ frames := 0, cells := 0, slots := 0, locals := 0 } : Room) s m #[(.ref qa), (.int (3 : Int32)), (.int (3 : Int32))] below meth c s₁ [] 0 0 := Stand.of_body Bd
  have e0 : s₁.heap = h0 := by rw [← hh, Bd.state]; rfl
  have N0 := Fr.nil n0
  obtain ⟨S0, hS0⟩ : ∃ z, z = s₁.setTop (entryFrame m #[(.ref qa), (.int (3 : Int32)), (.int (3 : Int32))] 3) := ⟨_, rfl⟩
  have P0 : own_Go p e below S0 (s₁.setTop (mkF m 0 #[.val (.ref qa), .val (.int (3 : Int32)), .val (.int (3 : Int32))] [])) := fun t k => by rw [hS0]; exact castTop (ef_4_3_3 m qa) k
  obtain ⟨cl1, Ar1, q1, Sz1, Nn1, Hh1, Gg1⟩ := id A_qa
  have hin1 : ¬ ((3 : Int32) < 0 ∨ cl1.slots.size ≤ ((3 : Int32)).toNatClampNeg) := inb_of Sz1 ⟨by decide, by decide⟩
  have hat1 : cl1.slots[((3 : Int32)).toNatClampNeg]? = some (.long x3) := Has.at Hh1 hin1 rfl
  have P2 : own_Go p e below S0 (s₁.setTop (mkF m 18 #[.val (.ref qa), .val (.int (3 : Int32)), .val (.int (3 : Int32))] [(.long x3)])) := fun t k => P0 t (by
    show Steps p.tables e below (s₁.setTop (mkF m 0 #[.val (.ref qa), .val (.int (3 : Int32)), .val (.int (3 : Int32))] [])) t
    refine XS.iloadN X0.here hx rfl (hb hby d4_0) rfl ?_
    refine XS.iloadN X0.here hx rfl (hb hby d4_1) rfl ?_
    refine XS.icmpYes X0.here hx rfl (pc0 := 2) (pc' := 15) rfl (hb hby d4_2) rfl (flt (by decide)).2.1 (by decide) (by decide) ?_
    refine XS.aloadN X0.here hx rfl (hb hby d4_15) rfl rfl ?_
    refine XS.iloadN X0.here hx rfl (hb hby d4_16) rfl ?_
    show Steps p.tables e below (s₁.setTop (mkF m 17 #[.val (.ref qa), .val (.int (3 : Int32)), .val (.int (3 : Int32))] [(.int (3 : Int32)), (.ref qa)])) t
    refine X0.laload hx (j := (3 : Int32)) (v := (.long x3)) (by rw [e0]; exact Ar1.1) (State.isArrayOf_alike hZ.alike Ar1.2.1) Ar1.2.2 hin1 hat1 (g := (mkF m 17 #[.val (.ref qa), .val (.int (3 : Int32)), .val (.int (3 : Int32))] [(.int (3 : Int32)), (.ref qa)])) rfl rfl (hb hby d4_17) _ ?_
    show Steps p.tables e below (s₁.setTop (mkF m 18 #[.val (.ref qa), .val (.int (3 : Int32)), .val (.int (3 : Int32))] [(.long x3)])) t
    exact k)
  obtain ⟨fs, hr, hrun, hended, hW, hsame⟩ := X0.leave (v := some (.long x3)) (fun h => by rw [Bd.returns] at h; cases h)
  refine ⟨_, _, own_from hS0 (P2 _ ?_), hrun, hended, _, _, rfl, ?_, ⟨_, rfl⟩, hW, hsame.mono (by decide) (by decide)⟩
  · show Steps p.tables e below (s₁.setTop (mkF m 18 #[.val (.ref qa), .val (.int (3 : Int32)), .val (.int (3 : Int32))] [(.long x3)])) _
    jvm_step X0.here [X0.here.top, hx, (hb hby d4_18), X0.method', Bd.returns, narrow]
    first | (intro acts; rw [hr _ acts rfl rfl rfl]) | rw [hr _ _ rfl rfl rfl]
    exact Steps.refl _
  · show Q4_3_3 Z qa qk x0 x1 x2 x3 x4 h0 n0 _ s₁.heap _
    rw [e0]
    exact ⟨rfl, N0, rfl⟩
theorem ef_4_3_4 (m : MethodId) (qa : Addr) : entryFrame m #[(.ref qa), (.int (3 : Int32)), (.int (4 : Int32))] 3 = mkF m 0 #[.val (.ref qa), .val (.int (3 : Int32)), .val (.int (4 : Int32))] [] := by first | (simp [entryFrame, mkF, argsToLocals, Value.category]; done) | rfl
def Q4_3_4 (Z : State) (qa : Addr) (qk : ClassId) (x0 : Int64) (x1 : Int64) (x2 : Int64) (x3 : Int64) (x4 : Int64) (h0 : Heap) (n0 : Nat) (v : Option Value) (h : Heap) (L : List Loc) : Prop := v = some (.long x4) ∧ Fr n0 L ∧ h = h0
set_option maxRecDepth 65536 in
set_option maxHeartbeats 40000000 in
theorem rm4_3_4 (l : Launch) (Z : State) (a0 : Array Value) (hw : ∀ d ∈ tables_1, d.before a0 Z = true) (ws : List Jvm.Cond) (qa : Addr) (qk : ClassId) (x0 : Int64) (x1 : Int64) (x2 : Int64) (x3 : Int64) (x4 : Int64) (h0 : Heap) (n0 : Nat) (Z0 : n0 ≤ h0.size) (A_qa : Arv Z h0 qa qk .long (5 : Int32) [(.long x0), (.long x1), (.long x2), (.long x3), (.long x4)] (.long (0 : Int64))) :
    MetFree l (⟨"com/example/splice/splice/KeysReversePinLaw", "at", "([JII)J"⟩ : MethodName) (head1 (Jvm.Cond.code (⟨"com/example/splice/splice/KeysReversePinLaw", "at", "([JII)J"⟩ : MethodName) method_2_code 3 (some .long) :: ws) ({ frames := 0, cells := 0, slots := 0, locals := 0 } : Room)) (fun a U => a = #[(.ref qa), (.int (3 : Int32)), (.int (4 : Int32))] ∧ Z.Warmed39 U.vm ∧ U.heap = h0) (fun _ _ _ _ _ => True) (fun _ U o U' => ∃ v L, o = .returned v ∧ Q4_3_4 Z qa qk x0 x1 x2 x3 x4 h0 n0 v U'.heap L ∧ FrameEnd U o U' L ({ frames := 0, cells := 0, slots := 0, locals := 0 } : Room).cells ({ frames := 0, cells := 0, slots := 0, locals := 0 } : Room).slots) := by
  refine MetFree.of_bodySF (plainFor_of_name pn_4) hisR ?_
  intro p e s m args below meth c s₁ Bd hml0 hP hK
  obtain ⟨rfl, hZ, hh⟩ := hP
  have hx := Bd.exec
  have hby := Bd.bytes
  have hml : c.maxLocals = 3 := hml0
  have hown : s.vm.findClass "com/example/splice/splice/KeysReversePinLaw" = some m.cls := findClass_of_methodNamed Bd.named
  have hnm := (name_of_methodNamed Bd.named Bd.method).1
  have X0 : Stand p l e ({ frames := 0, cells := 0, slots := 0, locals := 0 } : Room) s m #[(.ref qa), (.int (3 : Int32)), (.int (4 : Int32))] below meth c s₁ [] 0 0 := Stand.of_body Bd
  have e0 : s₁.heap = h0 := by rw [← hh, Bd.state]; rfl
  have N0 := Fr.nil n0
  obtain ⟨S0, hS0⟩ : ∃ z, z = s₁.setTop (entryFrame m #[(.ref qa), (.int (3 : Int32)), (.int (4 : Int32))] 3) := ⟨_, rfl⟩
  have P0 : own_Go p e below S0 (s₁.setTop (mkF m 0 #[.val (.ref qa), .val (.int (3 : Int32)), .val (.int (4 : Int32))] [])) := fun t k => by rw [hS0]; exact castTop (ef_4_3_4 m qa) k
  obtain ⟨cl1, Ar1, q1, Sz1, Nn1, Hh1, Gg1⟩ := id A_qa
  have hin1 : ¬ ((4 : Int32) < 0 ∨ cl1.slots.size ≤ ((4 : Int32)).toNatClampNeg) := inb_of Sz1 ⟨by decide, by decide⟩
  have hat1 : cl1.slots[((4 : Int32)).toNatClampNeg]? = some (.long x4) := Has.at Hh1 hin1 rfl
  have P2 : own_Go p e below S0 (s₁.setTop (mkF m 18 #[.val (.ref qa), .val (.int (3 : Int32)), .val (.int (4 : Int32))] [(.long x4)])) := fun t k => P0 t (by
    show Steps p.tables e below (s₁.setTop (mkF m 0 #[.val (.ref qa), .val (.int (3 : Int32)), .val (.int (4 : Int32))] [])) t
    refine XS.iloadN X0.here hx rfl (hb hby d4_0) rfl ?_
    refine XS.iloadN X0.here hx rfl (hb hby d4_1) rfl ?_
    refine XS.icmpYes X0.here hx rfl (pc0 := 2) (pc' := 15) rfl (hb hby d4_2) rfl (flt (by decide)).2.1 (by decide) (by decide) ?_
    refine XS.aloadN X0.here hx rfl (hb hby d4_15) rfl rfl ?_
    refine XS.iloadN X0.here hx rfl (hb hby d4_16) rfl ?_
    show Steps p.tables e below (s₁.setTop (mkF m 17 #[.val (.ref qa), .val (.int (3 : Int32)), .val (.int (4 : Int32))] [(.int (4 : Int32)), (.ref qa)])) t
    refine X0.laload hx (j := (4 : Int32)) (v := (.long x4)) (by rw [e0]; exact Ar1.1) (State.isArrayOf_alike hZ.alike Ar1.2.1) Ar1.2.2 hin1 hat1 (g := (mkF m 17 #[.val (.ref qa), .val (.int (3 : Int32)), .val (.int (4 : Int32))] [(.int (4 : Int32)), (.ref qa)])) rfl rfl (hb hby d4_17) _ ?_
    show Steps p.tables e below (s₁.setTop (mkF m 18 #[.val (.ref qa), .val (.int (3 : Int32)), .val (.int (4 : Int32))] [(.long x4)])) t
    exact k)
  obtain ⟨fs, hr, hrun, hended, hW, hsame⟩ := X0.leave (v := some (.long x4)) (fun h => by rw [Bd.returns] at h; cases h)
  refine ⟨_, _, own_from hS0 (P2 _ ?_), hrun, hended, _, _, rfl, ?_, ⟨_, rfl⟩, hW, hsame.mono (by decide) (by decide)⟩
  · show Steps p.tables e below (s₁.setTop (mkF m 18 #[.val (.ref qa), .val (.int (3 : Int32)), .val (.int (4 : Int32))] [(.long x4)])) _
    jvm_step X0.here [X0.here.top, hx, (hb hby d4_18), X0.method', Bd.returns, narrow]
    first | (intro acts; rw [hr _ acts rfl rfl rfl]) | rw [hr _ _ rfl rfl rfl]
    exact Steps.refl _
  · show Q4_3_4 Z qa qk x0 x1 x2 x3 x4 h0 n0 _ s₁.heap _
    rw [e0]
    exact ⟨rfl, N0, rfl⟩
theorem ef_4_4_0 (m : MethodId) (qa : Addr) : entryFrame m #[(.ref qa), (.int (4 : Int32)), (.int (0 : Int32))] 3 = mkF m 0 #[.val (.ref qa), .val (.int (4 : Int32)), .val (.int (0 : Int32))] [] := by first | (simp [entryFrame, mkF, argsToLocals, Value.category]; done) | rfl
def Q4_4_0 (Z : State) (qa : Addr) (qk : ClassId) (x0 : Int64) (x1 : Int64) (x2 : Int64) (x3 : Int64) (x4 : Int64) (h0 : Heap) (n0 : Nat) (v : Option Value) (h : Heap) (L : List Loc) : Prop := v = some (.long x3) ∧ Fr n0 L ∧ h = h0
set_option maxRecDepth 65536 in
set_option maxHeartbeats 40000000 in
theorem rm4_4_0 (l : Launch) (Z : State) (a0 : Array Value) (hw : ∀ d ∈ tables_1, d.before a0 Z = true) (ws : List Jvm.Cond) (qa : Addr) (qk : ClassId) (x0 : Int64) (x1 : Int64) (x2 : Int64) (x3 : Int64) (x4 : Int64) (h0 : Heap) (n0 : Nat) (Z0 : n0 ≤ h0.size) (A_qa : Arv Z h0 qa qk .long (5 : Int32) [(.long x0), (.long x1), (.long x2), (.long x3), (.long x4)] (.long (0 : Int64))) :
    MetFree l (⟨"com/example/splice/splice/KeysReversePinLaw", "at", "([JII)J"⟩ : MethodName) (head1 (Jvm.Cond.code (⟨"com/example/splice/splice/KeysReversePinLaw", "at", "([JII)J"⟩ : MethodName) method_2_code 3 (some .long) :: ws) ({ frames := 0, cells := 0, slots := 0, locals := 0 } : Room)) (fun a U => a = #[(.ref qa), (.int (4 : Int32)), (.int (0 : Int32))] ∧ Z.Warmed39 U.vm ∧ U.heap = h0) (fun _ _ _ _ _ => True) (fun _ U o U' => ∃ v L, o = .returned v ∧ Q4_4_0 Z qa qk x0 x1 x2 x3 x4 h0 n0 v U'.heap L ∧ FrameEnd U o U' L ({ frames := 0, cells := 0, slots := 0, locals := 0 } : Room).cells ({ frames := 0, cells := 0, slots := 0, locals := 0 } : Room).slots) := by
  refine MetFree.of_bodySF (plainFor_of_name pn_4) hisR ?_
  intro p e s m args below meth c s₁ Bd hml0 hP hK
  obtain ⟨rfl, hZ, hh⟩ := hP
  have hx := Bd.exec
  have hby := Bd.bytes
  have hml : c.maxLocals = 3 := hml0
  have hown : s.vm.findClass "com/example/splice/splice/KeysReversePinLaw" = some m.cls := findClass_of_methodNamed Bd.named
  have hnm := (name_of_methodNamed Bd.named Bd.method).1
  have X0 : Stand p l e ({ frames := 0, cells := 0, slots := 0, locals := 0 } : Room) s m #[(.ref qa), (.int (4 : Int32)), (.int (0 : Int32))] below meth c s₁ [] 0 0 := Stand.of_body Bd
  have e0 : s₁.heap = h0 := by rw [← hh, Bd.state]; rfl
  have N0 := Fr.nil n0
  obtain ⟨S0, hS0⟩ : ∃ z, z = s₁.setTop (entryFrame m #[(.ref qa), (.int (4 : Int32)), (.int (0 : Int32))] 3) := ⟨_, rfl⟩
  have P0 : own_Go p e below S0 (s₁.setTop (mkF m 0 #[.val (.ref qa), .val (.int (4 : Int32)), .val (.int (0 : Int32))] [])) := fun t k => by rw [hS0]; exact castTop (ef_4_4_0 m qa) k
  obtain ⟨cl1, Ar1, q1, Sz1, Nn1, Hh1, Gg1⟩ := id A_qa
  have hin1 : ¬ ((3 : Int32) < 0 ∨ cl1.slots.size ≤ ((3 : Int32)).toNatClampNeg) := inb_of Sz1 ⟨by decide, by decide⟩
  have hat1 : cl1.slots[((3 : Int32)).toNatClampNeg]? = some (.long x3) := Has.at Hh1 hin1 rfl
  have P2 : own_Go p e below S0 (s₁.setTop (mkF m 18 #[.val (.ref qa), .val (.int (4 : Int32)), .val (.int (0 : Int32))] [(.long x3)])) := fun t k => P0 t (by
    show Steps p.tables e below (s₁.setTop (mkF m 0 #[.val (.ref qa), .val (.int (4 : Int32)), .val (.int (0 : Int32))] [])) t
    refine XS.iloadN X0.here hx rfl (hb hby d4_0) rfl ?_
    refine XS.iloadN X0.here hx rfl (hb hby d4_1) rfl ?_
    refine XS.icmpNo X0.here hx rfl (hb hby d4_2) rfl (tlt (by decide)).2.1 ?_
    refine XS.aloadN X0.here hx rfl (hb hby d4_5) rfl rfl ?_
    refine XS.iloadN X0.here hx rfl (hb hby d4_6) rfl ?_
    refine XS.iconst X0.here hx rfl (hb hby d4_7) ?_
    show Steps p.tables e below (s₁.setTop (mkF m 8 #[.val (.ref qa), .val (.int (4 : Int32)), .val (.int (0 : Int32))] [(.int (1 : Int32)), (.int (4 : Int32)), (.ref qa)])) t
    refine XS.isub X0.here hx rfl (hb hby d4_8) rfl ?_
    refine XS.iloadN X0.here hx rfl (hb hby d4_9) rfl ?_
    refine XS.isub X0.here hx rfl (hb hby d4_10) rfl ?_
    show Steps p.tables e below (s₁.setTop (mkF m 11 #[.val (.ref qa), .val (.int (4 : Int32)), .val (.int (0 : Int32))] [(.int (3 : Int32)), (.ref qa)])) t
    refine X0.laload hx (j := (3 : Int32)) (v := (.long x3)) (by rw [e0]; exact Ar1.1) (State.isArrayOf_alike hZ.alike Ar1.2.1) Ar1.2.2 hin1 hat1 (g := (mkF m 11 #[.val (.ref qa), .val (.int (4 : Int32)), .val (.int (0 : Int32))] [(.int (3 : Int32)), (.ref qa)])) rfl rfl (hb hby d4_11) _ ?_
    refine XS.goto X0.here hx rfl (pc0 := 12) (pc' := 18) rfl (hb hby d4_12) (by decide) (by decide) ?_
    show Steps p.tables e below (s₁.setTop (mkF m 18 #[.val (.ref qa), .val (.int (4 : Int32)), .val (.int (0 : Int32))] [(.long x3)])) t
    exact k)
  obtain ⟨fs, hr, hrun, hended, hW, hsame⟩ := X0.leave (v := some (.long x3)) (fun h => by rw [Bd.returns] at h; cases h)
  refine ⟨_, _, own_from hS0 (P2 _ ?_), hrun, hended, _, _, rfl, ?_, ⟨_, rfl⟩, hW, hsame.mono (by decide) (by decide)⟩
  · show Steps p.tables e below (s₁.setTop (mkF m 18 #[.val (.ref qa), .val (.int (4 : Int32)), .val (.int (0 : Int32))] [(.long x3)])) _
    jvm_step X0.here [X0.here.top, hx, (hb hby d4_18), X0.method', Bd.returns, narrow]
    first | (intro acts; rw [hr _ acts rfl rfl rfl]) | rw [hr _ _ rfl rfl rfl]
    exact Steps.refl _
  · show Q4_4_0 Z qa qk x0 x1 x2 x3 x4 h0 n0 _ s₁.heap _
    rw [e0]
    exact ⟨rfl, N0, rfl⟩
theorem ef_4_4_1 (m : MethodId) (qa : Addr) : entryFrame m #[(.ref qa), (.int (4 : Int32)), (.int (1 : Int32))] 3 = mkF m 0 #[.val (.ref qa), .val (.int (4 : Int32)), .val (.int (1 : Int32))] [] := by first | (simp [entryFrame, mkF, argsToLocals, Value.category]; done) | rfl
def Q4_4_1 (Z : State) (qa : Addr) (qk : ClassId) (x0 : Int64) (x1 : Int64) (x2 : Int64) (x3 : Int64) (x4 : Int64) (h0 : Heap) (n0 : Nat) (v : Option Value) (h : Heap) (L : List Loc) : Prop := v = some (.long x2) ∧ Fr n0 L ∧ h = h0
set_option maxRecDepth 65536 in
set_option maxHeartbeats 40000000 in
theorem rm4_4_1 (l : Launch) (Z : State) (a0 : Array Value) (hw : ∀ d ∈ tables_1, d.before a0 Z = true) (ws : List Jvm.Cond) (qa : Addr) (qk : ClassId) (x0 : Int64) (x1 : Int64) (x2 : Int64) (x3 : Int64) (x4 : Int64) (h0 : Heap) (n0 : Nat) (Z0 : n0 ≤ h0.size) (A_qa : Arv Z h0 qa qk .long (5 : Int32) [(.long x0), (.long x1), (.long x2), (.long x3), (.long x4)] (.long (0 : Int64))) :
    MetFree l (⟨"com/example/splice/splice/KeysReversePinLaw", "at", "([JII)J"⟩ : MethodName) (head1 (Jvm.Cond.code (⟨"com/example/splice/splice/KeysReversePinLaw", "at", "([JII)J"⟩ : MethodName) method_2_code 3 (some .long) :: ws) ({ frames := 0, cells := 0, slots := 0, locals := 0 } : Room)) (fun a U => a = #[(.ref qa), (.int (4 : Int32)), (.int (1 : Int32))] ∧ Z.Warmed39 U.vm ∧ U.heap = h0) (fun _ _ _ _ _ => True) (fun _ U o U' => ∃ v L, o = .returned v ∧ Q4_4_1 Z qa qk x0 x1 x2 x3 x4 h0 n0 v U'.heap L ∧ FrameEnd U o U' L ({ frames := 0, cells := 0, slots := 0, locals := 0 } : Room).cells ({ frames := 0, cells := 0, slots := 0, locals := 0 } : Room).slots) := by
  refine MetFree.of_bodySF (plainFor_of_name pn_4) hisR ?_
  intro p e s m args below meth c s₁ Bd hml0 hP hK
  obtain ⟨rfl, hZ, hh⟩ := hP
  have hx := Bd.exec
  have hby := Bd.bytes
  have hml : c.maxLocals = 3 := hml0
  have hown : s.vm.findClass "com/example/splice/splice/KeysReversePinLaw" = some m.cls := findClass_of_methodNamed Bd.named
  have hnm := (name_of_methodNamed Bd.named Bd.method).1
  have X0 : Stand p l e ({ frames := 0, cells := 0, slots := 0, locals := 0 } : Room) s m #[(.ref qa), (.int (4 : Int32)), (.int (1 : Int32))] below meth c s₁ [] 0 0 := Stand.of_body Bd
  have e0 : s₁.heap = h0 := by rw [← hh, Bd.state]; rfl
  have N0 := Fr.nil n0
  obtain ⟨S0, hS0⟩ : ∃ z, z = s₁.setTop (entryFrame m #[(.ref qa), (.int (4 : Int32)), (.int (1 : Int32))] 3) := ⟨_, rfl⟩
  have P0 : own_Go p e below S0 (s₁.setTop (mkF m 0 #[.val (.ref qa), .val (.int (4 : Int32)), .val (.int (1 : Int32))] [])) := fun t k => by rw [hS0]; exact castTop (ef_4_4_1 m qa) k
  obtain ⟨cl1, Ar1, q1, Sz1, Nn1, Hh1, Gg1⟩ := id A_qa
  have hin1 : ¬ ((2 : Int32) < 0 ∨ cl1.slots.size ≤ ((2 : Int32)).toNatClampNeg) := inb_of Sz1 ⟨by decide, by decide⟩
  have hat1 : cl1.slots[((2 : Int32)).toNatClampNeg]? = some (.long x2) := Has.at Hh1 hin1 rfl
  have P2 : own_Go p e below S0 (s₁.setTop (mkF m 18 #[.val (.ref qa), .val (.int (4 : Int32)), .val (.int (1 : Int32))] [(.long x2)])) := fun t k => P0 t (by
    show Steps p.tables e below (s₁.setTop (mkF m 0 #[.val (.ref qa), .val (.int (4 : Int32)), .val (.int (1 : Int32))] [])) t
    refine XS.iloadN X0.here hx rfl (hb hby d4_0) rfl ?_
    refine XS.iloadN X0.here hx rfl (hb hby d4_1) rfl ?_
    refine XS.icmpNo X0.here hx rfl (hb hby d4_2) rfl (tlt (by decide)).2.1 ?_
    refine XS.aloadN X0.here hx rfl (hb hby d4_5) rfl rfl ?_
    refine XS.iloadN X0.here hx rfl (hb hby d4_6) rfl ?_
    refine XS.iconst X0.here hx rfl (hb hby d4_7) ?_
    show Steps p.tables e below (s₁.setTop (mkF m 8 #[.val (.ref qa), .val (.int (4 : Int32)), .val (.int (1 : Int32))] [(.int (1 : Int32)), (.int (4 : Int32)), (.ref qa)])) t
    refine XS.isub X0.here hx rfl (hb hby d4_8) rfl ?_
    refine XS.iloadN X0.here hx rfl (hb hby d4_9) rfl ?_
    refine XS.isub X0.here hx rfl (hb hby d4_10) rfl ?_
    show Steps p.tables e below (s₁.setTop (mkF m 11 #[.val (.ref qa), .val (.int (4 : Int32)), .val (.int (1 : Int32))] [(.int (2 : Int32)), (.ref qa)])) t
    refine X0.laload hx (j := (2 : Int32)) (v := (.long x2)) (by rw [e0]; exact Ar1.1) (State.isArrayOf_alike hZ.alike Ar1.2.1) Ar1.2.2 hin1 hat1 (g := (mkF m 11 #[.val (.ref qa), .val (.int (4 : Int32)), .val (.int (1 : Int32))] [(.int (2 : Int32)), (.ref qa)])) rfl rfl (hb hby d4_11) _ ?_
    refine XS.goto X0.here hx rfl (pc0 := 12) (pc' := 18) rfl (hb hby d4_12) (by decide) (by decide) ?_
    show Steps p.tables e below (s₁.setTop (mkF m 18 #[.val (.ref qa), .val (.int (4 : Int32)), .val (.int (1 : Int32))] [(.long x2)])) t
    exact k)
  obtain ⟨fs, hr, hrun, hended, hW, hsame⟩ := X0.leave (v := some (.long x2)) (fun h => by rw [Bd.returns] at h; cases h)
  refine ⟨_, _, own_from hS0 (P2 _ ?_), hrun, hended, _, _, rfl, ?_, ⟨_, rfl⟩, hW, hsame.mono (by decide) (by decide)⟩
  · show Steps p.tables e below (s₁.setTop (mkF m 18 #[.val (.ref qa), .val (.int (4 : Int32)), .val (.int (1 : Int32))] [(.long x2)])) _
    jvm_step X0.here [X0.here.top, hx, (hb hby d4_18), X0.method', Bd.returns, narrow]
    first | (intro acts; rw [hr _ acts rfl rfl rfl]) | rw [hr _ _ rfl rfl rfl]
    exact Steps.refl _
  · show Q4_4_1 Z qa qk x0 x1 x2 x3 x4 h0 n0 _ s₁.heap _
    rw [e0]
    exact ⟨rfl, N0, rfl⟩
theorem ef_4_4_2 (m : MethodId) (qa : Addr) : entryFrame m #[(.ref qa), (.int (4 : Int32)), (.int (2 : Int32))] 3 = mkF m 0 #[.val (.ref qa), .val (.int (4 : Int32)), .val (.int (2 : Int32))] [] := by first | (simp [entryFrame, mkF, argsToLocals, Value.category]; done) | rfl
def Q4_4_2 (Z : State) (qa : Addr) (qk : ClassId) (x0 : Int64) (x1 : Int64) (x2 : Int64) (x3 : Int64) (x4 : Int64) (h0 : Heap) (n0 : Nat) (v : Option Value) (h : Heap) (L : List Loc) : Prop := v = some (.long x1) ∧ Fr n0 L ∧ h = h0
set_option maxRecDepth 65536 in
set_option maxHeartbeats 40000000 in
theorem rm4_4_2 (l : Launch) (Z : State) (a0 : Array Value) (hw : ∀ d ∈ tables_1, d.before a0 Z = true) (ws : List Jvm.Cond) (qa : Addr) (qk : ClassId) (x0 : Int64) (x1 : Int64) (x2 : Int64) (x3 : Int64) (x4 : Int64) (h0 : Heap) (n0 : Nat) (Z0 : n0 ≤ h0.size) (A_qa : Arv Z h0 qa qk .long (5 : Int32) [(.long x0), (.long x1), (.long x2), (.long x3), (.long x4)] (.long (0 : Int64))) :
    MetFree l (⟨"com/example/splice/splice/KeysReversePinLaw", "at", "([JII)J"⟩ : MethodName) (head1 (Jvm.Cond.code (⟨"com/example/splice/splice/KeysReversePinLaw", "at", "([JII)J"⟩ : MethodName) method_2_code 3 (some .long) :: ws) ({ frames := 0, cells := 0, slots := 0, locals := 0 } : Room)) (fun a U => a = #[(.ref qa), (.int (4 : Int32)), (.int (2 : Int32))] ∧ Z.Warmed39 U.vm ∧ U.heap = h0) (fun _ _ _ _ _ => True) (fun _ U o U' => ∃ v L, o = .returned v ∧ Q4_4_2 Z qa qk x0 x1 x2 x3 x4 h0 n0 v U'.heap L ∧ FrameEnd U o U' L ({ frames := 0, cells := 0, slots := 0, locals := 0 } : Room).cells ({ frames := 0, cells := 0, slots := 0, locals := 0 } : Room).slots) := by
  refine MetFree.of_bodySF (plainFor_of_name pn_4) hisR ?_
  intro p e s m args below meth c s₁ Bd hml0 hP hK
  obtain ⟨rfl, hZ, hh⟩ := hP
  have hx := Bd.exec
  have hby := Bd.bytes
  have hml : c.maxLocals = 3 := hml0
  have hown : s.vm.findClass "com/example/splice/splice/KeysReversePinLaw" = some m.cls := findClass_of_methodNamed Bd.named
  have hnm := (name_of_methodNamed Bd.named Bd.method).1
  have X0 : Stand p l e ({ frames := 0, cells := 0, slots := 0, locals := 0 } : Room) s m #[(.ref qa), (.int (4 : Int32)), (.int (2 : Int32))] below meth c s₁ [] 0 0 := Stand.of_body Bd
  have e0 : s₁.heap = h0 := by rw [← hh, Bd.state]; rfl
  have N0 := Fr.nil n0
  obtain ⟨S0, hS0⟩ : ∃ z, z = s₁.setTop (entryFrame m #[(.ref qa), (.int (4 : Int32)), (.int (2 : Int32))] 3) := ⟨_, rfl⟩
  have P0 : own_Go p e below S0 (s₁.setTop (mkF m 0 #[.val (.ref qa), .val (.int (4 : Int32)), .val (.int (2 : Int32))] [])) := fun t k => by rw [hS0]; exact castTop (ef_4_4_2 m qa) k
  obtain ⟨cl1, Ar1, q1, Sz1, Nn1, Hh1, Gg1⟩ := id A_qa
  have hin1 : ¬ ((1 : Int32) < 0 ∨ cl1.slots.size ≤ ((1 : Int32)).toNatClampNeg) := inb_of Sz1 ⟨by decide, by decide⟩
  have hat1 : cl1.slots[((1 : Int32)).toNatClampNeg]? = some (.long x1) := Has.at Hh1 hin1 rfl
  have P2 : own_Go p e below S0 (s₁.setTop (mkF m 18 #[.val (.ref qa), .val (.int (4 : Int32)), .val (.int (2 : Int32))] [(.long x1)])) := fun t k => P0 t (by
    show Steps p.tables e below (s₁.setTop (mkF m 0 #[.val (.ref qa), .val (.int (4 : Int32)), .val (.int (2 : Int32))] [])) t
    refine XS.iloadN X0.here hx rfl (hb hby d4_0) rfl ?_
    refine XS.iloadN X0.here hx rfl (hb hby d4_1) rfl ?_
    refine XS.icmpNo X0.here hx rfl (hb hby d4_2) rfl (tlt (by decide)).2.1 ?_
    refine XS.aloadN X0.here hx rfl (hb hby d4_5) rfl rfl ?_
    refine XS.iloadN X0.here hx rfl (hb hby d4_6) rfl ?_
    refine XS.iconst X0.here hx rfl (hb hby d4_7) ?_
    show Steps p.tables e below (s₁.setTop (mkF m 8 #[.val (.ref qa), .val (.int (4 : Int32)), .val (.int (2 : Int32))] [(.int (1 : Int32)), (.int (4 : Int32)), (.ref qa)])) t
    refine XS.isub X0.here hx rfl (hb hby d4_8) rfl ?_
    refine XS.iloadN X0.here hx rfl (hb hby d4_9) rfl ?_
    refine XS.isub X0.here hx rfl (hb hby d4_10) rfl ?_
    show Steps p.tables e below (s₁.setTop (mkF m 11 #[.val (.ref qa), .val (.int (4 : Int32)), .val (.int (2 : Int32))] [(.int (1 : Int32)), (.ref qa)])) t
    refine X0.laload hx (j := (1 : Int32)) (v := (.long x1)) (by rw [e0]; exact Ar1.1) (State.isArrayOf_alike hZ.alike Ar1.2.1) Ar1.2.2 hin1 hat1 (g := (mkF m 11 #[.val (.ref qa), .val (.int (4 : Int32)), .val (.int (2 : Int32))] [(.int (1 : Int32)), (.ref qa)])) rfl rfl (hb hby d4_11) _ ?_
    refine XS.goto X0.here hx rfl (pc0 := 12) (pc' := 18) rfl (hb hby d4_12) (by decide) (by decide) ?_
    show Steps p.tables e below (s₁.setTop (mkF m 18 #[.val (.ref qa), .val (.int (4 : Int32)), .val (.int (2 : Int32))] [(.long x1)])) t
    exact k)
  obtain ⟨fs, hr, hrun, hended, hW, hsame⟩ := X0.leave (v := some (.long x1)) (fun h => by rw [Bd.returns] at h; cases h)
  refine ⟨_, _, own_from hS0 (P2 _ ?_), hrun, hended, _, _, rfl, ?_, ⟨_, rfl⟩, hW, hsame.mono (by decide) (by decide)⟩
  · show Steps p.tables e below (s₁.setTop (mkF m 18 #[.val (.ref qa), .val (.int (4 : Int32)), .val (.int (2 : Int32))] [(.long x1)])) _
    jvm_step X0.here [X0.here.top, hx, (hb hby d4_18), X0.method', Bd.returns, narrow]
    first | (intro acts; rw [hr _ acts rfl rfl rfl]) | rw [hr _ _ rfl rfl rfl]
    exact Steps.refl _
  · show Q4_4_2 Z qa qk x0 x1 x2 x3 x4 h0 n0 _ s₁.heap _
    rw [e0]
    exact ⟨rfl, N0, rfl⟩
theorem ef_4_4_3 (m : MethodId) (qa : Addr) : entryFrame m #[(.ref qa), (.int (4 : Int32)), (.int (3 : Int32))] 3 = mkF m 0 #[.val (.ref qa), .val (.int (4 : Int32)), .val (.int (3 : Int32))] [] := by first | (simp [entryFrame, mkF, argsToLocals, Value.category]; done) | rfl
def Q4_4_3 (Z : State) (qa : Addr) (qk : ClassId) (x0 : Int64) (x1 : Int64) (x2 : Int64) (x3 : Int64) (x4 : Int64) (h0 : Heap) (n0 : Nat) (v : Option Value) (h : Heap) (L : List Loc) : Prop := v = some (.long x0) ∧ Fr n0 L ∧ h = h0
set_option maxRecDepth 65536 in
set_option maxHeartbeats 40000000 in
theorem rm4_4_3 (l : Launch) (Z : State) (a0 : Array Value) (hw : ∀ d ∈ tables_1, d.before a0 Z = true) (ws : List Jvm.Cond) (qa : Addr) (qk : ClassId) (x0 : Int64) (x1 : Int64) (x2 : Int64) (x3 : Int64) (x4 : Int64) (h0 : Heap) (n0 : Nat) (Z0 : n0 ≤ h0.size) (A_qa : Arv Z h0 qa qk .long (5 : Int32) [(.long x0), (.long x1), (.long x2), (.long x3), (.long x4)] (.long (0 : Int64))) :
    MetFree l (⟨"com/example/splice/splice/KeysReversePinLaw", "at", "([JII)J"⟩ : MethodName) (head1 (Jvm.Cond.code (⟨"com/example/splice/splice/KeysReversePinLaw", "at", "([JII)J"⟩ : MethodName) method_2_code 3 (some .long) :: ws) ({ frames := 0, cells := 0, slots := 0, locals := 0 } : Room)) (fun a U => a = #[(.ref qa), (.int (4 : Int32)), (.int (3 : Int32))] ∧ Z.Warmed39 U.vm ∧ U.heap = h0) (fun _ _ _ _ _ => True) (fun _ U o U' => ∃ v L, o = .returned v ∧ Q4_4_3 Z qa qk x0 x1 x2 x3 x4 h0 n0 v U'.heap L ∧ FrameEnd U o U' L ({ frames := 0, cells := 0, slots := 0, locals := 0 } : Room).cells ({ frames := 0, cells := 0, slots := 0, locals := 0 } : Room).slots) := by
  refine MetFree.of_bodySF (plainFor_of_name pn_4) hisR ?_
  intro p e s m args below meth c s₁ Bd hml0 hP hK
  obtain ⟨rfl, hZ, hh⟩ := hP
  have hx := Bd.exec
  have hby := Bd.bytes
  have hml : c.maxLocals = 3 := hml0
  have hown : s.vm.findClass "com/example/splice/splice/KeysReversePinLaw" = some m.cls := findClass_of_methodNamed Bd.named
  have hnm := (name_of_methodNamed Bd.named Bd.method).1
  have X0 : Stand p l e ({ frames := 0, cells := 0, slots := 0, locals := 0 } : Room) s m #[(.ref qa), (.int (4 : Int32)), (.int (3 : Int32))] below meth c s₁ [] 0 0 := Stand.of_body Bd
  have e0 : s₁.heap = h0 := by rw [← hh, Bd.state]; rfl
  have N0 := Fr.nil n0
  obtain ⟨S0, hS0⟩ : ∃ z, z = s₁.setTop (entryFrame m #[(.ref qa), (.int (4 : Int32)), (.int (3 : Int32))] 3) := ⟨_, rfl⟩
  have P0 : own_Go p e below S0 (s₁.setTop (mkF m 0 #[.val (.ref qa), .val (.int (4 : Int32)), .val (.int (3 : Int32))] [])) := fun t k => by rw [hS0]; exact castTop (ef_4_4_3 m qa) k
  obtain ⟨cl1, Ar1, q1, Sz1, Nn1, Hh1, Gg1⟩ := id A_qa
  have hin1 : ¬ ((0 : Int32) < 0 ∨ cl1.slots.size ≤ ((0 : Int32)).toNatClampNeg) := inb_of Sz1 ⟨by decide, by decide⟩
  have hat1 : cl1.slots[((0 : Int32)).toNatClampNeg]? = some (.long x0) := Has.at Hh1 hin1 rfl
  have P2 : own_Go p e below S0 (s₁.setTop (mkF m 18 #[.val (.ref qa), .val (.int (4 : Int32)), .val (.int (3 : Int32))] [(.long x0)])) := fun t k => P0 t (by
    show Steps p.tables e below (s₁.setTop (mkF m 0 #[.val (.ref qa), .val (.int (4 : Int32)), .val (.int (3 : Int32))] [])) t
    refine XS.iloadN X0.here hx rfl (hb hby d4_0) rfl ?_
    refine XS.iloadN X0.here hx rfl (hb hby d4_1) rfl ?_
    refine XS.icmpNo X0.here hx rfl (hb hby d4_2) rfl (tlt (by decide)).2.1 ?_
    refine XS.aloadN X0.here hx rfl (hb hby d4_5) rfl rfl ?_
    refine XS.iloadN X0.here hx rfl (hb hby d4_6) rfl ?_
    refine XS.iconst X0.here hx rfl (hb hby d4_7) ?_
    show Steps p.tables e below (s₁.setTop (mkF m 8 #[.val (.ref qa), .val (.int (4 : Int32)), .val (.int (3 : Int32))] [(.int (1 : Int32)), (.int (4 : Int32)), (.ref qa)])) t
    refine XS.isub X0.here hx rfl (hb hby d4_8) rfl ?_
    refine XS.iloadN X0.here hx rfl (hb hby d4_9) rfl ?_
    refine XS.isub X0.here hx rfl (hb hby d4_10) rfl ?_
    show Steps p.tables e below (s₁.setTop (mkF m 11 #[.val (.ref qa), .val (.int (4 : Int32)), .val (.int (3 : Int32))] [(.int (0 : Int32)), (.ref qa)])) t
    refine X0.laload hx (j := (0 : Int32)) (v := (.long x0)) (by rw [e0]; exact Ar1.1) (State.isArrayOf_alike hZ.alike Ar1.2.1) Ar1.2.2 hin1 hat1 (g := (mkF m 11 #[.val (.ref qa), .val (.int (4 : Int32)), .val (.int (3 : Int32))] [(.int (0 : Int32)), (.ref qa)])) rfl rfl (hb hby d4_11) _ ?_
    refine XS.goto X0.here hx rfl (pc0 := 12) (pc' := 18) rfl (hb hby d4_12) (by decide) (by decide) ?_
    show Steps p.tables e below (s₁.setTop (mkF m 18 #[.val (.ref qa), .val (.int (4 : Int32)), .val (.int (3 : Int32))] [(.long x0)])) t
    exact k)
  obtain ⟨fs, hr, hrun, hended, hW, hsame⟩ := X0.leave (v := some (.long x0)) (fun h => by rw [Bd.returns] at h; cases h)
  refine ⟨_, _, own_from hS0 (P2 _ ?_), hrun, hended, _, _, rfl, ?_, ⟨_, rfl⟩, hW, hsame.mono (by decide) (by decide)⟩
  · show Steps p.tables e below (s₁.setTop (mkF m 18 #[.val (.ref qa), .val (.int (4 : Int32)), .val (.int (3 : Int32))] [(.long x0)])) _
    jvm_step X0.here [X0.here.top, hx, (hb hby d4_18), X0.method', Bd.returns, narrow]
    first | (intro acts; rw [hr _ acts rfl rfl rfl]) | rw [hr _ _ rfl rfl rfl]
    exact Steps.refl _
  · show Q4_4_3 Z qa qk x0 x1 x2 x3 x4 h0 n0 _ s₁.heap _
    rw [e0]
    exact ⟨rfl, N0, rfl⟩
theorem ef_4_4_4 (m : MethodId) (qa : Addr) : entryFrame m #[(.ref qa), (.int (4 : Int32)), (.int (4 : Int32))] 3 = mkF m 0 #[.val (.ref qa), .val (.int (4 : Int32)), .val (.int (4 : Int32))] [] := by first | (simp [entryFrame, mkF, argsToLocals, Value.category]; done) | rfl
def Q4_4_4 (Z : State) (qa : Addr) (qk : ClassId) (x0 : Int64) (x1 : Int64) (x2 : Int64) (x3 : Int64) (x4 : Int64) (h0 : Heap) (n0 : Nat) (v : Option Value) (h : Heap) (L : List Loc) : Prop := v = some (.long x4) ∧ Fr n0 L ∧ h = h0
set_option maxRecDepth 65536 in
set_option maxHeartbeats 40000000 in
theorem rm4_4_4 (l : Launch) (Z : State) (a0 : Array Value) (hw : ∀ d ∈ tables_1, d.before a0 Z = true) (ws : List Jvm.Cond) (qa : Addr) (qk : ClassId) (x0 : Int64) (x1 : Int64) (x2 : Int64) (x3 : Int64) (x4 : Int64) (h0 : Heap) (n0 : Nat) (Z0 : n0 ≤ h0.size) (A_qa : Arv Z h0 qa qk .long (5 : Int32) [(.long x0), (.long x1), (.long x2), (.long x3), (.long x4)] (.long (0 : Int64))) :
    MetFree l (⟨"com/example/splice/splice/KeysReversePinLaw", "at", "([JII)J"⟩ : MethodName) (head1 (Jvm.Cond.code (⟨"com/example/splice/splice/KeysReversePinLaw", "at", "([JII)J"⟩ : MethodName) method_2_code 3 (some .long) :: ws) ({ frames := 0, cells := 0, slots := 0, locals := 0 } : Room)) (fun a U => a = #[(.ref qa), (.int (4 : Int32)), (.int (4 : Int32))] ∧ Z.Warmed39 U.vm ∧ U.heap = h0) (fun _ _ _ _ _ => True) (fun _ U o U' => ∃ v L, o = .returned v ∧ Q4_4_4 Z qa qk x0 x1 x2 x3 x4 h0 n0 v U'.heap L ∧ FrameEnd U o U' L ({ frames := 0, cells := 0, slots := 0, locals := 0 } : Room).cells ({ frames := 0, cells := 0, slots := 0, locals := 0 } : Room).slots) := by
  refine MetFree.of_bodySF (plainFor_of_name pn_4) hisR ?_
  intro p e s m args below meth c s₁ Bd hml0 hP hK
  obtain ⟨rfl, hZ, hh⟩ := hP
  have hx := Bd.exec
  have hby := Bd.bytes
  have hml : c.maxLocals = 3 := hml0
  have hown : s.vm.findClass "com/example/splice/splice/KeysReversePinLaw" = some m.cls := findClass_of_methodNamed Bd.named
  have hnm := (name_of_methodNamed Bd.named Bd.method).1
  have X0 : Stand p l e ({ frames := 0, cells := 0, slots := 0, locals := 0 } : Room) s m #[(.ref qa), (.int (4 : Int32)), (.int (4 : Int32))] below meth c s₁ [] 0 0 := Stand.of_body Bd
  have e0 : s₁.heap = h0 := by rw [← hh, Bd.state]; rfl
  have N0 := Fr.nil n0
  obtain ⟨S0, hS0⟩ : ∃ z, z = s₁.setTop (entryFrame m #[(.ref qa), (.int (4 : Int32)), (.int (4 : Int32))] 3) := ⟨_, rfl⟩
  have P0 : own_Go p e below S0 (s₁.setTop (mkF m 0 #[.val (.ref qa), .val (.int (4 : Int32)), .val (.int (4 : Int32))] [])) := fun t k => by rw [hS0]; exact castTop (ef_4_4_4 m qa) k
  obtain ⟨cl1, Ar1, q1, Sz1, Nn1, Hh1, Gg1⟩ := id A_qa
  have hin1 : ¬ ((4 : Int32) < 0 ∨ cl1.slots.size ≤ ((4 : Int32)).toNatClampNeg) := inb_of Sz1 ⟨by decide, by decide⟩
  have hat1 : cl1.slots[((4 : Int32)).toNatClampNeg]? = some (.long x4) := Has.at Hh1 hin1 rfl
  have P2 : own_Go p e below S0 (s₁.setTop (mkF m 18 #[.val (.ref qa), .val (.int (4 : Int32)), .val (.int (4 : Int32))] [(.long x4)])) := fun t k => P0 t (by
    show Steps p.tables e below (s₁.setTop (mkF m 0 #[.val (.ref qa), .val (.int (4 : Int32)), .val (.int (4 : Int32))] [])) t
    refine XS.iloadN X0.here hx rfl (hb hby d4_0) rfl ?_
    refine XS.iloadN X0.here hx rfl (hb hby d4_1) rfl ?_
    refine XS.icmpYes X0.here hx rfl (pc0 := 2) (pc' := 15) rfl (hb hby d4_2) rfl (flt (by decide)).2.1 (by decide) (by decide) ?_
    refine XS.aloadN X0.here hx rfl (hb hby d4_15) rfl rfl ?_
    refine XS.iloadN X0.here hx rfl (hb hby d4_16) rfl ?_
    show Steps p.tables e below (s₁.setTop (mkF m 17 #[.val (.ref qa), .val (.int (4 : Int32)), .val (.int (4 : Int32))] [(.int (4 : Int32)), (.ref qa)])) t
    refine X0.laload hx (j := (4 : Int32)) (v := (.long x4)) (by rw [e0]; exact Ar1.1) (State.isArrayOf_alike hZ.alike Ar1.2.1) Ar1.2.2 hin1 hat1 (g := (mkF m 17 #[.val (.ref qa), .val (.int (4 : Int32)), .val (.int (4 : Int32))] [(.int (4 : Int32)), (.ref qa)])) rfl rfl (hb hby d4_17) _ ?_
    show Steps p.tables e below (s₁.setTop (mkF m 18 #[.val (.ref qa), .val (.int (4 : Int32)), .val (.int (4 : Int32))] [(.long x4)])) t
    exact k)
  obtain ⟨fs, hr, hrun, hended, hW, hsame⟩ := X0.leave (v := some (.long x4)) (fun h => by rw [Bd.returns] at h; cases h)
  refine ⟨_, _, own_from hS0 (P2 _ ?_), hrun, hended, _, _, rfl, ?_, ⟨_, rfl⟩, hW, hsame.mono (by decide) (by decide)⟩
  · show Steps p.tables e below (s₁.setTop (mkF m 18 #[.val (.ref qa), .val (.int (4 : Int32)), .val (.int (4 : Int32))] [(.long x4)])) _
    jvm_step X0.here [X0.here.top, hx, (hb hby d4_18), X0.method', Bd.returns, narrow]
    first | (intro acts; rw [hr _ acts rfl rfl rfl]) | rw [hr _ _ rfl rfl rfl]
    exact Steps.refl _
  · show Q4_4_4 Z qa qk x0 x1 x2 x3 x4 h0 n0 _ s₁.heap _
    rw [e0]
    exact ⟨rfl, N0, rfl⟩
theorem ef_4_5_0 (m : MethodId) (qa : Addr) : entryFrame m #[(.ref qa), (.int (5 : Int32)), (.int (0 : Int32))] 3 = mkF m 0 #[.val (.ref qa), .val (.int (5 : Int32)), .val (.int (0 : Int32))] [] := by first | (simp [entryFrame, mkF, argsToLocals, Value.category]; done) | rfl
def Q4_5_0 (Z : State) (qa : Addr) (qk : ClassId) (x0 : Int64) (x1 : Int64) (x2 : Int64) (x3 : Int64) (x4 : Int64) (h0 : Heap) (n0 : Nat) (v : Option Value) (h : Heap) (L : List Loc) : Prop := v = some (.long x4) ∧ Fr n0 L ∧ h = h0
set_option maxRecDepth 65536 in
set_option maxHeartbeats 40000000 in
theorem rm4_5_0 (l : Launch) (Z : State) (a0 : Array Value) (hw : ∀ d ∈ tables_1, d.before a0 Z = true) (ws : List Jvm.Cond) (qa : Addr) (qk : ClassId) (x0 : Int64) (x1 : Int64) (x2 : Int64) (x3 : Int64) (x4 : Int64) (h0 : Heap) (n0 : Nat) (Z0 : n0 ≤ h0.size) (A_qa : Arv Z h0 qa qk .long (5 : Int32) [(.long x0), (.long x1), (.long x2), (.long x3), (.long x4)] (.long (0 : Int64))) :
    MetFree l (⟨"com/example/splice/splice/KeysReversePinLaw", "at", "([JII)J"⟩ : MethodName) (head1 (Jvm.Cond.code (⟨"com/example/splice/splice/KeysReversePinLaw", "at", "([JII)J"⟩ : MethodName) method_2_code 3 (some .long) :: ws) ({ frames := 0, cells := 0, slots := 0, locals := 0 } : Room)) (fun a U => a = #[(.ref qa), (.int (5 : Int32)), (.int (0 : Int32))] ∧ Z.Warmed39 U.vm ∧ U.heap = h0) (fun _ _ _ _ _ => True) (fun _ U o U' => ∃ v L, o = .returned v ∧ Q4_5_0 Z qa qk x0 x1 x2 x3 x4 h0 n0 v U'.heap L ∧ FrameEnd U o U' L ({ frames := 0, cells := 0, slots := 0, locals := 0 } : Room).cells ({ frames := 0, cells := 0, slots := 0, locals := 0 } : Room).slots) := by
  refine MetFree.of_bodySF (plainFor_of_name pn_4) hisR ?_
  intro p e s m args below meth c s₁ Bd hml0 hP hK
  obtain ⟨rfl, hZ, hh⟩ := hP
  have hx := Bd.exec
  have hby := Bd.bytes
  have hml : c.maxLocals = 3 := hml0
  have hown : s.vm.findClass "com/example/splice/splice/KeysReversePinLaw" = some m.cls := findClass_of_methodNamed Bd.named
  have hnm := (name_of_methodNamed Bd.named Bd.method).1
  have X0 : Stand p l e ({ frames := 0, cells := 0, slots := 0, locals := 0 } : Room) s m #[(.ref qa), (.int (5 : Int32)), (.int (0 : Int32))] below meth c s₁ [] 0 0 := Stand.of_body Bd
  have e0 : s₁.heap = h0 := by rw [← hh, Bd.state]; rfl
  have N0 := Fr.nil n0
  obtain ⟨S0, hS0⟩ : ∃ z, z = s₁.setTop (entryFrame m #[(.ref qa), (.int (5 : Int32)), (.int (0 : Int32))] 3) := ⟨_, rfl⟩
  have P0 : own_Go p e below S0 (s₁.setTop (mkF m 0 #[.val (.ref qa), .val (.int (5 : Int32)), .val (.int (0 : Int32))] [])) := fun t k => by rw [hS0]; exact castTop (ef_4_5_0 m qa) k
  obtain ⟨cl1, Ar1, q1, Sz1, Nn1, Hh1, Gg1⟩ := id A_qa
  have hin1 : ¬ ((4 : Int32) < 0 ∨ cl1.slots.size ≤ ((4 : Int32)).toNatClampNeg) := inb_of Sz1 ⟨by decide, by decide⟩
  have hat1 : cl1.slots[((4 : Int32)).toNatClampNeg]? = some (.long x4) := Has.at Hh1 hin1 rfl
  have P2 : own_Go p e below S0 (s₁.setTop (mkF m 18 #[.val (.ref qa), .val (.int (5 : Int32)), .val (.int (0 : Int32))] [(.long x4)])) := fun t k => P0 t (by
    show Steps p.tables e below (s₁.setTop (mkF m 0 #[.val (.ref qa), .val (.int (5 : Int32)), .val (.int (0 : Int32))] [])) t
    refine XS.iloadN X0.here hx rfl (hb hby d4_0) rfl ?_
    refine XS.iloadN X0.here hx rfl (hb hby d4_1) rfl ?_
    refine XS.icmpNo X0.here hx rfl (hb hby d4_2) rfl (tlt (by decide)).2.1 ?_
    refine XS.aloadN X0.here hx rfl (hb hby d4_5) rfl rfl ?_
    refine XS.iloadN X0.here hx rfl (hb hby d4_6) rfl ?_
    refine XS.iconst X0.here hx rfl (hb hby d4_7) ?_
    show Steps p.tables e below (s₁.setTop (mkF m 8 #[.val (.ref qa), .val (.int (5 : Int32)), .val (.int (0 : Int32))] [(.int (1 : Int32)), (.int (5 : Int32)), (.ref qa)])) t
    refine XS.isub X0.here hx rfl (hb hby d4_8) rfl ?_
    refine XS.iloadN X0.here hx rfl (hb hby d4_9) rfl ?_
    refine XS.isub X0.here hx rfl (hb hby d4_10) rfl ?_
    show Steps p.tables e below (s₁.setTop (mkF m 11 #[.val (.ref qa), .val (.int (5 : Int32)), .val (.int (0 : Int32))] [(.int (4 : Int32)), (.ref qa)])) t
    refine X0.laload hx (j := (4 : Int32)) (v := (.long x4)) (by rw [e0]; exact Ar1.1) (State.isArrayOf_alike hZ.alike Ar1.2.1) Ar1.2.2 hin1 hat1 (g := (mkF m 11 #[.val (.ref qa), .val (.int (5 : Int32)), .val (.int (0 : Int32))] [(.int (4 : Int32)), (.ref qa)])) rfl rfl (hb hby d4_11) _ ?_
    refine XS.goto X0.here hx rfl (pc0 := 12) (pc' := 18) rfl (hb hby d4_12) (by decide) (by decide) ?_
    show Steps p.tables e below (s₁.setTop (mkF m 18 #[.val (.ref qa), .val (.int (5 : Int32)), .val (.int (0 : Int32))] [(.long x4)])) t
    exact k)
  obtain ⟨fs, hr, hrun, hended, hW, hsame⟩ := X0.leave (v := some (.long x4)) (fun h => by rw [Bd.returns] at h; cases h)
  refine ⟨_, _, own_from hS0 (P2 _ ?_), hrun, hended, _, _, rfl, ?_, ⟨_, rfl⟩, hW, hsame.mono (by decide) (by decide)⟩
  · show Steps p.tables e below (s₁.setTop (mkF m 18 #[.val (.ref qa), .val (.int (5 : Int32)), .val (.int (0 : Int32))] [(.long x4)])) _
    jvm_step X0.here [X0.here.top, hx, (hb hby d4_18), X0.method', Bd.returns, narrow]
    first | (intro acts; rw [hr _ acts rfl rfl rfl]) | rw [hr _ _ rfl rfl rfl]
    exact Steps.refl _
  · show Q4_5_0 Z qa qk x0 x1 x2 x3 x4 h0 n0 _ s₁.heap _
    rw [e0]
    exact ⟨rfl, N0, rfl⟩
theorem ef_4_5_1 (m : MethodId) (qa : Addr) : entryFrame m #[(.ref qa), (.int (5 : Int32)), (.int (1 : Int32))] 3 = mkF m 0 #[.val (.ref qa), .val (.int (5 : Int32)), .val (.int (1 : Int32))] [] := by first | (simp [entryFrame, mkF, argsToLocals, Value.category]; done) | rfl
def Q4_5_1 (Z : State) (qa : Addr) (qk : ClassId) (x0 : Int64) (x1 : Int64) (x2 : Int64) (x3 : Int64) (x4 : Int64) (h0 : Heap) (n0 : Nat) (v : Option Value) (h : Heap) (L : List Loc) : Prop := v = some (.long x3) ∧ Fr n0 L ∧ h = h0
set_option maxRecDepth 65536 in
set_option maxHeartbeats 40000000 in
theorem rm4_5_1 (l : Launch) (Z : State) (a0 : Array Value) (hw : ∀ d ∈ tables_1, d.before a0 Z = true) (ws : List Jvm.Cond) (qa : Addr) (qk : ClassId) (x0 : Int64) (x1 : Int64) (x2 : Int64) (x3 : Int64) (x4 : Int64) (h0 : Heap) (n0 : Nat) (Z0 : n0 ≤ h0.size) (A_qa : Arv Z h0 qa qk .long (5 : Int32) [(.long x0), (.long x1), (.long x2), (.long x3), (.long x4)] (.long (0 : Int64))) :
    MetFree l (⟨"com/example/splice/splice/KeysReversePinLaw", "at", "([JII)J"⟩ : MethodName) (head1 (Jvm.Cond.code (⟨"com/example/splice/splice/KeysReversePinLaw", "at", "([JII)J"⟩ : MethodName) method_2_code 3 (some .long) :: ws) ({ frames := 0, cells := 0, slots := 0, locals := 0 } : Room)) (fun a U => a = #[(.ref qa), (.int (5 : Int32)), (.int (1 : Int32))] ∧ Z.Warmed39 U.vm ∧ U.heap = h0) (fun _ _ _ _ _ => True) (fun _ U o U' => ∃ v L, o = .returned v ∧ Q4_5_1 Z qa qk x0 x1 x2 x3 x4 h0 n0 v U'.heap L ∧ FrameEnd U o U' L ({ frames := 0, cells := 0, slots := 0, locals := 0 } : Room).cells ({ frames := 0, cells := 0, slots := 0, locals := 0 } : Room).slots) := by
  refine MetFree.of_bodySF (plainFor_of_name pn_4) hisR ?_
  intro p e s m args below meth c s₁ Bd hml0 hP hK
  obtain ⟨rfl, hZ, hh⟩ := hP
  have hx := Bd.exec
  have hby := Bd.bytes
  have hml : c.maxLocals = 3 := hml0
  have hown : s.vm.findClass "com/example/splice/splice/KeysReversePinLaw" = some m.cls := findClass_of_methodNamed Bd.named
  have hnm := (name_of_methodNamed Bd.named Bd.method).1
  have X0 : Stand p l e ({ frames := 0, cells := 0, slots := 0, locals := 0 } : Room) s m #[(.ref qa), (.int (5 : Int32)), (.int (1 : Int32))] below meth c s₁ [] 0 0 := Stand.of_body Bd
  have e0 : s₁.heap = h0 := by rw [← hh, Bd.state]; rfl
  have N0 := Fr.nil n0
  obtain ⟨S0, hS0⟩ : ∃ z, z = s₁.setTop (entryFrame m #[(.ref qa), (.int (5 : Int32)), (.int (1 : Int32))] 3) := ⟨_, rfl⟩
  have P0 : own_Go p e below S0 (s₁.setTop (mkF m 0 #[.val (.ref qa), .val (.int (5 : Int32)), .val (.int (1 : Int32))] [])) := fun t k => by rw [hS0]; exact castTop (ef_4_5_1 m qa) k
  obtain ⟨cl1, Ar1, q1, Sz1, Nn1, Hh1, Gg1⟩ := id A_qa
  have hin1 : ¬ ((3 : Int32) < 0 ∨ cl1.slots.size ≤ ((3 : Int32)).toNatClampNeg) := inb_of Sz1 ⟨by decide, by decide⟩
  have hat1 : cl1.slots[((3 : Int32)).toNatClampNeg]? = some (.long x3) := Has.at Hh1 hin1 rfl
  have P2 : own_Go p e below S0 (s₁.setTop (mkF m 18 #[.val (.ref qa), .val (.int (5 : Int32)), .val (.int (1 : Int32))] [(.long x3)])) := fun t k => P0 t (by
    show Steps p.tables e below (s₁.setTop (mkF m 0 #[.val (.ref qa), .val (.int (5 : Int32)), .val (.int (1 : Int32))] [])) t
    refine XS.iloadN X0.here hx rfl (hb hby d4_0) rfl ?_
    refine XS.iloadN X0.here hx rfl (hb hby d4_1) rfl ?_
    refine XS.icmpNo X0.here hx rfl (hb hby d4_2) rfl (tlt (by decide)).2.1 ?_
    refine XS.aloadN X0.here hx rfl (hb hby d4_5) rfl rfl ?_
    refine XS.iloadN X0.here hx rfl (hb hby d4_6) rfl ?_
    refine XS.iconst X0.here hx rfl (hb hby d4_7) ?_
    show Steps p.tables e below (s₁.setTop (mkF m 8 #[.val (.ref qa), .val (.int (5 : Int32)), .val (.int (1 : Int32))] [(.int (1 : Int32)), (.int (5 : Int32)), (.ref qa)])) t
    refine XS.isub X0.here hx rfl (hb hby d4_8) rfl ?_
    refine XS.iloadN X0.here hx rfl (hb hby d4_9) rfl ?_
    refine XS.isub X0.here hx rfl (hb hby d4_10) rfl ?_
    show Steps p.tables e below (s₁.setTop (mkF m 11 #[.val (.ref qa), .val (.int (5 : Int32)), .val (.int (1 : Int32))] [(.int (3 : Int32)), (.ref qa)])) t
    refine X0.laload hx (j := (3 : Int32)) (v := (.long x3)) (by rw [e0]; exact Ar1.1) (State.isArrayOf_alike hZ.alike Ar1.2.1) Ar1.2.2 hin1 hat1 (g := (mkF m 11 #[.val (.ref qa), .val (.int (5 : Int32)), .val (.int (1 : Int32))] [(.int (3 : Int32)), (.ref qa)])) rfl rfl (hb hby d4_11) _ ?_
    refine XS.goto X0.here hx rfl (pc0 := 12) (pc' := 18) rfl (hb hby d4_12) (by decide) (by decide) ?_
    show Steps p.tables e below (s₁.setTop (mkF m 18 #[.val (.ref qa), .val (.int (5 : Int32)), .val (.int (1 : Int32))] [(.long x3)])) t
    exact k)
  obtain ⟨fs, hr, hrun, hended, hW, hsame⟩ := X0.leave (v := some (.long x3)) (fun h => by rw [Bd.returns] at h; cases h)
  refine ⟨_, _, own_from hS0 (P2 _ ?_), hrun, hended, _, _, rfl, ?_, ⟨_, rfl⟩, hW, hsame.mono (by decide) (by decide)⟩
  · show Steps p.tables e below (s₁.setTop (mkF m 18 #[.val (.ref qa), .val (.int (5 : Int32)), .val (.int (1 : Int32))] [(.long x3)])) _
    jvm_step X0.here [X0.here.top, hx, (hb hby d4_18), X0.method', Bd.returns, narrow]
    first | (intro acts; rw [hr _ acts rfl rfl rfl]) | rw [hr _ _ rfl rfl rfl]
    exact Steps.refl _
  · show Q4_5_1 Z qa qk x0 x1 x2 x3 x4 h0 n0 _ s₁.heap _
    rw [e0]
    exact ⟨rfl, N0, rfl⟩
theorem ef_4_5_2 (m : MethodId) (qa : Addr) : entryFrame m #[(.ref qa), (.int (5 : Int32)), (.int (2 : Int32))] 3 = mkF m 0 #[.val (.ref qa), .val (.int (5 : Int32)), .val (.int (2 : Int32))] [] := by first | (simp [entryFrame, mkF, argsToLocals, Value.category]; done) | rfl
def Q4_5_2 (Z : State) (qa : Addr) (qk : ClassId) (x0 : Int64) (x1 : Int64) (x2 : Int64) (x3 : Int64) (x4 : Int64) (h0 : Heap) (n0 : Nat) (v : Option Value) (h : Heap) (L : List Loc) : Prop := v = some (.long x2) ∧ Fr n0 L ∧ h = h0
set_option maxRecDepth 65536 in
set_option maxHeartbeats 40000000 in
theorem rm4_5_2 (l : Launch) (Z : State) (a0 : Array Value) (hw : ∀ d ∈ tables_1, d.before a0 Z = true) (ws : List Jvm.Cond) (qa : Addr) (qk : ClassId) (x0 : Int64) (x1 : Int64) (x2 : Int64) (x3 : Int64) (x4 : Int64) (h0 : Heap) (n0 : Nat) (Z0 : n0 ≤ h0.size) (A_qa : Arv Z h0 qa qk .long (5 : Int32) [(.long x0), (.long x1), (.long x2), (.long x3), (.long x4)] (.long (0 : Int64))) :
    MetFree l (⟨"com/example/splice/splice/KeysReversePinLaw", "at", "([JII)J"⟩ : MethodName) (head1 (Jvm.Cond.code (⟨"com/example/splice/splice/KeysReversePinLaw", "at", "([JII)J"⟩ : MethodName) method_2_code 3 (some .long) :: ws) ({ frames := 0, cells := 0, slots := 0, locals := 0 } : Room)) (fun a U => a = #[(.ref qa), (.int (5 : Int32)), (.int (2 : Int32))] ∧ Z.Warmed39 U.vm ∧ U.heap = h0) (fun _ _ _ _ _ => True) (fun _ U o U' => ∃ v L, o = .returned v ∧ Q4_5_2 Z qa qk x0 x1 x2 x3 x4 h0 n0 v U'.heap L ∧ FrameEnd U o U' L ({ frames := 0, cells := 0, slots := 0, locals := 0 } : Room).cells ({ frames := 0, cells := 0, slots := 0, locals := 0 } : Room).slots) := by
  refine MetFree.of_bodySF (plainFor_of_name pn_4) hisR ?_
  intro p e s m args below meth c s₁ Bd hml0 hP hK
  obtain ⟨rfl, hZ, hh⟩ := hP
  have hx := Bd.exec
  have hby := Bd.bytes
  have hml : c.maxLocals = 3 := hml0
  have hown : s.vm.findClass "com/example/splice/splice/KeysReversePinLaw" = some m.cls := findClass_of_methodNamed Bd.named
  have hnm := (name_of_methodNamed Bd.named Bd.method).1
  have X0 : Stand p l e ({ frames := 0, cells := 0, slots := 0, locals := 0 } : Room) s m #[(.ref qa), (.int (5 : Int32)), (.int (2 : Int32))] below meth c s₁ [] 0 0 := Stand.of_body Bd
  have e0 : s₁.heap = h0 := by rw [← hh, Bd.state]; rfl
  have N0 := Fr.nil n0
  obtain ⟨S0, hS0⟩ : ∃ z, z = s₁.setTop (entryFrame m #[(.ref qa), (.int (5 : Int32)), (.int (2 : Int32))] 3) := ⟨_, rfl⟩
  have P0 : own_Go p e below S0 (s₁.setTop (mkF m 0 #[.val (.ref qa), .val (.int (5 : Int32)), .val (.int (2 : Int32))] [])) := fun t k => by rw [hS0]; exact castTop (ef_4_5_2 m qa) k
  obtain ⟨cl1, Ar1, q1, Sz1, Nn1, Hh1, Gg1⟩ := id A_qa
  have hin1 : ¬ ((2 : Int32) < 0 ∨ cl1.slots.size ≤ ((2 : Int32)).toNatClampNeg) := inb_of Sz1 ⟨by decide, by decide⟩
  have hat1 : cl1.slots[((2 : Int32)).toNatClampNeg]? = some (.long x2) := Has.at Hh1 hin1 rfl
  have P2 : own_Go p e below S0 (s₁.setTop (mkF m 18 #[.val (.ref qa), .val (.int (5 : Int32)), .val (.int (2 : Int32))] [(.long x2)])) := fun t k => P0 t (by
    show Steps p.tables e below (s₁.setTop (mkF m 0 #[.val (.ref qa), .val (.int (5 : Int32)), .val (.int (2 : Int32))] [])) t
    refine XS.iloadN X0.here hx rfl (hb hby d4_0) rfl ?_
    refine XS.iloadN X0.here hx rfl (hb hby d4_1) rfl ?_
    refine XS.icmpNo X0.here hx rfl (hb hby d4_2) rfl (tlt (by decide)).2.1 ?_
    refine XS.aloadN X0.here hx rfl (hb hby d4_5) rfl rfl ?_
    refine XS.iloadN X0.here hx rfl (hb hby d4_6) rfl ?_
    refine XS.iconst X0.here hx rfl (hb hby d4_7) ?_
    show Steps p.tables e below (s₁.setTop (mkF m 8 #[.val (.ref qa), .val (.int (5 : Int32)), .val (.int (2 : Int32))] [(.int (1 : Int32)), (.int (5 : Int32)), (.ref qa)])) t
    refine XS.isub X0.here hx rfl (hb hby d4_8) rfl ?_
    refine XS.iloadN X0.here hx rfl (hb hby d4_9) rfl ?_
    refine XS.isub X0.here hx rfl (hb hby d4_10) rfl ?_
    show Steps p.tables e below (s₁.setTop (mkF m 11 #[.val (.ref qa), .val (.int (5 : Int32)), .val (.int (2 : Int32))] [(.int (2 : Int32)), (.ref qa)])) t
    refine X0.laload hx (j := (2 : Int32)) (v := (.long x2)) (by rw [e0]; exact Ar1.1) (State.isArrayOf_alike hZ.alike Ar1.2.1) Ar1.2.2 hin1 hat1 (g := (mkF m 11 #[.val (.ref qa), .val (.int (5 : Int32)), .val (.int (2 : Int32))] [(.int (2 : Int32)), (.ref qa)])) rfl rfl (hb hby d4_11) _ ?_
    refine XS.goto X0.here hx rfl (pc0 := 12) (pc' := 18) rfl (hb hby d4_12) (by decide) (by decide) ?_
    show Steps p.tables e below (s₁.setTop (mkF m 18 #[.val (.ref qa), .val (.int (5 : Int32)), .val (.int (2 : Int32))] [(.long x2)])) t
    exact k)
  obtain ⟨fs, hr, hrun, hended, hW, hsame⟩ := X0.leave (v := some (.long x2)) (fun h => by rw [Bd.returns] at h; cases h)
  refine ⟨_, _, own_from hS0 (P2 _ ?_), hrun, hended, _, _, rfl, ?_, ⟨_, rfl⟩, hW, hsame.mono (by decide) (by decide)⟩
  · show Steps p.tables e below (s₁.setTop (mkF m 18 #[.val (.ref qa), .val (.int (5 : Int32)), .val (.int (2 : Int32))] [(.long x2)])) _
    jvm_step X0.here [X0.here.top, hx, (hb hby d4_18), X0.method', Bd.returns, narrow]
    first | (intro acts; rw [hr _ acts rfl rfl rfl]) | rw [hr _ _ rfl rfl rfl]
    exact Steps.refl _
  · show Q4_5_2 Z qa qk x0 x1 x2 x3 x4 h0 n0 _ s₁.heap _
    rw [e0]
    exact ⟨rfl, N0, rfl⟩
theorem ef_4_5_3 (m : MethodId) (qa : Addr) : entryFrame m #[(.ref qa), (.int (5 : Int32)), (.int (3 : Int32))] 3 = mkF m 0 #[.val (.ref qa), .val (.int (5 : Int32)), .val (.int (3 : Int32))] [] := by first | (simp [entryFrame, mkF, argsToLocals, Value.category]; done) | rfl
def Q4_5_3 (Z : State) (qa : Addr) (qk : ClassId) (x0 : Int64) (x1 : Int64) (x2 : Int64) (x3 : Int64) (x4 : Int64) (h0 : Heap) (n0 : Nat) (v : Option Value) (h : Heap) (L : List Loc) : Prop := v = some (.long x1) ∧ Fr n0 L ∧ h = h0
set_option maxRecDepth 65536 in
set_option maxHeartbeats 40000000 in
theorem rm4_5_3 (l : Launch) (Z : State) (a0 : Array Value) (hw : ∀ d ∈ tables_1, d.before a0 Z = true) (ws : List Jvm.Cond) (qa : Addr) (qk : ClassId) (x0 : Int64) (x1 : Int64) (x2 : Int64) (x3 : Int64) (x4 : Int64) (h0 : Heap) (n0 : Nat) (Z0 : n0 ≤ h0.size) (A_qa : Arv Z h0 qa qk .long (5 : Int32) [(.long x0), (.long x1), (.long x2), (.long x3), (.long x4)] (.long (0 : Int64))) :
    MetFree l (⟨"com/example/splice/splice/KeysReversePinLaw", "at", "([JII)J"⟩ : MethodName) (head1 (Jvm.Cond.code (⟨"com/example/splice/splice/KeysReversePinLaw", "at", "([JII)J"⟩ : MethodName) method_2_code 3 (some .long) :: ws) ({ frames := 0, cells := 0, slots := 0, locals := 0 } : Room)) (fun a U => a = #[(.ref qa), (.int (5 : Int32)), (.int (3 : Int32))] ∧ Z.Warmed39 U.vm ∧ U.heap = h0) (fun _ _ _ _ _ => True) (fun _ U o U' => ∃ v L, o = .returned v ∧ Q4_5_3 Z qa qk x0 x1 x2 x3 x4 h0 n0 v U'.heap L ∧ FrameEnd U o U' L ({ frames := 0, cells := 0, slots := 0, locals := 0 } : Room).cells ({ frames := 0, cells := 0, slots := 0, locals := 0 } : Room).slots) := by
  refine MetFree.of_bodySF (plainFor_of_name pn_4) hisR ?_
  intro p e s m args below meth c s₁ Bd hml0 hP hK
  obtain ⟨rfl, hZ, hh⟩ := hP
  have hx := Bd.exec
  have hby := Bd.bytes
  have hml : c.maxLocals = 3 := hml0
  have hown : s.vm.findClass "com/example/splice/splice/KeysReversePinLaw" = some m.cls := findClass_of_methodNamed Bd.named
  have hnm := (name_of_methodNamed Bd.named Bd.method).1
  have X0 : Stand p l e ({ frames := 0, cells := 0, slots := 0, locals := 0 } : Room) s m #[(.ref qa), (.int (5 : Int32)), (.int (3 : Int32))] below meth c s₁ [] 0 0 := Stand.of_body Bd
  have e0 : s₁.heap = h0 := by rw [← hh, Bd.state]; rfl
  have N0 := Fr.nil n0
  obtain ⟨S0, hS0⟩ : ∃ z, z = s₁.setTop (entryFrame m #[(.ref qa), (.int (5 : Int32)), (.int (3 : Int32))] 3) := ⟨_, rfl⟩
  have P0 : own_Go p e below S0 (s₁.setTop (mkF m 0 #[.val (.ref qa), .val (.int (5 : Int32)), .val (.int (3 : Int32))] [])) := fun t k => by rw [hS0]; exact castTop (ef_4_5_3 m qa) k
  obtain ⟨cl1, Ar1, q1, Sz1, Nn1, Hh1, Gg1⟩ := id A_qa
  have hin1 : ¬ ((1 : Int32) < 0 ∨ cl1.slots.size ≤ ((1 : Int32)).toNatClampNeg) := inb_of Sz1 ⟨by decide, by decide⟩
  have hat1 : cl1.slots[((1 : Int32)).toNatClampNeg]? = some (.long x1) := Has.at Hh1 hin1 rfl
  have P2 : own_Go p e below S0 (s₁.setTop (mkF m 18 #[.val (.ref qa), .val (.int (5 : Int32)), .val (.int (3 : Int32))] [(.long x1)])) := fun t k => P0 t (by
    show Steps p.tables e below (s₁.setTop (mkF m 0 #[.val (.ref qa), .val (.int (5 : Int32)), .val (.int (3 : Int32))] [])) t
    refine XS.iloadN X0.here hx rfl (hb hby d4_0) rfl ?_
    refine XS.iloadN X0.here hx rfl (hb hby d4_1) rfl ?_
    refine XS.icmpNo X0.here hx rfl (hb hby d4_2) rfl (tlt (by decide)).2.1 ?_
    refine XS.aloadN X0.here hx rfl (hb hby d4_5) rfl rfl ?_
    refine XS.iloadN X0.here hx rfl (hb hby d4_6) rfl ?_
    refine XS.iconst X0.here hx rfl (hb hby d4_7) ?_
    show Steps p.tables e below (s₁.setTop (mkF m 8 #[.val (.ref qa), .val (.int (5 : Int32)), .val (.int (3 : Int32))] [(.int (1 : Int32)), (.int (5 : Int32)), (.ref qa)])) t
    refine XS.isub X0.here hx rfl (hb hby d4_8) rfl ?_
    refine XS.iloadN X0.here hx rfl (hb hby d4_9) rfl ?_
    refine XS.isub X0.here hx rfl (hb hby d4_10) rfl ?_
    show Steps p.tables e below (s₁.setTop (mkF m 11 #[.val (.ref qa), .val (.int (5 : Int32)), .val (.int (3 : Int32))] [(.int (1 : Int32)), (.ref qa)])) t
    refine X0.laload hx (j := (1 : Int32)) (v := (.long x1)) (by rw [e0]; exact Ar1.1) (State.isArrayOf_alike hZ.alike Ar1.2.1) Ar1.2.2 hin1 hat1 (g := (mkF m 11 #[.val (.ref qa), .val (.int (5 : Int32)), .val (.int (3 : Int32))] [(.int (1 : Int32)), (.ref qa)])) rfl rfl (hb hby d4_11) _ ?_
    refine XS.goto X0.here hx rfl (pc0 := 12) (pc' := 18) rfl (hb hby d4_12) (by decide) (by decide) ?_
    show Steps p.tables e below (s₁.setTop (mkF m 18 #[.val (.ref qa), .val (.int (5 : Int32)), .val (.int (3 : Int32))] [(.long x1)])) t
    exact k)
  obtain ⟨fs, hr, hrun, hended, hW, hsame⟩ := X0.leave (v := some (.long x1)) (fun h => by rw [Bd.returns] at h; cases h)
  refine ⟨_, _, own_from hS0 (P2 _ ?_), hrun, hended, _, _, rfl, ?_, ⟨_, rfl⟩, hW, hsame.mono (by decide) (by decide)⟩
  · show Steps p.tables e below (s₁.setTop (mkF m 18 #[.val (.ref qa), .val (.int (5 : Int32)), .val (.int (3 : Int32))] [(.long x1)])) _
    jvm_step X0.here [X0.here.top, hx, (hb hby d4_18), X0.method', Bd.returns, narrow]
    first | (intro acts; rw [hr _ acts rfl rfl rfl]) | rw [hr _ _ rfl rfl rfl]
    exact Steps.refl _
  · show Q4_5_3 Z qa qk x0 x1 x2 x3 x4 h0 n0 _ s₁.heap _
    rw [e0]
    exact ⟨rfl, N0, rfl⟩
theorem ef_4_5_4 (m : MethodId) (qa : Addr) : entryFrame m #[(.ref qa), (.int (5 : Int32)), (.int (4 : Int32))] 3 = mkF m 0 #[.val (.ref qa), .val (.int (5 : Int32)), .val (.int (4 : Int32))] [] := by first | (simp [entryFrame, mkF, argsToLocals, Value.category]; done) | rfl
def Q4_5_4 (Z : State) (qa : Addr) (qk : ClassId) (x0 : Int64) (x1 : Int64) (x2 : Int64) (x3 : Int64) (x4 : Int64) (h0 : Heap) (n0 : Nat) (v : Option Value) (h : Heap) (L : List Loc) : Prop := v = some (.long x0) ∧ Fr n0 L ∧ h = h0
set_option maxRecDepth 65536 in
set_option maxHeartbeats 40000000 in
theorem rm4_5_4 (l : Launch) (Z : State) (a0 : Array Value) (hw : ∀ d ∈ tables_1, d.before a0 Z = true) (ws : List Jvm.Cond) (qa : Addr) (qk : ClassId) (x0 : Int64) (x1 : Int64) (x2 : Int64) (x3 : Int64) (x4 : Int64) (h0 : Heap) (n0 : Nat) (Z0 : n0 ≤ h0.size) (A_qa : Arv Z h0 qa qk .long (5 : Int32) [(.long x0), (.long x1), (.long x2), (.long x3), (.long x4)] (.long (0 : Int64))) :
    MetFree l (⟨"com/example/splice/splice/KeysReversePinLaw", "at", "([JII)J"⟩ : MethodName) (head1 (Jvm.Cond.code (⟨"com/example/splice/splice/KeysReversePinLaw", "at", "([JII)J"⟩ : MethodName) method_2_code 3 (some .long) :: ws) ({ frames := 0, cells := 0, slots := 0, locals := 0 } : Room)) (fun a U => a = #[(.ref qa), (.int (5 : Int32)), (.int (4 : Int32))] ∧ Z.Warmed39 U.vm ∧ U.heap = h0) (fun _ _ _ _ _ => True) (fun _ U o U' => ∃ v L, o = .returned v ∧ Q4_5_4 Z qa qk x0 x1 x2 x3 x4 h0 n0 v U'.heap L ∧ FrameEnd U o U' L ({ frames := 0, cells := 0, slots := 0, locals := 0 } : Room).cells ({ frames := 0, cells := 0, slots := 0, locals := 0 } : Room).slots) := by
  refine MetFree.of_bodySF (plainFor_of_name pn_4) hisR ?_
  intro p e s m args below meth c s₁ Bd hml0 hP hK
  obtain ⟨rfl, hZ, hh⟩ := hP
  have hx := Bd.exec
  have hby := Bd.bytes
  have hml : c.maxLocals = 3 := hml0
  have hown : s.vm.findClass "com/example/splice/splice/KeysReversePinLaw" = some m.cls := findClass_of_methodNamed Bd.named
  have hnm := (name_of_methodNamed Bd.named Bd.method).1
  have X0 : Stand p l e ({ frames := 0, cells := 0, slots := 0, locals := 0 } : Room) s m #[(.ref qa), (.int (5 : Int32)), (.int (4 : Int32))] below meth c s₁ [] 0 0 := Stand.of_body Bd
  have e0 : s₁.heap = h0 := by rw [← hh, Bd.state]; rfl
  have N0 := Fr.nil n0
  obtain ⟨S0, hS0⟩ : ∃ z, z = s₁.setTop (entryFrame m #[(.ref qa), (.int (5 : Int32)), (.int (4 : Int32))] 3) := ⟨_, rfl⟩
  have P0 : own_Go p e below S0 (s₁.setTop (mkF m 0 #[.val (.ref qa), .val (.int (5 : Int32)), .val (.int (4 : Int32))] [])) := fun t k => by rw [hS0]; exact castTop (ef_4_5_4 m qa) k
  obtain ⟨cl1, Ar1, q1, Sz1, Nn1, Hh1, Gg1⟩ := id A_qa
  have hin1 : ¬ ((0 : Int32) < 0 ∨ cl1.slots.size ≤ ((0 : Int32)).toNatClampNeg) := inb_of Sz1 ⟨by decide, by decide⟩
  have hat1 : cl1.slots[((0 : Int32)).toNatClampNeg]? = some (.long x0) := Has.at Hh1 hin1 rfl
  have P2 : own_Go p e below S0 (s₁.setTop (mkF m 18 #[.val (.ref qa), .val (.int (5 : Int32)), .val (.int (4 : Int32))] [(.long x0)])) := fun t k => P0 t (by
    show Steps p.tables e below (s₁.setTop (mkF m 0 #[.val (.ref qa), .val (.int (5 : Int32)), .val (.int (4 : Int32))] [])) t
    refine XS.iloadN X0.here hx rfl (hb hby d4_0) rfl ?_
    refine XS.iloadN X0.here hx rfl (hb hby d4_1) rfl ?_
    refine XS.icmpNo X0.here hx rfl (hb hby d4_2) rfl (tlt (by decide)).2.1 ?_
    refine XS.aloadN X0.here hx rfl (hb hby d4_5) rfl rfl ?_
    refine XS.iloadN X0.here hx rfl (hb hby d4_6) rfl ?_
    refine XS.iconst X0.here hx rfl (hb hby d4_7) ?_
    show Steps p.tables e below (s₁.setTop (mkF m 8 #[.val (.ref qa), .val (.int (5 : Int32)), .val (.int (4 : Int32))] [(.int (1 : Int32)), (.int (5 : Int32)), (.ref qa)])) t
    refine XS.isub X0.here hx rfl (hb hby d4_8) rfl ?_
    refine XS.iloadN X0.here hx rfl (hb hby d4_9) rfl ?_
    refine XS.isub X0.here hx rfl (hb hby d4_10) rfl ?_
    show Steps p.tables e below (s₁.setTop (mkF m 11 #[.val (.ref qa), .val (.int (5 : Int32)), .val (.int (4 : Int32))] [(.int (0 : Int32)), (.ref qa)])) t
    refine X0.laload hx (j := (0 : Int32)) (v := (.long x0)) (by rw [e0]; exact Ar1.1) (State.isArrayOf_alike hZ.alike Ar1.2.1) Ar1.2.2 hin1 hat1 (g := (mkF m 11 #[.val (.ref qa), .val (.int (5 : Int32)), .val (.int (4 : Int32))] [(.int (0 : Int32)), (.ref qa)])) rfl rfl (hb hby d4_11) _ ?_
    refine XS.goto X0.here hx rfl (pc0 := 12) (pc' := 18) rfl (hb hby d4_12) (by decide) (by decide) ?_
    show Steps p.tables e below (s₁.setTop (mkF m 18 #[.val (.ref qa), .val (.int (5 : Int32)), .val (.int (4 : Int32))] [(.long x0)])) t
    exact k)
  obtain ⟨fs, hr, hrun, hended, hW, hsame⟩ := X0.leave (v := some (.long x0)) (fun h => by rw [Bd.returns] at h; cases h)
  refine ⟨_, _, own_from hS0 (P2 _ ?_), hrun, hended, _, _, rfl, ?_, ⟨_, rfl⟩, hW, hsame.mono (by decide) (by decide)⟩
  · show Steps p.tables e below (s₁.setTop (mkF m 18 #[.val (.ref qa), .val (.int (5 : Int32)), .val (.int (4 : Int32))] [(.long x0)])) _
    jvm_step X0.here [X0.here.top, hx, (hb hby d4_18), X0.method', Bd.returns, narrow]
    first | (intro acts; rw [hr _ acts rfl rfl rfl]) | rw [hr _ _ rfl rfl rfl]
    exact Steps.refl _
  · show Q4_5_4 Z qa qk x0 x1 x2 x3 x4 h0 n0 _ s₁.heap _
    rw [e0]
    exact ⟨rfl, N0, rfl⟩
theorem pd_0 : parseMethodDescriptor "()V" = some ⟨[], none⟩ := by decide +kernel
theorem pd_1 : parseMethodDescriptor "([JII)J" = some ⟨[(.array .long), .int, .int], some .long⟩ := by decide +kernel
theorem ef_0 (m : MethodId) (i0 : Int64) (i1 : Int64) (i2 : Int64) (i3 : Int64) (i4 : Int64) (i5 : Int32) : entryFrame m #[(.long i0), (.long i1), (.long i2), (.long i3), (.long i4), (.int i5)] maxLocals = mkF m 0 #[.val (.long i0), .second, .val (.long i1), .second, .val (.long i2), .second, .val (.long i3), .second, .val (.long i4), .second, .val (.int i5), .unset, .unset, .unset, .unset] [] := by first | (simp [entryFrame, mkF, argsToLocals, Value.category, maxLocals]; done) | rfl
def Q0 (Z : State) (i0 : Int64) (i1 : Int64) (i2 : Int64) (i3 : Int64) (i4 : Int64) (i5 : Int32) (h0 : Heap) (n0 : Nat) (v : Option Value) (h : Heap) (L : List Loc) : Prop := v = some (.int 1) ∧ Fr n0 L
set_option maxRecDepth 65536 in
set_option maxHeartbeats 40000000 in
theorem rm0 (l : Launch) (Z : State) (a0 : Array Value) (hw : ∀ d ∈ tables_1, d.before a0 Z = true) (ws : List Jvm.Cond) (i0 : Int64) (i1 : Int64) (i2 : Int64) (i3 : Int64) (i4 : Int64) (i5 : Int32) (h0 : Heap) (n0 : Nat) (Z0 : n0 ≤ h0.size) :
    MetFree l x (head1 (Jvm.Cond.code x code maxLocals ret :: ws) room_1) (fun a U => a = #[(.long i0), (.long i1), (.long i2), (.long i3), (.long i4), (.int i5)] ∧ Z.Warmed39 U.vm ∧ U.heap = h0) (fun _ _ _ _ _ => True) (fun _ U o U' => ∃ v L, o = .returned v ∧ Q0 Z i0 i1 i2 i3 i4 i5 h0 n0 v U'.heap L ∧ FrameEnd U o U' L room_1.cells room_1.slots) := by
  refine MetFree.of_bodySF (plainFor_of_name pn_4) hisR ?_
  intro p e s m args below meth c s₁ Bd hml0 hP hK
  obtain ⟨rfl, hZ, hh⟩ := hP
  have hx := Bd.exec
  have hby := Bd.bytes
  have hml : c.maxLocals = 15 := hml0
  have hown : s.vm.findClass "com/example/splice/splice/KeysReversePinLaw" = some m.cls := findClass_of_methodNamed Bd.named
  have hnm := (name_of_methodNamed Bd.named Bd.method).1
  have X0 : Stand p l e room_1 s m #[(.long i0), (.long i1), (.long i2), (.long i3), (.long i4), (.int i5)] below meth c s₁ [] 0 0 := Stand.of_body Bd
  have e0 : s₁.heap = h0 := by rw [← hh, Bd.state]; rfl
  have N0 := Fr.nil n0
  obtain ⟨S0, hS0⟩ : ∃ z, z = s₁.setTop (entryFrame m #[(.long i0), (.long i1), (.long i2), (.long i3), (.long i4), (.int i5)] maxLocals) := ⟨_, rfl⟩
  have P0 : own_Go p e below S0 (s₁.setTop (mkF m 0 #[.val (.long i0), .second, .val (.long i1), .second, .val (.long i2), .second, .val (.long i3), .second, .val (.long i4), .second, .val (.int i5), .unset, .unset, .unset, .unset] [])) := fun t k => by rw [hS0]; exact castTop (ef_0 m i0 i1 i2 i3 i4 i5) k
  have P1 : own_Go p e below S0 (s₁.setTop (mkF m 11 #[.val (.long i0), .second, .val (.long i1), .second, .val (.long i2), .second, .val (.long i3), .second, .val (.long i4), .second, .val (.int i5), .val (.int ((i5 &&& (2147483647 : Int32)) % (6 : Int32))), .unset, .unset, .unset] [(.int (5 : Int32))])) := fun t k => P0 t (by
    show Steps p.tables e below (s₁.setTop (mkF m 0 #[.val (.long i0), .second, .val (.long i1), .second, .val (.long i2), .second, .val (.long i3), .second, .val (.long i4), .second, .val (.int i5), .unset, .unset, .unset, .unset] [])) t
    refine XS.iload X0.here hx rfl (hb hby at_0) rfl ?_
    show Steps p.tables e below (s₁.setTop (mkF m 2 #[.val (.long i0), .second, .val (.long i1), .second, .val (.long i2), .second, .val (.long i3), .second, .val (.long i4), .second, .val (.int i5), .unset, .unset, .unset, .unset] [(.int i5)])) t
    refine X0.ldcInt hx hown (mvT hZ (hw _ (List.mem_of_getElem? (i := 0) rfl))) (g := (mkF m 2 #[.val (.long i0), .second, .val (.long i1), .second, .val (.long i2), .second, .val (.long i3), .second, .val (.long i4), .second, .val (.int i5), .unset, .unset, .unset, .unset] [(.int i5)])) rfl (hb hby at_2) _ ?_
    refine XS.iand X0.here hx rfl (hb hby at_4) rfl ?_
    refine XS.bipush X0.here hx rfl (hb hby at_5) ?_
    refine iremM (g := (mkF m 7 #[.val (.long i0), .second, .val (.long i1), .second, .val (.long i2), .second, .val (.long i3), .second, .val (.long i4), .second, .val (.int i5), .unset, .unset, .unset, .unset] [(.int (6 : Int32)), (.int (i5 &&& (2147483647 : Int32)))])) X0 hx rfl (hb hby at_7) rfl (by decide) ?_
    refine XS.istore X0.here hx rfl (hb hby at_8) rfl (l' := #[.val (.long i0), .second, .val (.long i1), .second, .val (.long i2), .second, .val (.long i3), .second, .val (.long i4), .second, .val (.int i5), .val (.int ((i5 &&& (2147483647 : Int32)) % (6 : Int32))), .unset, .unset, .unset]) rfl ?_
    show Steps p.tables e below (s₁.setTop (mkF m 10 #[.val (.long i0), .second, .val (.long i1), .second, .val (.long i2), .second, .val (.long i3), .second, .val (.long i4), .second, .val (.int i5), .val (.int ((i5 &&& (2147483647 : Int32)) % (6 : Int32))), .unset, .unset, .unset] [])) t
    refine XS.iconst X0.here hx rfl (hb hby at_10) ?_
    show Steps p.tables e below (s₁.setTop (mkF m 11 #[.val (.long i0), .second, .val (.long i1), .second, .val (.long i2), .second, .val (.long i3), .second, .val (.long i4), .second, .val (.int i5), .val (.int ((i5 &&& (2147483647 : Int32)) % (6 : Int32))), .unset, .unset, .unset] [(.int (5 : Int32))])) t
    exact k)
  obtain ⟨T2, h2, k2, X2, e2, E2, A2, st2⟩ := newP X0 hx hZ (hw _ (List.mem_of_getElem? (i := 1) rfl)) e0 (g := (mkF m 11 #[.val (.long i0), .second, .val (.long i1), .second, .val (.long i2), .second, .val (.long i3), .second, .val (.long i4), .second, .val (.int i5), .val (.int ((i5 &&& (2147483647 : Int32)) % (6 : Int32))), .unset, .unset, .unset] [(.int (5 : Int32))])) rfl (hb hby at_11) rfl (by decide) (cap := 5) (by decide) (by decide) (by decide) (by decide)
  obtain ⟨b2, g2⟩ : ∃ z, z = h0.size := ⟨_, rfl⟩
  rw [← g2] at A2 st2
  have sz_b2 : h0.size ≤ b2 := Nat.le_of_eq g2.symm
  have g_b2 : n0 ≤ b2 := Nat.le_trans Z0 sz_b2
  have o_b2 : h0.size ≤ b2 := sz_b2
  have K2 : Keep h0 h2 [] := (Keep.refl h0 []).ext E2
  have V2 : Arv Z h2 b2 k2 .long (5 : Int32) [(.long (0 : Int64)), (.long (0 : Int64)), (.long (0 : Int64)), (.long (0 : Int64)), (.long (0 : Int64))] (.long (0 : Int64)) := (Arv.new A2 (by decide)).pad (pad_rep [] (.long (0 : Int64)) 5)
  have P2 : own_Go p e below S0 (T2.setTop (mkF m 13 #[.val (.long i0), .second, .val (.long i1), .second, .val (.long i2), .second, .val (.long i3), .second, .val (.long i4), .second, .val (.int i5), .val (.int ((i5 &&& (2147483647 : Int32)) % (6 : Int32))), .unset, .unset, .unset] [(.ref b2)])) := fun t k => P1 t (st2 _ k)
  have P3 : own_Go p e below S0 (T2.setTop (mkF m 16 #[.val (.long i0), .second, .val (.long i1), .second, .val (.long i2), .second, .val (.long i3), .second, .val (.long i4), .second, .val (.int i5), .val (.int ((i5 &&& (2147483647 : Int32)) % (6 : Int32))), .unset, .unset, .unset] [(.long i0), (.int (0 : Int32)), (.ref b2), (.ref b2)])) := fun t k => P2 t (by
    show Steps p.tables e below (T2.setTop (mkF m 13 #[.val (.long i0), .second, .val (.long i1), .second, .val (.long i2), .second, .val (.long i3), .second, .val (.long i4), .second, .val (.int i5), .val (.int ((i5 &&& (2147483647 : Int32)) % (6 : Int32))), .unset, .unset, .unset] [(.ref b2)])) t
    refine XS.dup X2.here hx rfl (hb hby at_13) rfl rfl ?_
    refine XS.iconst X2.here hx rfl (hb hby at_14) ?_
    refine XS.lloadN X2.here hx rfl (hb hby at_15) rfl ?_
    show Steps p.tables e below (T2.setTop (mkF m 16 #[.val (.long i0), .second, .val (.long i1), .second, .val (.long i2), .second, .val (.long i3), .second, .val (.long i4), .second, .val (.int i5), .val (.int ((i5 &&& (2147483647 : Int32)) % (6 : Int32))), .unset, .unset, .unset] [(.long i0), (.int (0 : Int32)), (.ref b2), (.ref b2)])) t
    exact k)
  obtain ⟨cl5, Ar5, q5, Sz5, Nn5, Hh5, Gg5⟩ := id V2
  have hin5 : ¬ ((0 : Int32) < 0 ∨ cl5.slots.size ≤ ((0 : Int32)).toNatClampNeg) := inb_of Sz5 ⟨by decide, by decide⟩
  obtain ⟨T4, h4, X4, e4, W4, st4⟩ := stJ X2 hx hZ e2 Ar5 (j := (0 : Int32)) hin5 (g := (mkF m 16 #[.val (.long i0), .second, .val (.long i1), .second, .val (.long i2), .second, .val (.long i3), .second, .val (.long i4), .second, .val (.int i5), .val (.int ((i5 &&& (2147483647 : Int32)) % (6 : Int32))), .unset, .unset, .unset] [(.long i0), (.int (0 : Int32)), (.ref b2), (.ref b2)])) rfl rfl (hb hby at_16)
  have K4 : Keep h0 h4 [] := K2.wr W4 (Or.inr o_b2)
  have N4 := Fr.snoc X4 N0 g_b2
  have V4 : Arv Z h4 b2 k2 .long (5 : Int32) [(.long i0), (.long (0 : Int64)), (.long (0 : Int64)), (.long (0 : Int64)), (.long (0 : Int64))] (.long (0 : Int64)) := Arv.set Ar5 q5 Sz5 Nn5 Hh5 Gg5 rfl W4 0 rfl (Nat.le_of_ble_eq_true rfl)
  have P4 : own_Go p e below S0 (T4.setTop (mkF m 17 #[.val (.long i0), .second, .val (.long i1), .second, .val (.long i2), .second, .val (.long i3), .second, .val (.long i4), .second, .val (.int i5), .val (.int ((i5 &&& (2147483647 : Int32)) % (6 : Int32))), .unset, .unset, .unset] [(.ref b2)])) := fun t k => P3 t (st4 _ k)
  have P6 : own_Go p e below S0 (T4.setTop (mkF m 20 #[.val (.long i0), .second, .val (.long i1), .second, .val (.long i2), .second, .val (.long i3), .second, .val (.long i4), .second, .val (.int i5), .val (.int ((i5 &&& (2147483647 : Int32)) % (6 : Int32))), .unset, .unset, .unset] [(.long i1), (.int (1 : Int32)), (.ref b2), (.ref b2)])) := fun t k => P4 t (by
    show Steps p.tables e below (T4.setTop (mkF m 17 #[.val (.long i0), .second, .val (.long i1), .second, .val (.long i2), .second, .val (.long i3), .second, .val (.long i4), .second, .val (.int i5), .val (.int ((i5 &&& (2147483647 : Int32)) % (6 : Int32))), .unset, .unset, .unset] [(.ref b2)])) t
    refine XS.dup X4.here hx rfl (hb hby at_17) rfl rfl ?_
    refine XS.iconst X4.here hx rfl (hb hby at_18) ?_
    refine XS.lloadN X4.here hx rfl (hb hby at_19) rfl ?_
    show Steps p.tables e below (T4.setTop (mkF m 20 #[.val (.long i0), .second, .val (.long i1), .second, .val (.long i2), .second, .val (.long i3), .second, .val (.long i4), .second, .val (.int i5), .val (.int ((i5 &&& (2147483647 : Int32)) % (6 : Int32))), .unset, .unset, .unset] [(.long i1), (.int (1 : Int32)), (.ref b2), (.ref b2)])) t
    exact k)
  obtain ⟨cl8, Ar8, q8, Sz8, Nn8, Hh8, Gg8⟩ := id V4
  have hin8 : ¬ ((1 : Int32) < 0 ∨ cl8.slots.size ≤ ((1 : Int32)).toNatClampNeg) := inb_of Sz8 ⟨by decide, by decide⟩
  obtain ⟨T7, h7, X7, e7, W7, st7⟩ := stJ X4 hx hZ e4 Ar8 (j := (1 : Int32)) hin8 (g := (mkF m 20 #[.val (.long i0), .second, .val (.long i1), .second, .val (.long i2), .second, .val (.long i3), .second, .val (.long i4), .second, .val (.int i5), .val (.int ((i5 &&& (2147483647 : Int32)) % (6 : Int32))), .unset, .unset, .unset] [(.long i1), (.int (1 : Int32)), (.ref b2), (.ref b2)])) rfl rfl (hb hby at_20)
  have K7 : Keep h0 h7 [] := K4.wr W7 (Or.inr o_b2)
  have N7 := Fr.snoc X7 N4 g_b2
  have V7 : Arv Z h7 b2 k2 .long (5 : Int32) [(.long i0), (.long i1), (.long (0 : Int64)), (.long (0 : Int64)), (.long (0 : Int64))] (.long (0 : Int64)) := Arv.set Ar8 q8 Sz8 Nn8 Hh8 Gg8 rfl W7 1 rfl (Nat.le_of_ble_eq_true rfl)
  have P7 : own_Go p e below S0 (T7.setTop (mkF m 21 #[.val (.long i0), .second, .val (.long i1), .second, .val (.long i2), .second, .val (.long i3), .second, .val (.long i4), .second, .val (.int i5), .val (.int ((i5 &&& (2147483647 : Int32)) % (6 : Int32))), .unset, .unset, .unset] [(.ref b2)])) := fun t k => P6 t (st7 _ k)
  have P9 : own_Go p e below S0 (T7.setTop (mkF m 25 #[.val (.long i0), .second, .val (.long i1), .second, .val (.long i2), .second, .val (.long i3), .second, .val (.long i4), .second, .val (.int i5), .val (.int ((i5 &&& (2147483647 : Int32)) % (6 : Int32))), .unset, .unset, .unset] [(.long i2), (.int (2 : Int32)), (.ref b2), (.ref b2)])) := fun t k => P7 t (by
    show Steps p.tables e below (T7.setTop (mkF m 21 #[.val (.long i0), .second, .val (.long i1), .second, .val (.long i2), .second, .val (.long i3), .second, .val (.long i4), .second, .val (.int i5), .val (.int ((i5 &&& (2147483647 : Int32)) % (6 : Int32))), .unset, .unset, .unset] [(.ref b2)])) t
    refine XS.dup X7.here hx rfl (hb hby at_21) rfl rfl ?_
    refine XS.iconst X7.here hx rfl (hb hby at_22) ?_
    refine XS.lload X7.here hx rfl (hb hby at_23) rfl ?_
    show Steps p.tables e below (T7.setTop (mkF m 25 #[.val (.long i0), .second, .val (.long i1), .second, .val (.long i2), .second, .val (.long i3), .second, .val (.long i4), .second, .val (.int i5), .val (.int ((i5 &&& (2147483647 : Int32)) % (6 : Int32))), .unset, .unset, .unset] [(.long i2), (.int (2 : Int32)), (.ref b2), (.ref b2)])) t
    exact k)
  obtain ⟨cl11, Ar11, q11, Sz11, Nn11, Hh11, Gg11⟩ := id V7
  have hin11 : ¬ ((2 : Int32) < 0 ∨ cl11.slots.size ≤ ((2 : Int32)).toNatClampNeg) := inb_of Sz11 ⟨by decide, by decide⟩
  obtain ⟨T10, h10, X10, e10, W10, st10⟩ := stJ X7 hx hZ e7 Ar11 (j := (2 : Int32)) hin11 (g := (mkF m 25 #[.val (.long i0), .second, .val (.long i1), .second, .val (.long i2), .second, .val (.long i3), .second, .val (.long i4), .second, .val (.int i5), .val (.int ((i5 &&& (2147483647 : Int32)) % (6 : Int32))), .unset, .unset, .unset] [(.long i2), (.int (2 : Int32)), (.ref b2), (.ref b2)])) rfl rfl (hb hby at_25)
  have K10 : Keep h0 h10 [] := K7.wr W10 (Or.inr o_b2)
  have N10 := Fr.snoc X10 N7 g_b2
  have V10 : Arv Z h10 b2 k2 .long (5 : Int32) [(.long i0), (.long i1), (.long i2), (.long (0 : Int64)), (.long (0 : Int64))] (.long (0 : Int64)) := Arv.set Ar11 q11 Sz11 Nn11 Hh11 Gg11 rfl W10 2 rfl (Nat.le_of_ble_eq_true rfl)
  have P10 : own_Go p e below S0 (T10.setTop (mkF m 26 #[.val (.long i0), .second, .val (.long i1), .second, .val (.long i2), .second, .val (.long i3), .second, .val (.long i4), .second, .val (.int i5), .val (.int ((i5 &&& (2147483647 : Int32)) % (6 : Int32))), .unset, .unset, .unset] [(.ref b2)])) := fun t k => P9 t (st10 _ k)
  have P12 : own_Go p e below S0 (T10.setTop (mkF m 30 #[.val (.long i0), .second, .val (.long i1), .second, .val (.long i2), .second, .val (.long i3), .second, .val (.long i4), .second, .val (.int i5), .val (.int ((i5 &&& (2147483647 : Int32)) % (6 : Int32))), .unset, .unset, .unset] [(.long i3), (.int (3 : Int32)), (.ref b2), (.ref b2)])) := fun t k => P10 t (by
    show Steps p.tables e below (T10.setTop (mkF m 26 #[.val (.long i0), .second, .val (.long i1), .second, .val (.long i2), .second, .val (.long i3), .second, .val (.long i4), .second, .val (.int i5), .val (.int ((i5 &&& (2147483647 : Int32)) % (6 : Int32))), .unset, .unset, .unset] [(.ref b2)])) t
    refine XS.dup X10.here hx rfl (hb hby at_26) rfl rfl ?_
    refine XS.iconst X10.here hx rfl (hb hby at_27) ?_
    refine XS.lload X10.here hx rfl (hb hby at_28) rfl ?_
    show Steps p.tables e below (T10.setTop (mkF m 30 #[.val (.long i0), .second, .val (.long i1), .second, .val (.long i2), .second, .val (.long i3), .second, .val (.long i4), .second, .val (.int i5), .val (.int ((i5 &&& (2147483647 : Int32)) % (6 : Int32))), .unset, .unset, .unset] [(.long i3), (.int (3 : Int32)), (.ref b2), (.ref b2)])) t
    exact k)
  obtain ⟨cl14, Ar14, q14, Sz14, Nn14, Hh14, Gg14⟩ := id V10
  have hin14 : ¬ ((3 : Int32) < 0 ∨ cl14.slots.size ≤ ((3 : Int32)).toNatClampNeg) := inb_of Sz14 ⟨by decide, by decide⟩
  obtain ⟨T13, h13, X13, e13, W13, st13⟩ := stJ X10 hx hZ e10 Ar14 (j := (3 : Int32)) hin14 (g := (mkF m 30 #[.val (.long i0), .second, .val (.long i1), .second, .val (.long i2), .second, .val (.long i3), .second, .val (.long i4), .second, .val (.int i5), .val (.int ((i5 &&& (2147483647 : Int32)) % (6 : Int32))), .unset, .unset, .unset] [(.long i3), (.int (3 : Int32)), (.ref b2), (.ref b2)])) rfl rfl (hb hby at_30)
  have K13 : Keep h0 h13 [] := K10.wr W13 (Or.inr o_b2)
  have N13 := Fr.snoc X13 N10 g_b2
  have V13 : Arv Z h13 b2 k2 .long (5 : Int32) [(.long i0), (.long i1), (.long i2), (.long i3), (.long (0 : Int64))] (.long (0 : Int64)) := Arv.set Ar14 q14 Sz14 Nn14 Hh14 Gg14 rfl W13 3 rfl (Nat.le_of_ble_eq_true rfl)
  have P13 : own_Go p e below S0 (T13.setTop (mkF m 31 #[.val (.long i0), .second, .val (.long i1), .second, .val (.long i2), .second, .val (.long i3), .second, .val (.long i4), .second, .val (.int i5), .val (.int ((i5 &&& (2147483647 : Int32)) % (6 : Int32))), .unset, .unset, .unset] [(.ref b2)])) := fun t k => P12 t (st13 _ k)
  have P15 : own_Go p e below S0 (T13.setTop (mkF m 35 #[.val (.long i0), .second, .val (.long i1), .second, .val (.long i2), .second, .val (.long i3), .second, .val (.long i4), .second, .val (.int i5), .val (.int ((i5 &&& (2147483647 : Int32)) % (6 : Int32))), .unset, .unset, .unset] [(.long i4), (.int (4 : Int32)), (.ref b2), (.ref b2)])) := fun t k => P13 t (by
    show Steps p.tables e below (T13.setTop (mkF m 31 #[.val (.long i0), .second, .val (.long i1), .second, .val (.long i2), .second, .val (.long i3), .second, .val (.long i4), .second, .val (.int i5), .val (.int ((i5 &&& (2147483647 : Int32)) % (6 : Int32))), .unset, .unset, .unset] [(.ref b2)])) t
    refine XS.dup X13.here hx rfl (hb hby at_31) rfl rfl ?_
    refine XS.iconst X13.here hx rfl (hb hby at_32) ?_
    refine XS.lload X13.here hx rfl (hb hby at_33) rfl ?_
    show Steps p.tables e below (T13.setTop (mkF m 35 #[.val (.long i0), .second, .val (.long i1), .second, .val (.long i2), .second, .val (.long i3), .second, .val (.long i4), .second, .val (.int i5), .val (.int ((i5 &&& (2147483647 : Int32)) % (6 : Int32))), .unset, .unset, .unset] [(.long i4), (.int (4 : Int32)), (.ref b2), (.ref b2)])) t
    exact k)
  obtain ⟨cl17, Ar17, q17, Sz17, Nn17, Hh17, Gg17⟩ := id V13
  have hin17 : ¬ ((4 : Int32) < 0 ∨ cl17.slots.size ≤ ((4 : Int32)).toNatClampNeg) := inb_of Sz17 ⟨by decide, by decide⟩
  obtain ⟨T16, h16, X16, e16, W16, st16⟩ := stJ X13 hx hZ e13 Ar17 (j := (4 : Int32)) hin17 (g := (mkF m 35 #[.val (.long i0), .second, .val (.long i1), .second, .val (.long i2), .second, .val (.long i3), .second, .val (.long i4), .second, .val (.int i5), .val (.int ((i5 &&& (2147483647 : Int32)) % (6 : Int32))), .unset, .unset, .unset] [(.long i4), (.int (4 : Int32)), (.ref b2), (.ref b2)])) rfl rfl (hb hby at_35)
  have K16 : Keep h0 h16 [] := K13.wr W16 (Or.inr o_b2)
  have N16 := Fr.snoc X16 N13 g_b2
  have V16 : Arv Z h16 b2 k2 .long (5 : Int32) [(.long i0), (.long i1), (.long i2), (.long i3), (.long i4)] (.long (0 : Int64)) := Arv.set Ar17 q17 Sz17 Nn17 Hh17 Gg17 rfl W16 4 rfl (Nat.le_of_ble_eq_true rfl)
  have P16 : own_Go p e below S0 (T16.setTop (mkF m 36 #[.val (.long i0), .second, .val (.long i1), .second, .val (.long i2), .second, .val (.long i3), .second, .val (.long i4), .second, .val (.int i5), .val (.int ((i5 &&& (2147483647 : Int32)) % (6 : Int32))), .unset, .unset, .unset] [(.ref b2)])) := fun t k => P15 t (st16 _ k)
  have P18 : own_Go p e below S0 (T16.setTop (mkF m 38 #[.val (.long i0), .second, .val (.long i1), .second, .val (.long i2), .second, .val (.long i3), .second, .val (.long i4), .second, .val (.int i5), .val (.int ((i5 &&& (2147483647 : Int32)) % (6 : Int32))), .val (.ref b2), .unset, .unset] [])) := fun t k => P16 t (by
    show Steps p.tables e below (T16.setTop (mkF m 36 #[.val (.long i0), .second, .val (.long i1), .second, .val (.long i2), .second, .val (.long i3), .second, .val (.long i4), .second, .val (.int i5), .val (.int ((i5 &&& (2147483647 : Int32)) % (6 : Int32))), .unset, .unset, .unset] [(.ref b2)])) t
    refine XS.astore X16.here hx rfl (hb hby at_36) rfl rfl (l' := #[.val (.long i0), .second, .val (.long i1), .second, .val (.long i2), .second, .val (.long i3), .second, .val (.long i4), .second, .val (.int i5), .val (.int ((i5 &&& (2147483647 : Int32)) % (6 : Int32))), .val (.ref b2), .unset, .unset]) rfl ?_
    show Steps p.tables e below (T16.setTop (mkF m 38 #[.val (.long i0), .second, .val (.long i1), .second, .val (.long i2), .second, .val (.long i3), .second, .val (.long i4), .second, .val (.int i5), .val (.int ((i5 &&& (2147483647 : Int32)) % (6 : Int32))), .val (.ref b2), .unset, .unset] [])) t
    exact k)
  obtain ⟨T19, h19, X19, e19, E19, A19, D19, -, st19⟩ := newO X16 hx hZ hown (hw _ (List.mem_of_getElem? (i := 2) rfl)) (hw _ (List.mem_of_getElem? (i := 3) rfl)) (hw _ (List.mem_of_getElem? (i := 4) rfl)) e16 (g := (mkF m 38 #[.val (.long i0), .second, .val (.long i1), .second, .val (.long i2), .second, .val (.long i3), .second, .val (.long i4), .second, .val (.int i5), .val (.int ((i5 &&& (2147483647 : Int32)) % (6 : Int32))), .val (.ref b2), .unset, .unset] [])) rfl (hb hby at_38) (by decide) (by decide)
  obtain ⟨b19, g19⟩ : ∃ z, z = h16.size := ⟨_, rfl⟩
  rw [← g19] at A19 D19 st19
  have sz_b19 : h16.size ≤ b19 := Nat.le_of_eq g19.symm
  have ne_b2_b19 : b2 ≠ b19 := Nat.ne_of_lt (Nat.lt_of_lt_of_le V16.lt sz_b19)
  have g_b19 : n0 ≤ b19 := Nat.le_trans (Nat.le_trans Z0 K16.1) sz_b19
  have o_b19 : h0.size ≤ b19 := Nat.le_trans K16.1 sz_b19
  have K19 : Keep h0 h19 [] := K16.ext E19
  have F19_keys : Fld Z h19 b19 "com/example/splice/splice/XPath$Keys" "keys" "[J" .null := D19 (Or.inl (hw _ (List.mem_of_getElem? (i := 12) rfl))) (ty := (.array .long)) (by decide)
  have F19_size : Fld Z h19 b19 "com/example/splice/splice/XPath$Keys" "size" "I" (.int (0 : Int32)) := D19 (Or.inl (hw _ (List.mem_of_getElem? (i := 15) rfl))) (ty := .int) (by decide)
  have P19 : own_Go p e below S0 (T19.setTop (mkF m 41 #[.val (.long i0), .second, .val (.long i1), .second, .val (.long i2), .second, .val (.long i3), .second, .val (.long i4), .second, .val (.int i5), .val (.int ((i5 &&& (2147483647 : Int32)) % (6 : Int32))), .val (.ref b2), .unset, .unset] [(.ref b19)])) := fun t k => P18 t (st19 _ k)
  have F20 : Arv Z h19 b2 k2 .long (5 : Int32) [(.long i0), (.long i1), (.long i2), (.long i3), (.long i4)] (.long (0 : Int64)) := V16.ext E19
  have P21 : own_Go p e below S0 (T19.setTop (mkF m 42 #[.val (.long i0), .second, .val (.long i1), .second, .val (.long i2), .second, .val (.long i3), .second, .val (.long i4), .second, .val (.int i5), .val (.int ((i5 &&& (2147483647 : Int32)) % (6 : Int32))), .val (.ref b2), .unset, .unset] [(.ref b19), (.ref b19)])) := fun t k => P19 t (by
    show Steps p.tables e below (T19.setTop (mkF m 41 #[.val (.long i0), .second, .val (.long i1), .second, .val (.long i2), .second, .val (.long i3), .second, .val (.long i4), .second, .val (.int i5), .val (.int ((i5 &&& (2147483647 : Int32)) % (6 : Int32))), .val (.ref b2), .unset, .unset] [(.ref b19)])) t
    refine XS.dup X19.here hx rfl (hb hby at_41) rfl rfl ?_
    show Steps p.tables e below (T19.setTop (mkF m 42 #[.val (.long i0), .second, .val (.long i1), .second, .val (.long i2), .second, .val (.long i3), .second, .val (.long i4), .second, .val (.int i5), .val (.int ((i5 &&& (2147483647 : Int32)) % (6 : Int32))), .val (.ref b2), .unset, .unset] [(.ref b19), (.ref b19)])) t
    exact k)
  obtain ⟨_, _, ⟨T22, L22, k22, n22⟩, -, X22, ⟨Lc22, hQ22, l22, y22, z22⟩, st22⟩ := X19.specialBack hx (y := (⟨"com/example/splice/splice/XPath$Keys", "<init>", "()V"⟩ : MethodName)) rfl hown (mvT hZ (hw _ (List.mem_of_getElem? (i := 5) rfl))) (mvT hZ (hw _ (List.mem_of_getElem? (i := 6) rfl))) (mvT hZ (hw _ (List.mem_of_getElem? (i := 7) rfl))) (by decide) (backOf (W := 1) (rm1 l Z a0 hw [] b19 (0 : Int32) .null h19 n0 (Nat.le_trans Z0 K19.1) F19_size A19 F19_keys g_b19) hZ (hw _ (List.mem_of_getElem? (i := 7) rfl)) (hw _ (List.mem_of_getElem? (i := 4) rfl)) (by decide) (by decide)) (g := (mkF m 42 #[.val (.long i0), .second, .val (.long i1), .second, .val (.long i2), .second, .val (.long i3), .second, .val (.long i4), .second, .val (.int i5), .val (.int ((i5 &&& (2147483647 : Int32)) % (6 : Int32))), .val (.ref b2), .unset, .unset] [(.ref b19), (.ref b19)])) rfl (by rw [hml]; rfl) (Steps.refl _) (a := b19) (argsL := []) (rest := [(.ref b19)]) (lenOf pd_0 rfl) rfl (by show 2 * 0 + _ ≤ _; exact Nat.le_of_eq rfl) (hb hby at_42) (fun _ _ => ⟨rfl, e19, (by decide : 2 + 1 ≤ _), (by decide : 7 + 8 ≤ _)⟩)
  dsimp only [Pt.U, Pt.locs, Pt.cells, Pt.slots] at X22 l22 y22 z22 st22 hQ22
  subst l22 y22 z22
  obtain ⟨b4_22, k4_22, rfl, N22q, Kc22, sz_b4_22, F22_0, F22_1, F22_2⟩ := hQ22
  have N22 := Fr.app N16 N22q
  have ne_b2_b4_22 : b2 ≠ b4_22 := Nat.ne_of_lt (Nat.lt_of_lt_of_le F20.lt sz_b4_22)
  have ne_b19_b4_22 : b19 ≠ b4_22 := Nat.ne_of_lt (Nat.lt_of_lt_of_le A19.lt sz_b4_22)
  have g_b4_22 : n0 ≤ b4_22 := Nat.le_trans (Nat.le_trans Z0 K19.1) sz_b4_22
  have o_b4_22 : h0.size ≤ b4_22 := Nat.le_trans K19.1 sz_b4_22
  have K22 : Keep h0 T22.heap [] := Keep.trans K19 Kc22 (allS (Or.inr o_b19) all0)
  have P22 : own_Go p e below S0 (T22.setTop (mkF m 45 #[.val (.long i0), .second, .val (.long i1), .second, .val (.long i2), .second, .val (.long i3), .second, .val (.long i4), .second, .val (.int i5), .val (.int ((i5 &&& (2147483647 : Int32)) % (6 : Int32))), .val (.ref b2), .unset, .unset] [(.ref b19)])) := fun t k => P21 t (st22.trans k)
  have F23 : Arv Z T22.heap b2 k2 .long (5 : Int32) [(.long i0), (.long i1), (.long i2), (.long i3), (.long i4)] (.long (0 : Int64)) := F20.keep Kc22 (ninS ne_b2_b19 nin0)
  have F24 : Exa Z T22.heap b19 "com/example/splice/splice/XPath$Keys" := A19.keep Kc22
  have P25 : own_Go p e below S0 (T22.setTop (mkF m 50 #[.val (.long i0), .second, .val (.long i1), .second, .val (.long i2), .second, .val (.long i3), .second, .val (.long i4), .second, .val (.int i5), .val (.int ((i5 &&& (2147483647 : Int32)) % (6 : Int32))), .val (.ref b2), .val (.ref b19), .unset] [(.int (5 : Int32)), (.ref b19)])) := fun t k => P22 t (by
    show Steps p.tables e below (T22.setTop (mkF m 45 #[.val (.long i0), .second, .val (.long i1), .second, .val (.long i2), .second, .val (.long i3), .second, .val (.long i4), .second, .val (.int i5), .val (.int ((i5 &&& (2147483647 : Int32)) % (6 : Int32))), .val (.ref b2), .unset, .unset] [(.ref b19)])) t
    refine XS.astore X22.here hx rfl (hb hby at_45) rfl rfl (l' := #[.val (.long i0), .second, .val (.long i1), .second, .val (.long i2), .second, .val (.long i3), .second, .val (.long i4), .second, .val (.int i5), .val (.int ((i5 &&& (2147483647 : Int32)) % (6 : Int32))), .val (.ref b2), .val (.ref b19), .unset]) rfl ?_
    refine XS.aload X22.here hx rfl (hb hby at_47) rfl rfl ?_
    refine XS.iconst X22.here hx rfl (hb hby at_49) ?_
    show Steps p.tables e below (T22.setTop (mkF m 50 #[.val (.long i0), .second, .val (.long i1), .second, .val (.long i2), .second, .val (.long i3), .second, .val (.long i4), .second, .val (.int i5), .val (.int ((i5 &&& (2147483647 : Int32)) % (6 : Int32))), .val (.ref b2), .val (.ref b19), .unset] [(.int (5 : Int32)), (.ref b19)])) t
    exact k)
  obtain ⟨T26, h26, k26, X26, e26, E26, A26, st26⟩ := newP X22 hx hZ (hw _ (List.mem_of_getElem? (i := 1) rfl)) rfl (g := (mkF m 50 #[.val (.long i0), .second, .val (.long i1), .second, .val (.long i2), .second, .val (.long i3), .second, .val (.long i4), .second, .val (.int i5), .val (.int ((i5 &&& (2147483647 : Int32)) % (6 : Int32))), .val (.ref b2), .val (.ref b19), .unset] [(.int (5 : Int32)), (.ref b19)])) rfl (hb hby at_50) rfl (by decide) (cap := 5) (by decide) (by decide) (by decide) (by decide)
  obtain ⟨b26, g26⟩ : ∃ z, z = T22.heap.size := ⟨_, rfl⟩
  rw [← g26] at A26 st26
  have sz_b26 : T22.heap.size ≤ b26 := Nat.le_of_eq g26.symm
  have ne_b2_b26 : b2 ≠ b26 := Nat.ne_of_lt (Nat.lt_of_lt_of_le F23.lt sz_b26)
  have ne_b19_b26 : b19 ≠ b26 := Nat.ne_of_lt (Nat.lt_of_lt_of_le F24.lt sz_b26)
  have ne_b4_22_b26 : b4_22 ≠ b26 := Nat.ne_of_lt (Nat.lt_of_lt_of_le F22_1.lt sz_b26)
  have g_b26 : n0 ≤ b26 := Nat.le_trans (Nat.le_trans Z0 K22.1) sz_b26
  have o_b26 : h0.size ≤ b26 := Nat.le_trans K22.1 sz_b26
  have K26 : Keep h0 h26 [] := K22.ext E26
  have V26 : Arv Z h26 b26 k26 .long (5 : Int32) [(.long (0 : Int64)), (.long (0 : Int64)), (.long (0 : Int64)), (.long (0 : Int64)), (.long (0 : Int64))] (.long (0 : Int64)) := (Arv.new A26 (by decide)).pad (pad_rep [] (.long (0 : Int64)) 5)
  have P26 : own_Go p e below S0 (T26.setTop (mkF m 52 #[.val (.long i0), .second, .val (.long i1), .second, .val (.long i2), .second, .val (.long i3), .second, .val (.long i4), .second, .val (.int i5), .val (.int ((i5 &&& (2147483647 : Int32)) % (6 : Int32))), .val (.ref b2), .val (.ref b19), .unset] [(.ref b26), (.ref b19)])) := fun t k => P25 t (st26 _ k)
  have P27 : own_Go p e below S0 (T26.setTop (mkF m 55 #[.val (.long i0), .second, .val (.long i1), .second, .val (.long i2), .second, .val (.long i3), .second, .val (.long i4), .second, .val (.int i5), .val (.int ((i5 &&& (2147483647 : Int32)) % (6 : Int32))), .val (.ref b2), .val (.ref b19), .unset] [(.long i0), (.int (0 : Int32)), (.ref b26), (.ref b26), (.ref b19)])) := fun t k => P26 t (by
    show Steps p.tables e below (T26.setTop (mkF m 52 #[.val (.long i0), .second, .val (.long i1), .second, .val (.long i2), .second, .val (.long i3), .second, .val (.long i4), .second, .val (.int i5), .val (.int ((i5 &&& (2147483647 : Int32)) % (6 : Int32))), .val (.ref b2), .val (.ref b19), .unset] [(.ref b26), (.ref b19)])) t
    refine XS.dup X26.here hx rfl (hb hby at_52) rfl rfl ?_
    refine XS.iconst X26.here hx rfl (hb hby at_53) ?_
    refine XS.lloadN X26.here hx rfl (hb hby at_54) rfl ?_
    show Steps p.tables e below (T26.setTop (mkF m 55 #[.val (.long i0), .second, .val (.long i1), .second, .val (.long i2), .second, .val (.long i3), .second, .val (.long i4), .second, .val (.int i5), .val (.int ((i5 &&& (2147483647 : Int32)) % (6 : Int32))), .val (.ref b2), .val (.ref b19), .unset] [(.long i0), (.int (0 : Int32)), (.ref b26), (.ref b26), (.ref b19)])) t
    exact k)
  obtain ⟨cl29, Ar29, q29, Sz29, Nn29, Hh29, Gg29⟩ := id V26
  have hin29 : ¬ ((0 : Int32) < 0 ∨ cl29.slots.size ≤ ((0 : Int32)).toNatClampNeg) := inb_of Sz29 ⟨by decide, by decide⟩
  obtain ⟨T28, h28, X28, e28, W28, st28⟩ := stJ X26 hx hZ e26 Ar29 (j := (0 : Int32)) hin29 (g := (mkF m 55 #[.val (.long i0), .second, .val (.long i1), .second, .val (.long i2), .second, .val (.long i3), .second, .val (.long i4), .second, .val (.int i5), .val (.int ((i5 &&& (2147483647 : Int32)) % (6 : Int32))), .val (.ref b2), .val (.ref b19), .unset] [(.long i0), (.int (0 : Int32)), (.ref b26), (.ref b26), (.ref b19)])) rfl rfl (hb hby at_55)
  have K28 : Keep h0 h28 [] := K26.wr W28 (Or.inr o_b26)
  have N28 := Fr.snoc X28 N22 g_b26
  have V28 : Arv Z h28 b26 k26 .long (5 : Int32) [(.long i0), (.long (0 : Int64)), (.long (0 : Int64)), (.long (0 : Int64)), (.long (0 : Int64))] (.long (0 : Int64)) := Arv.set Ar29 q29 Sz29 Nn29 Hh29 Gg29 rfl W28 0 rfl (Nat.le_of_ble_eq_true rfl)
  have P28 : own_Go p e below S0 (T28.setTop (mkF m 56 #[.val (.long i0), .second, .val (.long i1), .second, .val (.long i2), .second, .val (.long i3), .second, .val (.long i4), .second, .val (.int i5), .val (.int ((i5 &&& (2147483647 : Int32)) % (6 : Int32))), .val (.ref b2), .val (.ref b19), .unset] [(.ref b26), (.ref b19)])) := fun t k => P27 t (st28 _ k)
  have P30 : own_Go p e below S0 (T28.setTop (mkF m 59 #[.val (.long i0), .second, .val (.long i1), .second, .val (.long i2), .second, .val (.long i3), .second, .val (.long i4), .second, .val (.int i5), .val (.int ((i5 &&& (2147483647 : Int32)) % (6 : Int32))), .val (.ref b2), .val (.ref b19), .unset] [(.long i1), (.int (1 : Int32)), (.ref b26), (.ref b26), (.ref b19)])) := fun t k => P28 t (by
    show Steps p.tables e below (T28.setTop (mkF m 56 #[.val (.long i0), .second, .val (.long i1), .second, .val (.long i2), .second, .val (.long i3), .second, .val (.long i4), .second, .val (.int i5), .val (.int ((i5 &&& (2147483647 : Int32)) % (6 : Int32))), .val (.ref b2), .val (.ref b19), .unset] [(.ref b26), (.ref b19)])) t
    refine XS.dup X28.here hx rfl (hb hby at_56) rfl rfl ?_
    refine XS.iconst X28.here hx rfl (hb hby at_57) ?_
    refine XS.lloadN X28.here hx rfl (hb hby at_58) rfl ?_
    show Steps p.tables e below (T28.setTop (mkF m 59 #[.val (.long i0), .second, .val (.long i1), .second, .val (.long i2), .second, .val (.long i3), .second, .val (.long i4), .second, .val (.int i5), .val (.int ((i5 &&& (2147483647 : Int32)) % (6 : Int32))), .val (.ref b2), .val (.ref b19), .unset] [(.long i1), (.int (1 : Int32)), (.ref b26), (.ref b26), (.ref b19)])) t
    exact k)
  obtain ⟨cl32, Ar32, q32, Sz32, Nn32, Hh32, Gg32⟩ := id V28
  have hin32 : ¬ ((1 : Int32) < 0 ∨ cl32.slots.size ≤ ((1 : Int32)).toNatClampNeg) := inb_of Sz32 ⟨by decide, by decide⟩
  obtain ⟨T31, h31, X31, e31, W31, st31⟩ := stJ X28 hx hZ e28 Ar32 (j := (1 : Int32)) hin32 (g := (mkF m 59 #[.val (.long i0), .second, .val (.long i1), .second, .val (.long i2), .second, .val (.long i3), .second, .val (.long i4), .second, .val (.int i5), .val (.int ((i5 &&& (2147483647 : Int32)) % (6 : Int32))), .val (.ref b2), .val (.ref b19), .unset] [(.long i1), (.int (1 : Int32)), (.ref b26), (.ref b26), (.ref b19)])) rfl rfl (hb hby at_59)
  have K31 : Keep h0 h31 [] := K28.wr W31 (Or.inr o_b26)
  have N31 := Fr.snoc X31 N28 g_b26
  have V31 : Arv Z h31 b26 k26 .long (5 : Int32) [(.long i0), (.long i1), (.long (0 : Int64)), (.long (0 : Int64)), (.long (0 : Int64))] (.long (0 : Int64)) := Arv.set Ar32 q32 Sz32 Nn32 Hh32 Gg32 rfl W31 1 rfl (Nat.le_of_ble_eq_true rfl)
  have P31 : own_Go p e below S0 (T31.setTop (mkF m 60 #[.val (.long i0), .second, .val (.long i1), .second, .val (.long i2), .second, .val (.long i3), .second, .val (.long i4), .second, .val (.int i5), .val (.int ((i5 &&& (2147483647 : Int32)) % (6 : Int32))), .val (.ref b2), .val (.ref b19), .unset] [(.ref b26), (.ref b19)])) := fun t k => P30 t (st31 _ k)
  have P33 : own_Go p e below S0 (T31.setTop (mkF m 64 #[.val (.long i0), .second, .val (.long i1), .second, .val (.long i2), .second, .val (.long i3), .second, .val (.long i4), .second, .val (.int i5), .val (.int ((i5 &&& (2147483647 : Int32)) % (6 : Int32))), .val (.ref b2), .val (.ref b19), .unset] [(.long i2), (.int (2 : Int32)), (.ref b26), (.ref b26), (.ref b19)])) := fun t k => P31 t (by
    show Steps p.tables e below (T31.setTop (mkF m 60 #[.val (.long i0), .second, .val (.long i1), .second, .val (.long i2), .second, .val (.long i3), .second, .val (.long i4), .second, .val (.int i5), .val (.int ((i5 &&& (2147483647 : Int32)) % (6 : Int32))), .val (.ref b2), .val (.ref b19), .unset] [(.ref b26), (.ref b19)])) t
    refine XS.dup X31.here hx rfl (hb hby at_60) rfl rfl ?_
    refine XS.iconst X31.here hx rfl (hb hby at_61) ?_
    refine XS.lload X31.here hx rfl (hb hby at_62) rfl ?_
    show Steps p.tables e below (T31.setTop (mkF m 64 #[.val (.long i0), .second, .val (.long i1), .second, .val (.long i2), .second, .val (.long i3), .second, .val (.long i4), .second, .val (.int i5), .val (.int ((i5 &&& (2147483647 : Int32)) % (6 : Int32))), .val (.ref b2), .val (.ref b19), .unset] [(.long i2), (.int (2 : Int32)), (.ref b26), (.ref b26), (.ref b19)])) t
    exact k)
  obtain ⟨cl35, Ar35, q35, Sz35, Nn35, Hh35, Gg35⟩ := id V31
  have hin35 : ¬ ((2 : Int32) < 0 ∨ cl35.slots.size ≤ ((2 : Int32)).toNatClampNeg) := inb_of Sz35 ⟨by decide, by decide⟩
  obtain ⟨T34, h34, X34, e34, W34, st34⟩ := stJ X31 hx hZ e31 Ar35 (j := (2 : Int32)) hin35 (g := (mkF m 64 #[.val (.long i0), .second, .val (.long i1), .second, .val (.long i2), .second, .val (.long i3), .second, .val (.long i4), .second, .val (.int i5), .val (.int ((i5 &&& (2147483647 : Int32)) % (6 : Int32))), .val (.ref b2), .val (.ref b19), .unset] [(.long i2), (.int (2 : Int32)), (.ref b26), (.ref b26), (.ref b19)])) rfl rfl (hb hby at_64)
  have K34 : Keep h0 h34 [] := K31.wr W34 (Or.inr o_b26)
  have N34 := Fr.snoc X34 N31 g_b26
  have V34 : Arv Z h34 b26 k26 .long (5 : Int32) [(.long i0), (.long i1), (.long i2), (.long (0 : Int64)), (.long (0 : Int64))] (.long (0 : Int64)) := Arv.set Ar35 q35 Sz35 Nn35 Hh35 Gg35 rfl W34 2 rfl (Nat.le_of_ble_eq_true rfl)
  have P34 : own_Go p e below S0 (T34.setTop (mkF m 65 #[.val (.long i0), .second, .val (.long i1), .second, .val (.long i2), .second, .val (.long i3), .second, .val (.long i4), .second, .val (.int i5), .val (.int ((i5 &&& (2147483647 : Int32)) % (6 : Int32))), .val (.ref b2), .val (.ref b19), .unset] [(.ref b26), (.ref b19)])) := fun t k => P33 t (st34 _ k)
  have P36 : own_Go p e below S0 (T34.setTop (mkF m 69 #[.val (.long i0), .second, .val (.long i1), .second, .val (.long i2), .second, .val (.long i3), .second, .val (.long i4), .second, .val (.int i5), .val (.int ((i5 &&& (2147483647 : Int32)) % (6 : Int32))), .val (.ref b2), .val (.ref b19), .unset] [(.long i3), (.int (3 : Int32)), (.ref b26), (.ref b26), (.ref b19)])) := fun t k => P34 t (by
    show Steps p.tables e below (T34.setTop (mkF m 65 #[.val (.long i0), .second, .val (.long i1), .second, .val (.long i2), .second, .val (.long i3), .second, .val (.long i4), .second, .val (.int i5), .val (.int ((i5 &&& (2147483647 : Int32)) % (6 : Int32))), .val (.ref b2), .val (.ref b19), .unset] [(.ref b26), (.ref b19)])) t
    refine XS.dup X34.here hx rfl (hb hby at_65) rfl rfl ?_
    refine XS.iconst X34.here hx rfl (hb hby at_66) ?_
    refine XS.lload X34.here hx rfl (hb hby at_67) rfl ?_
    show Steps p.tables e below (T34.setTop (mkF m 69 #[.val (.long i0), .second, .val (.long i1), .second, .val (.long i2), .second, .val (.long i3), .second, .val (.long i4), .second, .val (.int i5), .val (.int ((i5 &&& (2147483647 : Int32)) % (6 : Int32))), .val (.ref b2), .val (.ref b19), .unset] [(.long i3), (.int (3 : Int32)), (.ref b26), (.ref b26), (.ref b19)])) t
    exact k)
  obtain ⟨cl38, Ar38, q38, Sz38, Nn38, Hh38, Gg38⟩ := id V34
  have hin38 : ¬ ((3 : Int32) < 0 ∨ cl38.slots.size ≤ ((3 : Int32)).toNatClampNeg) := inb_of Sz38 ⟨by decide, by decide⟩
  obtain ⟨T37, h37, X37, e37, W37, st37⟩ := stJ X34 hx hZ e34 Ar38 (j := (3 : Int32)) hin38 (g := (mkF m 69 #[.val (.long i0), .second, .val (.long i1), .second, .val (.long i2), .second, .val (.long i3), .second, .val (.long i4), .second, .val (.int i5), .val (.int ((i5 &&& (2147483647 : Int32)) % (6 : Int32))), .val (.ref b2), .val (.ref b19), .unset] [(.long i3), (.int (3 : Int32)), (.ref b26), (.ref b26), (.ref b19)])) rfl rfl (hb hby at_69)
  have K37 : Keep h0 h37 [] := K34.wr W37 (Or.inr o_b26)
  have N37 := Fr.snoc X37 N34 g_b26
  have V37 : Arv Z h37 b26 k26 .long (5 : Int32) [(.long i0), (.long i1), (.long i2), (.long i3), (.long (0 : Int64))] (.long (0 : Int64)) := Arv.set Ar38 q38 Sz38 Nn38 Hh38 Gg38 rfl W37 3 rfl (Nat.le_of_ble_eq_true rfl)
  have P37 : own_Go p e below S0 (T37.setTop (mkF m 70 #[.val (.long i0), .second, .val (.long i1), .second, .val (.long i2), .second, .val (.long i3), .second, .val (.long i4), .second, .val (.int i5), .val (.int ((i5 &&& (2147483647 : Int32)) % (6 : Int32))), .val (.ref b2), .val (.ref b19), .unset] [(.ref b26), (.ref b19)])) := fun t k => P36 t (st37 _ k)
  have P39 : own_Go p e below S0 (T37.setTop (mkF m 74 #[.val (.long i0), .second, .val (.long i1), .second, .val (.long i2), .second, .val (.long i3), .second, .val (.long i4), .second, .val (.int i5), .val (.int ((i5 &&& (2147483647 : Int32)) % (6 : Int32))), .val (.ref b2), .val (.ref b19), .unset] [(.long i4), (.int (4 : Int32)), (.ref b26), (.ref b26), (.ref b19)])) := fun t k => P37 t (by
    show Steps p.tables e below (T37.setTop (mkF m 70 #[.val (.long i0), .second, .val (.long i1), .second, .val (.long i2), .second, .val (.long i3), .second, .val (.long i4), .second, .val (.int i5), .val (.int ((i5 &&& (2147483647 : Int32)) % (6 : Int32))), .val (.ref b2), .val (.ref b19), .unset] [(.ref b26), (.ref b19)])) t
    refine XS.dup X37.here hx rfl (hb hby at_70) rfl rfl ?_
    refine XS.iconst X37.here hx rfl (hb hby at_71) ?_
    refine XS.lload X37.here hx rfl (hb hby at_72) rfl ?_
    show Steps p.tables e below (T37.setTop (mkF m 74 #[.val (.long i0), .second, .val (.long i1), .second, .val (.long i2), .second, .val (.long i3), .second, .val (.long i4), .second, .val (.int i5), .val (.int ((i5 &&& (2147483647 : Int32)) % (6 : Int32))), .val (.ref b2), .val (.ref b19), .unset] [(.long i4), (.int (4 : Int32)), (.ref b26), (.ref b26), (.ref b19)])) t
    exact k)
  obtain ⟨cl41, Ar41, q41, Sz41, Nn41, Hh41, Gg41⟩ := id V37
  have hin41 : ¬ ((4 : Int32) < 0 ∨ cl41.slots.size ≤ ((4 : Int32)).toNatClampNeg) := inb_of Sz41 ⟨by decide, by decide⟩
  obtain ⟨T40, h40, X40, e40, W40, st40⟩ := stJ X37 hx hZ e37 Ar41 (j := (4 : Int32)) hin41 (g := (mkF m 74 #[.val (.long i0), .second, .val (.long i1), .second, .val (.long i2), .second, .val (.long i3), .second, .val (.long i4), .second, .val (.int i5), .val (.int ((i5 &&& (2147483647 : Int32)) % (6 : Int32))), .val (.ref b2), .val (.ref b19), .unset] [(.long i4), (.int (4 : Int32)), (.ref b26), (.ref b26), (.ref b19)])) rfl rfl (hb hby at_74)
  have K40 : Keep h0 h40 [] := K37.wr W40 (Or.inr o_b26)
  have N40 := Fr.snoc X40 N37 g_b26
  have V40 : Arv Z h40 b26 k26 .long (5 : Int32) [(.long i0), (.long i1), (.long i2), (.long i3), (.long i4)] (.long (0 : Int64)) := Arv.set Ar41 q41 Sz41 Nn41 Hh41 Gg41 rfl W40 4 rfl (Nat.le_of_ble_eq_true rfl)
  have P40 : own_Go p e below S0 (T40.setTop (mkF m 75 #[.val (.long i0), .second, .val (.long i1), .second, .val (.long i2), .second, .val (.long i3), .second, .val (.long i4), .second, .val (.int i5), .val (.int ((i5 &&& (2147483647 : Int32)) % (6 : Int32))), .val (.ref b2), .val (.ref b19), .unset] [(.ref b26), (.ref b19)])) := fun t k => P39 t (st40 _ k)
  have F42 : Exa Z h26 b19 "com/example/splice/splice/XPath$Keys" := F24.ext E26
  have F43 : Exa Z h28 b19 "com/example/splice/splice/XPath$Keys" := F42.wr W28
  have F44 : Exa Z h31 b19 "com/example/splice/splice/XPath$Keys" := F43.wr W31
  have F45 : Exa Z h34 b19 "com/example/splice/splice/XPath$Keys" := F44.wr W34
  have F46 : Exa Z h37 b19 "com/example/splice/splice/XPath$Keys" := F45.wr W37
  have F47 : Exa Z h40 b19 "com/example/splice/splice/XPath$Keys" := F46.wr W40
  have F48 : Fld Z h26 b19 "com/example/splice/splice/XPath$Keys" "keys" "[J" (.ref b4_22) := F22_2.ext E26
  have F49 : Fld Z h28 b19 "com/example/splice/splice/XPath$Keys" "keys" "[J" (.ref b4_22) := F48.other W28 (Or.inl ne_b19_b26)
  have F50 : Fld Z h31 b19 "com/example/splice/splice/XPath$Keys" "keys" "[J" (.ref b4_22) := F49.other W31 (Or.inl ne_b19_b26)
  have F51 : Fld Z h34 b19 "com/example/splice/splice/XPath$Keys" "keys" "[J" (.ref b4_22) := F50.other W34 (Or.inl ne_b19_b26)
  have F52 : Fld Z h37 b19 "com/example/splice/splice/XPath$Keys" "keys" "[J" (.ref b4_22) := F51.other W37 (Or.inl ne_b19_b26)
  have F53 : Fld Z h40 b19 "com/example/splice/splice/XPath$Keys" "keys" "[J" (.ref b4_22) := F52.other W40 (Or.inl ne_b19_b26)
  obtain ⟨T54, h54, X54, e54, W54, st54⟩ := putF X40 hx hZ hown (host := "") (Or.inl (hw _ (List.mem_of_getElem? (i := 13) rfl))) Via.refl e40 F53 F47 (Or.inl (hw _ (List.mem_of_getElem? (i := 12) rfl))) (hw _ (List.mem_of_getElem? (i := 3) rfl)) (ty := (.array .long)) (by decide) rfl rfl (g := (mkF m 75 #[.val (.long i0), .second, .val (.long i1), .second, .val (.long i2), .second, .val (.long i3), .second, .val (.long i4), .second, .val (.int i5), .val (.int ((i5 &&& (2147483647 : Int32)) % (6 : Int32))), .val (.ref b2), .val (.ref b19), .unset] [(.ref b26), (.ref b19)])) rfl rfl (hb hby at_75)
  have K54 : Keep h0 h54 [] := K40.wr W54 (Or.inr o_b19)
  have N54 := Fr.snoc X54 N40 g_b19
  have F54w : Fld Z h54 b19 "com/example/splice/splice/XPath$Keys" "keys" "[J" (.ref b26) := F53.same W54
  have P54 : own_Go p e below S0 (T54.setTop (mkF m 78 #[.val (.long i0), .second, .val (.long i1), .second, .val (.long i2), .second, .val (.long i3), .second, .val (.long i4), .second, .val (.int i5), .val (.int ((i5 &&& (2147483647 : Int32)) % (6 : Int32))), .val (.ref b2), .val (.ref b19), .unset] [])) := fun t k => P40 t (st54 _ k)
  obtain ⟨n55, hn55⟩ : ∃ z : Int32, z = ((i5 &&& (2147483647 : Int32)) % (6 : Int32)) := ⟨_, rfl⟩
  have P55 : own_Go p e below S0 (T54.setTop (mkF m 78 #[.val (.long i0), .second, .val (.long i1), .second, .val (.long i2), .second, .val (.long i3), .second, .val (.long i4), .second, .val (.int i5), .val (.int n55), .val (.ref b2), .val (.ref b19), .unset] [])) := by rw [hn55]; exact P54
  rcases (by rw [hn55]; exact own_mod6 _ : n55 = (0 : Int32) ∨ n55 = (1 : Int32) ∨ n55 = (2 : Int32) ∨ n55 = (3 : Int32) ∨ n55 = (4 : Int32) ∨ n55 = (5 : Int32)) with c56 | c56 | c56 | c56 | c56 | c56
  · skip
    subst c56
    have F57 : Exa Z h54 b19 "com/example/splice/splice/XPath$Keys" := F47.wr W54
    have F58 : Fld Z h26 b19 "com/example/splice/splice/XPath$Keys" "size" "I" (.int (0 : Int32)) := F22_0.ext E26
    have F59 : Fld Z h28 b19 "com/example/splice/splice/XPath$Keys" "size" "I" (.int (0 : Int32)) := F58.other W28 (Or.inl ne_b19_b26)
    have F60 : Fld Z h31 b19 "com/example/splice/splice/XPath$Keys" "size" "I" (.int (0 : Int32)) := F59.other W31 (Or.inl ne_b19_b26)
    have F61 : Fld Z h34 b19 "com/example/splice/splice/XPath$Keys" "size" "I" (.int (0 : Int32)) := F60.other W34 (Or.inl ne_b19_b26)
    have F62 : Fld Z h37 b19 "com/example/splice/splice/XPath$Keys" "size" "I" (.int (0 : Int32)) := F61.other W37 (Or.inl ne_b19_b26)
    have F63 : Fld Z h40 b19 "com/example/splice/splice/XPath$Keys" "size" "I" (.int (0 : Int32)) := F62.other W40 (Or.inl ne_b19_b26)
    have F64 : Fld Z h54 b19 "com/example/splice/splice/XPath$Keys" "size" "I" (.int (0 : Int32)) := F63.other W54 (Or.inr (slot_ne (Or.inl (hw _ (List.mem_of_getElem? (i := 15) rfl))) (Or.inl (hw _ (List.mem_of_getElem? (i := 12) rfl))) (by decide) (t := .int) (t' := (.array .long)) (by decide) (by decide)))
    have P65 : own_Go p e below S0 (T54.setTop (mkF m 82 #[.val (.long i0), .second, .val (.long i1), .second, .val (.long i2), .second, .val (.long i3), .second, .val (.long i4), .second, .val (.int i5), .val (.int (0 : Int32)), .val (.ref b2), .val (.ref b19), .unset] [(.int (0 : Int32)), (.ref b19)])) := fun t k => P55 t (by
      show Steps p.tables e below (T54.setTop (mkF m 78 #[.val (.long i0), .second, .val (.long i1), .second, .val (.long i2), .second, .val (.long i3), .second, .val (.long i4), .second, .val (.int i5), .val (.int (0 : Int32)), .val (.ref b2), .val (.ref b19), .unset] [])) t
      refine XS.aload X54.here hx rfl (hb hby at_78) rfl rfl ?_
      refine XS.iload X54.here hx rfl (hb hby at_80) rfl ?_
      show Steps p.tables e below (T54.setTop (mkF m 82 #[.val (.long i0), .second, .val (.long i1), .second, .val (.long i2), .second, .val (.long i3), .second, .val (.long i4), .second, .val (.int i5), .val (.int (0 : Int32)), .val (.ref b2), .val (.ref b19), .unset] [(.int (0 : Int32)), (.ref b19)])) t
      exact k)
    obtain ⟨T66, h66, X66, e66, W66, st66⟩ := putF X54 hx hZ hown (host := "") (Or.inl (hw _ (List.mem_of_getElem? (i := 14) rfl))) Via.refl e54 F64 F57 (Or.inl (hw _ (List.mem_of_getElem? (i := 15) rfl))) (hw _ (List.mem_of_getElem? (i := 3) rfl)) (ty := .int) (by decide) rfl rfl (g := (mkF m 82 #[.val (.long i0), .second, .val (.long i1), .second, .val (.long i2), .second, .val (.long i3), .second, .val (.long i4), .second, .val (.int i5), .val (.int (0 : Int32)), .val (.ref b2), .val (.ref b19), .unset] [(.int (0 : Int32)), (.ref b19)])) rfl rfl (hb hby at_82)
    have K66 : Keep h0 h66 [] := K54.wr W66 (Or.inr o_b19)
    have N66 := Fr.snoc X66 N54 g_b19
    have F66w : Fld Z h66 b19 "com/example/splice/splice/XPath$Keys" "size" "I" (.int (0 : Int32)) := F64.same W66
    have P66 : own_Go p e below S0 (T66.setTop (mkF m 85 #[.val (.long i0), .second, .val (.long i1), .second, .val (.long i2), .second, .val (.long i3), .second, .val (.long i4), .second, .val (.int i5), .val (.int (0 : Int32)), .val (.ref b2), .val (.ref b19), .unset] [])) := fun t k => P65 t (st66 _ k)
    have F67 : Exa Z h66 b19 "com/example/splice/splice/XPath$Keys" := F57.wr W66
    have F68 : Fld Z h66 b19 "com/example/splice/splice/XPath$Keys" "keys" "[J" (.ref b26) := F54w.other W66 (Or.inr (slot_ne (Or.inl (hw _ (List.mem_of_getElem? (i := 12) rfl))) (Or.inl (hw _ (List.mem_of_getElem? (i := 15) rfl))) (by decide) (t := (.array .long)) (t' := .int) (by decide) (by decide)))
    have F69 : Arv Z h54 b26 k26 .long (5 : Int32) [(.long i0), (.long i1), (.long i2), (.long i3), (.long i4)] (.long (0 : Int64)) := V40.other W54 (Ne.symm ne_b19_b26)
    have F70 : Arv Z h66 b26 k26 .long (5 : Int32) [(.long i0), (.long i1), (.long i2), (.long i3), (.long i4)] (.long (0 : Int64)) := F69.other W66 (Ne.symm ne_b19_b26)
    have P71 : own_Go p e below S0 (T66.setTop (mkF m 87 #[.val (.long i0), .second, .val (.long i1), .second, .val (.long i2), .second, .val (.long i3), .second, .val (.long i4), .second, .val (.int i5), .val (.int (0 : Int32)), .val (.ref b2), .val (.ref b19), .unset] [(.ref b19)])) := fun t k => P66 t (by
      show Steps p.tables e below (T66.setTop (mkF m 85 #[.val (.long i0), .second, .val (.long i1), .second, .val (.long i2), .second, .val (.long i3), .second, .val (.long i4), .second, .val (.int i5), .val (.int (0 : Int32)), .val (.ref b2), .val (.ref b19), .unset] [])) t
      refine XS.aload X66.here hx rfl (hb hby at_85) rfl rfl ?_
      show Steps p.tables e below (T66.setTop (mkF m 87 #[.val (.long i0), .second, .val (.long i1), .second, .val (.long i2), .second, .val (.long i3), .second, .val (.long i4), .second, .val (.int i5), .val (.int (0 : Int32)), .val (.ref b2), .val (.ref b19), .unset] [(.ref b19)])) t
      exact k)
    obtain ⟨cq72, kq72, q72a, q72b, q72c⟩ := isOf hZ e66 F67
    obtain ⟨_, _, ⟨T72, L72, k72, n72⟩, -, X72, ⟨Lc72, hQ72, l72, y72, z72⟩, st72⟩ := X66.virtualBack hx (y := (⟨"com/example/splice/splice/XPath$Keys", "reverse", "()V"⟩ : MethodName)) (z := (⟨"com/example/splice/splice/XPath$Keys", "reverse", "()V"⟩ : MethodName)) hown (mvT hZ (hw _ (List.mem_of_getElem? (i := 16) rfl))) (mvT hZ (hw _ (List.mem_of_getElem? (i := 17) rfl))) (notFace_of_selects (args := #[]) (mvT hZ (hw _ (List.mem_of_getElem? (i := 19) rfl)))) (mvT hZ (hw _ (List.mem_of_getElem? (i := 19) rfl))) (mvT hZ (hw _ (List.mem_of_getElem? (i := 18) rfl))) (by decide) (backOf (W := 0) (rm3s0 l Z a0 hw [] b19 b26 k26 i0 i1 i2 i3 i4 h66 n0 (Nat.le_trans Z0 K66.1) F68 F66w F70) hZ (hw _ (List.mem_of_getElem? (i := 20) rfl)) (hw _ (List.mem_of_getElem? (i := 4) rfl)) (by decide) (by decide)) q72a q72c (g := (mkF m 87 #[.val (.long i0), .second, .val (.long i1), .second, .val (.long i2), .second, .val (.long i3), .second, .val (.long i4), .second, .val (.int i5), .val (.int (0 : Int32)), .val (.ref b2), .val (.ref b19), .unset] [(.ref b19)])) rfl (by rw [hml]; rfl) (Steps.refl _) (argsL := []) (rest := []) (lenOf pd_0 rfl) rfl (by show 2 * 0 + _ ≤ _; exact Nat.le_of_eq rfl) (hb hby at_87) (fun _ _ => ⟨rfl, e66, (by decide : 4 + 0 ≤ _), (by decide : 20 + 0 ≤ _)⟩)
    dsimp only [Pt.U, Pt.locs, Pt.cells, Pt.slots] at X72 l72 y72 z72 st72 hQ72
    subst l72 y72 z72
    obtain ⟨rfl, N72q, e72⟩ := hQ72
    have N72 := Fr.app N66 N72q
    have P72 : own_Go p e below S0 (T72.setTop (mkF m 90 #[.val (.long i0), .second, .val (.long i1), .second, .val (.long i2), .second, .val (.long i3), .second, .val (.long i4), .second, .val (.int i5), .val (.int (0 : Int32)), .val (.ref b2), .val (.ref b19), .unset] [])) := fun t k => P71 t (st72.trans k)
    have P73 : own_Go p e below S0 (T72.setTop (mkF m 92 #[.val (.long i0), .second, .val (.long i1), .second, .val (.long i2), .second, .val (.long i3), .second, .val (.long i4), .second, .val (.int i5), .val (.int (0 : Int32)), .val (.ref b2), .val (.ref b19), .unset] [(.ref b19)])) := fun t k => P72 t (by
      show Steps p.tables e below (T72.setTop (mkF m 90 #[.val (.long i0), .second, .val (.long i1), .second, .val (.long i2), .second, .val (.long i3), .second, .val (.long i4), .second, .val (.int i5), .val (.int (0 : Int32)), .val (.ref b2), .val (.ref b19), .unset] [])) t
      refine XS.aload X72.here hx rfl (hb hby at_90) rfl rfl ?_
      show Steps p.tables e below (T72.setTop (mkF m 92 #[.val (.long i0), .second, .val (.long i1), .second, .val (.long i2), .second, .val (.long i3), .second, .val (.long i4), .second, .val (.int i5), .val (.int (0 : Int32)), .val (.ref b2), .val (.ref b19), .unset] [(.ref b19)])) t
      exact k)
    obtain ⟨T74, X74, e74, st74⟩ := getF X72 hx hZ hown (host := "") (Or.inl (hw _ (List.mem_of_getElem? (i := 13) rfl))) Via.refl e72 F68 (g := (mkF m 92 #[.val (.long i0), .second, .val (.long i1), .second, .val (.long i2), .second, .val (.long i3), .second, .val (.long i4), .second, .val (.int i5), .val (.int (0 : Int32)), .val (.ref b2), .val (.ref b19), .unset] [(.ref b19)])) rfl rfl (hb hby at_92)
    have P74 : own_Go p e below S0 (T74.setTop (mkF m 95 #[.val (.long i0), .second, .val (.long i1), .second, .val (.long i2), .second, .val (.long i3), .second, .val (.long i4), .second, .val (.int i5), .val (.int (0 : Int32)), .val (.ref b2), .val (.ref b19), .unset] [(.ref b26)])) := fun t k => P73 t (st74 _ k)
    have P75 : own_Go p e below S0 (T74.setTop (mkF m 99 #[.val (.long i0), .second, .val (.long i1), .second, .val (.long i2), .second, .val (.long i3), .second, .val (.long i4), .second, .val (.int i5), .val (.int (0 : Int32)), .val (.ref b2), .val (.ref b19), .val (.ref b26)] [(.ref b19)])) := fun t k => P74 t (by
      show Steps p.tables e below (T74.setTop (mkF m 95 #[.val (.long i0), .second, .val (.long i1), .second, .val (.long i2), .second, .val (.long i3), .second, .val (.long i4), .second, .val (.int i5), .val (.int (0 : Int32)), .val (.ref b2), .val (.ref b19), .unset] [(.ref b26)])) t
      refine XS.astore X74.here hx rfl (hb hby at_95) rfl rfl (l' := #[.val (.long i0), .second, .val (.long i1), .second, .val (.long i2), .second, .val (.long i3), .second, .val (.long i4), .second, .val (.int i5), .val (.int (0 : Int32)), .val (.ref b2), .val (.ref b19), .val (.ref b26)]) rfl ?_
      refine XS.aload X74.here hx rfl (hb hby at_97) rfl rfl ?_
      show Steps p.tables e below (T74.setTop (mkF m 99 #[.val (.long i0), .second, .val (.long i1), .second, .val (.long i2), .second, .val (.long i3), .second, .val (.long i4), .second, .val (.int i5), .val (.int (0 : Int32)), .val (.ref b2), .val (.ref b19), .val (.ref b26)] [(.ref b19)])) t
      exact k)
    obtain ⟨T76, X76, e76, st76⟩ := getF X74 hx hZ hown (host := "") (Or.inl (hw _ (List.mem_of_getElem? (i := 14) rfl))) Via.refl e74 F66w (g := (mkF m 99 #[.val (.long i0), .second, .val (.long i1), .second, .val (.long i2), .second, .val (.long i3), .second, .val (.long i4), .second, .val (.int i5), .val (.int (0 : Int32)), .val (.ref b2), .val (.ref b19), .val (.ref b26)] [(.ref b19)])) rfl rfl (hb hby at_99)
    have P76 : own_Go p e below S0 (T76.setTop (mkF m 102 #[.val (.long i0), .second, .val (.long i1), .second, .val (.long i2), .second, .val (.long i3), .second, .val (.long i4), .second, .val (.int i5), .val (.int (0 : Int32)), .val (.ref b2), .val (.ref b19), .val (.ref b26)] [(.int (0 : Int32))])) := fun t k => P75 t (st76 _ k)
    obtain ⟨cl77, Ar77, q77, Sz77, Nn77, Hh77, Gg77⟩ := id F70
    obtain ⟨cl78, Ar78, q78, Sz78, Nn78, Hh78, Gg78⟩ := id F70
    have hin78 : ¬ ((0 : Int32) < 0 ∨ cl78.slots.size ≤ ((0 : Int32)).toNatClampNeg) := inb_of Sz78 ⟨by decide, by decide⟩
    have hat78 : cl78.slots[((0 : Int32)).toNatClampNeg]? = some (.long i0) := Has.at Hh78 hin78 rfl
    have F79 : Arv Z h26 b2 k2 .long (5 : Int32) [(.long i0), (.long i1), (.long i2), (.long i3), (.long i4)] (.long (0 : Int64)) := F23.ext E26
    have F80 : Arv Z h28 b2 k2 .long (5 : Int32) [(.long i0), (.long i1), (.long i2), (.long i3), (.long i4)] (.long (0 : Int64)) := F79.other W28 ne_b2_b26
    have F81 : Arv Z h31 b2 k2 .long (5 : Int32) [(.long i0), (.long i1), (.long i2), (.long i3), (.long i4)] (.long (0 : Int64)) := F80.other W31 ne_b2_b26
    have F82 : Arv Z h34 b2 k2 .long (5 : Int32) [(.long i0), (.long i1), (.long i2), (.long i3), (.long i4)] (.long (0 : Int64)) := F81.other W34 ne_b2_b26
    have F83 : Arv Z h37 b2 k2 .long (5 : Int32) [(.long i0), (.long i1), (.long i2), (.long i3), (.long i4)] (.long (0 : Int64)) := F82.other W37 ne_b2_b26
    have F84 : Arv Z h40 b2 k2 .long (5 : Int32) [(.long i0), (.long i1), (.long i2), (.long i3), (.long i4)] (.long (0 : Int64)) := F83.other W40 ne_b2_b26
    have F85 : Arv Z h54 b2 k2 .long (5 : Int32) [(.long i0), (.long i1), (.long i2), (.long i3), (.long i4)] (.long (0 : Int64)) := F84.other W54 ne_b2_b19
    have F86 : Arv Z h66 b2 k2 .long (5 : Int32) [(.long i0), (.long i1), (.long i2), (.long i3), (.long i4)] (.long (0 : Int64)) := F85.other W66 ne_b2_b19
    have P87 : own_Go p e below S0 (T76.setTop (mkF m 125 #[.val (.long i0), .second, .val (.long i1), .second, .val (.long i2), .second, .val (.long i3), .second, .val (.long i4), .second, .val (.int i5), .val (.int (0 : Int32)), .val (.ref b2), .val (.ref b19), .val (.ref b26)] [(.int (0 : Int32)), (.int (0 : Int32)), (.ref b2), (.long i0)])) := fun t k => P76 t (by
      show Steps p.tables e below (T76.setTop (mkF m 102 #[.val (.long i0), .second, .val (.long i1), .second, .val (.long i2), .second, .val (.long i3), .second, .val (.long i4), .second, .val (.int i5), .val (.int (0 : Int32)), .val (.ref b2), .val (.ref b19), .val (.ref b26)] [(.int (0 : Int32))])) t
      refine XS.iload X76.here hx rfl (hb hby at_102) rfl ?_
      refine XS.icmpNo X76.here hx rfl (hb hby at_104) rfl (teq (by decide)).2 ?_
      refine XS.aload X76.here hx rfl (hb hby at_107) rfl rfl ?_
      show Steps p.tables e below (T76.setTop (mkF m 109 #[.val (.long i0), .second, .val (.long i1), .second, .val (.long i2), .second, .val (.long i3), .second, .val (.long i4), .second, .val (.int i5), .val (.int (0 : Int32)), .val (.ref b2), .val (.ref b19), .val (.ref b26)] [(.ref b26)])) t
      refine X76.arraylength hx (by rw [e76]; exact Ar77.1) (State.isArrayOf_alike hZ.alike Ar77.2.1) (g := (mkF m 109 #[.val (.long i0), .second, .val (.long i1), .second, .val (.long i2), .second, .val (.long i3), .second, .val (.long i4), .second, .val (.int i5), .val (.int (0 : Int32)), .val (.ref b2), .val (.ref b19), .val (.ref b26)] [(.ref b26)])) rfl rfl (hb hby at_109) _ ?_
      rw [len_of Sz77 Nn77]
      refine XS.iconst X76.here hx rfl (hb hby at_110) ?_
      refine XS.icmpYes X76.here hx rfl (pc0 := 111) (pc' := 116) rfl (hb hby at_111) rfl (teq (by decide)).1 (by decide) (by decide) ?_
      show Steps p.tables e below (T76.setTop (mkF m 116 #[.val (.long i0), .second, .val (.long i1), .second, .val (.long i2), .second, .val (.long i3), .second, .val (.long i4), .second, .val (.int i5), .val (.int (0 : Int32)), .val (.ref b2), .val (.ref b19), .val (.ref b26)] [])) t
      refine XS.aload X76.here hx rfl (hb hby at_116) rfl rfl ?_
      refine XS.iconst X76.here hx rfl (hb hby at_118) ?_
      show Steps p.tables e below (T76.setTop (mkF m 119 #[.val (.long i0), .second, .val (.long i1), .second, .val (.long i2), .second, .val (.long i3), .second, .val (.long i4), .second, .val (.int i5), .val (.int (0 : Int32)), .val (.ref b2), .val (.ref b19), .val (.ref b26)] [(.int (0 : Int32)), (.ref b26)])) t
      refine X76.laload hx (j := (0 : Int32)) (v := (.long i0)) (by rw [e76]; exact Ar78.1) (State.isArrayOf_alike hZ.alike Ar78.2.1) Ar78.2.2 hin78 hat78 (g := (mkF m 119 #[.val (.long i0), .second, .val (.long i1), .second, .val (.long i2), .second, .val (.long i3), .second, .val (.long i4), .second, .val (.int i5), .val (.int (0 : Int32)), .val (.ref b2), .val (.ref b19), .val (.ref b26)] [(.int (0 : Int32)), (.ref b26)])) rfl rfl (hb hby at_119) _ ?_
      refine XS.aload X76.here hx rfl (hb hby at_120) rfl rfl ?_
      refine XS.iload X76.here hx rfl (hb hby at_122) rfl ?_
      refine XS.iconst X76.here hx rfl (hb hby at_124) ?_
      show Steps p.tables e below (T76.setTop (mkF m 125 #[.val (.long i0), .second, .val (.long i1), .second, .val (.long i2), .second, .val (.long i3), .second, .val (.long i4), .second, .val (.int i5), .val (.int (0 : Int32)), .val (.ref b2), .val (.ref b19), .val (.ref b26)] [(.int (0 : Int32)), (.int (0 : Int32)), (.ref b2), (.long i0)])) t
      exact k)
    obtain ⟨_, _, ⟨T88, L88, k88, n88⟩, -, X88, ⟨Lc88, hQ88, l88, y88, z88⟩, st88⟩ := Jvm.LawKit.callS X76 hx (y := (⟨"com/example/splice/splice/KeysReversePinLaw", "at", "([JII)J"⟩ : MethodName)) hown (mvT hZ (hw _ (List.mem_of_getElem? (i := 22) rfl))) (mvT hZ (hw _ (List.mem_of_getElem? (i := 23) rfl))) (mvT hZ (hw _ (List.mem_of_getElem? (i := 24) rfl))) (mvT hZ (hw _ (List.mem_of_getElem? (i := 25) rfl))) (by decide) (backOf (W := 2) (rm4_0_0 l Z a0 hw [] b2 k2 i0 i1 i2 i3 i4 h66 n0 (Nat.le_trans Z0 K66.1) F86) hZ (hw _ (List.mem_of_getElem? (i := 25) rfl)) (hw _ (List.mem_of_getElem? (i := 24) rfl)) (by decide) (by decide)) (g := (mkF m 125 #[.val (.long i0), .second, .val (.long i1), .second, .val (.long i2), .second, .val (.long i3), .second, .val (.long i4), .second, .val (.int i5), .val (.int (0 : Int32)), .val (.ref b2), .val (.ref b19), .val (.ref b26)] [(.int (0 : Int32)), (.int (0 : Int32)), (.ref b2), (.long i0)])) rfl (by rw [hml]; rfl) (argsL := [(.ref b2), (.int (0 : Int32)), (.int (0 : Int32))]) (rest := [(.long i0)]) (lenOf pd_1 rfl) rfl (by show 2 * 0 + _ ≤ _; exact Nat.le_of_eq rfl) (hb hby at_125) (fun _ _ => ⟨rfl, e76, (by decide : 4 + 0 ≤ _), (by decide : 20 + 0 ≤ _)⟩)
    dsimp only [Pt.U, Pt.locs, Pt.cells, Pt.slots] at X88 l88 y88 z88 st88 hQ88
    subst l88 y88 z88
    obtain ⟨rfl, N88q, e88⟩ := hQ88
    have N88 := Fr.app N72 N88q
    have P88 : own_Go p e below S0 (T88.setTop (mkF m 128 #[.val (.long i0), .second, .val (.long i1), .second, .val (.long i2), .second, .val (.long i3), .second, .val (.long i4), .second, .val (.int i5), .val (.int (0 : Int32)), .val (.ref b2), .val (.ref b19), .val (.ref b26)] [(.long i0), (.long i0)])) := fun t k => P87 t (st88 _ k)
    obtain ⟨cl89, Ar89, q89, Sz89, Nn89, Hh89, Gg89⟩ := id F70
    have hin89 : ¬ ((1 : Int32) < 0 ∨ cl89.slots.size ≤ ((1 : Int32)).toNatClampNeg) := inb_of Sz89 ⟨by decide, by decide⟩
    have hat89 : cl89.slots[((1 : Int32)).toNatClampNeg]? = some (.long i1) := Has.at Hh89 hin89 rfl
    have P90 : own_Go p e below S0 (T88.setTop (mkF m 141 #[.val (.long i0), .second, .val (.long i1), .second, .val (.long i2), .second, .val (.long i3), .second, .val (.long i4), .second, .val (.int i5), .val (.int (0 : Int32)), .val (.ref b2), .val (.ref b19), .val (.ref b26)] [(.int (1 : Int32)), (.int (0 : Int32)), (.ref b2), (.long i1)])) := fun t k => P88 t (by
      show Steps p.tables e below (T88.setTop (mkF m 128 #[.val (.long i0), .second, .val (.long i1), .second, .val (.long i2), .second, .val (.long i3), .second, .val (.long i4), .second, .val (.int i5), .val (.int (0 : Int32)), .val (.ref b2), .val (.ref b19), .val (.ref b26)] [(.long i0), (.long i0)])) t
      refine XS.lcmp X88.here hx rfl (hb hby at_128) rfl ?_
      refine XS.ifNo X88.here hx rfl (hb hby at_129) rfl ((if0 _ _).trans (teq ((lw_eq i0 i0).mpr rfl)).2) ?_
      refine XS.aload X88.here hx rfl (hb hby at_132) rfl rfl ?_
      refine XS.iconst X88.here hx rfl (hb hby at_134) ?_
      show Steps p.tables e below (T88.setTop (mkF m 135 #[.val (.long i0), .second, .val (.long i1), .second, .val (.long i2), .second, .val (.long i3), .second, .val (.long i4), .second, .val (.int i5), .val (.int (0 : Int32)), .val (.ref b2), .val (.ref b19), .val (.ref b26)] [(.int (1 : Int32)), (.ref b26)])) t
      refine X88.laload hx (j := (1 : Int32)) (v := (.long i1)) (by rw [e88]; exact Ar89.1) (State.isArrayOf_alike hZ.alike Ar89.2.1) Ar89.2.2 hin89 hat89 (g := (mkF m 135 #[.val (.long i0), .second, .val (.long i1), .second, .val (.long i2), .second, .val (.long i3), .second, .val (.long i4), .second, .val (.int i5), .val (.int (0 : Int32)), .val (.ref b2), .val (.ref b19), .val (.ref b26)] [(.int (1 : Int32)), (.ref b26)])) rfl rfl (hb hby at_135) _ ?_
      refine XS.aload X88.here hx rfl (hb hby at_136) rfl rfl ?_
      show Steps p.tables e below (T88.setTop (mkF m 138 #[.val (.long i0), .second, .val (.long i1), .second, .val (.long i2), .second, .val (.long i3), .second, .val (.long i4), .second, .val (.int i5), .val (.int (0 : Int32)), .val (.ref b2), .val (.ref b19), .val (.ref b26)] [(.ref b2), (.long i1)])) t
      refine XS.iload X88.here hx rfl (hb hby at_138) rfl ?_
      refine XS.iconst X88.here hx rfl (hb hby at_140) ?_
      show Steps p.tables e below (T88.setTop (mkF m 141 #[.val (.long i0), .second, .val (.long i1), .second, .val (.long i2), .second, .val (.long i3), .second, .val (.long i4), .second, .val (.int i5), .val (.int (0 : Int32)), .val (.ref b2), .val (.ref b19), .val (.ref b26)] [(.int (1 : Int32)), (.int (0 : Int32)), (.ref b2), (.long i1)])) t
      exact k)
    obtain ⟨_, _, ⟨T91, L91, k91, n91⟩, -, X91, ⟨Lc91, hQ91, l91, y91, z91⟩, st91⟩ := Jvm.LawKit.callS X88 hx (y := (⟨"com/example/splice/splice/KeysReversePinLaw", "at", "([JII)J"⟩ : MethodName)) hown (mvT hZ (hw _ (List.mem_of_getElem? (i := 22) rfl))) (mvT hZ (hw _ (List.mem_of_getElem? (i := 23) rfl))) (mvT hZ (hw _ (List.mem_of_getElem? (i := 24) rfl))) (mvT hZ (hw _ (List.mem_of_getElem? (i := 25) rfl))) (by decide) (backOf (W := 2) (rm4_0_1 l Z a0 hw [] b2 k2 i0 i1 i2 i3 i4 h66 n0 (Nat.le_trans Z0 K66.1) F86) hZ (hw _ (List.mem_of_getElem? (i := 25) rfl)) (hw _ (List.mem_of_getElem? (i := 24) rfl)) (by decide) (by decide)) (g := (mkF m 141 #[.val (.long i0), .second, .val (.long i1), .second, .val (.long i2), .second, .val (.long i3), .second, .val (.long i4), .second, .val (.int i5), .val (.int (0 : Int32)), .val (.ref b2), .val (.ref b19), .val (.ref b26)] [(.int (1 : Int32)), (.int (0 : Int32)), (.ref b2), (.long i1)])) rfl (by rw [hml]; rfl) (argsL := [(.ref b2), (.int (0 : Int32)), (.int (1 : Int32))]) (rest := [(.long i1)]) (lenOf pd_1 rfl) rfl (by show 2 * 0 + _ ≤ _; exact Nat.le_of_eq rfl) (hb hby at_141) (fun _ _ => ⟨rfl, e88, (by decide : 4 + 0 ≤ _), (by decide : 20 + 0 ≤ _)⟩)
    dsimp only [Pt.U, Pt.locs, Pt.cells, Pt.slots] at X91 l91 y91 z91 st91 hQ91
    subst l91 y91 z91
    obtain ⟨rfl, N91q, e91⟩ := hQ91
    have N91 := Fr.app N88 N91q
    have P91 : own_Go p e below S0 (T91.setTop (mkF m 144 #[.val (.long i0), .second, .val (.long i1), .second, .val (.long i2), .second, .val (.long i3), .second, .val (.long i4), .second, .val (.int i5), .val (.int (0 : Int32)), .val (.ref b2), .val (.ref b19), .val (.ref b26)] [(.long i1), (.long i1)])) := fun t k => P90 t (st91 _ k)
    obtain ⟨cl92, Ar92, q92, Sz92, Nn92, Hh92, Gg92⟩ := id F70
    have hin92 : ¬ ((2 : Int32) < 0 ∨ cl92.slots.size ≤ ((2 : Int32)).toNatClampNeg) := inb_of Sz92 ⟨by decide, by decide⟩
    have hat92 : cl92.slots[((2 : Int32)).toNatClampNeg]? = some (.long i2) := Has.at Hh92 hin92 rfl
    have P93 : own_Go p e below S0 (T91.setTop (mkF m 157 #[.val (.long i0), .second, .val (.long i1), .second, .val (.long i2), .second, .val (.long i3), .second, .val (.long i4), .second, .val (.int i5), .val (.int (0 : Int32)), .val (.ref b2), .val (.ref b19), .val (.ref b26)] [(.int (2 : Int32)), (.int (0 : Int32)), (.ref b2), (.long i2)])) := fun t k => P91 t (by
      show Steps p.tables e below (T91.setTop (mkF m 144 #[.val (.long i0), .second, .val (.long i1), .second, .val (.long i2), .second, .val (.long i3), .second, .val (.long i4), .second, .val (.int i5), .val (.int (0 : Int32)), .val (.ref b2), .val (.ref b19), .val (.ref b26)] [(.long i1), (.long i1)])) t
      refine XS.lcmp X91.here hx rfl (hb hby at_144) rfl ?_
      refine XS.ifNo X91.here hx rfl (hb hby at_145) rfl ((if0 _ _).trans (teq ((lw_eq i1 i1).mpr rfl)).2) ?_
      refine XS.aload X91.here hx rfl (hb hby at_148) rfl rfl ?_
      refine XS.iconst X91.here hx rfl (hb hby at_150) ?_
      show Steps p.tables e below (T91.setTop (mkF m 151 #[.val (.long i0), .second, .val (.long i1), .second, .val (.long i2), .second, .val (.long i3), .second, .val (.long i4), .second, .val (.int i5), .val (.int (0 : Int32)), .val (.ref b2), .val (.ref b19), .val (.ref b26)] [(.int (2 : Int32)), (.ref b26)])) t
      refine X91.laload hx (j := (2 : Int32)) (v := (.long i2)) (by rw [e91]; exact Ar92.1) (State.isArrayOf_alike hZ.alike Ar92.2.1) Ar92.2.2 hin92 hat92 (g := (mkF m 151 #[.val (.long i0), .second, .val (.long i1), .second, .val (.long i2), .second, .val (.long i3), .second, .val (.long i4), .second, .val (.int i5), .val (.int (0 : Int32)), .val (.ref b2), .val (.ref b19), .val (.ref b26)] [(.int (2 : Int32)), (.ref b26)])) rfl rfl (hb hby at_151) _ ?_
      refine XS.aload X91.here hx rfl (hb hby at_152) rfl rfl ?_
      show Steps p.tables e below (T91.setTop (mkF m 154 #[.val (.long i0), .second, .val (.long i1), .second, .val (.long i2), .second, .val (.long i3), .second, .val (.long i4), .second, .val (.int i5), .val (.int (0 : Int32)), .val (.ref b2), .val (.ref b19), .val (.ref b26)] [(.ref b2), (.long i2)])) t
      refine XS.iload X91.here hx rfl (hb hby at_154) rfl ?_
      refine XS.iconst X91.here hx rfl (hb hby at_156) ?_
      show Steps p.tables e below (T91.setTop (mkF m 157 #[.val (.long i0), .second, .val (.long i1), .second, .val (.long i2), .second, .val (.long i3), .second, .val (.long i4), .second, .val (.int i5), .val (.int (0 : Int32)), .val (.ref b2), .val (.ref b19), .val (.ref b26)] [(.int (2 : Int32)), (.int (0 : Int32)), (.ref b2), (.long i2)])) t
      exact k)
    obtain ⟨_, _, ⟨T94, L94, k94, n94⟩, -, X94, ⟨Lc94, hQ94, l94, y94, z94⟩, st94⟩ := Jvm.LawKit.callS X91 hx (y := (⟨"com/example/splice/splice/KeysReversePinLaw", "at", "([JII)J"⟩ : MethodName)) hown (mvT hZ (hw _ (List.mem_of_getElem? (i := 22) rfl))) (mvT hZ (hw _ (List.mem_of_getElem? (i := 23) rfl))) (mvT hZ (hw _ (List.mem_of_getElem? (i := 24) rfl))) (mvT hZ (hw _ (List.mem_of_getElem? (i := 25) rfl))) (by decide) (backOf (W := 2) (rm4_0_2 l Z a0 hw [] b2 k2 i0 i1 i2 i3 i4 h66 n0 (Nat.le_trans Z0 K66.1) F86) hZ (hw _ (List.mem_of_getElem? (i := 25) rfl)) (hw _ (List.mem_of_getElem? (i := 24) rfl)) (by decide) (by decide)) (g := (mkF m 157 #[.val (.long i0), .second, .val (.long i1), .second, .val (.long i2), .second, .val (.long i3), .second, .val (.long i4), .second, .val (.int i5), .val (.int (0 : Int32)), .val (.ref b2), .val (.ref b19), .val (.ref b26)] [(.int (2 : Int32)), (.int (0 : Int32)), (.ref b2), (.long i2)])) rfl (by rw [hml]; rfl) (argsL := [(.ref b2), (.int (0 : Int32)), (.int (2 : Int32))]) (rest := [(.long i2)]) (lenOf pd_1 rfl) rfl (by show 2 * 0 + _ ≤ _; exact Nat.le_of_eq rfl) (hb hby at_157) (fun _ _ => ⟨rfl, e91, (by decide : 4 + 0 ≤ _), (by decide : 20 + 0 ≤ _)⟩)
    dsimp only [Pt.U, Pt.locs, Pt.cells, Pt.slots] at X94 l94 y94 z94 st94 hQ94
    subst l94 y94 z94
    obtain ⟨rfl, N94q, e94⟩ := hQ94
    have N94 := Fr.app N91 N94q
    have P94 : own_Go p e below S0 (T94.setTop (mkF m 160 #[.val (.long i0), .second, .val (.long i1), .second, .val (.long i2), .second, .val (.long i3), .second, .val (.long i4), .second, .val (.int i5), .val (.int (0 : Int32)), .val (.ref b2), .val (.ref b19), .val (.ref b26)] [(.long i2), (.long i2)])) := fun t k => P93 t (st94 _ k)
    obtain ⟨cl95, Ar95, q95, Sz95, Nn95, Hh95, Gg95⟩ := id F70
    have hin95 : ¬ ((3 : Int32) < 0 ∨ cl95.slots.size ≤ ((3 : Int32)).toNatClampNeg) := inb_of Sz95 ⟨by decide, by decide⟩
    have hat95 : cl95.slots[((3 : Int32)).toNatClampNeg]? = some (.long i3) := Has.at Hh95 hin95 rfl
    have P96 : own_Go p e below S0 (T94.setTop (mkF m 173 #[.val (.long i0), .second, .val (.long i1), .second, .val (.long i2), .second, .val (.long i3), .second, .val (.long i4), .second, .val (.int i5), .val (.int (0 : Int32)), .val (.ref b2), .val (.ref b19), .val (.ref b26)] [(.int (3 : Int32)), (.int (0 : Int32)), (.ref b2), (.long i3)])) := fun t k => P94 t (by
      show Steps p.tables e below (T94.setTop (mkF m 160 #[.val (.long i0), .second, .val (.long i1), .second, .val (.long i2), .second, .val (.long i3), .second, .val (.long i4), .second, .val (.int i5), .val (.int (0 : Int32)), .val (.ref b2), .val (.ref b19), .val (.ref b26)] [(.long i2), (.long i2)])) t
      refine XS.lcmp X94.here hx rfl (hb hby at_160) rfl ?_
      refine XS.ifNo X94.here hx rfl (hb hby at_161) rfl ((if0 _ _).trans (teq ((lw_eq i2 i2).mpr rfl)).2) ?_
      refine XS.aload X94.here hx rfl (hb hby at_164) rfl rfl ?_
      refine XS.iconst X94.here hx rfl (hb hby at_166) ?_
      show Steps p.tables e below (T94.setTop (mkF m 167 #[.val (.long i0), .second, .val (.long i1), .second, .val (.long i2), .second, .val (.long i3), .second, .val (.long i4), .second, .val (.int i5), .val (.int (0 : Int32)), .val (.ref b2), .val (.ref b19), .val (.ref b26)] [(.int (3 : Int32)), (.ref b26)])) t
      refine X94.laload hx (j := (3 : Int32)) (v := (.long i3)) (by rw [e94]; exact Ar95.1) (State.isArrayOf_alike hZ.alike Ar95.2.1) Ar95.2.2 hin95 hat95 (g := (mkF m 167 #[.val (.long i0), .second, .val (.long i1), .second, .val (.long i2), .second, .val (.long i3), .second, .val (.long i4), .second, .val (.int i5), .val (.int (0 : Int32)), .val (.ref b2), .val (.ref b19), .val (.ref b26)] [(.int (3 : Int32)), (.ref b26)])) rfl rfl (hb hby at_167) _ ?_
      refine XS.aload X94.here hx rfl (hb hby at_168) rfl rfl ?_
      show Steps p.tables e below (T94.setTop (mkF m 170 #[.val (.long i0), .second, .val (.long i1), .second, .val (.long i2), .second, .val (.long i3), .second, .val (.long i4), .second, .val (.int i5), .val (.int (0 : Int32)), .val (.ref b2), .val (.ref b19), .val (.ref b26)] [(.ref b2), (.long i3)])) t
      refine XS.iload X94.here hx rfl (hb hby at_170) rfl ?_
      refine XS.iconst X94.here hx rfl (hb hby at_172) ?_
      show Steps p.tables e below (T94.setTop (mkF m 173 #[.val (.long i0), .second, .val (.long i1), .second, .val (.long i2), .second, .val (.long i3), .second, .val (.long i4), .second, .val (.int i5), .val (.int (0 : Int32)), .val (.ref b2), .val (.ref b19), .val (.ref b26)] [(.int (3 : Int32)), (.int (0 : Int32)), (.ref b2), (.long i3)])) t
      exact k)
    obtain ⟨_, _, ⟨T97, L97, k97, n97⟩, -, X97, ⟨Lc97, hQ97, l97, y97, z97⟩, st97⟩ := Jvm.LawKit.callS X94 hx (y := (⟨"com/example/splice/splice/KeysReversePinLaw", "at", "([JII)J"⟩ : MethodName)) hown (mvT hZ (hw _ (List.mem_of_getElem? (i := 22) rfl))) (mvT hZ (hw _ (List.mem_of_getElem? (i := 23) rfl))) (mvT hZ (hw _ (List.mem_of_getElem? (i := 24) rfl))) (mvT hZ (hw _ (List.mem_of_getElem? (i := 25) rfl))) (by decide) (backOf (W := 2) (rm4_0_3 l Z a0 hw [] b2 k2 i0 i1 i2 i3 i4 h66 n0 (Nat.le_trans Z0 K66.1) F86) hZ (hw _ (List.mem_of_getElem? (i := 25) rfl)) (hw _ (List.mem_of_getElem? (i := 24) rfl)) (by decide) (by decide)) (g := (mkF m 173 #[.val (.long i0), .second, .val (.long i1), .second, .val (.long i2), .second, .val (.long i3), .second, .val (.long i4), .second, .val (.int i5), .val (.int (0 : Int32)), .val (.ref b2), .val (.ref b19), .val (.ref b26)] [(.int (3 : Int32)), (.int (0 : Int32)), (.ref b2), (.long i3)])) rfl (by rw [hml]; rfl) (argsL := [(.ref b2), (.int (0 : Int32)), (.int (3 : Int32))]) (rest := [(.long i3)]) (lenOf pd_1 rfl) rfl (by show 2 * 0 + _ ≤ _; exact Nat.le_of_eq rfl) (hb hby at_173) (fun _ _ => ⟨rfl, e94, (by decide : 4 + 0 ≤ _), (by decide : 20 + 0 ≤ _)⟩)
    dsimp only [Pt.U, Pt.locs, Pt.cells, Pt.slots] at X97 l97 y97 z97 st97 hQ97
    subst l97 y97 z97
    obtain ⟨rfl, N97q, e97⟩ := hQ97
    have N97 := Fr.app N94 N97q
    have P97 : own_Go p e below S0 (T97.setTop (mkF m 176 #[.val (.long i0), .second, .val (.long i1), .second, .val (.long i2), .second, .val (.long i3), .second, .val (.long i4), .second, .val (.int i5), .val (.int (0 : Int32)), .val (.ref b2), .val (.ref b19), .val (.ref b26)] [(.long i3), (.long i3)])) := fun t k => P96 t (st97 _ k)
    obtain ⟨cl98, Ar98, q98, Sz98, Nn98, Hh98, Gg98⟩ := id F70
    have hin98 : ¬ ((4 : Int32) < 0 ∨ cl98.slots.size ≤ ((4 : Int32)).toNatClampNeg) := inb_of Sz98 ⟨by decide, by decide⟩
    have hat98 : cl98.slots[((4 : Int32)).toNatClampNeg]? = some (.long i4) := Has.at Hh98 hin98 rfl
    have P99 : own_Go p e below S0 (T97.setTop (mkF m 189 #[.val (.long i0), .second, .val (.long i1), .second, .val (.long i2), .second, .val (.long i3), .second, .val (.long i4), .second, .val (.int i5), .val (.int (0 : Int32)), .val (.ref b2), .val (.ref b19), .val (.ref b26)] [(.int (4 : Int32)), (.int (0 : Int32)), (.ref b2), (.long i4)])) := fun t k => P97 t (by
      show Steps p.tables e below (T97.setTop (mkF m 176 #[.val (.long i0), .second, .val (.long i1), .second, .val (.long i2), .second, .val (.long i3), .second, .val (.long i4), .second, .val (.int i5), .val (.int (0 : Int32)), .val (.ref b2), .val (.ref b19), .val (.ref b26)] [(.long i3), (.long i3)])) t
      refine XS.lcmp X97.here hx rfl (hb hby at_176) rfl ?_
      refine XS.ifNo X97.here hx rfl (hb hby at_177) rfl ((if0 _ _).trans (teq ((lw_eq i3 i3).mpr rfl)).2) ?_
      refine XS.aload X97.here hx rfl (hb hby at_180) rfl rfl ?_
      refine XS.iconst X97.here hx rfl (hb hby at_182) ?_
      show Steps p.tables e below (T97.setTop (mkF m 183 #[.val (.long i0), .second, .val (.long i1), .second, .val (.long i2), .second, .val (.long i3), .second, .val (.long i4), .second, .val (.int i5), .val (.int (0 : Int32)), .val (.ref b2), .val (.ref b19), .val (.ref b26)] [(.int (4 : Int32)), (.ref b26)])) t
      refine X97.laload hx (j := (4 : Int32)) (v := (.long i4)) (by rw [e97]; exact Ar98.1) (State.isArrayOf_alike hZ.alike Ar98.2.1) Ar98.2.2 hin98 hat98 (g := (mkF m 183 #[.val (.long i0), .second, .val (.long i1), .second, .val (.long i2), .second, .val (.long i3), .second, .val (.long i4), .second, .val (.int i5), .val (.int (0 : Int32)), .val (.ref b2), .val (.ref b19), .val (.ref b26)] [(.int (4 : Int32)), (.ref b26)])) rfl rfl (hb hby at_183) _ ?_
      refine XS.aload X97.here hx rfl (hb hby at_184) rfl rfl ?_
      show Steps p.tables e below (T97.setTop (mkF m 186 #[.val (.long i0), .second, .val (.long i1), .second, .val (.long i2), .second, .val (.long i3), .second, .val (.long i4), .second, .val (.int i5), .val (.int (0 : Int32)), .val (.ref b2), .val (.ref b19), .val (.ref b26)] [(.ref b2), (.long i4)])) t
      refine XS.iload X97.here hx rfl (hb hby at_186) rfl ?_
      refine XS.iconst X97.here hx rfl (hb hby at_188) ?_
      show Steps p.tables e below (T97.setTop (mkF m 189 #[.val (.long i0), .second, .val (.long i1), .second, .val (.long i2), .second, .val (.long i3), .second, .val (.long i4), .second, .val (.int i5), .val (.int (0 : Int32)), .val (.ref b2), .val (.ref b19), .val (.ref b26)] [(.int (4 : Int32)), (.int (0 : Int32)), (.ref b2), (.long i4)])) t
      exact k)
    obtain ⟨_, _, ⟨T100, L100, k100, n100⟩, -, X100, ⟨Lc100, hQ100, l100, y100, z100⟩, st100⟩ := Jvm.LawKit.callS X97 hx (y := (⟨"com/example/splice/splice/KeysReversePinLaw", "at", "([JII)J"⟩ : MethodName)) hown (mvT hZ (hw _ (List.mem_of_getElem? (i := 22) rfl))) (mvT hZ (hw _ (List.mem_of_getElem? (i := 23) rfl))) (mvT hZ (hw _ (List.mem_of_getElem? (i := 24) rfl))) (mvT hZ (hw _ (List.mem_of_getElem? (i := 25) rfl))) (by decide) (backOf (W := 2) (rm4_0_4 l Z a0 hw [] b2 k2 i0 i1 i2 i3 i4 h66 n0 (Nat.le_trans Z0 K66.1) F86) hZ (hw _ (List.mem_of_getElem? (i := 25) rfl)) (hw _ (List.mem_of_getElem? (i := 24) rfl)) (by decide) (by decide)) (g := (mkF m 189 #[.val (.long i0), .second, .val (.long i1), .second, .val (.long i2), .second, .val (.long i3), .second, .val (.long i4), .second, .val (.int i5), .val (.int (0 : Int32)), .val (.ref b2), .val (.ref b19), .val (.ref b26)] [(.int (4 : Int32)), (.int (0 : Int32)), (.ref b2), (.long i4)])) rfl (by rw [hml]; rfl) (argsL := [(.ref b2), (.int (0 : Int32)), (.int (4 : Int32))]) (rest := [(.long i4)]) (lenOf pd_1 rfl) rfl (by show 2 * 0 + _ ≤ _; exact Nat.le_of_eq rfl) (hb hby at_189) (fun _ _ => ⟨rfl, e97, (by decide : 4 + 0 ≤ _), (by decide : 20 + 0 ≤ _)⟩)
    dsimp only [Pt.U, Pt.locs, Pt.cells, Pt.slots] at X100 l100 y100 z100 st100 hQ100
    subst l100 y100 z100
    obtain ⟨rfl, N100q, e100⟩ := hQ100
    have N100 := Fr.app N97 N100q
    have P100 : own_Go p e below S0 (T100.setTop (mkF m 192 #[.val (.long i0), .second, .val (.long i1), .second, .val (.long i2), .second, .val (.long i3), .second, .val (.long i4), .second, .val (.int i5), .val (.int (0 : Int32)), .val (.ref b2), .val (.ref b19), .val (.ref b26)] [(.long i4), (.long i4)])) := fun t k => P99 t (st100 _ k)
    have P101 : own_Go p e below S0 (T100.setTop (mkF m 201 #[.val (.long i0), .second, .val (.long i1), .second, .val (.long i2), .second, .val (.long i3), .second, .val (.long i4), .second, .val (.int i5), .val (.int (0 : Int32)), .val (.ref b2), .val (.ref b19), .val (.ref b26)] [(.int (1 : Int32))])) := fun t k => P100 t (by
      show Steps p.tables e below (T100.setTop (mkF m 192 #[.val (.long i0), .second, .val (.long i1), .second, .val (.long i2), .second, .val (.long i3), .second, .val (.long i4), .second, .val (.int i5), .val (.int (0 : Int32)), .val (.ref b2), .val (.ref b19), .val (.ref b26)] [(.long i4), (.long i4)])) t
      refine XS.lcmp X100.here hx rfl (hb hby at_192) rfl ?_
      refine XS.ifNo X100.here hx rfl (hb hby at_193) rfl ((if0 _ _).trans (teq ((lw_eq i4 i4).mpr rfl)).2) ?_
      refine XS.iconst X100.here hx rfl (hb hby at_196) ?_
      refine XS.goto X100.here hx rfl (pc0 := 197) (pc' := 201) rfl (hb hby at_197) (by decide) (by decide) ?_
      show Steps p.tables e below (T100.setTop (mkF m 201 #[.val (.long i0), .second, .val (.long i1), .second, .val (.long i2), .second, .val (.long i3), .second, .val (.long i4), .second, .val (.int i5), .val (.int (0 : Int32)), .val (.ref b2), .val (.ref b19), .val (.ref b26)] [(.int (1 : Int32))])) t
      exact k)
    have F102 : Arv Z h26 b4_22 k4_22 .long (8 : Int32) [(.long (0 : Int64)), (.long (0 : Int64)), (.long (0 : Int64)), (.long (0 : Int64)), (.long (0 : Int64)), (.long (0 : Int64)), (.long (0 : Int64)), (.long (0 : Int64))] (.long (0 : Int64)) := F22_1.ext E26
    have F103 : Arv Z h28 b4_22 k4_22 .long (8 : Int32) [(.long (0 : Int64)), (.long (0 : Int64)), (.long (0 : Int64)), (.long (0 : Int64)), (.long (0 : Int64)), (.long (0 : Int64)), (.long (0 : Int64)), (.long (0 : Int64))] (.long (0 : Int64)) := F102.other W28 ne_b4_22_b26
    have F104 : Arv Z h31 b4_22 k4_22 .long (8 : Int32) [(.long (0 : Int64)), (.long (0 : Int64)), (.long (0 : Int64)), (.long (0 : Int64)), (.long (0 : Int64)), (.long (0 : Int64)), (.long (0 : Int64)), (.long (0 : Int64))] (.long (0 : Int64)) := F103.other W31 ne_b4_22_b26
    have F105 : Arv Z h34 b4_22 k4_22 .long (8 : Int32) [(.long (0 : Int64)), (.long (0 : Int64)), (.long (0 : Int64)), (.long (0 : Int64)), (.long (0 : Int64)), (.long (0 : Int64)), (.long (0 : Int64)), (.long (0 : Int64))] (.long (0 : Int64)) := F104.other W34 ne_b4_22_b26
    have F106 : Arv Z h37 b4_22 k4_22 .long (8 : Int32) [(.long (0 : Int64)), (.long (0 : Int64)), (.long (0 : Int64)), (.long (0 : Int64)), (.long (0 : Int64)), (.long (0 : Int64)), (.long (0 : Int64)), (.long (0 : Int64))] (.long (0 : Int64)) := F105.other W37 ne_b4_22_b26
    have F107 : Arv Z h40 b4_22 k4_22 .long (8 : Int32) [(.long (0 : Int64)), (.long (0 : Int64)), (.long (0 : Int64)), (.long (0 : Int64)), (.long (0 : Int64)), (.long (0 : Int64)), (.long (0 : Int64)), (.long (0 : Int64))] (.long (0 : Int64)) := F106.other W40 ne_b4_22_b26
    have F108 : Arv Z h54 b4_22 k4_22 .long (8 : Int32) [(.long (0 : Int64)), (.long (0 : Int64)), (.long (0 : Int64)), (.long (0 : Int64)), (.long (0 : Int64)), (.long (0 : Int64)), (.long (0 : Int64)), (.long (0 : Int64))] (.long (0 : Int64)) := F107.other W54 (Ne.symm ne_b19_b4_22)
    have F109 : Arv Z h66 b4_22 k4_22 .long (8 : Int32) [(.long (0 : Int64)), (.long (0 : Int64)), (.long (0 : Int64)), (.long (0 : Int64)), (.long (0 : Int64)), (.long (0 : Int64)), (.long (0 : Int64)), (.long (0 : Int64))] (.long (0 : Int64)) := F108.other W66 (Ne.symm ne_b19_b4_22)
    obtain ⟨fs, hr, hrun, hended, hW, hsame⟩ := X100.leave (v := some (.int (1 : Int32))) (fun h => by rw [Bd.returns] at h; cases h)
    refine ⟨_, _, own_from hS0 (P101 _ ?_), hrun, hended, _, _, rfl, ?_, ⟨_, rfl⟩, hW, hsame.mono (by decide) (by decide)⟩
    · show Steps p.tables e below (T100.setTop (mkF m 201 #[.val (.long i0), .second, .val (.long i1), .second, .val (.long i2), .second, .val (.long i3), .second, .val (.long i4), .second, .val (.int i5), .val (.int (0 : Int32)), .val (.ref b2), .val (.ref b19), .val (.ref b26)] [(.int (1 : Int32))])) _
      exact retN X100 hx (t := .boolean) Bd.returns (by simp) (hb hby at_201) hr
    · show Q0 Z i0 i1 i2 i3 i4 i5 h0 n0 _ T100.heap _
      rw [e100]
      exact ⟨rfl, N100⟩
  · skip
    subst c56
    have F110 : Exa Z h54 b19 "com/example/splice/splice/XPath$Keys" := F47.wr W54
    have F111 : Fld Z h26 b19 "com/example/splice/splice/XPath$Keys" "size" "I" (.int (0 : Int32)) := F22_0.ext E26
    have F112 : Fld Z h28 b19 "com/example/splice/splice/XPath$Keys" "size" "I" (.int (0 : Int32)) := F111.other W28 (Or.inl ne_b19_b26)
    have F113 : Fld Z h31 b19 "com/example/splice/splice/XPath$Keys" "size" "I" (.int (0 : Int32)) := F112.other W31 (Or.inl ne_b19_b26)
    have F114 : Fld Z h34 b19 "com/example/splice/splice/XPath$Keys" "size" "I" (.int (0 : Int32)) := F113.other W34 (Or.inl ne_b19_b26)
    have F115 : Fld Z h37 b19 "com/example/splice/splice/XPath$Keys" "size" "I" (.int (0 : Int32)) := F114.other W37 (Or.inl ne_b19_b26)
    have F116 : Fld Z h40 b19 "com/example/splice/splice/XPath$Keys" "size" "I" (.int (0 : Int32)) := F115.other W40 (Or.inl ne_b19_b26)
    have F117 : Fld Z h54 b19 "com/example/splice/splice/XPath$Keys" "size" "I" (.int (0 : Int32)) := F116.other W54 (Or.inr (slot_ne (Or.inl (hw _ (List.mem_of_getElem? (i := 15) rfl))) (Or.inl (hw _ (List.mem_of_getElem? (i := 12) rfl))) (by decide) (t := .int) (t' := (.array .long)) (by decide) (by decide)))
    have P118 : own_Go p e below S0 (T54.setTop (mkF m 82 #[.val (.long i0), .second, .val (.long i1), .second, .val (.long i2), .second, .val (.long i3), .second, .val (.long i4), .second, .val (.int i5), .val (.int (1 : Int32)), .val (.ref b2), .val (.ref b19), .unset] [(.int (1 : Int32)), (.ref b19)])) := fun t k => P55 t (by
      show Steps p.tables e below (T54.setTop (mkF m 78 #[.val (.long i0), .second, .val (.long i1), .second, .val (.long i2), .second, .val (.long i3), .second, .val (.long i4), .second, .val (.int i5), .val (.int (1 : Int32)), .val (.ref b2), .val (.ref b19), .unset] [])) t
      refine XS.aload X54.here hx rfl (hb hby at_78) rfl rfl ?_
      refine XS.iload X54.here hx rfl (hb hby at_80) rfl ?_
      show Steps p.tables e below (T54.setTop (mkF m 82 #[.val (.long i0), .second, .val (.long i1), .second, .val (.long i2), .second, .val (.long i3), .second, .val (.long i4), .second, .val (.int i5), .val (.int (1 : Int32)), .val (.ref b2), .val (.ref b19), .unset] [(.int (1 : Int32)), (.ref b19)])) t
      exact k)
    obtain ⟨T119, h119, X119, e119, W119, st119⟩ := putF X54 hx hZ hown (host := "") (Or.inl (hw _ (List.mem_of_getElem? (i := 14) rfl))) Via.refl e54 F117 F110 (Or.inl (hw _ (List.mem_of_getElem? (i := 15) rfl))) (hw _ (List.mem_of_getElem? (i := 3) rfl)) (ty := .int) (by decide) rfl rfl (g := (mkF m 82 #[.val (.long i0), .second, .val (.long i1), .second, .val (.long i2), .second, .val (.long i3), .second, .val (.long i4), .second, .val (.int i5), .val (.int (1 : Int32)), .val (.ref b2), .val (.ref b19), .unset] [(.int (1 : Int32)), (.ref b19)])) rfl rfl (hb hby at_82)
    have K119 : Keep h0 h119 [] := K54.wr W119 (Or.inr o_b19)
    have N119 := Fr.snoc X119 N54 g_b19
    have F119w : Fld Z h119 b19 "com/example/splice/splice/XPath$Keys" "size" "I" (.int (1 : Int32)) := F117.same W119
    have P119 : own_Go p e below S0 (T119.setTop (mkF m 85 #[.val (.long i0), .second, .val (.long i1), .second, .val (.long i2), .second, .val (.long i3), .second, .val (.long i4), .second, .val (.int i5), .val (.int (1 : Int32)), .val (.ref b2), .val (.ref b19), .unset] [])) := fun t k => P118 t (st119 _ k)
    have F120 : Exa Z h119 b19 "com/example/splice/splice/XPath$Keys" := F110.wr W119
    have F121 : Fld Z h119 b19 "com/example/splice/splice/XPath$Keys" "keys" "[J" (.ref b26) := F54w.other W119 (Or.inr (slot_ne (Or.inl (hw _ (List.mem_of_getElem? (i := 12) rfl))) (Or.inl (hw _ (List.mem_of_getElem? (i := 15) rfl))) (by decide) (t := (.array .long)) (t' := .int) (by decide) (by decide)))
    have F122 : Arv Z h54 b26 k26 .long (5 : Int32) [(.long i0), (.long i1), (.long i2), (.long i3), (.long i4)] (.long (0 : Int64)) := V40.other W54 (Ne.symm ne_b19_b26)
    have F123 : Arv Z h119 b26 k26 .long (5 : Int32) [(.long i0), (.long i1), (.long i2), (.long i3), (.long i4)] (.long (0 : Int64)) := F122.other W119 (Ne.symm ne_b19_b26)
    have P124 : own_Go p e below S0 (T119.setTop (mkF m 87 #[.val (.long i0), .second, .val (.long i1), .second, .val (.long i2), .second, .val (.long i3), .second, .val (.long i4), .second, .val (.int i5), .val (.int (1 : Int32)), .val (.ref b2), .val (.ref b19), .unset] [(.ref b19)])) := fun t k => P119 t (by
      show Steps p.tables e below (T119.setTop (mkF m 85 #[.val (.long i0), .second, .val (.long i1), .second, .val (.long i2), .second, .val (.long i3), .second, .val (.long i4), .second, .val (.int i5), .val (.int (1 : Int32)), .val (.ref b2), .val (.ref b19), .unset] [])) t
      refine XS.aload X119.here hx rfl (hb hby at_85) rfl rfl ?_
      show Steps p.tables e below (T119.setTop (mkF m 87 #[.val (.long i0), .second, .val (.long i1), .second, .val (.long i2), .second, .val (.long i3), .second, .val (.long i4), .second, .val (.int i5), .val (.int (1 : Int32)), .val (.ref b2), .val (.ref b19), .unset] [(.ref b19)])) t
      exact k)
    obtain ⟨cq125, kq125, q125a, q125b, q125c⟩ := isOf hZ e119 F120
    obtain ⟨_, _, ⟨T125, L125, k125, n125⟩, -, X125, ⟨Lc125, hQ125, l125, y125, z125⟩, st125⟩ := X119.virtualBack hx (y := (⟨"com/example/splice/splice/XPath$Keys", "reverse", "()V"⟩ : MethodName)) (z := (⟨"com/example/splice/splice/XPath$Keys", "reverse", "()V"⟩ : MethodName)) hown (mvT hZ (hw _ (List.mem_of_getElem? (i := 16) rfl))) (mvT hZ (hw _ (List.mem_of_getElem? (i := 17) rfl))) (notFace_of_selects (args := #[]) (mvT hZ (hw _ (List.mem_of_getElem? (i := 19) rfl)))) (mvT hZ (hw _ (List.mem_of_getElem? (i := 19) rfl))) (mvT hZ (hw _ (List.mem_of_getElem? (i := 18) rfl))) (by decide) (backOf (W := 0) (rm3s1 l Z a0 hw [] b19 b26 k26 i0 i1 i2 i3 i4 h119 n0 (Nat.le_trans Z0 K119.1) F121 F119w F123) hZ (hw _ (List.mem_of_getElem? (i := 20) rfl)) (hw _ (List.mem_of_getElem? (i := 4) rfl)) (by decide) (by decide)) q125a q125c (g := (mkF m 87 #[.val (.long i0), .second, .val (.long i1), .second, .val (.long i2), .second, .val (.long i3), .second, .val (.long i4), .second, .val (.int i5), .val (.int (1 : Int32)), .val (.ref b2), .val (.ref b19), .unset] [(.ref b19)])) rfl (by rw [hml]; rfl) (Steps.refl _) (argsL := []) (rest := []) (lenOf pd_0 rfl) rfl (by show 2 * 0 + _ ≤ _; exact Nat.le_of_eq rfl) (hb hby at_87) (fun _ _ => ⟨rfl, e119, (by decide : 4 + 0 ≤ _), (by decide : 20 + 0 ≤ _)⟩)
    dsimp only [Pt.U, Pt.locs, Pt.cells, Pt.slots] at X125 l125 y125 z125 st125 hQ125
    subst l125 y125 z125
    obtain ⟨rfl, N125q, e125⟩ := hQ125
    have N125 := Fr.app N119 N125q
    have P125 : own_Go p e below S0 (T125.setTop (mkF m 90 #[.val (.long i0), .second, .val (.long i1), .second, .val (.long i2), .second, .val (.long i3), .second, .val (.long i4), .second, .val (.int i5), .val (.int (1 : Int32)), .val (.ref b2), .val (.ref b19), .unset] [])) := fun t k => P124 t (st125.trans k)
    have P126 : own_Go p e below S0 (T125.setTop (mkF m 92 #[.val (.long i0), .second, .val (.long i1), .second, .val (.long i2), .second, .val (.long i3), .second, .val (.long i4), .second, .val (.int i5), .val (.int (1 : Int32)), .val (.ref b2), .val (.ref b19), .unset] [(.ref b19)])) := fun t k => P125 t (by
      show Steps p.tables e below (T125.setTop (mkF m 90 #[.val (.long i0), .second, .val (.long i1), .second, .val (.long i2), .second, .val (.long i3), .second, .val (.long i4), .second, .val (.int i5), .val (.int (1 : Int32)), .val (.ref b2), .val (.ref b19), .unset] [])) t
      refine XS.aload X125.here hx rfl (hb hby at_90) rfl rfl ?_
      show Steps p.tables e below (T125.setTop (mkF m 92 #[.val (.long i0), .second, .val (.long i1), .second, .val (.long i2), .second, .val (.long i3), .second, .val (.long i4), .second, .val (.int i5), .val (.int (1 : Int32)), .val (.ref b2), .val (.ref b19), .unset] [(.ref b19)])) t
      exact k)
    obtain ⟨T127, X127, e127, st127⟩ := getF X125 hx hZ hown (host := "") (Or.inl (hw _ (List.mem_of_getElem? (i := 13) rfl))) Via.refl e125 F121 (g := (mkF m 92 #[.val (.long i0), .second, .val (.long i1), .second, .val (.long i2), .second, .val (.long i3), .second, .val (.long i4), .second, .val (.int i5), .val (.int (1 : Int32)), .val (.ref b2), .val (.ref b19), .unset] [(.ref b19)])) rfl rfl (hb hby at_92)
    have P127 : own_Go p e below S0 (T127.setTop (mkF m 95 #[.val (.long i0), .second, .val (.long i1), .second, .val (.long i2), .second, .val (.long i3), .second, .val (.long i4), .second, .val (.int i5), .val (.int (1 : Int32)), .val (.ref b2), .val (.ref b19), .unset] [(.ref b26)])) := fun t k => P126 t (st127 _ k)
    have P128 : own_Go p e below S0 (T127.setTop (mkF m 99 #[.val (.long i0), .second, .val (.long i1), .second, .val (.long i2), .second, .val (.long i3), .second, .val (.long i4), .second, .val (.int i5), .val (.int (1 : Int32)), .val (.ref b2), .val (.ref b19), .val (.ref b26)] [(.ref b19)])) := fun t k => P127 t (by
      show Steps p.tables e below (T127.setTop (mkF m 95 #[.val (.long i0), .second, .val (.long i1), .second, .val (.long i2), .second, .val (.long i3), .second, .val (.long i4), .second, .val (.int i5), .val (.int (1 : Int32)), .val (.ref b2), .val (.ref b19), .unset] [(.ref b26)])) t
      refine XS.astore X127.here hx rfl (hb hby at_95) rfl rfl (l' := #[.val (.long i0), .second, .val (.long i1), .second, .val (.long i2), .second, .val (.long i3), .second, .val (.long i4), .second, .val (.int i5), .val (.int (1 : Int32)), .val (.ref b2), .val (.ref b19), .val (.ref b26)]) rfl ?_
      refine XS.aload X127.here hx rfl (hb hby at_97) rfl rfl ?_
      show Steps p.tables e below (T127.setTop (mkF m 99 #[.val (.long i0), .second, .val (.long i1), .second, .val (.long i2), .second, .val (.long i3), .second, .val (.long i4), .second, .val (.int i5), .val (.int (1 : Int32)), .val (.ref b2), .val (.ref b19), .val (.ref b26)] [(.ref b19)])) t
      exact k)
    obtain ⟨T129, X129, e129, st129⟩ := getF X127 hx hZ hown (host := "") (Or.inl (hw _ (List.mem_of_getElem? (i := 14) rfl))) Via.refl e127 F119w (g := (mkF m 99 #[.val (.long i0), .second, .val (.long i1), .second, .val (.long i2), .second, .val (.long i3), .second, .val (.long i4), .second, .val (.int i5), .val (.int (1 : Int32)), .val (.ref b2), .val (.ref b19), .val (.ref b26)] [(.ref b19)])) rfl rfl (hb hby at_99)
    have P129 : own_Go p e below S0 (T129.setTop (mkF m 102 #[.val (.long i0), .second, .val (.long i1), .second, .val (.long i2), .second, .val (.long i3), .second, .val (.long i4), .second, .val (.int i5), .val (.int (1 : Int32)), .val (.ref b2), .val (.ref b19), .val (.ref b26)] [(.int (1 : Int32))])) := fun t k => P128 t (st129 _ k)
    obtain ⟨cl130, Ar130, q130, Sz130, Nn130, Hh130, Gg130⟩ := id F123
    obtain ⟨cl131, Ar131, q131, Sz131, Nn131, Hh131, Gg131⟩ := id F123
    have hin131 : ¬ ((0 : Int32) < 0 ∨ cl131.slots.size ≤ ((0 : Int32)).toNatClampNeg) := inb_of Sz131 ⟨by decide, by decide⟩
    have hat131 : cl131.slots[((0 : Int32)).toNatClampNeg]? = some (.long i0) := Has.at Hh131 hin131 rfl
    have F132 : Arv Z h26 b2 k2 .long (5 : Int32) [(.long i0), (.long i1), (.long i2), (.long i3), (.long i4)] (.long (0 : Int64)) := F23.ext E26
    have F133 : Arv Z h28 b2 k2 .long (5 : Int32) [(.long i0), (.long i1), (.long i2), (.long i3), (.long i4)] (.long (0 : Int64)) := F132.other W28 ne_b2_b26
    have F134 : Arv Z h31 b2 k2 .long (5 : Int32) [(.long i0), (.long i1), (.long i2), (.long i3), (.long i4)] (.long (0 : Int64)) := F133.other W31 ne_b2_b26
    have F135 : Arv Z h34 b2 k2 .long (5 : Int32) [(.long i0), (.long i1), (.long i2), (.long i3), (.long i4)] (.long (0 : Int64)) := F134.other W34 ne_b2_b26
    have F136 : Arv Z h37 b2 k2 .long (5 : Int32) [(.long i0), (.long i1), (.long i2), (.long i3), (.long i4)] (.long (0 : Int64)) := F135.other W37 ne_b2_b26
    have F137 : Arv Z h40 b2 k2 .long (5 : Int32) [(.long i0), (.long i1), (.long i2), (.long i3), (.long i4)] (.long (0 : Int64)) := F136.other W40 ne_b2_b26
    have F138 : Arv Z h54 b2 k2 .long (5 : Int32) [(.long i0), (.long i1), (.long i2), (.long i3), (.long i4)] (.long (0 : Int64)) := F137.other W54 ne_b2_b19
    have F139 : Arv Z h119 b2 k2 .long (5 : Int32) [(.long i0), (.long i1), (.long i2), (.long i3), (.long i4)] (.long (0 : Int64)) := F138.other W119 ne_b2_b19
    have P140 : own_Go p e below S0 (T129.setTop (mkF m 125 #[.val (.long i0), .second, .val (.long i1), .second, .val (.long i2), .second, .val (.long i3), .second, .val (.long i4), .second, .val (.int i5), .val (.int (1 : Int32)), .val (.ref b2), .val (.ref b19), .val (.ref b26)] [(.int (0 : Int32)), (.int (1 : Int32)), (.ref b2), (.long i0)])) := fun t k => P129 t (by
      show Steps p.tables e below (T129.setTop (mkF m 102 #[.val (.long i0), .second, .val (.long i1), .second, .val (.long i2), .second, .val (.long i3), .second, .val (.long i4), .second, .val (.int i5), .val (.int (1 : Int32)), .val (.ref b2), .val (.ref b19), .val (.ref b26)] [(.int (1 : Int32))])) t
      refine XS.iload X129.here hx rfl (hb hby at_102) rfl ?_
      refine XS.icmpNo X129.here hx rfl (hb hby at_104) rfl (teq (by decide)).2 ?_
      refine XS.aload X129.here hx rfl (hb hby at_107) rfl rfl ?_
      show Steps p.tables e below (T129.setTop (mkF m 109 #[.val (.long i0), .second, .val (.long i1), .second, .val (.long i2), .second, .val (.long i3), .second, .val (.long i4), .second, .val (.int i5), .val (.int (1 : Int32)), .val (.ref b2), .val (.ref b19), .val (.ref b26)] [(.ref b26)])) t
      refine X129.arraylength hx (by rw [e129]; exact Ar130.1) (State.isArrayOf_alike hZ.alike Ar130.2.1) (g := (mkF m 109 #[.val (.long i0), .second, .val (.long i1), .second, .val (.long i2), .second, .val (.long i3), .second, .val (.long i4), .second, .val (.int i5), .val (.int (1 : Int32)), .val (.ref b2), .val (.ref b19), .val (.ref b26)] [(.ref b26)])) rfl rfl (hb hby at_109) _ ?_
      rw [len_of Sz130 Nn130]
      refine XS.iconst X129.here hx rfl (hb hby at_110) ?_
      refine XS.icmpYes X129.here hx rfl (pc0 := 111) (pc' := 116) rfl (hb hby at_111) rfl (teq (by decide)).1 (by decide) (by decide) ?_
      show Steps p.tables e below (T129.setTop (mkF m 116 #[.val (.long i0), .second, .val (.long i1), .second, .val (.long i2), .second, .val (.long i3), .second, .val (.long i4), .second, .val (.int i5), .val (.int (1 : Int32)), .val (.ref b2), .val (.ref b19), .val (.ref b26)] [])) t
      refine XS.aload X129.here hx rfl (hb hby at_116) rfl rfl ?_
      refine XS.iconst X129.here hx rfl (hb hby at_118) ?_
      show Steps p.tables e below (T129.setTop (mkF m 119 #[.val (.long i0), .second, .val (.long i1), .second, .val (.long i2), .second, .val (.long i3), .second, .val (.long i4), .second, .val (.int i5), .val (.int (1 : Int32)), .val (.ref b2), .val (.ref b19), .val (.ref b26)] [(.int (0 : Int32)), (.ref b26)])) t
      refine X129.laload hx (j := (0 : Int32)) (v := (.long i0)) (by rw [e129]; exact Ar131.1) (State.isArrayOf_alike hZ.alike Ar131.2.1) Ar131.2.2 hin131 hat131 (g := (mkF m 119 #[.val (.long i0), .second, .val (.long i1), .second, .val (.long i2), .second, .val (.long i3), .second, .val (.long i4), .second, .val (.int i5), .val (.int (1 : Int32)), .val (.ref b2), .val (.ref b19), .val (.ref b26)] [(.int (0 : Int32)), (.ref b26)])) rfl rfl (hb hby at_119) _ ?_
      refine XS.aload X129.here hx rfl (hb hby at_120) rfl rfl ?_
      refine XS.iload X129.here hx rfl (hb hby at_122) rfl ?_
      refine XS.iconst X129.here hx rfl (hb hby at_124) ?_
      show Steps p.tables e below (T129.setTop (mkF m 125 #[.val (.long i0), .second, .val (.long i1), .second, .val (.long i2), .second, .val (.long i3), .second, .val (.long i4), .second, .val (.int i5), .val (.int (1 : Int32)), .val (.ref b2), .val (.ref b19), .val (.ref b26)] [(.int (0 : Int32)), (.int (1 : Int32)), (.ref b2), (.long i0)])) t
      exact k)
    obtain ⟨_, _, ⟨T141, L141, k141, n141⟩, -, X141, ⟨Lc141, hQ141, l141, y141, z141⟩, st141⟩ := Jvm.LawKit.callS X129 hx (y := (⟨"com/example/splice/splice/KeysReversePinLaw", "at", "([JII)J"⟩ : MethodName)) hown (mvT hZ (hw _ (List.mem_of_getElem? (i := 22) rfl))) (mvT hZ (hw _ (List.mem_of_getElem? (i := 23) rfl))) (mvT hZ (hw _ (List.mem_of_getElem? (i := 24) rfl))) (mvT hZ (hw _ (List.mem_of_getElem? (i := 25) rfl))) (by decide) (backOf (W := 2) (rm4_1_0 l Z a0 hw [] b2 k2 i0 i1 i2 i3 i4 h119 n0 (Nat.le_trans Z0 K119.1) F139) hZ (hw _ (List.mem_of_getElem? (i := 25) rfl)) (hw _ (List.mem_of_getElem? (i := 24) rfl)) (by decide) (by decide)) (g := (mkF m 125 #[.val (.long i0), .second, .val (.long i1), .second, .val (.long i2), .second, .val (.long i3), .second, .val (.long i4), .second, .val (.int i5), .val (.int (1 : Int32)), .val (.ref b2), .val (.ref b19), .val (.ref b26)] [(.int (0 : Int32)), (.int (1 : Int32)), (.ref b2), (.long i0)])) rfl (by rw [hml]; rfl) (argsL := [(.ref b2), (.int (1 : Int32)), (.int (0 : Int32))]) (rest := [(.long i0)]) (lenOf pd_1 rfl) rfl (by show 2 * 0 + _ ≤ _; exact Nat.le_of_eq rfl) (hb hby at_125) (fun _ _ => ⟨rfl, e129, (by decide : 4 + 0 ≤ _), (by decide : 20 + 0 ≤ _)⟩)
    dsimp only [Pt.U, Pt.locs, Pt.cells, Pt.slots] at X141 l141 y141 z141 st141 hQ141
    subst l141 y141 z141
    obtain ⟨rfl, N141q, e141⟩ := hQ141
    have N141 := Fr.app N125 N141q
    have P141 : own_Go p e below S0 (T141.setTop (mkF m 128 #[.val (.long i0), .second, .val (.long i1), .second, .val (.long i2), .second, .val (.long i3), .second, .val (.long i4), .second, .val (.int i5), .val (.int (1 : Int32)), .val (.ref b2), .val (.ref b19), .val (.ref b26)] [(.long i0), (.long i0)])) := fun t k => P140 t (st141 _ k)
    obtain ⟨cl142, Ar142, q142, Sz142, Nn142, Hh142, Gg142⟩ := id F123
    have hin142 : ¬ ((1 : Int32) < 0 ∨ cl142.slots.size ≤ ((1 : Int32)).toNatClampNeg) := inb_of Sz142 ⟨by decide, by decide⟩
    have hat142 : cl142.slots[((1 : Int32)).toNatClampNeg]? = some (.long i1) := Has.at Hh142 hin142 rfl
    have P143 : own_Go p e below S0 (T141.setTop (mkF m 141 #[.val (.long i0), .second, .val (.long i1), .second, .val (.long i2), .second, .val (.long i3), .second, .val (.long i4), .second, .val (.int i5), .val (.int (1 : Int32)), .val (.ref b2), .val (.ref b19), .val (.ref b26)] [(.int (1 : Int32)), (.int (1 : Int32)), (.ref b2), (.long i1)])) := fun t k => P141 t (by
      show Steps p.tables e below (T141.setTop (mkF m 128 #[.val (.long i0), .second, .val (.long i1), .second, .val (.long i2), .second, .val (.long i3), .second, .val (.long i4), .second, .val (.int i5), .val (.int (1 : Int32)), .val (.ref b2), .val (.ref b19), .val (.ref b26)] [(.long i0), (.long i0)])) t
      refine XS.lcmp X141.here hx rfl (hb hby at_128) rfl ?_
      refine XS.ifNo X141.here hx rfl (hb hby at_129) rfl ((if0 _ _).trans (teq ((lw_eq i0 i0).mpr rfl)).2) ?_
      refine XS.aload X141.here hx rfl (hb hby at_132) rfl rfl ?_
      refine XS.iconst X141.here hx rfl (hb hby at_134) ?_
      show Steps p.tables e below (T141.setTop (mkF m 135 #[.val (.long i0), .second, .val (.long i1), .second, .val (.long i2), .second, .val (.long i3), .second, .val (.long i4), .second, .val (.int i5), .val (.int (1 : Int32)), .val (.ref b2), .val (.ref b19), .val (.ref b26)] [(.int (1 : Int32)), (.ref b26)])) t
      refine X141.laload hx (j := (1 : Int32)) (v := (.long i1)) (by rw [e141]; exact Ar142.1) (State.isArrayOf_alike hZ.alike Ar142.2.1) Ar142.2.2 hin142 hat142 (g := (mkF m 135 #[.val (.long i0), .second, .val (.long i1), .second, .val (.long i2), .second, .val (.long i3), .second, .val (.long i4), .second, .val (.int i5), .val (.int (1 : Int32)), .val (.ref b2), .val (.ref b19), .val (.ref b26)] [(.int (1 : Int32)), (.ref b26)])) rfl rfl (hb hby at_135) _ ?_
      refine XS.aload X141.here hx rfl (hb hby at_136) rfl rfl ?_
      show Steps p.tables e below (T141.setTop (mkF m 138 #[.val (.long i0), .second, .val (.long i1), .second, .val (.long i2), .second, .val (.long i3), .second, .val (.long i4), .second, .val (.int i5), .val (.int (1 : Int32)), .val (.ref b2), .val (.ref b19), .val (.ref b26)] [(.ref b2), (.long i1)])) t
      refine XS.iload X141.here hx rfl (hb hby at_138) rfl ?_
      refine XS.iconst X141.here hx rfl (hb hby at_140) ?_
      show Steps p.tables e below (T141.setTop (mkF m 141 #[.val (.long i0), .second, .val (.long i1), .second, .val (.long i2), .second, .val (.long i3), .second, .val (.long i4), .second, .val (.int i5), .val (.int (1 : Int32)), .val (.ref b2), .val (.ref b19), .val (.ref b26)] [(.int (1 : Int32)), (.int (1 : Int32)), (.ref b2), (.long i1)])) t
      exact k)
    obtain ⟨_, _, ⟨T144, L144, k144, n144⟩, -, X144, ⟨Lc144, hQ144, l144, y144, z144⟩, st144⟩ := Jvm.LawKit.callS X141 hx (y := (⟨"com/example/splice/splice/KeysReversePinLaw", "at", "([JII)J"⟩ : MethodName)) hown (mvT hZ (hw _ (List.mem_of_getElem? (i := 22) rfl))) (mvT hZ (hw _ (List.mem_of_getElem? (i := 23) rfl))) (mvT hZ (hw _ (List.mem_of_getElem? (i := 24) rfl))) (mvT hZ (hw _ (List.mem_of_getElem? (i := 25) rfl))) (by decide) (backOf (W := 2) (rm4_1_1 l Z a0 hw [] b2 k2 i0 i1 i2 i3 i4 h119 n0 (Nat.le_trans Z0 K119.1) F139) hZ (hw _ (List.mem_of_getElem? (i := 25) rfl)) (hw _ (List.mem_of_getElem? (i := 24) rfl)) (by decide) (by decide)) (g := (mkF m 141 #[.val (.long i0), .second, .val (.long i1), .second, .val (.long i2), .second, .val (.long i3), .second, .val (.long i4), .second, .val (.int i5), .val (.int (1 : Int32)), .val (.ref b2), .val (.ref b19), .val (.ref b26)] [(.int (1 : Int32)), (.int (1 : Int32)), (.ref b2), (.long i1)])) rfl (by rw [hml]; rfl) (argsL := [(.ref b2), (.int (1 : Int32)), (.int (1 : Int32))]) (rest := [(.long i1)]) (lenOf pd_1 rfl) rfl (by show 2 * 0 + _ ≤ _; exact Nat.le_of_eq rfl) (hb hby at_141) (fun _ _ => ⟨rfl, e141, (by decide : 4 + 0 ≤ _), (by decide : 20 + 0 ≤ _)⟩)
    dsimp only [Pt.U, Pt.locs, Pt.cells, Pt.slots] at X144 l144 y144 z144 st144 hQ144
    subst l144 y144 z144
    obtain ⟨rfl, N144q, e144⟩ := hQ144
    have N144 := Fr.app N141 N144q
    have P144 : own_Go p e below S0 (T144.setTop (mkF m 144 #[.val (.long i0), .second, .val (.long i1), .second, .val (.long i2), .second, .val (.long i3), .second, .val (.long i4), .second, .val (.int i5), .val (.int (1 : Int32)), .val (.ref b2), .val (.ref b19), .val (.ref b26)] [(.long i1), (.long i1)])) := fun t k => P143 t (st144 _ k)
    obtain ⟨cl145, Ar145, q145, Sz145, Nn145, Hh145, Gg145⟩ := id F123
    have hin145 : ¬ ((2 : Int32) < 0 ∨ cl145.slots.size ≤ ((2 : Int32)).toNatClampNeg) := inb_of Sz145 ⟨by decide, by decide⟩
    have hat145 : cl145.slots[((2 : Int32)).toNatClampNeg]? = some (.long i2) := Has.at Hh145 hin145 rfl
    have P146 : own_Go p e below S0 (T144.setTop (mkF m 157 #[.val (.long i0), .second, .val (.long i1), .second, .val (.long i2), .second, .val (.long i3), .second, .val (.long i4), .second, .val (.int i5), .val (.int (1 : Int32)), .val (.ref b2), .val (.ref b19), .val (.ref b26)] [(.int (2 : Int32)), (.int (1 : Int32)), (.ref b2), (.long i2)])) := fun t k => P144 t (by
      show Steps p.tables e below (T144.setTop (mkF m 144 #[.val (.long i0), .second, .val (.long i1), .second, .val (.long i2), .second, .val (.long i3), .second, .val (.long i4), .second, .val (.int i5), .val (.int (1 : Int32)), .val (.ref b2), .val (.ref b19), .val (.ref b26)] [(.long i1), (.long i1)])) t
      refine XS.lcmp X144.here hx rfl (hb hby at_144) rfl ?_
      refine XS.ifNo X144.here hx rfl (hb hby at_145) rfl ((if0 _ _).trans (teq ((lw_eq i1 i1).mpr rfl)).2) ?_
      refine XS.aload X144.here hx rfl (hb hby at_148) rfl rfl ?_
      refine XS.iconst X144.here hx rfl (hb hby at_150) ?_
      show Steps p.tables e below (T144.setTop (mkF m 151 #[.val (.long i0), .second, .val (.long i1), .second, .val (.long i2), .second, .val (.long i3), .second, .val (.long i4), .second, .val (.int i5), .val (.int (1 : Int32)), .val (.ref b2), .val (.ref b19), .val (.ref b26)] [(.int (2 : Int32)), (.ref b26)])) t
      refine X144.laload hx (j := (2 : Int32)) (v := (.long i2)) (by rw [e144]; exact Ar145.1) (State.isArrayOf_alike hZ.alike Ar145.2.1) Ar145.2.2 hin145 hat145 (g := (mkF m 151 #[.val (.long i0), .second, .val (.long i1), .second, .val (.long i2), .second, .val (.long i3), .second, .val (.long i4), .second, .val (.int i5), .val (.int (1 : Int32)), .val (.ref b2), .val (.ref b19), .val (.ref b26)] [(.int (2 : Int32)), (.ref b26)])) rfl rfl (hb hby at_151) _ ?_
      refine XS.aload X144.here hx rfl (hb hby at_152) rfl rfl ?_
      show Steps p.tables e below (T144.setTop (mkF m 154 #[.val (.long i0), .second, .val (.long i1), .second, .val (.long i2), .second, .val (.long i3), .second, .val (.long i4), .second, .val (.int i5), .val (.int (1 : Int32)), .val (.ref b2), .val (.ref b19), .val (.ref b26)] [(.ref b2), (.long i2)])) t
      refine XS.iload X144.here hx rfl (hb hby at_154) rfl ?_
      refine XS.iconst X144.here hx rfl (hb hby at_156) ?_
      show Steps p.tables e below (T144.setTop (mkF m 157 #[.val (.long i0), .second, .val (.long i1), .second, .val (.long i2), .second, .val (.long i3), .second, .val (.long i4), .second, .val (.int i5), .val (.int (1 : Int32)), .val (.ref b2), .val (.ref b19), .val (.ref b26)] [(.int (2 : Int32)), (.int (1 : Int32)), (.ref b2), (.long i2)])) t
      exact k)
    obtain ⟨_, _, ⟨T147, L147, k147, n147⟩, -, X147, ⟨Lc147, hQ147, l147, y147, z147⟩, st147⟩ := Jvm.LawKit.callS X144 hx (y := (⟨"com/example/splice/splice/KeysReversePinLaw", "at", "([JII)J"⟩ : MethodName)) hown (mvT hZ (hw _ (List.mem_of_getElem? (i := 22) rfl))) (mvT hZ (hw _ (List.mem_of_getElem? (i := 23) rfl))) (mvT hZ (hw _ (List.mem_of_getElem? (i := 24) rfl))) (mvT hZ (hw _ (List.mem_of_getElem? (i := 25) rfl))) (by decide) (backOf (W := 2) (rm4_1_2 l Z a0 hw [] b2 k2 i0 i1 i2 i3 i4 h119 n0 (Nat.le_trans Z0 K119.1) F139) hZ (hw _ (List.mem_of_getElem? (i := 25) rfl)) (hw _ (List.mem_of_getElem? (i := 24) rfl)) (by decide) (by decide)) (g := (mkF m 157 #[.val (.long i0), .second, .val (.long i1), .second, .val (.long i2), .second, .val (.long i3), .second, .val (.long i4), .second, .val (.int i5), .val (.int (1 : Int32)), .val (.ref b2), .val (.ref b19), .val (.ref b26)] [(.int (2 : Int32)), (.int (1 : Int32)), (.ref b2), (.long i2)])) rfl (by rw [hml]; rfl) (argsL := [(.ref b2), (.int (1 : Int32)), (.int (2 : Int32))]) (rest := [(.long i2)]) (lenOf pd_1 rfl) rfl (by show 2 * 0 + _ ≤ _; exact Nat.le_of_eq rfl) (hb hby at_157) (fun _ _ => ⟨rfl, e144, (by decide : 4 + 0 ≤ _), (by decide : 20 + 0 ≤ _)⟩)
    dsimp only [Pt.U, Pt.locs, Pt.cells, Pt.slots] at X147 l147 y147 z147 st147 hQ147
    subst l147 y147 z147
    obtain ⟨rfl, N147q, e147⟩ := hQ147
    have N147 := Fr.app N144 N147q
    have P147 : own_Go p e below S0 (T147.setTop (mkF m 160 #[.val (.long i0), .second, .val (.long i1), .second, .val (.long i2), .second, .val (.long i3), .second, .val (.long i4), .second, .val (.int i5), .val (.int (1 : Int32)), .val (.ref b2), .val (.ref b19), .val (.ref b26)] [(.long i2), (.long i2)])) := fun t k => P146 t (st147 _ k)
    obtain ⟨cl148, Ar148, q148, Sz148, Nn148, Hh148, Gg148⟩ := id F123
    have hin148 : ¬ ((3 : Int32) < 0 ∨ cl148.slots.size ≤ ((3 : Int32)).toNatClampNeg) := inb_of Sz148 ⟨by decide, by decide⟩
    have hat148 : cl148.slots[((3 : Int32)).toNatClampNeg]? = some (.long i3) := Has.at Hh148 hin148 rfl
    have P149 : own_Go p e below S0 (T147.setTop (mkF m 173 #[.val (.long i0), .second, .val (.long i1), .second, .val (.long i2), .second, .val (.long i3), .second, .val (.long i4), .second, .val (.int i5), .val (.int (1 : Int32)), .val (.ref b2), .val (.ref b19), .val (.ref b26)] [(.int (3 : Int32)), (.int (1 : Int32)), (.ref b2), (.long i3)])) := fun t k => P147 t (by
      show Steps p.tables e below (T147.setTop (mkF m 160 #[.val (.long i0), .second, .val (.long i1), .second, .val (.long i2), .second, .val (.long i3), .second, .val (.long i4), .second, .val (.int i5), .val (.int (1 : Int32)), .val (.ref b2), .val (.ref b19), .val (.ref b26)] [(.long i2), (.long i2)])) t
      refine XS.lcmp X147.here hx rfl (hb hby at_160) rfl ?_
      refine XS.ifNo X147.here hx rfl (hb hby at_161) rfl ((if0 _ _).trans (teq ((lw_eq i2 i2).mpr rfl)).2) ?_
      refine XS.aload X147.here hx rfl (hb hby at_164) rfl rfl ?_
      refine XS.iconst X147.here hx rfl (hb hby at_166) ?_
      show Steps p.tables e below (T147.setTop (mkF m 167 #[.val (.long i0), .second, .val (.long i1), .second, .val (.long i2), .second, .val (.long i3), .second, .val (.long i4), .second, .val (.int i5), .val (.int (1 : Int32)), .val (.ref b2), .val (.ref b19), .val (.ref b26)] [(.int (3 : Int32)), (.ref b26)])) t
      refine X147.laload hx (j := (3 : Int32)) (v := (.long i3)) (by rw [e147]; exact Ar148.1) (State.isArrayOf_alike hZ.alike Ar148.2.1) Ar148.2.2 hin148 hat148 (g := (mkF m 167 #[.val (.long i0), .second, .val (.long i1), .second, .val (.long i2), .second, .val (.long i3), .second, .val (.long i4), .second, .val (.int i5), .val (.int (1 : Int32)), .val (.ref b2), .val (.ref b19), .val (.ref b26)] [(.int (3 : Int32)), (.ref b26)])) rfl rfl (hb hby at_167) _ ?_
      refine XS.aload X147.here hx rfl (hb hby at_168) rfl rfl ?_
      show Steps p.tables e below (T147.setTop (mkF m 170 #[.val (.long i0), .second, .val (.long i1), .second, .val (.long i2), .second, .val (.long i3), .second, .val (.long i4), .second, .val (.int i5), .val (.int (1 : Int32)), .val (.ref b2), .val (.ref b19), .val (.ref b26)] [(.ref b2), (.long i3)])) t
      refine XS.iload X147.here hx rfl (hb hby at_170) rfl ?_
      refine XS.iconst X147.here hx rfl (hb hby at_172) ?_
      show Steps p.tables e below (T147.setTop (mkF m 173 #[.val (.long i0), .second, .val (.long i1), .second, .val (.long i2), .second, .val (.long i3), .second, .val (.long i4), .second, .val (.int i5), .val (.int (1 : Int32)), .val (.ref b2), .val (.ref b19), .val (.ref b26)] [(.int (3 : Int32)), (.int (1 : Int32)), (.ref b2), (.long i3)])) t
      exact k)
    obtain ⟨_, _, ⟨T150, L150, k150, n150⟩, -, X150, ⟨Lc150, hQ150, l150, y150, z150⟩, st150⟩ := Jvm.LawKit.callS X147 hx (y := (⟨"com/example/splice/splice/KeysReversePinLaw", "at", "([JII)J"⟩ : MethodName)) hown (mvT hZ (hw _ (List.mem_of_getElem? (i := 22) rfl))) (mvT hZ (hw _ (List.mem_of_getElem? (i := 23) rfl))) (mvT hZ (hw _ (List.mem_of_getElem? (i := 24) rfl))) (mvT hZ (hw _ (List.mem_of_getElem? (i := 25) rfl))) (by decide) (backOf (W := 2) (rm4_1_3 l Z a0 hw [] b2 k2 i0 i1 i2 i3 i4 h119 n0 (Nat.le_trans Z0 K119.1) F139) hZ (hw _ (List.mem_of_getElem? (i := 25) rfl)) (hw _ (List.mem_of_getElem? (i := 24) rfl)) (by decide) (by decide)) (g := (mkF m 173 #[.val (.long i0), .second, .val (.long i1), .second, .val (.long i2), .second, .val (.long i3), .second, .val (.long i4), .second, .val (.int i5), .val (.int (1 : Int32)), .val (.ref b2), .val (.ref b19), .val (.ref b26)] [(.int (3 : Int32)), (.int (1 : Int32)), (.ref b2), (.long i3)])) rfl (by rw [hml]; rfl) (argsL := [(.ref b2), (.int (1 : Int32)), (.int (3 : Int32))]) (rest := [(.long i3)]) (lenOf pd_1 rfl) rfl (by show 2 * 0 + _ ≤ _; exact Nat.le_of_eq rfl) (hb hby at_173) (fun _ _ => ⟨rfl, e147, (by decide : 4 + 0 ≤ _), (by decide : 20 + 0 ≤ _)⟩)
    dsimp only [Pt.U, Pt.locs, Pt.cells, Pt.slots] at X150 l150 y150 z150 st150 hQ150
    subst l150 y150 z150
    obtain ⟨rfl, N150q, e150⟩ := hQ150
    have N150 := Fr.app N147 N150q
    have P150 : own_Go p e below S0 (T150.setTop (mkF m 176 #[.val (.long i0), .second, .val (.long i1), .second, .val (.long i2), .second, .val (.long i3), .second, .val (.long i4), .second, .val (.int i5), .val (.int (1 : Int32)), .val (.ref b2), .val (.ref b19), .val (.ref b26)] [(.long i3), (.long i3)])) := fun t k => P149 t (st150 _ k)
    obtain ⟨cl151, Ar151, q151, Sz151, Nn151, Hh151, Gg151⟩ := id F123
    have hin151 : ¬ ((4 : Int32) < 0 ∨ cl151.slots.size ≤ ((4 : Int32)).toNatClampNeg) := inb_of Sz151 ⟨by decide, by decide⟩
    have hat151 : cl151.slots[((4 : Int32)).toNatClampNeg]? = some (.long i4) := Has.at Hh151 hin151 rfl
    have P152 : own_Go p e below S0 (T150.setTop (mkF m 189 #[.val (.long i0), .second, .val (.long i1), .second, .val (.long i2), .second, .val (.long i3), .second, .val (.long i4), .second, .val (.int i5), .val (.int (1 : Int32)), .val (.ref b2), .val (.ref b19), .val (.ref b26)] [(.int (4 : Int32)), (.int (1 : Int32)), (.ref b2), (.long i4)])) := fun t k => P150 t (by
      show Steps p.tables e below (T150.setTop (mkF m 176 #[.val (.long i0), .second, .val (.long i1), .second, .val (.long i2), .second, .val (.long i3), .second, .val (.long i4), .second, .val (.int i5), .val (.int (1 : Int32)), .val (.ref b2), .val (.ref b19), .val (.ref b26)] [(.long i3), (.long i3)])) t
      refine XS.lcmp X150.here hx rfl (hb hby at_176) rfl ?_
      refine XS.ifNo X150.here hx rfl (hb hby at_177) rfl ((if0 _ _).trans (teq ((lw_eq i3 i3).mpr rfl)).2) ?_
      refine XS.aload X150.here hx rfl (hb hby at_180) rfl rfl ?_
      refine XS.iconst X150.here hx rfl (hb hby at_182) ?_
      show Steps p.tables e below (T150.setTop (mkF m 183 #[.val (.long i0), .second, .val (.long i1), .second, .val (.long i2), .second, .val (.long i3), .second, .val (.long i4), .second, .val (.int i5), .val (.int (1 : Int32)), .val (.ref b2), .val (.ref b19), .val (.ref b26)] [(.int (4 : Int32)), (.ref b26)])) t
      refine X150.laload hx (j := (4 : Int32)) (v := (.long i4)) (by rw [e150]; exact Ar151.1) (State.isArrayOf_alike hZ.alike Ar151.2.1) Ar151.2.2 hin151 hat151 (g := (mkF m 183 #[.val (.long i0), .second, .val (.long i1), .second, .val (.long i2), .second, .val (.long i3), .second, .val (.long i4), .second, .val (.int i5), .val (.int (1 : Int32)), .val (.ref b2), .val (.ref b19), .val (.ref b26)] [(.int (4 : Int32)), (.ref b26)])) rfl rfl (hb hby at_183) _ ?_
      refine XS.aload X150.here hx rfl (hb hby at_184) rfl rfl ?_
      show Steps p.tables e below (T150.setTop (mkF m 186 #[.val (.long i0), .second, .val (.long i1), .second, .val (.long i2), .second, .val (.long i3), .second, .val (.long i4), .second, .val (.int i5), .val (.int (1 : Int32)), .val (.ref b2), .val (.ref b19), .val (.ref b26)] [(.ref b2), (.long i4)])) t
      refine XS.iload X150.here hx rfl (hb hby at_186) rfl ?_
      refine XS.iconst X150.here hx rfl (hb hby at_188) ?_
      show Steps p.tables e below (T150.setTop (mkF m 189 #[.val (.long i0), .second, .val (.long i1), .second, .val (.long i2), .second, .val (.long i3), .second, .val (.long i4), .second, .val (.int i5), .val (.int (1 : Int32)), .val (.ref b2), .val (.ref b19), .val (.ref b26)] [(.int (4 : Int32)), (.int (1 : Int32)), (.ref b2), (.long i4)])) t
      exact k)
    obtain ⟨_, _, ⟨T153, L153, k153, n153⟩, -, X153, ⟨Lc153, hQ153, l153, y153, z153⟩, st153⟩ := Jvm.LawKit.callS X150 hx (y := (⟨"com/example/splice/splice/KeysReversePinLaw", "at", "([JII)J"⟩ : MethodName)) hown (mvT hZ (hw _ (List.mem_of_getElem? (i := 22) rfl))) (mvT hZ (hw _ (List.mem_of_getElem? (i := 23) rfl))) (mvT hZ (hw _ (List.mem_of_getElem? (i := 24) rfl))) (mvT hZ (hw _ (List.mem_of_getElem? (i := 25) rfl))) (by decide) (backOf (W := 2) (rm4_1_4 l Z a0 hw [] b2 k2 i0 i1 i2 i3 i4 h119 n0 (Nat.le_trans Z0 K119.1) F139) hZ (hw _ (List.mem_of_getElem? (i := 25) rfl)) (hw _ (List.mem_of_getElem? (i := 24) rfl)) (by decide) (by decide)) (g := (mkF m 189 #[.val (.long i0), .second, .val (.long i1), .second, .val (.long i2), .second, .val (.long i3), .second, .val (.long i4), .second, .val (.int i5), .val (.int (1 : Int32)), .val (.ref b2), .val (.ref b19), .val (.ref b26)] [(.int (4 : Int32)), (.int (1 : Int32)), (.ref b2), (.long i4)])) rfl (by rw [hml]; rfl) (argsL := [(.ref b2), (.int (1 : Int32)), (.int (4 : Int32))]) (rest := [(.long i4)]) (lenOf pd_1 rfl) rfl (by show 2 * 0 + _ ≤ _; exact Nat.le_of_eq rfl) (hb hby at_189) (fun _ _ => ⟨rfl, e150, (by decide : 4 + 0 ≤ _), (by decide : 20 + 0 ≤ _)⟩)
    dsimp only [Pt.U, Pt.locs, Pt.cells, Pt.slots] at X153 l153 y153 z153 st153 hQ153
    subst l153 y153 z153
    obtain ⟨rfl, N153q, e153⟩ := hQ153
    have N153 := Fr.app N150 N153q
    have P153 : own_Go p e below S0 (T153.setTop (mkF m 192 #[.val (.long i0), .second, .val (.long i1), .second, .val (.long i2), .second, .val (.long i3), .second, .val (.long i4), .second, .val (.int i5), .val (.int (1 : Int32)), .val (.ref b2), .val (.ref b19), .val (.ref b26)] [(.long i4), (.long i4)])) := fun t k => P152 t (st153 _ k)
    have P154 : own_Go p e below S0 (T153.setTop (mkF m 201 #[.val (.long i0), .second, .val (.long i1), .second, .val (.long i2), .second, .val (.long i3), .second, .val (.long i4), .second, .val (.int i5), .val (.int (1 : Int32)), .val (.ref b2), .val (.ref b19), .val (.ref b26)] [(.int (1 : Int32))])) := fun t k => P153 t (by
      show Steps p.tables e below (T153.setTop (mkF m 192 #[.val (.long i0), .second, .val (.long i1), .second, .val (.long i2), .second, .val (.long i3), .second, .val (.long i4), .second, .val (.int i5), .val (.int (1 : Int32)), .val (.ref b2), .val (.ref b19), .val (.ref b26)] [(.long i4), (.long i4)])) t
      refine XS.lcmp X153.here hx rfl (hb hby at_192) rfl ?_
      refine XS.ifNo X153.here hx rfl (hb hby at_193) rfl ((if0 _ _).trans (teq ((lw_eq i4 i4).mpr rfl)).2) ?_
      refine XS.iconst X153.here hx rfl (hb hby at_196) ?_
      refine XS.goto X153.here hx rfl (pc0 := 197) (pc' := 201) rfl (hb hby at_197) (by decide) (by decide) ?_
      show Steps p.tables e below (T153.setTop (mkF m 201 #[.val (.long i0), .second, .val (.long i1), .second, .val (.long i2), .second, .val (.long i3), .second, .val (.long i4), .second, .val (.int i5), .val (.int (1 : Int32)), .val (.ref b2), .val (.ref b19), .val (.ref b26)] [(.int (1 : Int32))])) t
      exact k)
    have F155 : Arv Z h26 b4_22 k4_22 .long (8 : Int32) [(.long (0 : Int64)), (.long (0 : Int64)), (.long (0 : Int64)), (.long (0 : Int64)), (.long (0 : Int64)), (.long (0 : Int64)), (.long (0 : Int64)), (.long (0 : Int64))] (.long (0 : Int64)) := F22_1.ext E26
    have F156 : Arv Z h28 b4_22 k4_22 .long (8 : Int32) [(.long (0 : Int64)), (.long (0 : Int64)), (.long (0 : Int64)), (.long (0 : Int64)), (.long (0 : Int64)), (.long (0 : Int64)), (.long (0 : Int64)), (.long (0 : Int64))] (.long (0 : Int64)) := F155.other W28 ne_b4_22_b26
    have F157 : Arv Z h31 b4_22 k4_22 .long (8 : Int32) [(.long (0 : Int64)), (.long (0 : Int64)), (.long (0 : Int64)), (.long (0 : Int64)), (.long (0 : Int64)), (.long (0 : Int64)), (.long (0 : Int64)), (.long (0 : Int64))] (.long (0 : Int64)) := F156.other W31 ne_b4_22_b26
    have F158 : Arv Z h34 b4_22 k4_22 .long (8 : Int32) [(.long (0 : Int64)), (.long (0 : Int64)), (.long (0 : Int64)), (.long (0 : Int64)), (.long (0 : Int64)), (.long (0 : Int64)), (.long (0 : Int64)), (.long (0 : Int64))] (.long (0 : Int64)) := F157.other W34 ne_b4_22_b26
    have F159 : Arv Z h37 b4_22 k4_22 .long (8 : Int32) [(.long (0 : Int64)), (.long (0 : Int64)), (.long (0 : Int64)), (.long (0 : Int64)), (.long (0 : Int64)), (.long (0 : Int64)), (.long (0 : Int64)), (.long (0 : Int64))] (.long (0 : Int64)) := F158.other W37 ne_b4_22_b26
    have F160 : Arv Z h40 b4_22 k4_22 .long (8 : Int32) [(.long (0 : Int64)), (.long (0 : Int64)), (.long (0 : Int64)), (.long (0 : Int64)), (.long (0 : Int64)), (.long (0 : Int64)), (.long (0 : Int64)), (.long (0 : Int64))] (.long (0 : Int64)) := F159.other W40 ne_b4_22_b26
    have F161 : Arv Z h54 b4_22 k4_22 .long (8 : Int32) [(.long (0 : Int64)), (.long (0 : Int64)), (.long (0 : Int64)), (.long (0 : Int64)), (.long (0 : Int64)), (.long (0 : Int64)), (.long (0 : Int64)), (.long (0 : Int64))] (.long (0 : Int64)) := F160.other W54 (Ne.symm ne_b19_b4_22)
    have F162 : Arv Z h119 b4_22 k4_22 .long (8 : Int32) [(.long (0 : Int64)), (.long (0 : Int64)), (.long (0 : Int64)), (.long (0 : Int64)), (.long (0 : Int64)), (.long (0 : Int64)), (.long (0 : Int64)), (.long (0 : Int64))] (.long (0 : Int64)) := F161.other W119 (Ne.symm ne_b19_b4_22)
    obtain ⟨fs, hr, hrun, hended, hW, hsame⟩ := X153.leave (v := some (.int (1 : Int32))) (fun h => by rw [Bd.returns] at h; cases h)
    refine ⟨_, _, own_from hS0 (P154 _ ?_), hrun, hended, _, _, rfl, ?_, ⟨_, rfl⟩, hW, hsame.mono (by decide) (by decide)⟩
    · show Steps p.tables e below (T153.setTop (mkF m 201 #[.val (.long i0), .second, .val (.long i1), .second, .val (.long i2), .second, .val (.long i3), .second, .val (.long i4), .second, .val (.int i5), .val (.int (1 : Int32)), .val (.ref b2), .val (.ref b19), .val (.ref b26)] [(.int (1 : Int32))])) _
      exact retN X153 hx (t := .boolean) Bd.returns (by simp) (hb hby at_201) hr
    · show Q0 Z i0 i1 i2 i3 i4 i5 h0 n0 _ T153.heap _
      rw [e153]
      exact ⟨rfl, N153⟩
  · skip
    subst c56
    have F163 : Exa Z h54 b19 "com/example/splice/splice/XPath$Keys" := F47.wr W54
    have F164 : Fld Z h26 b19 "com/example/splice/splice/XPath$Keys" "size" "I" (.int (0 : Int32)) := F22_0.ext E26
    have F165 : Fld Z h28 b19 "com/example/splice/splice/XPath$Keys" "size" "I" (.int (0 : Int32)) := F164.other W28 (Or.inl ne_b19_b26)
    have F166 : Fld Z h31 b19 "com/example/splice/splice/XPath$Keys" "size" "I" (.int (0 : Int32)) := F165.other W31 (Or.inl ne_b19_b26)
    have F167 : Fld Z h34 b19 "com/example/splice/splice/XPath$Keys" "size" "I" (.int (0 : Int32)) := F166.other W34 (Or.inl ne_b19_b26)
    have F168 : Fld Z h37 b19 "com/example/splice/splice/XPath$Keys" "size" "I" (.int (0 : Int32)) := F167.other W37 (Or.inl ne_b19_b26)
    have F169 : Fld Z h40 b19 "com/example/splice/splice/XPath$Keys" "size" "I" (.int (0 : Int32)) := F168.other W40 (Or.inl ne_b19_b26)
    have F170 : Fld Z h54 b19 "com/example/splice/splice/XPath$Keys" "size" "I" (.int (0 : Int32)) := F169.other W54 (Or.inr (slot_ne (Or.inl (hw _ (List.mem_of_getElem? (i := 15) rfl))) (Or.inl (hw _ (List.mem_of_getElem? (i := 12) rfl))) (by decide) (t := .int) (t' := (.array .long)) (by decide) (by decide)))
    have P171 : own_Go p e below S0 (T54.setTop (mkF m 82 #[.val (.long i0), .second, .val (.long i1), .second, .val (.long i2), .second, .val (.long i3), .second, .val (.long i4), .second, .val (.int i5), .val (.int (2 : Int32)), .val (.ref b2), .val (.ref b19), .unset] [(.int (2 : Int32)), (.ref b19)])) := fun t k => P55 t (by
      show Steps p.tables e below (T54.setTop (mkF m 78 #[.val (.long i0), .second, .val (.long i1), .second, .val (.long i2), .second, .val (.long i3), .second, .val (.long i4), .second, .val (.int i5), .val (.int (2 : Int32)), .val (.ref b2), .val (.ref b19), .unset] [])) t
      refine XS.aload X54.here hx rfl (hb hby at_78) rfl rfl ?_
      refine XS.iload X54.here hx rfl (hb hby at_80) rfl ?_
      show Steps p.tables e below (T54.setTop (mkF m 82 #[.val (.long i0), .second, .val (.long i1), .second, .val (.long i2), .second, .val (.long i3), .second, .val (.long i4), .second, .val (.int i5), .val (.int (2 : Int32)), .val (.ref b2), .val (.ref b19), .unset] [(.int (2 : Int32)), (.ref b19)])) t
      exact k)
    obtain ⟨T172, h172, X172, e172, W172, st172⟩ := putF X54 hx hZ hown (host := "") (Or.inl (hw _ (List.mem_of_getElem? (i := 14) rfl))) Via.refl e54 F170 F163 (Or.inl (hw _ (List.mem_of_getElem? (i := 15) rfl))) (hw _ (List.mem_of_getElem? (i := 3) rfl)) (ty := .int) (by decide) rfl rfl (g := (mkF m 82 #[.val (.long i0), .second, .val (.long i1), .second, .val (.long i2), .second, .val (.long i3), .second, .val (.long i4), .second, .val (.int i5), .val (.int (2 : Int32)), .val (.ref b2), .val (.ref b19), .unset] [(.int (2 : Int32)), (.ref b19)])) rfl rfl (hb hby at_82)
    have K172 : Keep h0 h172 [] := K54.wr W172 (Or.inr o_b19)
    have N172 := Fr.snoc X172 N54 g_b19
    have F172w : Fld Z h172 b19 "com/example/splice/splice/XPath$Keys" "size" "I" (.int (2 : Int32)) := F170.same W172
    have P172 : own_Go p e below S0 (T172.setTop (mkF m 85 #[.val (.long i0), .second, .val (.long i1), .second, .val (.long i2), .second, .val (.long i3), .second, .val (.long i4), .second, .val (.int i5), .val (.int (2 : Int32)), .val (.ref b2), .val (.ref b19), .unset] [])) := fun t k => P171 t (st172 _ k)
    have F173 : Exa Z h172 b19 "com/example/splice/splice/XPath$Keys" := F163.wr W172
    have F174 : Fld Z h172 b19 "com/example/splice/splice/XPath$Keys" "keys" "[J" (.ref b26) := F54w.other W172 (Or.inr (slot_ne (Or.inl (hw _ (List.mem_of_getElem? (i := 12) rfl))) (Or.inl (hw _ (List.mem_of_getElem? (i := 15) rfl))) (by decide) (t := (.array .long)) (t' := .int) (by decide) (by decide)))
    have F175 : Arv Z h54 b26 k26 .long (5 : Int32) [(.long i0), (.long i1), (.long i2), (.long i3), (.long i4)] (.long (0 : Int64)) := V40.other W54 (Ne.symm ne_b19_b26)
    have F176 : Arv Z h172 b26 k26 .long (5 : Int32) [(.long i0), (.long i1), (.long i2), (.long i3), (.long i4)] (.long (0 : Int64)) := F175.other W172 (Ne.symm ne_b19_b26)
    have P177 : own_Go p e below S0 (T172.setTop (mkF m 87 #[.val (.long i0), .second, .val (.long i1), .second, .val (.long i2), .second, .val (.long i3), .second, .val (.long i4), .second, .val (.int i5), .val (.int (2 : Int32)), .val (.ref b2), .val (.ref b19), .unset] [(.ref b19)])) := fun t k => P172 t (by
      show Steps p.tables e below (T172.setTop (mkF m 85 #[.val (.long i0), .second, .val (.long i1), .second, .val (.long i2), .second, .val (.long i3), .second, .val (.long i4), .second, .val (.int i5), .val (.int (2 : Int32)), .val (.ref b2), .val (.ref b19), .unset] [])) t
      refine XS.aload X172.here hx rfl (hb hby at_85) rfl rfl ?_
      show Steps p.tables e below (T172.setTop (mkF m 87 #[.val (.long i0), .second, .val (.long i1), .second, .val (.long i2), .second, .val (.long i3), .second, .val (.long i4), .second, .val (.int i5), .val (.int (2 : Int32)), .val (.ref b2), .val (.ref b19), .unset] [(.ref b19)])) t
      exact k)
    obtain ⟨cq178, kq178, q178a, q178b, q178c⟩ := isOf hZ e172 F173
    obtain ⟨_, _, ⟨T178, L178, k178, n178⟩, -, X178, ⟨Lc178, hQ178, l178, y178, z178⟩, st178⟩ := X172.virtualBack hx (y := (⟨"com/example/splice/splice/XPath$Keys", "reverse", "()V"⟩ : MethodName)) (z := (⟨"com/example/splice/splice/XPath$Keys", "reverse", "()V"⟩ : MethodName)) hown (mvT hZ (hw _ (List.mem_of_getElem? (i := 16) rfl))) (mvT hZ (hw _ (List.mem_of_getElem? (i := 17) rfl))) (notFace_of_selects (args := #[]) (mvT hZ (hw _ (List.mem_of_getElem? (i := 19) rfl)))) (mvT hZ (hw _ (List.mem_of_getElem? (i := 19) rfl))) (mvT hZ (hw _ (List.mem_of_getElem? (i := 18) rfl))) (by decide) (backOf (W := 0) (rm3s2 l Z a0 hw [] b19 b26 k26 i0 i1 i2 i3 i4 h172 n0 (Nat.le_trans Z0 K172.1) F174 F172w F176 g_b26 ne_b19_b26) hZ (hw _ (List.mem_of_getElem? (i := 20) rfl)) (hw _ (List.mem_of_getElem? (i := 4) rfl)) (by decide) (by decide)) q178a q178c (g := (mkF m 87 #[.val (.long i0), .second, .val (.long i1), .second, .val (.long i2), .second, .val (.long i3), .second, .val (.long i4), .second, .val (.int i5), .val (.int (2 : Int32)), .val (.ref b2), .val (.ref b19), .unset] [(.ref b19)])) rfl (by rw [hml]; rfl) (Steps.refl _) (argsL := []) (rest := []) (lenOf pd_0 rfl) rfl (by show 2 * 0 + _ ≤ _; exact Nat.le_of_eq rfl) (hb hby at_87) (fun _ _ => ⟨rfl, e172, (by decide : 4 + 0 ≤ _), (by decide : 20 + 0 ≤ _)⟩)
    dsimp only [Pt.U, Pt.locs, Pt.cells, Pt.slots] at X178 l178 y178 z178 st178 hQ178
    subst l178 y178 z178
    obtain ⟨rfl, N178q, Kc178, F178_0⟩ := hQ178
    have N178 := Fr.app N172 N178q
    have K178 : Keep h0 T178.heap [] := Keep.trans K172 Kc178 (allS (Or.inr o_b26) all0)
    have P178 : own_Go p e below S0 (T178.setTop (mkF m 90 #[.val (.long i0), .second, .val (.long i1), .second, .val (.long i2), .second, .val (.long i3), .second, .val (.long i4), .second, .val (.int i5), .val (.int (2 : Int32)), .val (.ref b2), .val (.ref b19), .unset] [])) := fun t k => P177 t (st178.trans k)
    have F179 : Fld Z T178.heap b19 "com/example/splice/splice/XPath$Keys" "keys" "[J" (.ref b26) := F174.keep Kc178 (ninS ne_b19_b26 nin0)
    have P180 : own_Go p e below S0 (T178.setTop (mkF m 92 #[.val (.long i0), .second, .val (.long i1), .second, .val (.long i2), .second, .val (.long i3), .second, .val (.long i4), .second, .val (.int i5), .val (.int (2 : Int32)), .val (.ref b2), .val (.ref b19), .unset] [(.ref b19)])) := fun t k => P178 t (by
      show Steps p.tables e below (T178.setTop (mkF m 90 #[.val (.long i0), .second, .val (.long i1), .second, .val (.long i2), .second, .val (.long i3), .second, .val (.long i4), .second, .val (.int i5), .val (.int (2 : Int32)), .val (.ref b2), .val (.ref b19), .unset] [])) t
      refine XS.aload X178.here hx rfl (hb hby at_90) rfl rfl ?_
      show Steps p.tables e below (T178.setTop (mkF m 92 #[.val (.long i0), .second, .val (.long i1), .second, .val (.long i2), .second, .val (.long i3), .second, .val (.long i4), .second, .val (.int i5), .val (.int (2 : Int32)), .val (.ref b2), .val (.ref b19), .unset] [(.ref b19)])) t
      exact k)
    obtain ⟨T181, X181, e181, st181⟩ := getF X178 hx hZ hown (host := "") (Or.inl (hw _ (List.mem_of_getElem? (i := 13) rfl))) Via.refl rfl F179 (g := (mkF m 92 #[.val (.long i0), .second, .val (.long i1), .second, .val (.long i2), .second, .val (.long i3), .second, .val (.long i4), .second, .val (.int i5), .val (.int (2 : Int32)), .val (.ref b2), .val (.ref b19), .unset] [(.ref b19)])) rfl rfl (hb hby at_92)
    have P181 : own_Go p e below S0 (T181.setTop (mkF m 95 #[.val (.long i0), .second, .val (.long i1), .second, .val (.long i2), .second, .val (.long i3), .second, .val (.long i4), .second, .val (.int i5), .val (.int (2 : Int32)), .val (.ref b2), .val (.ref b19), .unset] [(.ref b26)])) := fun t k => P180 t (st181 _ k)
    have F182 : Fld Z T178.heap b19 "com/example/splice/splice/XPath$Keys" "size" "I" (.int (2 : Int32)) := F172w.keep Kc178 (ninS ne_b19_b26 nin0)
    have P183 : own_Go p e below S0 (T181.setTop (mkF m 99 #[.val (.long i0), .second, .val (.long i1), .second, .val (.long i2), .second, .val (.long i3), .second, .val (.long i4), .second, .val (.int i5), .val (.int (2 : Int32)), .val (.ref b2), .val (.ref b19), .val (.ref b26)] [(.ref b19)])) := fun t k => P181 t (by
      show Steps p.tables e below (T181.setTop (mkF m 95 #[.val (.long i0), .second, .val (.long i1), .second, .val (.long i2), .second, .val (.long i3), .second, .val (.long i4), .second, .val (.int i5), .val (.int (2 : Int32)), .val (.ref b2), .val (.ref b19), .unset] [(.ref b26)])) t
      refine XS.astore X181.here hx rfl (hb hby at_95) rfl rfl (l' := #[.val (.long i0), .second, .val (.long i1), .second, .val (.long i2), .second, .val (.long i3), .second, .val (.long i4), .second, .val (.int i5), .val (.int (2 : Int32)), .val (.ref b2), .val (.ref b19), .val (.ref b26)]) rfl ?_
      refine XS.aload X181.here hx rfl (hb hby at_97) rfl rfl ?_
      show Steps p.tables e below (T181.setTop (mkF m 99 #[.val (.long i0), .second, .val (.long i1), .second, .val (.long i2), .second, .val (.long i3), .second, .val (.long i4), .second, .val (.int i5), .val (.int (2 : Int32)), .val (.ref b2), .val (.ref b19), .val (.ref b26)] [(.ref b19)])) t
      exact k)
    obtain ⟨T184, X184, e184, st184⟩ := getF X181 hx hZ hown (host := "") (Or.inl (hw _ (List.mem_of_getElem? (i := 14) rfl))) Via.refl e181 F182 (g := (mkF m 99 #[.val (.long i0), .second, .val (.long i1), .second, .val (.long i2), .second, .val (.long i3), .second, .val (.long i4), .second, .val (.int i5), .val (.int (2 : Int32)), .val (.ref b2), .val (.ref b19), .val (.ref b26)] [(.ref b19)])) rfl rfl (hb hby at_99)
    have P184 : own_Go p e below S0 (T184.setTop (mkF m 102 #[.val (.long i0), .second, .val (.long i1), .second, .val (.long i2), .second, .val (.long i3), .second, .val (.long i4), .second, .val (.int i5), .val (.int (2 : Int32)), .val (.ref b2), .val (.ref b19), .val (.ref b26)] [(.int (2 : Int32))])) := fun t k => P183 t (st184 _ k)
    obtain ⟨cl185, Ar185, q185, Sz185, Nn185, Hh185, Gg185⟩ := id F178_0
    obtain ⟨cl186, Ar186, q186, Sz186, Nn186, Hh186, Gg186⟩ := id F178_0
    have hin186 : ¬ ((0 : Int32) < 0 ∨ cl186.slots.size ≤ ((0 : Int32)).toNatClampNeg) := inb_of Sz186 ⟨by decide, by decide⟩
    have hat186 : cl186.slots[((0 : Int32)).toNatClampNeg]? = some (.long i1) := Has.at Hh186 hin186 rfl
    have F187 : Arv Z h26 b2 k2 .long (5 : Int32) [(.long i0), (.long i1), (.long i2), (.long i3), (.long i4)] (.long (0 : Int64)) := F23.ext E26
    have F188 : Arv Z h28 b2 k2 .long (5 : Int32) [(.long i0), (.long i1), (.long i2), (.long i3), (.long i4)] (.long (0 : Int64)) := F187.other W28 ne_b2_b26
    have F189 : Arv Z h31 b2 k2 .long (5 : Int32) [(.long i0), (.long i1), (.long i2), (.long i3), (.long i4)] (.long (0 : Int64)) := F188.other W31 ne_b2_b26
    have F190 : Arv Z h34 b2 k2 .long (5 : Int32) [(.long i0), (.long i1), (.long i2), (.long i3), (.long i4)] (.long (0 : Int64)) := F189.other W34 ne_b2_b26
    have F191 : Arv Z h37 b2 k2 .long (5 : Int32) [(.long i0), (.long i1), (.long i2), (.long i3), (.long i4)] (.long (0 : Int64)) := F190.other W37 ne_b2_b26
    have F192 : Arv Z h40 b2 k2 .long (5 : Int32) [(.long i0), (.long i1), (.long i2), (.long i3), (.long i4)] (.long (0 : Int64)) := F191.other W40 ne_b2_b26
    have F193 : Arv Z h54 b2 k2 .long (5 : Int32) [(.long i0), (.long i1), (.long i2), (.long i3), (.long i4)] (.long (0 : Int64)) := F192.other W54 ne_b2_b19
    have F194 : Arv Z h172 b2 k2 .long (5 : Int32) [(.long i0), (.long i1), (.long i2), (.long i3), (.long i4)] (.long (0 : Int64)) := F193.other W172 ne_b2_b19
    have F195 : Arv Z T178.heap b2 k2 .long (5 : Int32) [(.long i0), (.long i1), (.long i2), (.long i3), (.long i4)] (.long (0 : Int64)) := F194.keep Kc178 (ninS ne_b2_b26 nin0)
    have P196 : own_Go p e below S0 (T184.setTop (mkF m 125 #[.val (.long i0), .second, .val (.long i1), .second, .val (.long i2), .second, .val (.long i3), .second, .val (.long i4), .second, .val (.int i5), .val (.int (2 : Int32)), .val (.ref b2), .val (.ref b19), .val (.ref b26)] [(.int (0 : Int32)), (.int (2 : Int32)), (.ref b2), (.long i1)])) := fun t k => P184 t (by
      show Steps p.tables e below (T184.setTop (mkF m 102 #[.val (.long i0), .second, .val (.long i1), .second, .val (.long i2), .second, .val (.long i3), .second, .val (.long i4), .second, .val (.int i5), .val (.int (2 : Int32)), .val (.ref b2), .val (.ref b19), .val (.ref b26)] [(.int (2 : Int32))])) t
      refine XS.iload X184.here hx rfl (hb hby at_102) rfl ?_
      refine XS.icmpNo X184.here hx rfl (hb hby at_104) rfl (teq (by decide)).2 ?_
      refine XS.aload X184.here hx rfl (hb hby at_107) rfl rfl ?_
      show Steps p.tables e below (T184.setTop (mkF m 109 #[.val (.long i0), .second, .val (.long i1), .second, .val (.long i2), .second, .val (.long i3), .second, .val (.long i4), .second, .val (.int i5), .val (.int (2 : Int32)), .val (.ref b2), .val (.ref b19), .val (.ref b26)] [(.ref b26)])) t
      refine X184.arraylength hx (by rw [e184]; exact Ar185.1) (State.isArrayOf_alike hZ.alike Ar185.2.1) (g := (mkF m 109 #[.val (.long i0), .second, .val (.long i1), .second, .val (.long i2), .second, .val (.long i3), .second, .val (.long i4), .second, .val (.int i5), .val (.int (2 : Int32)), .val (.ref b2), .val (.ref b19), .val (.ref b26)] [(.ref b26)])) rfl rfl (hb hby at_109) _ ?_
      rw [len_of Sz185 Nn185]
      refine XS.iconst X184.here hx rfl (hb hby at_110) ?_
      refine XS.icmpYes X184.here hx rfl (pc0 := 111) (pc' := 116) rfl (hb hby at_111) rfl (teq (by decide)).1 (by decide) (by decide) ?_
      show Steps p.tables e below (T184.setTop (mkF m 116 #[.val (.long i0), .second, .val (.long i1), .second, .val (.long i2), .second, .val (.long i3), .second, .val (.long i4), .second, .val (.int i5), .val (.int (2 : Int32)), .val (.ref b2), .val (.ref b19), .val (.ref b26)] [])) t
      refine XS.aload X184.here hx rfl (hb hby at_116) rfl rfl ?_
      refine XS.iconst X184.here hx rfl (hb hby at_118) ?_
      show Steps p.tables e below (T184.setTop (mkF m 119 #[.val (.long i0), .second, .val (.long i1), .second, .val (.long i2), .second, .val (.long i3), .second, .val (.long i4), .second, .val (.int i5), .val (.int (2 : Int32)), .val (.ref b2), .val (.ref b19), .val (.ref b26)] [(.int (0 : Int32)), (.ref b26)])) t
      refine X184.laload hx (j := (0 : Int32)) (v := (.long i1)) (by rw [e184]; exact Ar186.1) (State.isArrayOf_alike hZ.alike Ar186.2.1) Ar186.2.2 hin186 hat186 (g := (mkF m 119 #[.val (.long i0), .second, .val (.long i1), .second, .val (.long i2), .second, .val (.long i3), .second, .val (.long i4), .second, .val (.int i5), .val (.int (2 : Int32)), .val (.ref b2), .val (.ref b19), .val (.ref b26)] [(.int (0 : Int32)), (.ref b26)])) rfl rfl (hb hby at_119) _ ?_
      refine XS.aload X184.here hx rfl (hb hby at_120) rfl rfl ?_
      refine XS.iload X184.here hx rfl (hb hby at_122) rfl ?_
      refine XS.iconst X184.here hx rfl (hb hby at_124) ?_
      show Steps p.tables e below (T184.setTop (mkF m 125 #[.val (.long i0), .second, .val (.long i1), .second, .val (.long i2), .second, .val (.long i3), .second, .val (.long i4), .second, .val (.int i5), .val (.int (2 : Int32)), .val (.ref b2), .val (.ref b19), .val (.ref b26)] [(.int (0 : Int32)), (.int (2 : Int32)), (.ref b2), (.long i1)])) t
      exact k)
    obtain ⟨_, _, ⟨T197, L197, k197, n197⟩, -, X197, ⟨Lc197, hQ197, l197, y197, z197⟩, st197⟩ := Jvm.LawKit.callS X184 hx (y := (⟨"com/example/splice/splice/KeysReversePinLaw", "at", "([JII)J"⟩ : MethodName)) hown (mvT hZ (hw _ (List.mem_of_getElem? (i := 22) rfl))) (mvT hZ (hw _ (List.mem_of_getElem? (i := 23) rfl))) (mvT hZ (hw _ (List.mem_of_getElem? (i := 24) rfl))) (mvT hZ (hw _ (List.mem_of_getElem? (i := 25) rfl))) (by decide) (backOf (W := 2) (rm4_2_0 l Z a0 hw [] b2 k2 i0 i1 i2 i3 i4 T178.heap n0 (Nat.le_trans Z0 K178.1) F195) hZ (hw _ (List.mem_of_getElem? (i := 25) rfl)) (hw _ (List.mem_of_getElem? (i := 24) rfl)) (by decide) (by decide)) (g := (mkF m 125 #[.val (.long i0), .second, .val (.long i1), .second, .val (.long i2), .second, .val (.long i3), .second, .val (.long i4), .second, .val (.int i5), .val (.int (2 : Int32)), .val (.ref b2), .val (.ref b19), .val (.ref b26)] [(.int (0 : Int32)), (.int (2 : Int32)), (.ref b2), (.long i1)])) rfl (by rw [hml]; rfl) (argsL := [(.ref b2), (.int (2 : Int32)), (.int (0 : Int32))]) (rest := [(.long i1)]) (lenOf pd_1 rfl) rfl (by show 2 * 0 + _ ≤ _; exact Nat.le_of_eq rfl) (hb hby at_125) (fun _ _ => ⟨rfl, e184, (by decide : 4 + 0 ≤ _), (by decide : 20 + 0 ≤ _)⟩)
    dsimp only [Pt.U, Pt.locs, Pt.cells, Pt.slots] at X197 l197 y197 z197 st197 hQ197
    subst l197 y197 z197
    obtain ⟨rfl, N197q, e197⟩ := hQ197
    have N197 := Fr.app N178 N197q
    have P197 : own_Go p e below S0 (T197.setTop (mkF m 128 #[.val (.long i0), .second, .val (.long i1), .second, .val (.long i2), .second, .val (.long i3), .second, .val (.long i4), .second, .val (.int i5), .val (.int (2 : Int32)), .val (.ref b2), .val (.ref b19), .val (.ref b26)] [(.long i1), (.long i1)])) := fun t k => P196 t (st197 _ k)
    obtain ⟨cl198, Ar198, q198, Sz198, Nn198, Hh198, Gg198⟩ := id F178_0
    have hin198 : ¬ ((1 : Int32) < 0 ∨ cl198.slots.size ≤ ((1 : Int32)).toNatClampNeg) := inb_of Sz198 ⟨by decide, by decide⟩
    have hat198 : cl198.slots[((1 : Int32)).toNatClampNeg]? = some (.long i0) := Has.at Hh198 hin198 rfl
    have P199 : own_Go p e below S0 (T197.setTop (mkF m 141 #[.val (.long i0), .second, .val (.long i1), .second, .val (.long i2), .second, .val (.long i3), .second, .val (.long i4), .second, .val (.int i5), .val (.int (2 : Int32)), .val (.ref b2), .val (.ref b19), .val (.ref b26)] [(.int (1 : Int32)), (.int (2 : Int32)), (.ref b2), (.long i0)])) := fun t k => P197 t (by
      show Steps p.tables e below (T197.setTop (mkF m 128 #[.val (.long i0), .second, .val (.long i1), .second, .val (.long i2), .second, .val (.long i3), .second, .val (.long i4), .second, .val (.int i5), .val (.int (2 : Int32)), .val (.ref b2), .val (.ref b19), .val (.ref b26)] [(.long i1), (.long i1)])) t
      refine XS.lcmp X197.here hx rfl (hb hby at_128) rfl ?_
      refine XS.ifNo X197.here hx rfl (hb hby at_129) rfl ((if0 _ _).trans (teq ((lw_eq i1 i1).mpr rfl)).2) ?_
      refine XS.aload X197.here hx rfl (hb hby at_132) rfl rfl ?_
      refine XS.iconst X197.here hx rfl (hb hby at_134) ?_
      show Steps p.tables e below (T197.setTop (mkF m 135 #[.val (.long i0), .second, .val (.long i1), .second, .val (.long i2), .second, .val (.long i3), .second, .val (.long i4), .second, .val (.int i5), .val (.int (2 : Int32)), .val (.ref b2), .val (.ref b19), .val (.ref b26)] [(.int (1 : Int32)), (.ref b26)])) t
      refine X197.laload hx (j := (1 : Int32)) (v := (.long i0)) (by rw [e197]; exact Ar198.1) (State.isArrayOf_alike hZ.alike Ar198.2.1) Ar198.2.2 hin198 hat198 (g := (mkF m 135 #[.val (.long i0), .second, .val (.long i1), .second, .val (.long i2), .second, .val (.long i3), .second, .val (.long i4), .second, .val (.int i5), .val (.int (2 : Int32)), .val (.ref b2), .val (.ref b19), .val (.ref b26)] [(.int (1 : Int32)), (.ref b26)])) rfl rfl (hb hby at_135) _ ?_
      refine XS.aload X197.here hx rfl (hb hby at_136) rfl rfl ?_
      show Steps p.tables e below (T197.setTop (mkF m 138 #[.val (.long i0), .second, .val (.long i1), .second, .val (.long i2), .second, .val (.long i3), .second, .val (.long i4), .second, .val (.int i5), .val (.int (2 : Int32)), .val (.ref b2), .val (.ref b19), .val (.ref b26)] [(.ref b2), (.long i0)])) t
      refine XS.iload X197.here hx rfl (hb hby at_138) rfl ?_
      refine XS.iconst X197.here hx rfl (hb hby at_140) ?_
      show Steps p.tables e below (T197.setTop (mkF m 141 #[.val (.long i0), .second, .val (.long i1), .second, .val (.long i2), .second, .val (.long i3), .second, .val (.long i4), .second, .val (.int i5), .val (.int (2 : Int32)), .val (.ref b2), .val (.ref b19), .val (.ref b26)] [(.int (1 : Int32)), (.int (2 : Int32)), (.ref b2), (.long i0)])) t
      exact k)
    obtain ⟨_, _, ⟨T200, L200, k200, n200⟩, -, X200, ⟨Lc200, hQ200, l200, y200, z200⟩, st200⟩ := Jvm.LawKit.callS X197 hx (y := (⟨"com/example/splice/splice/KeysReversePinLaw", "at", "([JII)J"⟩ : MethodName)) hown (mvT hZ (hw _ (List.mem_of_getElem? (i := 22) rfl))) (mvT hZ (hw _ (List.mem_of_getElem? (i := 23) rfl))) (mvT hZ (hw _ (List.mem_of_getElem? (i := 24) rfl))) (mvT hZ (hw _ (List.mem_of_getElem? (i := 25) rfl))) (by decide) (backOf (W := 2) (rm4_2_1 l Z a0 hw [] b2 k2 i0 i1 i2 i3 i4 T178.heap n0 (Nat.le_trans Z0 K178.1) F195) hZ (hw _ (List.mem_of_getElem? (i := 25) rfl)) (hw _ (List.mem_of_getElem? (i := 24) rfl)) (by decide) (by decide)) (g := (mkF m 141 #[.val (.long i0), .second, .val (.long i1), .second, .val (.long i2), .second, .val (.long i3), .second, .val (.long i4), .second, .val (.int i5), .val (.int (2 : Int32)), .val (.ref b2), .val (.ref b19), .val (.ref b26)] [(.int (1 : Int32)), (.int (2 : Int32)), (.ref b2), (.long i0)])) rfl (by rw [hml]; rfl) (argsL := [(.ref b2), (.int (2 : Int32)), (.int (1 : Int32))]) (rest := [(.long i0)]) (lenOf pd_1 rfl) rfl (by show 2 * 0 + _ ≤ _; exact Nat.le_of_eq rfl) (hb hby at_141) (fun _ _ => ⟨rfl, e197, (by decide : 4 + 0 ≤ _), (by decide : 20 + 0 ≤ _)⟩)
    dsimp only [Pt.U, Pt.locs, Pt.cells, Pt.slots] at X200 l200 y200 z200 st200 hQ200
    subst l200 y200 z200
    obtain ⟨rfl, N200q, e200⟩ := hQ200
    have N200 := Fr.app N197 N200q
    have P200 : own_Go p e below S0 (T200.setTop (mkF m 144 #[.val (.long i0), .second, .val (.long i1), .second, .val (.long i2), .second, .val (.long i3), .second, .val (.long i4), .second, .val (.int i5), .val (.int (2 : Int32)), .val (.ref b2), .val (.ref b19), .val (.ref b26)] [(.long i0), (.long i0)])) := fun t k => P199 t (st200 _ k)
    obtain ⟨cl201, Ar201, q201, Sz201, Nn201, Hh201, Gg201⟩ := id F178_0
    have hin201 : ¬ ((2 : Int32) < 0 ∨ cl201.slots.size ≤ ((2 : Int32)).toNatClampNeg) := inb_of Sz201 ⟨by decide, by decide⟩
    have hat201 : cl201.slots[((2 : Int32)).toNatClampNeg]? = some (.long i2) := Has.at Hh201 hin201 rfl
    have P202 : own_Go p e below S0 (T200.setTop (mkF m 157 #[.val (.long i0), .second, .val (.long i1), .second, .val (.long i2), .second, .val (.long i3), .second, .val (.long i4), .second, .val (.int i5), .val (.int (2 : Int32)), .val (.ref b2), .val (.ref b19), .val (.ref b26)] [(.int (2 : Int32)), (.int (2 : Int32)), (.ref b2), (.long i2)])) := fun t k => P200 t (by
      show Steps p.tables e below (T200.setTop (mkF m 144 #[.val (.long i0), .second, .val (.long i1), .second, .val (.long i2), .second, .val (.long i3), .second, .val (.long i4), .second, .val (.int i5), .val (.int (2 : Int32)), .val (.ref b2), .val (.ref b19), .val (.ref b26)] [(.long i0), (.long i0)])) t
      refine XS.lcmp X200.here hx rfl (hb hby at_144) rfl ?_
      refine XS.ifNo X200.here hx rfl (hb hby at_145) rfl ((if0 _ _).trans (teq ((lw_eq i0 i0).mpr rfl)).2) ?_
      refine XS.aload X200.here hx rfl (hb hby at_148) rfl rfl ?_
      refine XS.iconst X200.here hx rfl (hb hby at_150) ?_
      show Steps p.tables e below (T200.setTop (mkF m 151 #[.val (.long i0), .second, .val (.long i1), .second, .val (.long i2), .second, .val (.long i3), .second, .val (.long i4), .second, .val (.int i5), .val (.int (2 : Int32)), .val (.ref b2), .val (.ref b19), .val (.ref b26)] [(.int (2 : Int32)), (.ref b26)])) t
      refine X200.laload hx (j := (2 : Int32)) (v := (.long i2)) (by rw [e200]; exact Ar201.1) (State.isArrayOf_alike hZ.alike Ar201.2.1) Ar201.2.2 hin201 hat201 (g := (mkF m 151 #[.val (.long i0), .second, .val (.long i1), .second, .val (.long i2), .second, .val (.long i3), .second, .val (.long i4), .second, .val (.int i5), .val (.int (2 : Int32)), .val (.ref b2), .val (.ref b19), .val (.ref b26)] [(.int (2 : Int32)), (.ref b26)])) rfl rfl (hb hby at_151) _ ?_
      refine XS.aload X200.here hx rfl (hb hby at_152) rfl rfl ?_
      show Steps p.tables e below (T200.setTop (mkF m 154 #[.val (.long i0), .second, .val (.long i1), .second, .val (.long i2), .second, .val (.long i3), .second, .val (.long i4), .second, .val (.int i5), .val (.int (2 : Int32)), .val (.ref b2), .val (.ref b19), .val (.ref b26)] [(.ref b2), (.long i2)])) t
      refine XS.iload X200.here hx rfl (hb hby at_154) rfl ?_
      refine XS.iconst X200.here hx rfl (hb hby at_156) ?_
      show Steps p.tables e below (T200.setTop (mkF m 157 #[.val (.long i0), .second, .val (.long i1), .second, .val (.long i2), .second, .val (.long i3), .second, .val (.long i4), .second, .val (.int i5), .val (.int (2 : Int32)), .val (.ref b2), .val (.ref b19), .val (.ref b26)] [(.int (2 : Int32)), (.int (2 : Int32)), (.ref b2), (.long i2)])) t
      exact k)
    obtain ⟨_, _, ⟨T203, L203, k203, n203⟩, -, X203, ⟨Lc203, hQ203, l203, y203, z203⟩, st203⟩ := Jvm.LawKit.callS X200 hx (y := (⟨"com/example/splice/splice/KeysReversePinLaw", "at", "([JII)J"⟩ : MethodName)) hown (mvT hZ (hw _ (List.mem_of_getElem? (i := 22) rfl))) (mvT hZ (hw _ (List.mem_of_getElem? (i := 23) rfl))) (mvT hZ (hw _ (List.mem_of_getElem? (i := 24) rfl))) (mvT hZ (hw _ (List.mem_of_getElem? (i := 25) rfl))) (by decide) (backOf (W := 2) (rm4_2_2 l Z a0 hw [] b2 k2 i0 i1 i2 i3 i4 T178.heap n0 (Nat.le_trans Z0 K178.1) F195) hZ (hw _ (List.mem_of_getElem? (i := 25) rfl)) (hw _ (List.mem_of_getElem? (i := 24) rfl)) (by decide) (by decide)) (g := (mkF m 157 #[.val (.long i0), .second, .val (.long i1), .second, .val (.long i2), .second, .val (.long i3), .second, .val (.long i4), .second, .val (.int i5), .val (.int (2 : Int32)), .val (.ref b2), .val (.ref b19), .val (.ref b26)] [(.int (2 : Int32)), (.int (2 : Int32)), (.ref b2), (.long i2)])) rfl (by rw [hml]; rfl) (argsL := [(.ref b2), (.int (2 : Int32)), (.int (2 : Int32))]) (rest := [(.long i2)]) (lenOf pd_1 rfl) rfl (by show 2 * 0 + _ ≤ _; exact Nat.le_of_eq rfl) (hb hby at_157) (fun _ _ => ⟨rfl, e200, (by decide : 4 + 0 ≤ _), (by decide : 20 + 0 ≤ _)⟩)
    dsimp only [Pt.U, Pt.locs, Pt.cells, Pt.slots] at X203 l203 y203 z203 st203 hQ203
    subst l203 y203 z203
    obtain ⟨rfl, N203q, e203⟩ := hQ203
    have N203 := Fr.app N200 N203q
    have P203 : own_Go p e below S0 (T203.setTop (mkF m 160 #[.val (.long i0), .second, .val (.long i1), .second, .val (.long i2), .second, .val (.long i3), .second, .val (.long i4), .second, .val (.int i5), .val (.int (2 : Int32)), .val (.ref b2), .val (.ref b19), .val (.ref b26)] [(.long i2), (.long i2)])) := fun t k => P202 t (st203 _ k)
    obtain ⟨cl204, Ar204, q204, Sz204, Nn204, Hh204, Gg204⟩ := id F178_0
    have hin204 : ¬ ((3 : Int32) < 0 ∨ cl204.slots.size ≤ ((3 : Int32)).toNatClampNeg) := inb_of Sz204 ⟨by decide, by decide⟩
    have hat204 : cl204.slots[((3 : Int32)).toNatClampNeg]? = some (.long i3) := Has.at Hh204 hin204 rfl
    have P205 : own_Go p e below S0 (T203.setTop (mkF m 173 #[.val (.long i0), .second, .val (.long i1), .second, .val (.long i2), .second, .val (.long i3), .second, .val (.long i4), .second, .val (.int i5), .val (.int (2 : Int32)), .val (.ref b2), .val (.ref b19), .val (.ref b26)] [(.int (3 : Int32)), (.int (2 : Int32)), (.ref b2), (.long i3)])) := fun t k => P203 t (by
      show Steps p.tables e below (T203.setTop (mkF m 160 #[.val (.long i0), .second, .val (.long i1), .second, .val (.long i2), .second, .val (.long i3), .second, .val (.long i4), .second, .val (.int i5), .val (.int (2 : Int32)), .val (.ref b2), .val (.ref b19), .val (.ref b26)] [(.long i2), (.long i2)])) t
      refine XS.lcmp X203.here hx rfl (hb hby at_160) rfl ?_
      refine XS.ifNo X203.here hx rfl (hb hby at_161) rfl ((if0 _ _).trans (teq ((lw_eq i2 i2).mpr rfl)).2) ?_
      refine XS.aload X203.here hx rfl (hb hby at_164) rfl rfl ?_
      refine XS.iconst X203.here hx rfl (hb hby at_166) ?_
      show Steps p.tables e below (T203.setTop (mkF m 167 #[.val (.long i0), .second, .val (.long i1), .second, .val (.long i2), .second, .val (.long i3), .second, .val (.long i4), .second, .val (.int i5), .val (.int (2 : Int32)), .val (.ref b2), .val (.ref b19), .val (.ref b26)] [(.int (3 : Int32)), (.ref b26)])) t
      refine X203.laload hx (j := (3 : Int32)) (v := (.long i3)) (by rw [e203]; exact Ar204.1) (State.isArrayOf_alike hZ.alike Ar204.2.1) Ar204.2.2 hin204 hat204 (g := (mkF m 167 #[.val (.long i0), .second, .val (.long i1), .second, .val (.long i2), .second, .val (.long i3), .second, .val (.long i4), .second, .val (.int i5), .val (.int (2 : Int32)), .val (.ref b2), .val (.ref b19), .val (.ref b26)] [(.int (3 : Int32)), (.ref b26)])) rfl rfl (hb hby at_167) _ ?_
      refine XS.aload X203.here hx rfl (hb hby at_168) rfl rfl ?_
      show Steps p.tables e below (T203.setTop (mkF m 170 #[.val (.long i0), .second, .val (.long i1), .second, .val (.long i2), .second, .val (.long i3), .second, .val (.long i4), .second, .val (.int i5), .val (.int (2 : Int32)), .val (.ref b2), .val (.ref b19), .val (.ref b26)] [(.ref b2), (.long i3)])) t
      refine XS.iload X203.here hx rfl (hb hby at_170) rfl ?_
      refine XS.iconst X203.here hx rfl (hb hby at_172) ?_
      show Steps p.tables e below (T203.setTop (mkF m 173 #[.val (.long i0), .second, .val (.long i1), .second, .val (.long i2), .second, .val (.long i3), .second, .val (.long i4), .second, .val (.int i5), .val (.int (2 : Int32)), .val (.ref b2), .val (.ref b19), .val (.ref b26)] [(.int (3 : Int32)), (.int (2 : Int32)), (.ref b2), (.long i3)])) t
      exact k)
    obtain ⟨_, _, ⟨T206, L206, k206, n206⟩, -, X206, ⟨Lc206, hQ206, l206, y206, z206⟩, st206⟩ := Jvm.LawKit.callS X203 hx (y := (⟨"com/example/splice/splice/KeysReversePinLaw", "at", "([JII)J"⟩ : MethodName)) hown (mvT hZ (hw _ (List.mem_of_getElem? (i := 22) rfl))) (mvT hZ (hw _ (List.mem_of_getElem? (i := 23) rfl))) (mvT hZ (hw _ (List.mem_of_getElem? (i := 24) rfl))) (mvT hZ (hw _ (List.mem_of_getElem? (i := 25) rfl))) (by decide) (backOf (W := 2) (rm4_2_3 l Z a0 hw [] b2 k2 i0 i1 i2 i3 i4 T178.heap n0 (Nat.le_trans Z0 K178.1) F195) hZ (hw _ (List.mem_of_getElem? (i := 25) rfl)) (hw _ (List.mem_of_getElem? (i := 24) rfl)) (by decide) (by decide)) (g := (mkF m 173 #[.val (.long i0), .second, .val (.long i1), .second, .val (.long i2), .second, .val (.long i3), .second, .val (.long i4), .second, .val (.int i5), .val (.int (2 : Int32)), .val (.ref b2), .val (.ref b19), .val (.ref b26)] [(.int (3 : Int32)), (.int (2 : Int32)), (.ref b2), (.long i3)])) rfl (by rw [hml]; rfl) (argsL := [(.ref b2), (.int (2 : Int32)), (.int (3 : Int32))]) (rest := [(.long i3)]) (lenOf pd_1 rfl) rfl (by show 2 * 0 + _ ≤ _; exact Nat.le_of_eq rfl) (hb hby at_173) (fun _ _ => ⟨rfl, e203, (by decide : 4 + 0 ≤ _), (by decide : 20 + 0 ≤ _)⟩)
    dsimp only [Pt.U, Pt.locs, Pt.cells, Pt.slots] at X206 l206 y206 z206 st206 hQ206
    subst l206 y206 z206
    obtain ⟨rfl, N206q, e206⟩ := hQ206
    have N206 := Fr.app N203 N206q
    have P206 : own_Go p e below S0 (T206.setTop (mkF m 176 #[.val (.long i0), .second, .val (.long i1), .second, .val (.long i2), .second, .val (.long i3), .second, .val (.long i4), .second, .val (.int i5), .val (.int (2 : Int32)), .val (.ref b2), .val (.ref b19), .val (.ref b26)] [(.long i3), (.long i3)])) := fun t k => P205 t (st206 _ k)
    obtain ⟨cl207, Ar207, q207, Sz207, Nn207, Hh207, Gg207⟩ := id F178_0
    have hin207 : ¬ ((4 : Int32) < 0 ∨ cl207.slots.size ≤ ((4 : Int32)).toNatClampNeg) := inb_of Sz207 ⟨by decide, by decide⟩
    have hat207 : cl207.slots[((4 : Int32)).toNatClampNeg]? = some (.long i4) := Has.at Hh207 hin207 rfl
    have P208 : own_Go p e below S0 (T206.setTop (mkF m 189 #[.val (.long i0), .second, .val (.long i1), .second, .val (.long i2), .second, .val (.long i3), .second, .val (.long i4), .second, .val (.int i5), .val (.int (2 : Int32)), .val (.ref b2), .val (.ref b19), .val (.ref b26)] [(.int (4 : Int32)), (.int (2 : Int32)), (.ref b2), (.long i4)])) := fun t k => P206 t (by
      show Steps p.tables e below (T206.setTop (mkF m 176 #[.val (.long i0), .second, .val (.long i1), .second, .val (.long i2), .second, .val (.long i3), .second, .val (.long i4), .second, .val (.int i5), .val (.int (2 : Int32)), .val (.ref b2), .val (.ref b19), .val (.ref b26)] [(.long i3), (.long i3)])) t
      refine XS.lcmp X206.here hx rfl (hb hby at_176) rfl ?_
      refine XS.ifNo X206.here hx rfl (hb hby at_177) rfl ((if0 _ _).trans (teq ((lw_eq i3 i3).mpr rfl)).2) ?_
      refine XS.aload X206.here hx rfl (hb hby at_180) rfl rfl ?_
      refine XS.iconst X206.here hx rfl (hb hby at_182) ?_
      show Steps p.tables e below (T206.setTop (mkF m 183 #[.val (.long i0), .second, .val (.long i1), .second, .val (.long i2), .second, .val (.long i3), .second, .val (.long i4), .second, .val (.int i5), .val (.int (2 : Int32)), .val (.ref b2), .val (.ref b19), .val (.ref b26)] [(.int (4 : Int32)), (.ref b26)])) t
      refine X206.laload hx (j := (4 : Int32)) (v := (.long i4)) (by rw [e206]; exact Ar207.1) (State.isArrayOf_alike hZ.alike Ar207.2.1) Ar207.2.2 hin207 hat207 (g := (mkF m 183 #[.val (.long i0), .second, .val (.long i1), .second, .val (.long i2), .second, .val (.long i3), .second, .val (.long i4), .second, .val (.int i5), .val (.int (2 : Int32)), .val (.ref b2), .val (.ref b19), .val (.ref b26)] [(.int (4 : Int32)), (.ref b26)])) rfl rfl (hb hby at_183) _ ?_
      refine XS.aload X206.here hx rfl (hb hby at_184) rfl rfl ?_
      show Steps p.tables e below (T206.setTop (mkF m 186 #[.val (.long i0), .second, .val (.long i1), .second, .val (.long i2), .second, .val (.long i3), .second, .val (.long i4), .second, .val (.int i5), .val (.int (2 : Int32)), .val (.ref b2), .val (.ref b19), .val (.ref b26)] [(.ref b2), (.long i4)])) t
      refine XS.iload X206.here hx rfl (hb hby at_186) rfl ?_
      refine XS.iconst X206.here hx rfl (hb hby at_188) ?_
      show Steps p.tables e below (T206.setTop (mkF m 189 #[.val (.long i0), .second, .val (.long i1), .second, .val (.long i2), .second, .val (.long i3), .second, .val (.long i4), .second, .val (.int i5), .val (.int (2 : Int32)), .val (.ref b2), .val (.ref b19), .val (.ref b26)] [(.int (4 : Int32)), (.int (2 : Int32)), (.ref b2), (.long i4)])) t
      exact k)
    obtain ⟨_, _, ⟨T209, L209, k209, n209⟩, -, X209, ⟨Lc209, hQ209, l209, y209, z209⟩, st209⟩ := Jvm.LawKit.callS X206 hx (y := (⟨"com/example/splice/splice/KeysReversePinLaw", "at", "([JII)J"⟩ : MethodName)) hown (mvT hZ (hw _ (List.mem_of_getElem? (i := 22) rfl))) (mvT hZ (hw _ (List.mem_of_getElem? (i := 23) rfl))) (mvT hZ (hw _ (List.mem_of_getElem? (i := 24) rfl))) (mvT hZ (hw _ (List.mem_of_getElem? (i := 25) rfl))) (by decide) (backOf (W := 2) (rm4_2_4 l Z a0 hw [] b2 k2 i0 i1 i2 i3 i4 T178.heap n0 (Nat.le_trans Z0 K178.1) F195) hZ (hw _ (List.mem_of_getElem? (i := 25) rfl)) (hw _ (List.mem_of_getElem? (i := 24) rfl)) (by decide) (by decide)) (g := (mkF m 189 #[.val (.long i0), .second, .val (.long i1), .second, .val (.long i2), .second, .val (.long i3), .second, .val (.long i4), .second, .val (.int i5), .val (.int (2 : Int32)), .val (.ref b2), .val (.ref b19), .val (.ref b26)] [(.int (4 : Int32)), (.int (2 : Int32)), (.ref b2), (.long i4)])) rfl (by rw [hml]; rfl) (argsL := [(.ref b2), (.int (2 : Int32)), (.int (4 : Int32))]) (rest := [(.long i4)]) (lenOf pd_1 rfl) rfl (by show 2 * 0 + _ ≤ _; exact Nat.le_of_eq rfl) (hb hby at_189) (fun _ _ => ⟨rfl, e206, (by decide : 4 + 0 ≤ _), (by decide : 20 + 0 ≤ _)⟩)
    dsimp only [Pt.U, Pt.locs, Pt.cells, Pt.slots] at X209 l209 y209 z209 st209 hQ209
    subst l209 y209 z209
    obtain ⟨rfl, N209q, e209⟩ := hQ209
    have N209 := Fr.app N206 N209q
    have P209 : own_Go p e below S0 (T209.setTop (mkF m 192 #[.val (.long i0), .second, .val (.long i1), .second, .val (.long i2), .second, .val (.long i3), .second, .val (.long i4), .second, .val (.int i5), .val (.int (2 : Int32)), .val (.ref b2), .val (.ref b19), .val (.ref b26)] [(.long i4), (.long i4)])) := fun t k => P208 t (st209 _ k)
    have P210 : own_Go p e below S0 (T209.setTop (mkF m 201 #[.val (.long i0), .second, .val (.long i1), .second, .val (.long i2), .second, .val (.long i3), .second, .val (.long i4), .second, .val (.int i5), .val (.int (2 : Int32)), .val (.ref b2), .val (.ref b19), .val (.ref b26)] [(.int (1 : Int32))])) := fun t k => P209 t (by
      show Steps p.tables e below (T209.setTop (mkF m 192 #[.val (.long i0), .second, .val (.long i1), .second, .val (.long i2), .second, .val (.long i3), .second, .val (.long i4), .second, .val (.int i5), .val (.int (2 : Int32)), .val (.ref b2), .val (.ref b19), .val (.ref b26)] [(.long i4), (.long i4)])) t
      refine XS.lcmp X209.here hx rfl (hb hby at_192) rfl ?_
      refine XS.ifNo X209.here hx rfl (hb hby at_193) rfl ((if0 _ _).trans (teq ((lw_eq i4 i4).mpr rfl)).2) ?_
      refine XS.iconst X209.here hx rfl (hb hby at_196) ?_
      refine XS.goto X209.here hx rfl (pc0 := 197) (pc' := 201) rfl (hb hby at_197) (by decide) (by decide) ?_
      show Steps p.tables e below (T209.setTop (mkF m 201 #[.val (.long i0), .second, .val (.long i1), .second, .val (.long i2), .second, .val (.long i3), .second, .val (.long i4), .second, .val (.int i5), .val (.int (2 : Int32)), .val (.ref b2), .val (.ref b19), .val (.ref b26)] [(.int (1 : Int32))])) t
      exact k)
    have F211 : Exa Z T178.heap b19 "com/example/splice/splice/XPath$Keys" := F173.keep Kc178
    have F212 : Arv Z h26 b4_22 k4_22 .long (8 : Int32) [(.long (0 : Int64)), (.long (0 : Int64)), (.long (0 : Int64)), (.long (0 : Int64)), (.long (0 : Int64)), (.long (0 : Int64)), (.long (0 : Int64)), (.long (0 : Int64))] (.long (0 : Int64)) := F22_1.ext E26
    have F213 : Arv Z h28 b4_22 k4_22 .long (8 : Int32) [(.long (0 : Int64)), (.long (0 : Int64)), (.long (0 : Int64)), (.long (0 : Int64)), (.long (0 : Int64)), (.long (0 : Int64)), (.long (0 : Int64)), (.long (0 : Int64))] (.long (0 : Int64)) := F212.other W28 ne_b4_22_b26
    have F214 : Arv Z h31 b4_22 k4_22 .long (8 : Int32) [(.long (0 : Int64)), (.long (0 : Int64)), (.long (0 : Int64)), (.long (0 : Int64)), (.long (0 : Int64)), (.long (0 : Int64)), (.long (0 : Int64)), (.long (0 : Int64))] (.long (0 : Int64)) := F213.other W31 ne_b4_22_b26
    have F215 : Arv Z h34 b4_22 k4_22 .long (8 : Int32) [(.long (0 : Int64)), (.long (0 : Int64)), (.long (0 : Int64)), (.long (0 : Int64)), (.long (0 : Int64)), (.long (0 : Int64)), (.long (0 : Int64)), (.long (0 : Int64))] (.long (0 : Int64)) := F214.other W34 ne_b4_22_b26
    have F216 : Arv Z h37 b4_22 k4_22 .long (8 : Int32) [(.long (0 : Int64)), (.long (0 : Int64)), (.long (0 : Int64)), (.long (0 : Int64)), (.long (0 : Int64)), (.long (0 : Int64)), (.long (0 : Int64)), (.long (0 : Int64))] (.long (0 : Int64)) := F215.other W37 ne_b4_22_b26
    have F217 : Arv Z h40 b4_22 k4_22 .long (8 : Int32) [(.long (0 : Int64)), (.long (0 : Int64)), (.long (0 : Int64)), (.long (0 : Int64)), (.long (0 : Int64)), (.long (0 : Int64)), (.long (0 : Int64)), (.long (0 : Int64))] (.long (0 : Int64)) := F216.other W40 ne_b4_22_b26
    have F218 : Arv Z h54 b4_22 k4_22 .long (8 : Int32) [(.long (0 : Int64)), (.long (0 : Int64)), (.long (0 : Int64)), (.long (0 : Int64)), (.long (0 : Int64)), (.long (0 : Int64)), (.long (0 : Int64)), (.long (0 : Int64))] (.long (0 : Int64)) := F217.other W54 (Ne.symm ne_b19_b4_22)
    have F219 : Arv Z h172 b4_22 k4_22 .long (8 : Int32) [(.long (0 : Int64)), (.long (0 : Int64)), (.long (0 : Int64)), (.long (0 : Int64)), (.long (0 : Int64)), (.long (0 : Int64)), (.long (0 : Int64)), (.long (0 : Int64))] (.long (0 : Int64)) := F218.other W172 (Ne.symm ne_b19_b4_22)
    have F220 : Arv Z T178.heap b4_22 k4_22 .long (8 : Int32) [(.long (0 : Int64)), (.long (0 : Int64)), (.long (0 : Int64)), (.long (0 : Int64)), (.long (0 : Int64)), (.long (0 : Int64)), (.long (0 : Int64)), (.long (0 : Int64))] (.long (0 : Int64)) := F219.keep Kc178 (ninS ne_b4_22_b26 nin0)
    obtain ⟨fs, hr, hrun, hended, hW, hsame⟩ := X209.leave (v := some (.int (1 : Int32))) (fun h => by rw [Bd.returns] at h; cases h)
    refine ⟨_, _, own_from hS0 (P210 _ ?_), hrun, hended, _, _, rfl, ?_, ⟨_, rfl⟩, hW, hsame.mono (by decide) (by decide)⟩
    · show Steps p.tables e below (T209.setTop (mkF m 201 #[.val (.long i0), .second, .val (.long i1), .second, .val (.long i2), .second, .val (.long i3), .second, .val (.long i4), .second, .val (.int i5), .val (.int (2 : Int32)), .val (.ref b2), .val (.ref b19), .val (.ref b26)] [(.int (1 : Int32))])) _
      exact retN X209 hx (t := .boolean) Bd.returns (by simp) (hb hby at_201) hr
    · show Q0 Z i0 i1 i2 i3 i4 i5 h0 n0 _ T209.heap _
      rw [e209]
      exact ⟨rfl, N209⟩
  · skip
    subst c56
    have F221 : Exa Z h54 b19 "com/example/splice/splice/XPath$Keys" := F47.wr W54
    have F222 : Fld Z h26 b19 "com/example/splice/splice/XPath$Keys" "size" "I" (.int (0 : Int32)) := F22_0.ext E26
    have F223 : Fld Z h28 b19 "com/example/splice/splice/XPath$Keys" "size" "I" (.int (0 : Int32)) := F222.other W28 (Or.inl ne_b19_b26)
    have F224 : Fld Z h31 b19 "com/example/splice/splice/XPath$Keys" "size" "I" (.int (0 : Int32)) := F223.other W31 (Or.inl ne_b19_b26)
    have F225 : Fld Z h34 b19 "com/example/splice/splice/XPath$Keys" "size" "I" (.int (0 : Int32)) := F224.other W34 (Or.inl ne_b19_b26)
    have F226 : Fld Z h37 b19 "com/example/splice/splice/XPath$Keys" "size" "I" (.int (0 : Int32)) := F225.other W37 (Or.inl ne_b19_b26)
    have F227 : Fld Z h40 b19 "com/example/splice/splice/XPath$Keys" "size" "I" (.int (0 : Int32)) := F226.other W40 (Or.inl ne_b19_b26)
    have F228 : Fld Z h54 b19 "com/example/splice/splice/XPath$Keys" "size" "I" (.int (0 : Int32)) := F227.other W54 (Or.inr (slot_ne (Or.inl (hw _ (List.mem_of_getElem? (i := 15) rfl))) (Or.inl (hw _ (List.mem_of_getElem? (i := 12) rfl))) (by decide) (t := .int) (t' := (.array .long)) (by decide) (by decide)))
    have P229 : own_Go p e below S0 (T54.setTop (mkF m 82 #[.val (.long i0), .second, .val (.long i1), .second, .val (.long i2), .second, .val (.long i3), .second, .val (.long i4), .second, .val (.int i5), .val (.int (3 : Int32)), .val (.ref b2), .val (.ref b19), .unset] [(.int (3 : Int32)), (.ref b19)])) := fun t k => P55 t (by
      show Steps p.tables e below (T54.setTop (mkF m 78 #[.val (.long i0), .second, .val (.long i1), .second, .val (.long i2), .second, .val (.long i3), .second, .val (.long i4), .second, .val (.int i5), .val (.int (3 : Int32)), .val (.ref b2), .val (.ref b19), .unset] [])) t
      refine XS.aload X54.here hx rfl (hb hby at_78) rfl rfl ?_
      refine XS.iload X54.here hx rfl (hb hby at_80) rfl ?_
      show Steps p.tables e below (T54.setTop (mkF m 82 #[.val (.long i0), .second, .val (.long i1), .second, .val (.long i2), .second, .val (.long i3), .second, .val (.long i4), .second, .val (.int i5), .val (.int (3 : Int32)), .val (.ref b2), .val (.ref b19), .unset] [(.int (3 : Int32)), (.ref b19)])) t
      exact k)
    obtain ⟨T230, h230, X230, e230, W230, st230⟩ := putF X54 hx hZ hown (host := "") (Or.inl (hw _ (List.mem_of_getElem? (i := 14) rfl))) Via.refl e54 F228 F221 (Or.inl (hw _ (List.mem_of_getElem? (i := 15) rfl))) (hw _ (List.mem_of_getElem? (i := 3) rfl)) (ty := .int) (by decide) rfl rfl (g := (mkF m 82 #[.val (.long i0), .second, .val (.long i1), .second, .val (.long i2), .second, .val (.long i3), .second, .val (.long i4), .second, .val (.int i5), .val (.int (3 : Int32)), .val (.ref b2), .val (.ref b19), .unset] [(.int (3 : Int32)), (.ref b19)])) rfl rfl (hb hby at_82)
    have K230 : Keep h0 h230 [] := K54.wr W230 (Or.inr o_b19)
    have N230 := Fr.snoc X230 N54 g_b19
    have F230w : Fld Z h230 b19 "com/example/splice/splice/XPath$Keys" "size" "I" (.int (3 : Int32)) := F228.same W230
    have P230 : own_Go p e below S0 (T230.setTop (mkF m 85 #[.val (.long i0), .second, .val (.long i1), .second, .val (.long i2), .second, .val (.long i3), .second, .val (.long i4), .second, .val (.int i5), .val (.int (3 : Int32)), .val (.ref b2), .val (.ref b19), .unset] [])) := fun t k => P229 t (st230 _ k)
    have F231 : Exa Z h230 b19 "com/example/splice/splice/XPath$Keys" := F221.wr W230
    have F232 : Fld Z h230 b19 "com/example/splice/splice/XPath$Keys" "keys" "[J" (.ref b26) := F54w.other W230 (Or.inr (slot_ne (Or.inl (hw _ (List.mem_of_getElem? (i := 12) rfl))) (Or.inl (hw _ (List.mem_of_getElem? (i := 15) rfl))) (by decide) (t := (.array .long)) (t' := .int) (by decide) (by decide)))
    have F233 : Arv Z h54 b26 k26 .long (5 : Int32) [(.long i0), (.long i1), (.long i2), (.long i3), (.long i4)] (.long (0 : Int64)) := V40.other W54 (Ne.symm ne_b19_b26)
    have F234 : Arv Z h230 b26 k26 .long (5 : Int32) [(.long i0), (.long i1), (.long i2), (.long i3), (.long i4)] (.long (0 : Int64)) := F233.other W230 (Ne.symm ne_b19_b26)
    have P235 : own_Go p e below S0 (T230.setTop (mkF m 87 #[.val (.long i0), .second, .val (.long i1), .second, .val (.long i2), .second, .val (.long i3), .second, .val (.long i4), .second, .val (.int i5), .val (.int (3 : Int32)), .val (.ref b2), .val (.ref b19), .unset] [(.ref b19)])) := fun t k => P230 t (by
      show Steps p.tables e below (T230.setTop (mkF m 85 #[.val (.long i0), .second, .val (.long i1), .second, .val (.long i2), .second, .val (.long i3), .second, .val (.long i4), .second, .val (.int i5), .val (.int (3 : Int32)), .val (.ref b2), .val (.ref b19), .unset] [])) t
      refine XS.aload X230.here hx rfl (hb hby at_85) rfl rfl ?_
      show Steps p.tables e below (T230.setTop (mkF m 87 #[.val (.long i0), .second, .val (.long i1), .second, .val (.long i2), .second, .val (.long i3), .second, .val (.long i4), .second, .val (.int i5), .val (.int (3 : Int32)), .val (.ref b2), .val (.ref b19), .unset] [(.ref b19)])) t
      exact k)
    obtain ⟨cq236, kq236, q236a, q236b, q236c⟩ := isOf hZ e230 F231
    obtain ⟨_, _, ⟨T236, L236, k236, n236⟩, -, X236, ⟨Lc236, hQ236, l236, y236, z236⟩, st236⟩ := X230.virtualBack hx (y := (⟨"com/example/splice/splice/XPath$Keys", "reverse", "()V"⟩ : MethodName)) (z := (⟨"com/example/splice/splice/XPath$Keys", "reverse", "()V"⟩ : MethodName)) hown (mvT hZ (hw _ (List.mem_of_getElem? (i := 16) rfl))) (mvT hZ (hw _ (List.mem_of_getElem? (i := 17) rfl))) (notFace_of_selects (args := #[]) (mvT hZ (hw _ (List.mem_of_getElem? (i := 19) rfl)))) (mvT hZ (hw _ (List.mem_of_getElem? (i := 19) rfl))) (mvT hZ (hw _ (List.mem_of_getElem? (i := 18) rfl))) (by decide) (backOf (W := 0) (rm3s3 l Z a0 hw [] b19 b26 k26 i0 i1 i2 i3 i4 h230 n0 (Nat.le_trans Z0 K230.1) F232 F230w F234 g_b26 ne_b19_b26) hZ (hw _ (List.mem_of_getElem? (i := 20) rfl)) (hw _ (List.mem_of_getElem? (i := 4) rfl)) (by decide) (by decide)) q236a q236c (g := (mkF m 87 #[.val (.long i0), .second, .val (.long i1), .second, .val (.long i2), .second, .val (.long i3), .second, .val (.long i4), .second, .val (.int i5), .val (.int (3 : Int32)), .val (.ref b2), .val (.ref b19), .unset] [(.ref b19)])) rfl (by rw [hml]; rfl) (Steps.refl _) (argsL := []) (rest := []) (lenOf pd_0 rfl) rfl (by show 2 * 0 + _ ≤ _; exact Nat.le_of_eq rfl) (hb hby at_87) (fun _ _ => ⟨rfl, e230, (by decide : 4 + 0 ≤ _), (by decide : 20 + 0 ≤ _)⟩)
    dsimp only [Pt.U, Pt.locs, Pt.cells, Pt.slots] at X236 l236 y236 z236 st236 hQ236
    subst l236 y236 z236
    obtain ⟨rfl, N236q, Kc236, F236_0⟩ := hQ236
    have N236 := Fr.app N230 N236q
    have K236 : Keep h0 T236.heap [] := Keep.trans K230 Kc236 (allS (Or.inr o_b26) all0)
    have P236 : own_Go p e below S0 (T236.setTop (mkF m 90 #[.val (.long i0), .second, .val (.long i1), .second, .val (.long i2), .second, .val (.long i3), .second, .val (.long i4), .second, .val (.int i5), .val (.int (3 : Int32)), .val (.ref b2), .val (.ref b19), .unset] [])) := fun t k => P235 t (st236.trans k)
    have F237 : Fld Z T236.heap b19 "com/example/splice/splice/XPath$Keys" "keys" "[J" (.ref b26) := F232.keep Kc236 (ninS ne_b19_b26 nin0)
    have P238 : own_Go p e below S0 (T236.setTop (mkF m 92 #[.val (.long i0), .second, .val (.long i1), .second, .val (.long i2), .second, .val (.long i3), .second, .val (.long i4), .second, .val (.int i5), .val (.int (3 : Int32)), .val (.ref b2), .val (.ref b19), .unset] [(.ref b19)])) := fun t k => P236 t (by
      show Steps p.tables e below (T236.setTop (mkF m 90 #[.val (.long i0), .second, .val (.long i1), .second, .val (.long i2), .second, .val (.long i3), .second, .val (.long i4), .second, .val (.int i5), .val (.int (3 : Int32)), .val (.ref b2), .val (.ref b19), .unset] [])) t
      refine XS.aload X236.here hx rfl (hb hby at_90) rfl rfl ?_
      show Steps p.tables e below (T236.setTop (mkF m 92 #[.val (.long i0), .second, .val (.long i1), .second, .val (.long i2), .second, .val (.long i3), .second, .val (.long i4), .second, .val (.int i5), .val (.int (3 : Int32)), .val (.ref b2), .val (.ref b19), .unset] [(.ref b19)])) t
      exact k)
    obtain ⟨T239, X239, e239, st239⟩ := getF X236 hx hZ hown (host := "") (Or.inl (hw _ (List.mem_of_getElem? (i := 13) rfl))) Via.refl rfl F237 (g := (mkF m 92 #[.val (.long i0), .second, .val (.long i1), .second, .val (.long i2), .second, .val (.long i3), .second, .val (.long i4), .second, .val (.int i5), .val (.int (3 : Int32)), .val (.ref b2), .val (.ref b19), .unset] [(.ref b19)])) rfl rfl (hb hby at_92)
    have P239 : own_Go p e below S0 (T239.setTop (mkF m 95 #[.val (.long i0), .second, .val (.long i1), .second, .val (.long i2), .second, .val (.long i3), .second, .val (.long i4), .second, .val (.int i5), .val (.int (3 : Int32)), .val (.ref b2), .val (.ref b19), .unset] [(.ref b26)])) := fun t k => P238 t (st239 _ k)
    have F240 : Fld Z T236.heap b19 "com/example/splice/splice/XPath$Keys" "size" "I" (.int (3 : Int32)) := F230w.keep Kc236 (ninS ne_b19_b26 nin0)
    have P241 : own_Go p e below S0 (T239.setTop (mkF m 99 #[.val (.long i0), .second, .val (.long i1), .second, .val (.long i2), .second, .val (.long i3), .second, .val (.long i4), .second, .val (.int i5), .val (.int (3 : Int32)), .val (.ref b2), .val (.ref b19), .val (.ref b26)] [(.ref b19)])) := fun t k => P239 t (by
      show Steps p.tables e below (T239.setTop (mkF m 95 #[.val (.long i0), .second, .val (.long i1), .second, .val (.long i2), .second, .val (.long i3), .second, .val (.long i4), .second, .val (.int i5), .val (.int (3 : Int32)), .val (.ref b2), .val (.ref b19), .unset] [(.ref b26)])) t
      refine XS.astore X239.here hx rfl (hb hby at_95) rfl rfl (l' := #[.val (.long i0), .second, .val (.long i1), .second, .val (.long i2), .second, .val (.long i3), .second, .val (.long i4), .second, .val (.int i5), .val (.int (3 : Int32)), .val (.ref b2), .val (.ref b19), .val (.ref b26)]) rfl ?_
      refine XS.aload X239.here hx rfl (hb hby at_97) rfl rfl ?_
      show Steps p.tables e below (T239.setTop (mkF m 99 #[.val (.long i0), .second, .val (.long i1), .second, .val (.long i2), .second, .val (.long i3), .second, .val (.long i4), .second, .val (.int i5), .val (.int (3 : Int32)), .val (.ref b2), .val (.ref b19), .val (.ref b26)] [(.ref b19)])) t
      exact k)
    obtain ⟨T242, X242, e242, st242⟩ := getF X239 hx hZ hown (host := "") (Or.inl (hw _ (List.mem_of_getElem? (i := 14) rfl))) Via.refl e239 F240 (g := (mkF m 99 #[.val (.long i0), .second, .val (.long i1), .second, .val (.long i2), .second, .val (.long i3), .second, .val (.long i4), .second, .val (.int i5), .val (.int (3 : Int32)), .val (.ref b2), .val (.ref b19), .val (.ref b26)] [(.ref b19)])) rfl rfl (hb hby at_99)
    have P242 : own_Go p e below S0 (T242.setTop (mkF m 102 #[.val (.long i0), .second, .val (.long i1), .second, .val (.long i2), .second, .val (.long i3), .second, .val (.long i4), .second, .val (.int i5), .val (.int (3 : Int32)), .val (.ref b2), .val (.ref b19), .val (.ref b26)] [(.int (3 : Int32))])) := fun t k => P241 t (st242 _ k)
    obtain ⟨cl243, Ar243, q243, Sz243, Nn243, Hh243, Gg243⟩ := id F236_0
    obtain ⟨cl244, Ar244, q244, Sz244, Nn244, Hh244, Gg244⟩ := id F236_0
    have hin244 : ¬ ((0 : Int32) < 0 ∨ cl244.slots.size ≤ ((0 : Int32)).toNatClampNeg) := inb_of Sz244 ⟨by decide, by decide⟩
    have hat244 : cl244.slots[((0 : Int32)).toNatClampNeg]? = some (.long i2) := Has.at Hh244 hin244 rfl
    have F245 : Arv Z h26 b2 k2 .long (5 : Int32) [(.long i0), (.long i1), (.long i2), (.long i3), (.long i4)] (.long (0 : Int64)) := F23.ext E26
    have F246 : Arv Z h28 b2 k2 .long (5 : Int32) [(.long i0), (.long i1), (.long i2), (.long i3), (.long i4)] (.long (0 : Int64)) := F245.other W28 ne_b2_b26
    have F247 : Arv Z h31 b2 k2 .long (5 : Int32) [(.long i0), (.long i1), (.long i2), (.long i3), (.long i4)] (.long (0 : Int64)) := F246.other W31 ne_b2_b26
    have F248 : Arv Z h34 b2 k2 .long (5 : Int32) [(.long i0), (.long i1), (.long i2), (.long i3), (.long i4)] (.long (0 : Int64)) := F247.other W34 ne_b2_b26
    have F249 : Arv Z h37 b2 k2 .long (5 : Int32) [(.long i0), (.long i1), (.long i2), (.long i3), (.long i4)] (.long (0 : Int64)) := F248.other W37 ne_b2_b26
    have F250 : Arv Z h40 b2 k2 .long (5 : Int32) [(.long i0), (.long i1), (.long i2), (.long i3), (.long i4)] (.long (0 : Int64)) := F249.other W40 ne_b2_b26
    have F251 : Arv Z h54 b2 k2 .long (5 : Int32) [(.long i0), (.long i1), (.long i2), (.long i3), (.long i4)] (.long (0 : Int64)) := F250.other W54 ne_b2_b19
    have F252 : Arv Z h230 b2 k2 .long (5 : Int32) [(.long i0), (.long i1), (.long i2), (.long i3), (.long i4)] (.long (0 : Int64)) := F251.other W230 ne_b2_b19
    have F253 : Arv Z T236.heap b2 k2 .long (5 : Int32) [(.long i0), (.long i1), (.long i2), (.long i3), (.long i4)] (.long (0 : Int64)) := F252.keep Kc236 (ninS ne_b2_b26 nin0)
    have P254 : own_Go p e below S0 (T242.setTop (mkF m 125 #[.val (.long i0), .second, .val (.long i1), .second, .val (.long i2), .second, .val (.long i3), .second, .val (.long i4), .second, .val (.int i5), .val (.int (3 : Int32)), .val (.ref b2), .val (.ref b19), .val (.ref b26)] [(.int (0 : Int32)), (.int (3 : Int32)), (.ref b2), (.long i2)])) := fun t k => P242 t (by
      show Steps p.tables e below (T242.setTop (mkF m 102 #[.val (.long i0), .second, .val (.long i1), .second, .val (.long i2), .second, .val (.long i3), .second, .val (.long i4), .second, .val (.int i5), .val (.int (3 : Int32)), .val (.ref b2), .val (.ref b19), .val (.ref b26)] [(.int (3 : Int32))])) t
      refine XS.iload X242.here hx rfl (hb hby at_102) rfl ?_
      refine XS.icmpNo X242.here hx rfl (hb hby at_104) rfl (teq (by decide)).2 ?_
      refine XS.aload X242.here hx rfl (hb hby at_107) rfl rfl ?_
      show Steps p.tables e below (T242.setTop (mkF m 109 #[.val (.long i0), .second, .val (.long i1), .second, .val (.long i2), .second, .val (.long i3), .second, .val (.long i4), .second, .val (.int i5), .val (.int (3 : Int32)), .val (.ref b2), .val (.ref b19), .val (.ref b26)] [(.ref b26)])) t
      refine X242.arraylength hx (by rw [e242]; exact Ar243.1) (State.isArrayOf_alike hZ.alike Ar243.2.1) (g := (mkF m 109 #[.val (.long i0), .second, .val (.long i1), .second, .val (.long i2), .second, .val (.long i3), .second, .val (.long i4), .second, .val (.int i5), .val (.int (3 : Int32)), .val (.ref b2), .val (.ref b19), .val (.ref b26)] [(.ref b26)])) rfl rfl (hb hby at_109) _ ?_
      rw [len_of Sz243 Nn243]
      refine XS.iconst X242.here hx rfl (hb hby at_110) ?_
      refine XS.icmpYes X242.here hx rfl (pc0 := 111) (pc' := 116) rfl (hb hby at_111) rfl (teq (by decide)).1 (by decide) (by decide) ?_
      show Steps p.tables e below (T242.setTop (mkF m 116 #[.val (.long i0), .second, .val (.long i1), .second, .val (.long i2), .second, .val (.long i3), .second, .val (.long i4), .second, .val (.int i5), .val (.int (3 : Int32)), .val (.ref b2), .val (.ref b19), .val (.ref b26)] [])) t
      refine XS.aload X242.here hx rfl (hb hby at_116) rfl rfl ?_
      refine XS.iconst X242.here hx rfl (hb hby at_118) ?_
      show Steps p.tables e below (T242.setTop (mkF m 119 #[.val (.long i0), .second, .val (.long i1), .second, .val (.long i2), .second, .val (.long i3), .second, .val (.long i4), .second, .val (.int i5), .val (.int (3 : Int32)), .val (.ref b2), .val (.ref b19), .val (.ref b26)] [(.int (0 : Int32)), (.ref b26)])) t
      refine X242.laload hx (j := (0 : Int32)) (v := (.long i2)) (by rw [e242]; exact Ar244.1) (State.isArrayOf_alike hZ.alike Ar244.2.1) Ar244.2.2 hin244 hat244 (g := (mkF m 119 #[.val (.long i0), .second, .val (.long i1), .second, .val (.long i2), .second, .val (.long i3), .second, .val (.long i4), .second, .val (.int i5), .val (.int (3 : Int32)), .val (.ref b2), .val (.ref b19), .val (.ref b26)] [(.int (0 : Int32)), (.ref b26)])) rfl rfl (hb hby at_119) _ ?_
      refine XS.aload X242.here hx rfl (hb hby at_120) rfl rfl ?_
      refine XS.iload X242.here hx rfl (hb hby at_122) rfl ?_
      refine XS.iconst X242.here hx rfl (hb hby at_124) ?_
      show Steps p.tables e below (T242.setTop (mkF m 125 #[.val (.long i0), .second, .val (.long i1), .second, .val (.long i2), .second, .val (.long i3), .second, .val (.long i4), .second, .val (.int i5), .val (.int (3 : Int32)), .val (.ref b2), .val (.ref b19), .val (.ref b26)] [(.int (0 : Int32)), (.int (3 : Int32)), (.ref b2), (.long i2)])) t
      exact k)
    obtain ⟨_, _, ⟨T255, L255, k255, n255⟩, -, X255, ⟨Lc255, hQ255, l255, y255, z255⟩, st255⟩ := Jvm.LawKit.callS X242 hx (y := (⟨"com/example/splice/splice/KeysReversePinLaw", "at", "([JII)J"⟩ : MethodName)) hown (mvT hZ (hw _ (List.mem_of_getElem? (i := 22) rfl))) (mvT hZ (hw _ (List.mem_of_getElem? (i := 23) rfl))) (mvT hZ (hw _ (List.mem_of_getElem? (i := 24) rfl))) (mvT hZ (hw _ (List.mem_of_getElem? (i := 25) rfl))) (by decide) (backOf (W := 2) (rm4_3_0 l Z a0 hw [] b2 k2 i0 i1 i2 i3 i4 T236.heap n0 (Nat.le_trans Z0 K236.1) F253) hZ (hw _ (List.mem_of_getElem? (i := 25) rfl)) (hw _ (List.mem_of_getElem? (i := 24) rfl)) (by decide) (by decide)) (g := (mkF m 125 #[.val (.long i0), .second, .val (.long i1), .second, .val (.long i2), .second, .val (.long i3), .second, .val (.long i4), .second, .val (.int i5), .val (.int (3 : Int32)), .val (.ref b2), .val (.ref b19), .val (.ref b26)] [(.int (0 : Int32)), (.int (3 : Int32)), (.ref b2), (.long i2)])) rfl (by rw [hml]; rfl) (argsL := [(.ref b2), (.int (3 : Int32)), (.int (0 : Int32))]) (rest := [(.long i2)]) (lenOf pd_1 rfl) rfl (by show 2 * 0 + _ ≤ _; exact Nat.le_of_eq rfl) (hb hby at_125) (fun _ _ => ⟨rfl, e242, (by decide : 4 + 0 ≤ _), (by decide : 20 + 0 ≤ _)⟩)
    dsimp only [Pt.U, Pt.locs, Pt.cells, Pt.slots] at X255 l255 y255 z255 st255 hQ255
    subst l255 y255 z255
    obtain ⟨rfl, N255q, e255⟩ := hQ255
    have N255 := Fr.app N236 N255q
    have P255 : own_Go p e below S0 (T255.setTop (mkF m 128 #[.val (.long i0), .second, .val (.long i1), .second, .val (.long i2), .second, .val (.long i3), .second, .val (.long i4), .second, .val (.int i5), .val (.int (3 : Int32)), .val (.ref b2), .val (.ref b19), .val (.ref b26)] [(.long i2), (.long i2)])) := fun t k => P254 t (st255 _ k)
    obtain ⟨cl256, Ar256, q256, Sz256, Nn256, Hh256, Gg256⟩ := id F236_0
    have hin256 : ¬ ((1 : Int32) < 0 ∨ cl256.slots.size ≤ ((1 : Int32)).toNatClampNeg) := inb_of Sz256 ⟨by decide, by decide⟩
    have hat256 : cl256.slots[((1 : Int32)).toNatClampNeg]? = some (.long i1) := Has.at Hh256 hin256 rfl
    have P257 : own_Go p e below S0 (T255.setTop (mkF m 141 #[.val (.long i0), .second, .val (.long i1), .second, .val (.long i2), .second, .val (.long i3), .second, .val (.long i4), .second, .val (.int i5), .val (.int (3 : Int32)), .val (.ref b2), .val (.ref b19), .val (.ref b26)] [(.int (1 : Int32)), (.int (3 : Int32)), (.ref b2), (.long i1)])) := fun t k => P255 t (by
      show Steps p.tables e below (T255.setTop (mkF m 128 #[.val (.long i0), .second, .val (.long i1), .second, .val (.long i2), .second, .val (.long i3), .second, .val (.long i4), .second, .val (.int i5), .val (.int (3 : Int32)), .val (.ref b2), .val (.ref b19), .val (.ref b26)] [(.long i2), (.long i2)])) t
      refine XS.lcmp X255.here hx rfl (hb hby at_128) rfl ?_
      refine XS.ifNo X255.here hx rfl (hb hby at_129) rfl ((if0 _ _).trans (teq ((lw_eq i2 i2).mpr rfl)).2) ?_
      refine XS.aload X255.here hx rfl (hb hby at_132) rfl rfl ?_
      refine XS.iconst X255.here hx rfl (hb hby at_134) ?_
      show Steps p.tables e below (T255.setTop (mkF m 135 #[.val (.long i0), .second, .val (.long i1), .second, .val (.long i2), .second, .val (.long i3), .second, .val (.long i4), .second, .val (.int i5), .val (.int (3 : Int32)), .val (.ref b2), .val (.ref b19), .val (.ref b26)] [(.int (1 : Int32)), (.ref b26)])) t
      refine X255.laload hx (j := (1 : Int32)) (v := (.long i1)) (by rw [e255]; exact Ar256.1) (State.isArrayOf_alike hZ.alike Ar256.2.1) Ar256.2.2 hin256 hat256 (g := (mkF m 135 #[.val (.long i0), .second, .val (.long i1), .second, .val (.long i2), .second, .val (.long i3), .second, .val (.long i4), .second, .val (.int i5), .val (.int (3 : Int32)), .val (.ref b2), .val (.ref b19), .val (.ref b26)] [(.int (1 : Int32)), (.ref b26)])) rfl rfl (hb hby at_135) _ ?_
      refine XS.aload X255.here hx rfl (hb hby at_136) rfl rfl ?_
      show Steps p.tables e below (T255.setTop (mkF m 138 #[.val (.long i0), .second, .val (.long i1), .second, .val (.long i2), .second, .val (.long i3), .second, .val (.long i4), .second, .val (.int i5), .val (.int (3 : Int32)), .val (.ref b2), .val (.ref b19), .val (.ref b26)] [(.ref b2), (.long i1)])) t
      refine XS.iload X255.here hx rfl (hb hby at_138) rfl ?_
      refine XS.iconst X255.here hx rfl (hb hby at_140) ?_
      show Steps p.tables e below (T255.setTop (mkF m 141 #[.val (.long i0), .second, .val (.long i1), .second, .val (.long i2), .second, .val (.long i3), .second, .val (.long i4), .second, .val (.int i5), .val (.int (3 : Int32)), .val (.ref b2), .val (.ref b19), .val (.ref b26)] [(.int (1 : Int32)), (.int (3 : Int32)), (.ref b2), (.long i1)])) t
      exact k)
    obtain ⟨_, _, ⟨T258, L258, k258, n258⟩, -, X258, ⟨Lc258, hQ258, l258, y258, z258⟩, st258⟩ := Jvm.LawKit.callS X255 hx (y := (⟨"com/example/splice/splice/KeysReversePinLaw", "at", "([JII)J"⟩ : MethodName)) hown (mvT hZ (hw _ (List.mem_of_getElem? (i := 22) rfl))) (mvT hZ (hw _ (List.mem_of_getElem? (i := 23) rfl))) (mvT hZ (hw _ (List.mem_of_getElem? (i := 24) rfl))) (mvT hZ (hw _ (List.mem_of_getElem? (i := 25) rfl))) (by decide) (backOf (W := 2) (rm4_3_1 l Z a0 hw [] b2 k2 i0 i1 i2 i3 i4 T236.heap n0 (Nat.le_trans Z0 K236.1) F253) hZ (hw _ (List.mem_of_getElem? (i := 25) rfl)) (hw _ (List.mem_of_getElem? (i := 24) rfl)) (by decide) (by decide)) (g := (mkF m 141 #[.val (.long i0), .second, .val (.long i1), .second, .val (.long i2), .second, .val (.long i3), .second, .val (.long i4), .second, .val (.int i5), .val (.int (3 : Int32)), .val (.ref b2), .val (.ref b19), .val (.ref b26)] [(.int (1 : Int32)), (.int (3 : Int32)), (.ref b2), (.long i1)])) rfl (by rw [hml]; rfl) (argsL := [(.ref b2), (.int (3 : Int32)), (.int (1 : Int32))]) (rest := [(.long i1)]) (lenOf pd_1 rfl) rfl (by show 2 * 0 + _ ≤ _; exact Nat.le_of_eq rfl) (hb hby at_141) (fun _ _ => ⟨rfl, e255, (by decide : 4 + 0 ≤ _), (by decide : 20 + 0 ≤ _)⟩)
    dsimp only [Pt.U, Pt.locs, Pt.cells, Pt.slots] at X258 l258 y258 z258 st258 hQ258
    subst l258 y258 z258
    obtain ⟨rfl, N258q, e258⟩ := hQ258
    have N258 := Fr.app N255 N258q
    have P258 : own_Go p e below S0 (T258.setTop (mkF m 144 #[.val (.long i0), .second, .val (.long i1), .second, .val (.long i2), .second, .val (.long i3), .second, .val (.long i4), .second, .val (.int i5), .val (.int (3 : Int32)), .val (.ref b2), .val (.ref b19), .val (.ref b26)] [(.long i1), (.long i1)])) := fun t k => P257 t (st258 _ k)
    obtain ⟨cl259, Ar259, q259, Sz259, Nn259, Hh259, Gg259⟩ := id F236_0
    have hin259 : ¬ ((2 : Int32) < 0 ∨ cl259.slots.size ≤ ((2 : Int32)).toNatClampNeg) := inb_of Sz259 ⟨by decide, by decide⟩
    have hat259 : cl259.slots[((2 : Int32)).toNatClampNeg]? = some (.long i0) := Has.at Hh259 hin259 rfl
    have P260 : own_Go p e below S0 (T258.setTop (mkF m 157 #[.val (.long i0), .second, .val (.long i1), .second, .val (.long i2), .second, .val (.long i3), .second, .val (.long i4), .second, .val (.int i5), .val (.int (3 : Int32)), .val (.ref b2), .val (.ref b19), .val (.ref b26)] [(.int (2 : Int32)), (.int (3 : Int32)), (.ref b2), (.long i0)])) := fun t k => P258 t (by
      show Steps p.tables e below (T258.setTop (mkF m 144 #[.val (.long i0), .second, .val (.long i1), .second, .val (.long i2), .second, .val (.long i3), .second, .val (.long i4), .second, .val (.int i5), .val (.int (3 : Int32)), .val (.ref b2), .val (.ref b19), .val (.ref b26)] [(.long i1), (.long i1)])) t
      refine XS.lcmp X258.here hx rfl (hb hby at_144) rfl ?_
      refine XS.ifNo X258.here hx rfl (hb hby at_145) rfl ((if0 _ _).trans (teq ((lw_eq i1 i1).mpr rfl)).2) ?_
      refine XS.aload X258.here hx rfl (hb hby at_148) rfl rfl ?_
      refine XS.iconst X258.here hx rfl (hb hby at_150) ?_
      show Steps p.tables e below (T258.setTop (mkF m 151 #[.val (.long i0), .second, .val (.long i1), .second, .val (.long i2), .second, .val (.long i3), .second, .val (.long i4), .second, .val (.int i5), .val (.int (3 : Int32)), .val (.ref b2), .val (.ref b19), .val (.ref b26)] [(.int (2 : Int32)), (.ref b26)])) t
      refine X258.laload hx (j := (2 : Int32)) (v := (.long i0)) (by rw [e258]; exact Ar259.1) (State.isArrayOf_alike hZ.alike Ar259.2.1) Ar259.2.2 hin259 hat259 (g := (mkF m 151 #[.val (.long i0), .second, .val (.long i1), .second, .val (.long i2), .second, .val (.long i3), .second, .val (.long i4), .second, .val (.int i5), .val (.int (3 : Int32)), .val (.ref b2), .val (.ref b19), .val (.ref b26)] [(.int (2 : Int32)), (.ref b26)])) rfl rfl (hb hby at_151) _ ?_
      refine XS.aload X258.here hx rfl (hb hby at_152) rfl rfl ?_
      show Steps p.tables e below (T258.setTop (mkF m 154 #[.val (.long i0), .second, .val (.long i1), .second, .val (.long i2), .second, .val (.long i3), .second, .val (.long i4), .second, .val (.int i5), .val (.int (3 : Int32)), .val (.ref b2), .val (.ref b19), .val (.ref b26)] [(.ref b2), (.long i0)])) t
      refine XS.iload X258.here hx rfl (hb hby at_154) rfl ?_
      refine XS.iconst X258.here hx rfl (hb hby at_156) ?_
      show Steps p.tables e below (T258.setTop (mkF m 157 #[.val (.long i0), .second, .val (.long i1), .second, .val (.long i2), .second, .val (.long i3), .second, .val (.long i4), .second, .val (.int i5), .val (.int (3 : Int32)), .val (.ref b2), .val (.ref b19), .val (.ref b26)] [(.int (2 : Int32)), (.int (3 : Int32)), (.ref b2), (.long i0)])) t
      exact k)
    obtain ⟨_, _, ⟨T261, L261, k261, n261⟩, -, X261, ⟨Lc261, hQ261, l261, y261, z261⟩, st261⟩ := Jvm.LawKit.callS X258 hx (y := (⟨"com/example/splice/splice/KeysReversePinLaw", "at", "([JII)J"⟩ : MethodName)) hown (mvT hZ (hw _ (List.mem_of_getElem? (i := 22) rfl))) (mvT hZ (hw _ (List.mem_of_getElem? (i := 23) rfl))) (mvT hZ (hw _ (List.mem_of_getElem? (i := 24) rfl))) (mvT hZ (hw _ (List.mem_of_getElem? (i := 25) rfl))) (by decide) (backOf (W := 2) (rm4_3_2 l Z a0 hw [] b2 k2 i0 i1 i2 i3 i4 T236.heap n0 (Nat.le_trans Z0 K236.1) F253) hZ (hw _ (List.mem_of_getElem? (i := 25) rfl)) (hw _ (List.mem_of_getElem? (i := 24) rfl)) (by decide) (by decide)) (g := (mkF m 157 #[.val (.long i0), .second, .val (.long i1), .second, .val (.long i2), .second, .val (.long i3), .second, .val (.long i4), .second, .val (.int i5), .val (.int (3 : Int32)), .val (.ref b2), .val (.ref b19), .val (.ref b26)] [(.int (2 : Int32)), (.int (3 : Int32)), (.ref b2), (.long i0)])) rfl (by rw [hml]; rfl) (argsL := [(.ref b2), (.int (3 : Int32)), (.int (2 : Int32))]) (rest := [(.long i0)]) (lenOf pd_1 rfl) rfl (by show 2 * 0 + _ ≤ _; exact Nat.le_of_eq rfl) (hb hby at_157) (fun _ _ => ⟨rfl, e258, (by decide : 4 + 0 ≤ _), (by decide : 20 + 0 ≤ _)⟩)
    dsimp only [Pt.U, Pt.locs, Pt.cells, Pt.slots] at X261 l261 y261 z261 st261 hQ261
    subst l261 y261 z261
    obtain ⟨rfl, N261q, e261⟩ := hQ261
    have N261 := Fr.app N258 N261q
    have P261 : own_Go p e below S0 (T261.setTop (mkF m 160 #[.val (.long i0), .second, .val (.long i1), .second, .val (.long i2), .second, .val (.long i3), .second, .val (.long i4), .second, .val (.int i5), .val (.int (3 : Int32)), .val (.ref b2), .val (.ref b19), .val (.ref b26)] [(.long i0), (.long i0)])) := fun t k => P260 t (st261 _ k)
    obtain ⟨cl262, Ar262, q262, Sz262, Nn262, Hh262, Gg262⟩ := id F236_0
    have hin262 : ¬ ((3 : Int32) < 0 ∨ cl262.slots.size ≤ ((3 : Int32)).toNatClampNeg) := inb_of Sz262 ⟨by decide, by decide⟩
    have hat262 : cl262.slots[((3 : Int32)).toNatClampNeg]? = some (.long i3) := Has.at Hh262 hin262 rfl
    have P263 : own_Go p e below S0 (T261.setTop (mkF m 173 #[.val (.long i0), .second, .val (.long i1), .second, .val (.long i2), .second, .val (.long i3), .second, .val (.long i4), .second, .val (.int i5), .val (.int (3 : Int32)), .val (.ref b2), .val (.ref b19), .val (.ref b26)] [(.int (3 : Int32)), (.int (3 : Int32)), (.ref b2), (.long i3)])) := fun t k => P261 t (by
      show Steps p.tables e below (T261.setTop (mkF m 160 #[.val (.long i0), .second, .val (.long i1), .second, .val (.long i2), .second, .val (.long i3), .second, .val (.long i4), .second, .val (.int i5), .val (.int (3 : Int32)), .val (.ref b2), .val (.ref b19), .val (.ref b26)] [(.long i0), (.long i0)])) t
      refine XS.lcmp X261.here hx rfl (hb hby at_160) rfl ?_
      refine XS.ifNo X261.here hx rfl (hb hby at_161) rfl ((if0 _ _).trans (teq ((lw_eq i0 i0).mpr rfl)).2) ?_
      refine XS.aload X261.here hx rfl (hb hby at_164) rfl rfl ?_
      refine XS.iconst X261.here hx rfl (hb hby at_166) ?_
      show Steps p.tables e below (T261.setTop (mkF m 167 #[.val (.long i0), .second, .val (.long i1), .second, .val (.long i2), .second, .val (.long i3), .second, .val (.long i4), .second, .val (.int i5), .val (.int (3 : Int32)), .val (.ref b2), .val (.ref b19), .val (.ref b26)] [(.int (3 : Int32)), (.ref b26)])) t
      refine X261.laload hx (j := (3 : Int32)) (v := (.long i3)) (by rw [e261]; exact Ar262.1) (State.isArrayOf_alike hZ.alike Ar262.2.1) Ar262.2.2 hin262 hat262 (g := (mkF m 167 #[.val (.long i0), .second, .val (.long i1), .second, .val (.long i2), .second, .val (.long i3), .second, .val (.long i4), .second, .val (.int i5), .val (.int (3 : Int32)), .val (.ref b2), .val (.ref b19), .val (.ref b26)] [(.int (3 : Int32)), (.ref b26)])) rfl rfl (hb hby at_167) _ ?_
      refine XS.aload X261.here hx rfl (hb hby at_168) rfl rfl ?_
      show Steps p.tables e below (T261.setTop (mkF m 170 #[.val (.long i0), .second, .val (.long i1), .second, .val (.long i2), .second, .val (.long i3), .second, .val (.long i4), .second, .val (.int i5), .val (.int (3 : Int32)), .val (.ref b2), .val (.ref b19), .val (.ref b26)] [(.ref b2), (.long i3)])) t
      refine XS.iload X261.here hx rfl (hb hby at_170) rfl ?_
      refine XS.iconst X261.here hx rfl (hb hby at_172) ?_
      show Steps p.tables e below (T261.setTop (mkF m 173 #[.val (.long i0), .second, .val (.long i1), .second, .val (.long i2), .second, .val (.long i3), .second, .val (.long i4), .second, .val (.int i5), .val (.int (3 : Int32)), .val (.ref b2), .val (.ref b19), .val (.ref b26)] [(.int (3 : Int32)), (.int (3 : Int32)), (.ref b2), (.long i3)])) t
      exact k)
    obtain ⟨_, _, ⟨T264, L264, k264, n264⟩, -, X264, ⟨Lc264, hQ264, l264, y264, z264⟩, st264⟩ := Jvm.LawKit.callS X261 hx (y := (⟨"com/example/splice/splice/KeysReversePinLaw", "at", "([JII)J"⟩ : MethodName)) hown (mvT hZ (hw _ (List.mem_of_getElem? (i := 22) rfl))) (mvT hZ (hw _ (List.mem_of_getElem? (i := 23) rfl))) (mvT hZ (hw _ (List.mem_of_getElem? (i := 24) rfl))) (mvT hZ (hw _ (List.mem_of_getElem? (i := 25) rfl))) (by decide) (backOf (W := 2) (rm4_3_3 l Z a0 hw [] b2 k2 i0 i1 i2 i3 i4 T236.heap n0 (Nat.le_trans Z0 K236.1) F253) hZ (hw _ (List.mem_of_getElem? (i := 25) rfl)) (hw _ (List.mem_of_getElem? (i := 24) rfl)) (by decide) (by decide)) (g := (mkF m 173 #[.val (.long i0), .second, .val (.long i1), .second, .val (.long i2), .second, .val (.long i3), .second, .val (.long i4), .second, .val (.int i5), .val (.int (3 : Int32)), .val (.ref b2), .val (.ref b19), .val (.ref b26)] [(.int (3 : Int32)), (.int (3 : Int32)), (.ref b2), (.long i3)])) rfl (by rw [hml]; rfl) (argsL := [(.ref b2), (.int (3 : Int32)), (.int (3 : Int32))]) (rest := [(.long i3)]) (lenOf pd_1 rfl) rfl (by show 2 * 0 + _ ≤ _; exact Nat.le_of_eq rfl) (hb hby at_173) (fun _ _ => ⟨rfl, e261, (by decide : 4 + 0 ≤ _), (by decide : 20 + 0 ≤ _)⟩)
    dsimp only [Pt.U, Pt.locs, Pt.cells, Pt.slots] at X264 l264 y264 z264 st264 hQ264
    subst l264 y264 z264
    obtain ⟨rfl, N264q, e264⟩ := hQ264
    have N264 := Fr.app N261 N264q
    have P264 : own_Go p e below S0 (T264.setTop (mkF m 176 #[.val (.long i0), .second, .val (.long i1), .second, .val (.long i2), .second, .val (.long i3), .second, .val (.long i4), .second, .val (.int i5), .val (.int (3 : Int32)), .val (.ref b2), .val (.ref b19), .val (.ref b26)] [(.long i3), (.long i3)])) := fun t k => P263 t (st264 _ k)
    obtain ⟨cl265, Ar265, q265, Sz265, Nn265, Hh265, Gg265⟩ := id F236_0
    have hin265 : ¬ ((4 : Int32) < 0 ∨ cl265.slots.size ≤ ((4 : Int32)).toNatClampNeg) := inb_of Sz265 ⟨by decide, by decide⟩
    have hat265 : cl265.slots[((4 : Int32)).toNatClampNeg]? = some (.long i4) := Has.at Hh265 hin265 rfl
    have P266 : own_Go p e below S0 (T264.setTop (mkF m 189 #[.val (.long i0), .second, .val (.long i1), .second, .val (.long i2), .second, .val (.long i3), .second, .val (.long i4), .second, .val (.int i5), .val (.int (3 : Int32)), .val (.ref b2), .val (.ref b19), .val (.ref b26)] [(.int (4 : Int32)), (.int (3 : Int32)), (.ref b2), (.long i4)])) := fun t k => P264 t (by
      show Steps p.tables e below (T264.setTop (mkF m 176 #[.val (.long i0), .second, .val (.long i1), .second, .val (.long i2), .second, .val (.long i3), .second, .val (.long i4), .second, .val (.int i5), .val (.int (3 : Int32)), .val (.ref b2), .val (.ref b19), .val (.ref b26)] [(.long i3), (.long i3)])) t
      refine XS.lcmp X264.here hx rfl (hb hby at_176) rfl ?_
      refine XS.ifNo X264.here hx rfl (hb hby at_177) rfl ((if0 _ _).trans (teq ((lw_eq i3 i3).mpr rfl)).2) ?_
      refine XS.aload X264.here hx rfl (hb hby at_180) rfl rfl ?_
      refine XS.iconst X264.here hx rfl (hb hby at_182) ?_
      show Steps p.tables e below (T264.setTop (mkF m 183 #[.val (.long i0), .second, .val (.long i1), .second, .val (.long i2), .second, .val (.long i3), .second, .val (.long i4), .second, .val (.int i5), .val (.int (3 : Int32)), .val (.ref b2), .val (.ref b19), .val (.ref b26)] [(.int (4 : Int32)), (.ref b26)])) t
      refine X264.laload hx (j := (4 : Int32)) (v := (.long i4)) (by rw [e264]; exact Ar265.1) (State.isArrayOf_alike hZ.alike Ar265.2.1) Ar265.2.2 hin265 hat265 (g := (mkF m 183 #[.val (.long i0), .second, .val (.long i1), .second, .val (.long i2), .second, .val (.long i3), .second, .val (.long i4), .second, .val (.int i5), .val (.int (3 : Int32)), .val (.ref b2), .val (.ref b19), .val (.ref b26)] [(.int (4 : Int32)), (.ref b26)])) rfl rfl (hb hby at_183) _ ?_
      refine XS.aload X264.here hx rfl (hb hby at_184) rfl rfl ?_
      show Steps p.tables e below (T264.setTop (mkF m 186 #[.val (.long i0), .second, .val (.long i1), .second, .val (.long i2), .second, .val (.long i3), .second, .val (.long i4), .second, .val (.int i5), .val (.int (3 : Int32)), .val (.ref b2), .val (.ref b19), .val (.ref b26)] [(.ref b2), (.long i4)])) t
      refine XS.iload X264.here hx rfl (hb hby at_186) rfl ?_
      refine XS.iconst X264.here hx rfl (hb hby at_188) ?_
      show Steps p.tables e below (T264.setTop (mkF m 189 #[.val (.long i0), .second, .val (.long i1), .second, .val (.long i2), .second, .val (.long i3), .second, .val (.long i4), .second, .val (.int i5), .val (.int (3 : Int32)), .val (.ref b2), .val (.ref b19), .val (.ref b26)] [(.int (4 : Int32)), (.int (3 : Int32)), (.ref b2), (.long i4)])) t
      exact k)
    obtain ⟨_, _, ⟨T267, L267, k267, n267⟩, -, X267, ⟨Lc267, hQ267, l267, y267, z267⟩, st267⟩ := Jvm.LawKit.callS X264 hx (y := (⟨"com/example/splice/splice/KeysReversePinLaw", "at", "([JII)J"⟩ : MethodName)) hown (mvT hZ (hw _ (List.mem_of_getElem? (i := 22) rfl))) (mvT hZ (hw _ (List.mem_of_getElem? (i := 23) rfl))) (mvT hZ (hw _ (List.mem_of_getElem? (i := 24) rfl))) (mvT hZ (hw _ (List.mem_of_getElem? (i := 25) rfl))) (by decide) (backOf (W := 2) (rm4_3_4 l Z a0 hw [] b2 k2 i0 i1 i2 i3 i4 T236.heap n0 (Nat.le_trans Z0 K236.1) F253) hZ (hw _ (List.mem_of_getElem? (i := 25) rfl)) (hw _ (List.mem_of_getElem? (i := 24) rfl)) (by decide) (by decide)) (g := (mkF m 189 #[.val (.long i0), .second, .val (.long i1), .second, .val (.long i2), .second, .val (.long i3), .second, .val (.long i4), .second, .val (.int i5), .val (.int (3 : Int32)), .val (.ref b2), .val (.ref b19), .val (.ref b26)] [(.int (4 : Int32)), (.int (3 : Int32)), (.ref b2), (.long i4)])) rfl (by rw [hml]; rfl) (argsL := [(.ref b2), (.int (3 : Int32)), (.int (4 : Int32))]) (rest := [(.long i4)]) (lenOf pd_1 rfl) rfl (by show 2 * 0 + _ ≤ _; exact Nat.le_of_eq rfl) (hb hby at_189) (fun _ _ => ⟨rfl, e264, (by decide : 4 + 0 ≤ _), (by decide : 20 + 0 ≤ _)⟩)
    dsimp only [Pt.U, Pt.locs, Pt.cells, Pt.slots] at X267 l267 y267 z267 st267 hQ267
    subst l267 y267 z267
    obtain ⟨rfl, N267q, e267⟩ := hQ267
    have N267 := Fr.app N264 N267q
    have P267 : own_Go p e below S0 (T267.setTop (mkF m 192 #[.val (.long i0), .second, .val (.long i1), .second, .val (.long i2), .second, .val (.long i3), .second, .val (.long i4), .second, .val (.int i5), .val (.int (3 : Int32)), .val (.ref b2), .val (.ref b19), .val (.ref b26)] [(.long i4), (.long i4)])) := fun t k => P266 t (st267 _ k)
    have P268 : own_Go p e below S0 (T267.setTop (mkF m 201 #[.val (.long i0), .second, .val (.long i1), .second, .val (.long i2), .second, .val (.long i3), .second, .val (.long i4), .second, .val (.int i5), .val (.int (3 : Int32)), .val (.ref b2), .val (.ref b19), .val (.ref b26)] [(.int (1 : Int32))])) := fun t k => P267 t (by
      show Steps p.tables e below (T267.setTop (mkF m 192 #[.val (.long i0), .second, .val (.long i1), .second, .val (.long i2), .second, .val (.long i3), .second, .val (.long i4), .second, .val (.int i5), .val (.int (3 : Int32)), .val (.ref b2), .val (.ref b19), .val (.ref b26)] [(.long i4), (.long i4)])) t
      refine XS.lcmp X267.here hx rfl (hb hby at_192) rfl ?_
      refine XS.ifNo X267.here hx rfl (hb hby at_193) rfl ((if0 _ _).trans (teq ((lw_eq i4 i4).mpr rfl)).2) ?_
      refine XS.iconst X267.here hx rfl (hb hby at_196) ?_
      refine XS.goto X267.here hx rfl (pc0 := 197) (pc' := 201) rfl (hb hby at_197) (by decide) (by decide) ?_
      show Steps p.tables e below (T267.setTop (mkF m 201 #[.val (.long i0), .second, .val (.long i1), .second, .val (.long i2), .second, .val (.long i3), .second, .val (.long i4), .second, .val (.int i5), .val (.int (3 : Int32)), .val (.ref b2), .val (.ref b19), .val (.ref b26)] [(.int (1 : Int32))])) t
      exact k)
    have F269 : Exa Z T236.heap b19 "com/example/splice/splice/XPath$Keys" := F231.keep Kc236
    have F270 : Arv Z h26 b4_22 k4_22 .long (8 : Int32) [(.long (0 : Int64)), (.long (0 : Int64)), (.long (0 : Int64)), (.long (0 : Int64)), (.long (0 : Int64)), (.long (0 : Int64)), (.long (0 : Int64)), (.long (0 : Int64))] (.long (0 : Int64)) := F22_1.ext E26
    have F271 : Arv Z h28 b4_22 k4_22 .long (8 : Int32) [(.long (0 : Int64)), (.long (0 : Int64)), (.long (0 : Int64)), (.long (0 : Int64)), (.long (0 : Int64)), (.long (0 : Int64)), (.long (0 : Int64)), (.long (0 : Int64))] (.long (0 : Int64)) := F270.other W28 ne_b4_22_b26
    have F272 : Arv Z h31 b4_22 k4_22 .long (8 : Int32) [(.long (0 : Int64)), (.long (0 : Int64)), (.long (0 : Int64)), (.long (0 : Int64)), (.long (0 : Int64)), (.long (0 : Int64)), (.long (0 : Int64)), (.long (0 : Int64))] (.long (0 : Int64)) := F271.other W31 ne_b4_22_b26
    have F273 : Arv Z h34 b4_22 k4_22 .long (8 : Int32) [(.long (0 : Int64)), (.long (0 : Int64)), (.long (0 : Int64)), (.long (0 : Int64)), (.long (0 : Int64)), (.long (0 : Int64)), (.long (0 : Int64)), (.long (0 : Int64))] (.long (0 : Int64)) := F272.other W34 ne_b4_22_b26
    have F274 : Arv Z h37 b4_22 k4_22 .long (8 : Int32) [(.long (0 : Int64)), (.long (0 : Int64)), (.long (0 : Int64)), (.long (0 : Int64)), (.long (0 : Int64)), (.long (0 : Int64)), (.long (0 : Int64)), (.long (0 : Int64))] (.long (0 : Int64)) := F273.other W37 ne_b4_22_b26
    have F275 : Arv Z h40 b4_22 k4_22 .long (8 : Int32) [(.long (0 : Int64)), (.long (0 : Int64)), (.long (0 : Int64)), (.long (0 : Int64)), (.long (0 : Int64)), (.long (0 : Int64)), (.long (0 : Int64)), (.long (0 : Int64))] (.long (0 : Int64)) := F274.other W40 ne_b4_22_b26
    have F276 : Arv Z h54 b4_22 k4_22 .long (8 : Int32) [(.long (0 : Int64)), (.long (0 : Int64)), (.long (0 : Int64)), (.long (0 : Int64)), (.long (0 : Int64)), (.long (0 : Int64)), (.long (0 : Int64)), (.long (0 : Int64))] (.long (0 : Int64)) := F275.other W54 (Ne.symm ne_b19_b4_22)
    have F277 : Arv Z h230 b4_22 k4_22 .long (8 : Int32) [(.long (0 : Int64)), (.long (0 : Int64)), (.long (0 : Int64)), (.long (0 : Int64)), (.long (0 : Int64)), (.long (0 : Int64)), (.long (0 : Int64)), (.long (0 : Int64))] (.long (0 : Int64)) := F276.other W230 (Ne.symm ne_b19_b4_22)
    have F278 : Arv Z T236.heap b4_22 k4_22 .long (8 : Int32) [(.long (0 : Int64)), (.long (0 : Int64)), (.long (0 : Int64)), (.long (0 : Int64)), (.long (0 : Int64)), (.long (0 : Int64)), (.long (0 : Int64)), (.long (0 : Int64))] (.long (0 : Int64)) := F277.keep Kc236 (ninS ne_b4_22_b26 nin0)
    obtain ⟨fs, hr, hrun, hended, hW, hsame⟩ := X267.leave (v := some (.int (1 : Int32))) (fun h => by rw [Bd.returns] at h; cases h)
    refine ⟨_, _, own_from hS0 (P268 _ ?_), hrun, hended, _, _, rfl, ?_, ⟨_, rfl⟩, hW, hsame.mono (by decide) (by decide)⟩
    · show Steps p.tables e below (T267.setTop (mkF m 201 #[.val (.long i0), .second, .val (.long i1), .second, .val (.long i2), .second, .val (.long i3), .second, .val (.long i4), .second, .val (.int i5), .val (.int (3 : Int32)), .val (.ref b2), .val (.ref b19), .val (.ref b26)] [(.int (1 : Int32))])) _
      exact retN X267 hx (t := .boolean) Bd.returns (by simp) (hb hby at_201) hr
    · show Q0 Z i0 i1 i2 i3 i4 i5 h0 n0 _ T267.heap _
      rw [e267]
      exact ⟨rfl, N267⟩
  · skip
    subst c56
    have F279 : Exa Z h54 b19 "com/example/splice/splice/XPath$Keys" := F47.wr W54
    have F280 : Fld Z h26 b19 "com/example/splice/splice/XPath$Keys" "size" "I" (.int (0 : Int32)) := F22_0.ext E26
    have F281 : Fld Z h28 b19 "com/example/splice/splice/XPath$Keys" "size" "I" (.int (0 : Int32)) := F280.other W28 (Or.inl ne_b19_b26)
    have F282 : Fld Z h31 b19 "com/example/splice/splice/XPath$Keys" "size" "I" (.int (0 : Int32)) := F281.other W31 (Or.inl ne_b19_b26)
    have F283 : Fld Z h34 b19 "com/example/splice/splice/XPath$Keys" "size" "I" (.int (0 : Int32)) := F282.other W34 (Or.inl ne_b19_b26)
    have F284 : Fld Z h37 b19 "com/example/splice/splice/XPath$Keys" "size" "I" (.int (0 : Int32)) := F283.other W37 (Or.inl ne_b19_b26)
    have F285 : Fld Z h40 b19 "com/example/splice/splice/XPath$Keys" "size" "I" (.int (0 : Int32)) := F284.other W40 (Or.inl ne_b19_b26)
    have F286 : Fld Z h54 b19 "com/example/splice/splice/XPath$Keys" "size" "I" (.int (0 : Int32)) := F285.other W54 (Or.inr (slot_ne (Or.inl (hw _ (List.mem_of_getElem? (i := 15) rfl))) (Or.inl (hw _ (List.mem_of_getElem? (i := 12) rfl))) (by decide) (t := .int) (t' := (.array .long)) (by decide) (by decide)))
    have P287 : own_Go p e below S0 (T54.setTop (mkF m 82 #[.val (.long i0), .second, .val (.long i1), .second, .val (.long i2), .second, .val (.long i3), .second, .val (.long i4), .second, .val (.int i5), .val (.int (4 : Int32)), .val (.ref b2), .val (.ref b19), .unset] [(.int (4 : Int32)), (.ref b19)])) := fun t k => P55 t (by
      show Steps p.tables e below (T54.setTop (mkF m 78 #[.val (.long i0), .second, .val (.long i1), .second, .val (.long i2), .second, .val (.long i3), .second, .val (.long i4), .second, .val (.int i5), .val (.int (4 : Int32)), .val (.ref b2), .val (.ref b19), .unset] [])) t
      refine XS.aload X54.here hx rfl (hb hby at_78) rfl rfl ?_
      refine XS.iload X54.here hx rfl (hb hby at_80) rfl ?_
      show Steps p.tables e below (T54.setTop (mkF m 82 #[.val (.long i0), .second, .val (.long i1), .second, .val (.long i2), .second, .val (.long i3), .second, .val (.long i4), .second, .val (.int i5), .val (.int (4 : Int32)), .val (.ref b2), .val (.ref b19), .unset] [(.int (4 : Int32)), (.ref b19)])) t
      exact k)
    obtain ⟨T288, h288, X288, e288, W288, st288⟩ := putF X54 hx hZ hown (host := "") (Or.inl (hw _ (List.mem_of_getElem? (i := 14) rfl))) Via.refl e54 F286 F279 (Or.inl (hw _ (List.mem_of_getElem? (i := 15) rfl))) (hw _ (List.mem_of_getElem? (i := 3) rfl)) (ty := .int) (by decide) rfl rfl (g := (mkF m 82 #[.val (.long i0), .second, .val (.long i1), .second, .val (.long i2), .second, .val (.long i3), .second, .val (.long i4), .second, .val (.int i5), .val (.int (4 : Int32)), .val (.ref b2), .val (.ref b19), .unset] [(.int (4 : Int32)), (.ref b19)])) rfl rfl (hb hby at_82)
    have K288 : Keep h0 h288 [] := K54.wr W288 (Or.inr o_b19)
    have N288 := Fr.snoc X288 N54 g_b19
    have F288w : Fld Z h288 b19 "com/example/splice/splice/XPath$Keys" "size" "I" (.int (4 : Int32)) := F286.same W288
    have P288 : own_Go p e below S0 (T288.setTop (mkF m 85 #[.val (.long i0), .second, .val (.long i1), .second, .val (.long i2), .second, .val (.long i3), .second, .val (.long i4), .second, .val (.int i5), .val (.int (4 : Int32)), .val (.ref b2), .val (.ref b19), .unset] [])) := fun t k => P287 t (st288 _ k)
    have F289 : Exa Z h288 b19 "com/example/splice/splice/XPath$Keys" := F279.wr W288
    have F290 : Fld Z h288 b19 "com/example/splice/splice/XPath$Keys" "keys" "[J" (.ref b26) := F54w.other W288 (Or.inr (slot_ne (Or.inl (hw _ (List.mem_of_getElem? (i := 12) rfl))) (Or.inl (hw _ (List.mem_of_getElem? (i := 15) rfl))) (by decide) (t := (.array .long)) (t' := .int) (by decide) (by decide)))
    have F291 : Arv Z h54 b26 k26 .long (5 : Int32) [(.long i0), (.long i1), (.long i2), (.long i3), (.long i4)] (.long (0 : Int64)) := V40.other W54 (Ne.symm ne_b19_b26)
    have F292 : Arv Z h288 b26 k26 .long (5 : Int32) [(.long i0), (.long i1), (.long i2), (.long i3), (.long i4)] (.long (0 : Int64)) := F291.other W288 (Ne.symm ne_b19_b26)
    have P293 : own_Go p e below S0 (T288.setTop (mkF m 87 #[.val (.long i0), .second, .val (.long i1), .second, .val (.long i2), .second, .val (.long i3), .second, .val (.long i4), .second, .val (.int i5), .val (.int (4 : Int32)), .val (.ref b2), .val (.ref b19), .unset] [(.ref b19)])) := fun t k => P288 t (by
      show Steps p.tables e below (T288.setTop (mkF m 85 #[.val (.long i0), .second, .val (.long i1), .second, .val (.long i2), .second, .val (.long i3), .second, .val (.long i4), .second, .val (.int i5), .val (.int (4 : Int32)), .val (.ref b2), .val (.ref b19), .unset] [])) t
      refine XS.aload X288.here hx rfl (hb hby at_85) rfl rfl ?_
      show Steps p.tables e below (T288.setTop (mkF m 87 #[.val (.long i0), .second, .val (.long i1), .second, .val (.long i2), .second, .val (.long i3), .second, .val (.long i4), .second, .val (.int i5), .val (.int (4 : Int32)), .val (.ref b2), .val (.ref b19), .unset] [(.ref b19)])) t
      exact k)
    obtain ⟨cq294, kq294, q294a, q294b, q294c⟩ := isOf hZ e288 F289
    obtain ⟨_, _, ⟨T294, L294, k294, n294⟩, -, X294, ⟨Lc294, hQ294, l294, y294, z294⟩, st294⟩ := X288.virtualBack hx (y := (⟨"com/example/splice/splice/XPath$Keys", "reverse", "()V"⟩ : MethodName)) (z := (⟨"com/example/splice/splice/XPath$Keys", "reverse", "()V"⟩ : MethodName)) hown (mvT hZ (hw _ (List.mem_of_getElem? (i := 16) rfl))) (mvT hZ (hw _ (List.mem_of_getElem? (i := 17) rfl))) (notFace_of_selects (args := #[]) (mvT hZ (hw _ (List.mem_of_getElem? (i := 19) rfl)))) (mvT hZ (hw _ (List.mem_of_getElem? (i := 19) rfl))) (mvT hZ (hw _ (List.mem_of_getElem? (i := 18) rfl))) (by decide) (backOf (W := 0) (rm3s4 l Z a0 hw [] b19 b26 k26 i0 i1 i2 i3 i4 h288 n0 (Nat.le_trans Z0 K288.1) F290 F288w F292 g_b26 ne_b19_b26) hZ (hw _ (List.mem_of_getElem? (i := 20) rfl)) (hw _ (List.mem_of_getElem? (i := 4) rfl)) (by decide) (by decide)) q294a q294c (g := (mkF m 87 #[.val (.long i0), .second, .val (.long i1), .second, .val (.long i2), .second, .val (.long i3), .second, .val (.long i4), .second, .val (.int i5), .val (.int (4 : Int32)), .val (.ref b2), .val (.ref b19), .unset] [(.ref b19)])) rfl (by rw [hml]; rfl) (Steps.refl _) (argsL := []) (rest := []) (lenOf pd_0 rfl) rfl (by show 2 * 0 + _ ≤ _; exact Nat.le_of_eq rfl) (hb hby at_87) (fun _ _ => ⟨rfl, e288, (by decide : 4 + 0 ≤ _), (by decide : 20 + 0 ≤ _)⟩)
    dsimp only [Pt.U, Pt.locs, Pt.cells, Pt.slots] at X294 l294 y294 z294 st294 hQ294
    subst l294 y294 z294
    obtain ⟨rfl, N294q, Kc294, F294_0⟩ := hQ294
    have N294 := Fr.app N288 N294q
    have K294 : Keep h0 T294.heap [] := Keep.trans K288 Kc294 (allS (Or.inr o_b26) all0)
    have P294 : own_Go p e below S0 (T294.setTop (mkF m 90 #[.val (.long i0), .second, .val (.long i1), .second, .val (.long i2), .second, .val (.long i3), .second, .val (.long i4), .second, .val (.int i5), .val (.int (4 : Int32)), .val (.ref b2), .val (.ref b19), .unset] [])) := fun t k => P293 t (st294.trans k)
    have F295 : Fld Z T294.heap b19 "com/example/splice/splice/XPath$Keys" "keys" "[J" (.ref b26) := F290.keep Kc294 (ninS ne_b19_b26 nin0)
    have P296 : own_Go p e below S0 (T294.setTop (mkF m 92 #[.val (.long i0), .second, .val (.long i1), .second, .val (.long i2), .second, .val (.long i3), .second, .val (.long i4), .second, .val (.int i5), .val (.int (4 : Int32)), .val (.ref b2), .val (.ref b19), .unset] [(.ref b19)])) := fun t k => P294 t (by
      show Steps p.tables e below (T294.setTop (mkF m 90 #[.val (.long i0), .second, .val (.long i1), .second, .val (.long i2), .second, .val (.long i3), .second, .val (.long i4), .second, .val (.int i5), .val (.int (4 : Int32)), .val (.ref b2), .val (.ref b19), .unset] [])) t
      refine XS.aload X294.here hx rfl (hb hby at_90) rfl rfl ?_
      show Steps p.tables e below (T294.setTop (mkF m 92 #[.val (.long i0), .second, .val (.long i1), .second, .val (.long i2), .second, .val (.long i3), .second, .val (.long i4), .second, .val (.int i5), .val (.int (4 : Int32)), .val (.ref b2), .val (.ref b19), .unset] [(.ref b19)])) t
      exact k)
    obtain ⟨T297, X297, e297, st297⟩ := getF X294 hx hZ hown (host := "") (Or.inl (hw _ (List.mem_of_getElem? (i := 13) rfl))) Via.refl rfl F295 (g := (mkF m 92 #[.val (.long i0), .second, .val (.long i1), .second, .val (.long i2), .second, .val (.long i3), .second, .val (.long i4), .second, .val (.int i5), .val (.int (4 : Int32)), .val (.ref b2), .val (.ref b19), .unset] [(.ref b19)])) rfl rfl (hb hby at_92)
    have P297 : own_Go p e below S0 (T297.setTop (mkF m 95 #[.val (.long i0), .second, .val (.long i1), .second, .val (.long i2), .second, .val (.long i3), .second, .val (.long i4), .second, .val (.int i5), .val (.int (4 : Int32)), .val (.ref b2), .val (.ref b19), .unset] [(.ref b26)])) := fun t k => P296 t (st297 _ k)
    have F298 : Fld Z T294.heap b19 "com/example/splice/splice/XPath$Keys" "size" "I" (.int (4 : Int32)) := F288w.keep Kc294 (ninS ne_b19_b26 nin0)
    have P299 : own_Go p e below S0 (T297.setTop (mkF m 99 #[.val (.long i0), .second, .val (.long i1), .second, .val (.long i2), .second, .val (.long i3), .second, .val (.long i4), .second, .val (.int i5), .val (.int (4 : Int32)), .val (.ref b2), .val (.ref b19), .val (.ref b26)] [(.ref b19)])) := fun t k => P297 t (by
      show Steps p.tables e below (T297.setTop (mkF m 95 #[.val (.long i0), .second, .val (.long i1), .second, .val (.long i2), .second, .val (.long i3), .second, .val (.long i4), .second, .val (.int i5), .val (.int (4 : Int32)), .val (.ref b2), .val (.ref b19), .unset] [(.ref b26)])) t
      refine XS.astore X297.here hx rfl (hb hby at_95) rfl rfl (l' := #[.val (.long i0), .second, .val (.long i1), .second, .val (.long i2), .second, .val (.long i3), .second, .val (.long i4), .second, .val (.int i5), .val (.int (4 : Int32)), .val (.ref b2), .val (.ref b19), .val (.ref b26)]) rfl ?_
      refine XS.aload X297.here hx rfl (hb hby at_97) rfl rfl ?_
      show Steps p.tables e below (T297.setTop (mkF m 99 #[.val (.long i0), .second, .val (.long i1), .second, .val (.long i2), .second, .val (.long i3), .second, .val (.long i4), .second, .val (.int i5), .val (.int (4 : Int32)), .val (.ref b2), .val (.ref b19), .val (.ref b26)] [(.ref b19)])) t
      exact k)
    obtain ⟨T300, X300, e300, st300⟩ := getF X297 hx hZ hown (host := "") (Or.inl (hw _ (List.mem_of_getElem? (i := 14) rfl))) Via.refl e297 F298 (g := (mkF m 99 #[.val (.long i0), .second, .val (.long i1), .second, .val (.long i2), .second, .val (.long i3), .second, .val (.long i4), .second, .val (.int i5), .val (.int (4 : Int32)), .val (.ref b2), .val (.ref b19), .val (.ref b26)] [(.ref b19)])) rfl rfl (hb hby at_99)
    have P300 : own_Go p e below S0 (T300.setTop (mkF m 102 #[.val (.long i0), .second, .val (.long i1), .second, .val (.long i2), .second, .val (.long i3), .second, .val (.long i4), .second, .val (.int i5), .val (.int (4 : Int32)), .val (.ref b2), .val (.ref b19), .val (.ref b26)] [(.int (4 : Int32))])) := fun t k => P299 t (st300 _ k)
    obtain ⟨cl301, Ar301, q301, Sz301, Nn301, Hh301, Gg301⟩ := id F294_0
    obtain ⟨cl302, Ar302, q302, Sz302, Nn302, Hh302, Gg302⟩ := id F294_0
    have hin302 : ¬ ((0 : Int32) < 0 ∨ cl302.slots.size ≤ ((0 : Int32)).toNatClampNeg) := inb_of Sz302 ⟨by decide, by decide⟩
    have hat302 : cl302.slots[((0 : Int32)).toNatClampNeg]? = some (.long i3) := Has.at Hh302 hin302 rfl
    have F303 : Arv Z h26 b2 k2 .long (5 : Int32) [(.long i0), (.long i1), (.long i2), (.long i3), (.long i4)] (.long (0 : Int64)) := F23.ext E26
    have F304 : Arv Z h28 b2 k2 .long (5 : Int32) [(.long i0), (.long i1), (.long i2), (.long i3), (.long i4)] (.long (0 : Int64)) := F303.other W28 ne_b2_b26
    have F305 : Arv Z h31 b2 k2 .long (5 : Int32) [(.long i0), (.long i1), (.long i2), (.long i3), (.long i4)] (.long (0 : Int64)) := F304.other W31 ne_b2_b26
    have F306 : Arv Z h34 b2 k2 .long (5 : Int32) [(.long i0), (.long i1), (.long i2), (.long i3), (.long i4)] (.long (0 : Int64)) := F305.other W34 ne_b2_b26
    have F307 : Arv Z h37 b2 k2 .long (5 : Int32) [(.long i0), (.long i1), (.long i2), (.long i3), (.long i4)] (.long (0 : Int64)) := F306.other W37 ne_b2_b26
    have F308 : Arv Z h40 b2 k2 .long (5 : Int32) [(.long i0), (.long i1), (.long i2), (.long i3), (.long i4)] (.long (0 : Int64)) := F307.other W40 ne_b2_b26
    have F309 : Arv Z h54 b2 k2 .long (5 : Int32) [(.long i0), (.long i1), (.long i2), (.long i3), (.long i4)] (.long (0 : Int64)) := F308.other W54 ne_b2_b19
    have F310 : Arv Z h288 b2 k2 .long (5 : Int32) [(.long i0), (.long i1), (.long i2), (.long i3), (.long i4)] (.long (0 : Int64)) := F309.other W288 ne_b2_b19
    have F311 : Arv Z T294.heap b2 k2 .long (5 : Int32) [(.long i0), (.long i1), (.long i2), (.long i3), (.long i4)] (.long (0 : Int64)) := F310.keep Kc294 (ninS ne_b2_b26 nin0)
    have P312 : own_Go p e below S0 (T300.setTop (mkF m 125 #[.val (.long i0), .second, .val (.long i1), .second, .val (.long i2), .second, .val (.long i3), .second, .val (.long i4), .second, .val (.int i5), .val (.int (4 : Int32)), .val (.ref b2), .val (.ref b19), .val (.ref b26)] [(.int (0 : Int32)), (.int (4 : Int32)), (.ref b2), (.long i3)])) := fun t k => P300 t (by
      show Steps p.tables e below (T300.setTop (mkF m 102 #[.val (.long i0), .second, .val (.long i1), .second, .val (.long i2), .second, .val (.long i3), .second, .val (.long i4), .second, .val (.int i5), .val (.int (4 : Int32)), .val (.ref b2), .val (.ref b19), .val (.ref b26)] [(.int (4 : Int32))])) t
      refine XS.iload X300.here hx rfl (hb hby at_102) rfl ?_
      refine XS.icmpNo X300.here hx rfl (hb hby at_104) rfl (teq (by decide)).2 ?_
      refine XS.aload X300.here hx rfl (hb hby at_107) rfl rfl ?_
      show Steps p.tables e below (T300.setTop (mkF m 109 #[.val (.long i0), .second, .val (.long i1), .second, .val (.long i2), .second, .val (.long i3), .second, .val (.long i4), .second, .val (.int i5), .val (.int (4 : Int32)), .val (.ref b2), .val (.ref b19), .val (.ref b26)] [(.ref b26)])) t
      refine X300.arraylength hx (by rw [e300]; exact Ar301.1) (State.isArrayOf_alike hZ.alike Ar301.2.1) (g := (mkF m 109 #[.val (.long i0), .second, .val (.long i1), .second, .val (.long i2), .second, .val (.long i3), .second, .val (.long i4), .second, .val (.int i5), .val (.int (4 : Int32)), .val (.ref b2), .val (.ref b19), .val (.ref b26)] [(.ref b26)])) rfl rfl (hb hby at_109) _ ?_
      rw [len_of Sz301 Nn301]
      refine XS.iconst X300.here hx rfl (hb hby at_110) ?_
      refine XS.icmpYes X300.here hx rfl (pc0 := 111) (pc' := 116) rfl (hb hby at_111) rfl (teq (by decide)).1 (by decide) (by decide) ?_
      show Steps p.tables e below (T300.setTop (mkF m 116 #[.val (.long i0), .second, .val (.long i1), .second, .val (.long i2), .second, .val (.long i3), .second, .val (.long i4), .second, .val (.int i5), .val (.int (4 : Int32)), .val (.ref b2), .val (.ref b19), .val (.ref b26)] [])) t
      refine XS.aload X300.here hx rfl (hb hby at_116) rfl rfl ?_
      refine XS.iconst X300.here hx rfl (hb hby at_118) ?_
      show Steps p.tables e below (T300.setTop (mkF m 119 #[.val (.long i0), .second, .val (.long i1), .second, .val (.long i2), .second, .val (.long i3), .second, .val (.long i4), .second, .val (.int i5), .val (.int (4 : Int32)), .val (.ref b2), .val (.ref b19), .val (.ref b26)] [(.int (0 : Int32)), (.ref b26)])) t
      refine X300.laload hx (j := (0 : Int32)) (v := (.long i3)) (by rw [e300]; exact Ar302.1) (State.isArrayOf_alike hZ.alike Ar302.2.1) Ar302.2.2 hin302 hat302 (g := (mkF m 119 #[.val (.long i0), .second, .val (.long i1), .second, .val (.long i2), .second, .val (.long i3), .second, .val (.long i4), .second, .val (.int i5), .val (.int (4 : Int32)), .val (.ref b2), .val (.ref b19), .val (.ref b26)] [(.int (0 : Int32)), (.ref b26)])) rfl rfl (hb hby at_119) _ ?_
      refine XS.aload X300.here hx rfl (hb hby at_120) rfl rfl ?_
      refine XS.iload X300.here hx rfl (hb hby at_122) rfl ?_
      refine XS.iconst X300.here hx rfl (hb hby at_124) ?_
      show Steps p.tables e below (T300.setTop (mkF m 125 #[.val (.long i0), .second, .val (.long i1), .second, .val (.long i2), .second, .val (.long i3), .second, .val (.long i4), .second, .val (.int i5), .val (.int (4 : Int32)), .val (.ref b2), .val (.ref b19), .val (.ref b26)] [(.int (0 : Int32)), (.int (4 : Int32)), (.ref b2), (.long i3)])) t
      exact k)
    obtain ⟨_, _, ⟨T313, L313, k313, n313⟩, -, X313, ⟨Lc313, hQ313, l313, y313, z313⟩, st313⟩ := Jvm.LawKit.callS X300 hx (y := (⟨"com/example/splice/splice/KeysReversePinLaw", "at", "([JII)J"⟩ : MethodName)) hown (mvT hZ (hw _ (List.mem_of_getElem? (i := 22) rfl))) (mvT hZ (hw _ (List.mem_of_getElem? (i := 23) rfl))) (mvT hZ (hw _ (List.mem_of_getElem? (i := 24) rfl))) (mvT hZ (hw _ (List.mem_of_getElem? (i := 25) rfl))) (by decide) (backOf (W := 2) (rm4_4_0 l Z a0 hw [] b2 k2 i0 i1 i2 i3 i4 T294.heap n0 (Nat.le_trans Z0 K294.1) F311) hZ (hw _ (List.mem_of_getElem? (i := 25) rfl)) (hw _ (List.mem_of_getElem? (i := 24) rfl)) (by decide) (by decide)) (g := (mkF m 125 #[.val (.long i0), .second, .val (.long i1), .second, .val (.long i2), .second, .val (.long i3), .second, .val (.long i4), .second, .val (.int i5), .val (.int (4 : Int32)), .val (.ref b2), .val (.ref b19), .val (.ref b26)] [(.int (0 : Int32)), (.int (4 : Int32)), (.ref b2), (.long i3)])) rfl (by rw [hml]; rfl) (argsL := [(.ref b2), (.int (4 : Int32)), (.int (0 : Int32))]) (rest := [(.long i3)]) (lenOf pd_1 rfl) rfl (by show 2 * 0 + _ ≤ _; exact Nat.le_of_eq rfl) (hb hby at_125) (fun _ _ => ⟨rfl, e300, (by decide : 4 + 0 ≤ _), (by decide : 20 + 0 ≤ _)⟩)
    dsimp only [Pt.U, Pt.locs, Pt.cells, Pt.slots] at X313 l313 y313 z313 st313 hQ313
    subst l313 y313 z313
    obtain ⟨rfl, N313q, e313⟩ := hQ313
    have N313 := Fr.app N294 N313q
    have P313 : own_Go p e below S0 (T313.setTop (mkF m 128 #[.val (.long i0), .second, .val (.long i1), .second, .val (.long i2), .second, .val (.long i3), .second, .val (.long i4), .second, .val (.int i5), .val (.int (4 : Int32)), .val (.ref b2), .val (.ref b19), .val (.ref b26)] [(.long i3), (.long i3)])) := fun t k => P312 t (st313 _ k)
    obtain ⟨cl314, Ar314, q314, Sz314, Nn314, Hh314, Gg314⟩ := id F294_0
    have hin314 : ¬ ((1 : Int32) < 0 ∨ cl314.slots.size ≤ ((1 : Int32)).toNatClampNeg) := inb_of Sz314 ⟨by decide, by decide⟩
    have hat314 : cl314.slots[((1 : Int32)).toNatClampNeg]? = some (.long i2) := Has.at Hh314 hin314 rfl
    have P315 : own_Go p e below S0 (T313.setTop (mkF m 141 #[.val (.long i0), .second, .val (.long i1), .second, .val (.long i2), .second, .val (.long i3), .second, .val (.long i4), .second, .val (.int i5), .val (.int (4 : Int32)), .val (.ref b2), .val (.ref b19), .val (.ref b26)] [(.int (1 : Int32)), (.int (4 : Int32)), (.ref b2), (.long i2)])) := fun t k => P313 t (by
      show Steps p.tables e below (T313.setTop (mkF m 128 #[.val (.long i0), .second, .val (.long i1), .second, .val (.long i2), .second, .val (.long i3), .second, .val (.long i4), .second, .val (.int i5), .val (.int (4 : Int32)), .val (.ref b2), .val (.ref b19), .val (.ref b26)] [(.long i3), (.long i3)])) t
      refine XS.lcmp X313.here hx rfl (hb hby at_128) rfl ?_
      refine XS.ifNo X313.here hx rfl (hb hby at_129) rfl ((if0 _ _).trans (teq ((lw_eq i3 i3).mpr rfl)).2) ?_
      refine XS.aload X313.here hx rfl (hb hby at_132) rfl rfl ?_
      refine XS.iconst X313.here hx rfl (hb hby at_134) ?_
      show Steps p.tables e below (T313.setTop (mkF m 135 #[.val (.long i0), .second, .val (.long i1), .second, .val (.long i2), .second, .val (.long i3), .second, .val (.long i4), .second, .val (.int i5), .val (.int (4 : Int32)), .val (.ref b2), .val (.ref b19), .val (.ref b26)] [(.int (1 : Int32)), (.ref b26)])) t
      refine X313.laload hx (j := (1 : Int32)) (v := (.long i2)) (by rw [e313]; exact Ar314.1) (State.isArrayOf_alike hZ.alike Ar314.2.1) Ar314.2.2 hin314 hat314 (g := (mkF m 135 #[.val (.long i0), .second, .val (.long i1), .second, .val (.long i2), .second, .val (.long i3), .second, .val (.long i4), .second, .val (.int i5), .val (.int (4 : Int32)), .val (.ref b2), .val (.ref b19), .val (.ref b26)] [(.int (1 : Int32)), (.ref b26)])) rfl rfl (hb hby at_135) _ ?_
      refine XS.aload X313.here hx rfl (hb hby at_136) rfl rfl ?_
      show Steps p.tables e below (T313.setTop (mkF m 138 #[.val (.long i0), .second, .val (.long i1), .second, .val (.long i2), .second, .val (.long i3), .second, .val (.long i4), .second, .val (.int i5), .val (.int (4 : Int32)), .val (.ref b2), .val (.ref b19), .val (.ref b26)] [(.ref b2), (.long i2)])) t
      refine XS.iload X313.here hx rfl (hb hby at_138) rfl ?_
      refine XS.iconst X313.here hx rfl (hb hby at_140) ?_
      show Steps p.tables e below (T313.setTop (mkF m 141 #[.val (.long i0), .second, .val (.long i1), .second, .val (.long i2), .second, .val (.long i3), .second, .val (.long i4), .second, .val (.int i5), .val (.int (4 : Int32)), .val (.ref b2), .val (.ref b19), .val (.ref b26)] [(.int (1 : Int32)), (.int (4 : Int32)), (.ref b2), (.long i2)])) t
      exact k)
    obtain ⟨_, _, ⟨T316, L316, k316, n316⟩, -, X316, ⟨Lc316, hQ316, l316, y316, z316⟩, st316⟩ := Jvm.LawKit.callS X313 hx (y := (⟨"com/example/splice/splice/KeysReversePinLaw", "at", "([JII)J"⟩ : MethodName)) hown (mvT hZ (hw _ (List.mem_of_getElem? (i := 22) rfl))) (mvT hZ (hw _ (List.mem_of_getElem? (i := 23) rfl))) (mvT hZ (hw _ (List.mem_of_getElem? (i := 24) rfl))) (mvT hZ (hw _ (List.mem_of_getElem? (i := 25) rfl))) (by decide) (backOf (W := 2) (rm4_4_1 l Z a0 hw [] b2 k2 i0 i1 i2 i3 i4 T294.heap n0 (Nat.le_trans Z0 K294.1) F311) hZ (hw _ (List.mem_of_getElem? (i := 25) rfl)) (hw _ (List.mem_of_getElem? (i := 24) rfl)) (by decide) (by decide)) (g := (mkF m 141 #[.val (.long i0), .second, .val (.long i1), .second, .val (.long i2), .second, .val (.long i3), .second, .val (.long i4), .second, .val (.int i5), .val (.int (4 : Int32)), .val (.ref b2), .val (.ref b19), .val (.ref b26)] [(.int (1 : Int32)), (.int (4 : Int32)), (.ref b2), (.long i2)])) rfl (by rw [hml]; rfl) (argsL := [(.ref b2), (.int (4 : Int32)), (.int (1 : Int32))]) (rest := [(.long i2)]) (lenOf pd_1 rfl) rfl (by show 2 * 0 + _ ≤ _; exact Nat.le_of_eq rfl) (hb hby at_141) (fun _ _ => ⟨rfl, e313, (by decide : 4 + 0 ≤ _), (by decide : 20 + 0 ≤ _)⟩)
    dsimp only [Pt.U, Pt.locs, Pt.cells, Pt.slots] at X316 l316 y316 z316 st316 hQ316
    subst l316 y316 z316
    obtain ⟨rfl, N316q, e316⟩ := hQ316
    have N316 := Fr.app N313 N316q
    have P316 : own_Go p e below S0 (T316.setTop (mkF m 144 #[.val (.long i0), .second, .val (.long i1), .second, .val (.long i2), .second, .val (.long i3), .second, .val (.long i4), .second, .val (.int i5), .val (.int (4 : Int32)), .val (.ref b2), .val (.ref b19), .val (.ref b26)] [(.long i2), (.long i2)])) := fun t k => P315 t (st316 _ k)
    obtain ⟨cl317, Ar317, q317, Sz317, Nn317, Hh317, Gg317⟩ := id F294_0
    have hin317 : ¬ ((2 : Int32) < 0 ∨ cl317.slots.size ≤ ((2 : Int32)).toNatClampNeg) := inb_of Sz317 ⟨by decide, by decide⟩
    have hat317 : cl317.slots[((2 : Int32)).toNatClampNeg]? = some (.long i1) := Has.at Hh317 hin317 rfl
    have P318 : own_Go p e below S0 (T316.setTop (mkF m 157 #[.val (.long i0), .second, .val (.long i1), .second, .val (.long i2), .second, .val (.long i3), .second, .val (.long i4), .second, .val (.int i5), .val (.int (4 : Int32)), .val (.ref b2), .val (.ref b19), .val (.ref b26)] [(.int (2 : Int32)), (.int (4 : Int32)), (.ref b2), (.long i1)])) := fun t k => P316 t (by
      show Steps p.tables e below (T316.setTop (mkF m 144 #[.val (.long i0), .second, .val (.long i1), .second, .val (.long i2), .second, .val (.long i3), .second, .val (.long i4), .second, .val (.int i5), .val (.int (4 : Int32)), .val (.ref b2), .val (.ref b19), .val (.ref b26)] [(.long i2), (.long i2)])) t
      refine XS.lcmp X316.here hx rfl (hb hby at_144) rfl ?_
      refine XS.ifNo X316.here hx rfl (hb hby at_145) rfl ((if0 _ _).trans (teq ((lw_eq i2 i2).mpr rfl)).2) ?_
      refine XS.aload X316.here hx rfl (hb hby at_148) rfl rfl ?_
      refine XS.iconst X316.here hx rfl (hb hby at_150) ?_
      show Steps p.tables e below (T316.setTop (mkF m 151 #[.val (.long i0), .second, .val (.long i1), .second, .val (.long i2), .second, .val (.long i3), .second, .val (.long i4), .second, .val (.int i5), .val (.int (4 : Int32)), .val (.ref b2), .val (.ref b19), .val (.ref b26)] [(.int (2 : Int32)), (.ref b26)])) t
      refine X316.laload hx (j := (2 : Int32)) (v := (.long i1)) (by rw [e316]; exact Ar317.1) (State.isArrayOf_alike hZ.alike Ar317.2.1) Ar317.2.2 hin317 hat317 (g := (mkF m 151 #[.val (.long i0), .second, .val (.long i1), .second, .val (.long i2), .second, .val (.long i3), .second, .val (.long i4), .second, .val (.int i5), .val (.int (4 : Int32)), .val (.ref b2), .val (.ref b19), .val (.ref b26)] [(.int (2 : Int32)), (.ref b26)])) rfl rfl (hb hby at_151) _ ?_
      refine XS.aload X316.here hx rfl (hb hby at_152) rfl rfl ?_
      show Steps p.tables e below (T316.setTop (mkF m 154 #[.val (.long i0), .second, .val (.long i1), .second, .val (.long i2), .second, .val (.long i3), .second, .val (.long i4), .second, .val (.int i5), .val (.int (4 : Int32)), .val (.ref b2), .val (.ref b19), .val (.ref b26)] [(.ref b2), (.long i1)])) t
      refine XS.iload X316.here hx rfl (hb hby at_154) rfl ?_
      refine XS.iconst X316.here hx rfl (hb hby at_156) ?_
      show Steps p.tables e below (T316.setTop (mkF m 157 #[.val (.long i0), .second, .val (.long i1), .second, .val (.long i2), .second, .val (.long i3), .second, .val (.long i4), .second, .val (.int i5), .val (.int (4 : Int32)), .val (.ref b2), .val (.ref b19), .val (.ref b26)] [(.int (2 : Int32)), (.int (4 : Int32)), (.ref b2), (.long i1)])) t
      exact k)
    obtain ⟨_, _, ⟨T319, L319, k319, n319⟩, -, X319, ⟨Lc319, hQ319, l319, y319, z319⟩, st319⟩ := Jvm.LawKit.callS X316 hx (y := (⟨"com/example/splice/splice/KeysReversePinLaw", "at", "([JII)J"⟩ : MethodName)) hown (mvT hZ (hw _ (List.mem_of_getElem? (i := 22) rfl))) (mvT hZ (hw _ (List.mem_of_getElem? (i := 23) rfl))) (mvT hZ (hw _ (List.mem_of_getElem? (i := 24) rfl))) (mvT hZ (hw _ (List.mem_of_getElem? (i := 25) rfl))) (by decide) (backOf (W := 2) (rm4_4_2 l Z a0 hw [] b2 k2 i0 i1 i2 i3 i4 T294.heap n0 (Nat.le_trans Z0 K294.1) F311) hZ (hw _ (List.mem_of_getElem? (i := 25) rfl)) (hw _ (List.mem_of_getElem? (i := 24) rfl)) (by decide) (by decide)) (g := (mkF m 157 #[.val (.long i0), .second, .val (.long i1), .second, .val (.long i2), .second, .val (.long i3), .second, .val (.long i4), .second, .val (.int i5), .val (.int (4 : Int32)), .val (.ref b2), .val (.ref b19), .val (.ref b26)] [(.int (2 : Int32)), (.int (4 : Int32)), (.ref b2), (.long i1)])) rfl (by rw [hml]; rfl) (argsL := [(.ref b2), (.int (4 : Int32)), (.int (2 : Int32))]) (rest := [(.long i1)]) (lenOf pd_1 rfl) rfl (by show 2 * 0 + _ ≤ _; exact Nat.le_of_eq rfl) (hb hby at_157) (fun _ _ => ⟨rfl, e316, (by decide : 4 + 0 ≤ _), (by decide : 20 + 0 ≤ _)⟩)
    dsimp only [Pt.U, Pt.locs, Pt.cells, Pt.slots] at X319 l319 y319 z319 st319 hQ319
    subst l319 y319 z319
    obtain ⟨rfl, N319q, e319⟩ := hQ319
    have N319 := Fr.app N316 N319q
    have P319 : own_Go p e below S0 (T319.setTop (mkF m 160 #[.val (.long i0), .second, .val (.long i1), .second, .val (.long i2), .second, .val (.long i3), .second, .val (.long i4), .second, .val (.int i5), .val (.int (4 : Int32)), .val (.ref b2), .val (.ref b19), .val (.ref b26)] [(.long i1), (.long i1)])) := fun t k => P318 t (st319 _ k)
    obtain ⟨cl320, Ar320, q320, Sz320, Nn320, Hh320, Gg320⟩ := id F294_0
    have hin320 : ¬ ((3 : Int32) < 0 ∨ cl320.slots.size ≤ ((3 : Int32)).toNatClampNeg) := inb_of Sz320 ⟨by decide, by decide⟩
    have hat320 : cl320.slots[((3 : Int32)).toNatClampNeg]? = some (.long i0) := Has.at Hh320 hin320 rfl
    have P321 : own_Go p e below S0 (T319.setTop (mkF m 173 #[.val (.long i0), .second, .val (.long i1), .second, .val (.long i2), .second, .val (.long i3), .second, .val (.long i4), .second, .val (.int i5), .val (.int (4 : Int32)), .val (.ref b2), .val (.ref b19), .val (.ref b26)] [(.int (3 : Int32)), (.int (4 : Int32)), (.ref b2), (.long i0)])) := fun t k => P319 t (by
      show Steps p.tables e below (T319.setTop (mkF m 160 #[.val (.long i0), .second, .val (.long i1), .second, .val (.long i2), .second, .val (.long i3), .second, .val (.long i4), .second, .val (.int i5), .val (.int (4 : Int32)), .val (.ref b2), .val (.ref b19), .val (.ref b26)] [(.long i1), (.long i1)])) t
      refine XS.lcmp X319.here hx rfl (hb hby at_160) rfl ?_
      refine XS.ifNo X319.here hx rfl (hb hby at_161) rfl ((if0 _ _).trans (teq ((lw_eq i1 i1).mpr rfl)).2) ?_
      refine XS.aload X319.here hx rfl (hb hby at_164) rfl rfl ?_
      refine XS.iconst X319.here hx rfl (hb hby at_166) ?_
      show Steps p.tables e below (T319.setTop (mkF m 167 #[.val (.long i0), .second, .val (.long i1), .second, .val (.long i2), .second, .val (.long i3), .second, .val (.long i4), .second, .val (.int i5), .val (.int (4 : Int32)), .val (.ref b2), .val (.ref b19), .val (.ref b26)] [(.int (3 : Int32)), (.ref b26)])) t
      refine X319.laload hx (j := (3 : Int32)) (v := (.long i0)) (by rw [e319]; exact Ar320.1) (State.isArrayOf_alike hZ.alike Ar320.2.1) Ar320.2.2 hin320 hat320 (g := (mkF m 167 #[.val (.long i0), .second, .val (.long i1), .second, .val (.long i2), .second, .val (.long i3), .second, .val (.long i4), .second, .val (.int i5), .val (.int (4 : Int32)), .val (.ref b2), .val (.ref b19), .val (.ref b26)] [(.int (3 : Int32)), (.ref b26)])) rfl rfl (hb hby at_167) _ ?_
      refine XS.aload X319.here hx rfl (hb hby at_168) rfl rfl ?_
      show Steps p.tables e below (T319.setTop (mkF m 170 #[.val (.long i0), .second, .val (.long i1), .second, .val (.long i2), .second, .val (.long i3), .second, .val (.long i4), .second, .val (.int i5), .val (.int (4 : Int32)), .val (.ref b2), .val (.ref b19), .val (.ref b26)] [(.ref b2), (.long i0)])) t
      refine XS.iload X319.here hx rfl (hb hby at_170) rfl ?_
      refine XS.iconst X319.here hx rfl (hb hby at_172) ?_
      show Steps p.tables e below (T319.setTop (mkF m 173 #[.val (.long i0), .second, .val (.long i1), .second, .val (.long i2), .second, .val (.long i3), .second, .val (.long i4), .second, .val (.int i5), .val (.int (4 : Int32)), .val (.ref b2), .val (.ref b19), .val (.ref b26)] [(.int (3 : Int32)), (.int (4 : Int32)), (.ref b2), (.long i0)])) t
      exact k)
    obtain ⟨_, _, ⟨T322, L322, k322, n322⟩, -, X322, ⟨Lc322, hQ322, l322, y322, z322⟩, st322⟩ := Jvm.LawKit.callS X319 hx (y := (⟨"com/example/splice/splice/KeysReversePinLaw", "at", "([JII)J"⟩ : MethodName)) hown (mvT hZ (hw _ (List.mem_of_getElem? (i := 22) rfl))) (mvT hZ (hw _ (List.mem_of_getElem? (i := 23) rfl))) (mvT hZ (hw _ (List.mem_of_getElem? (i := 24) rfl))) (mvT hZ (hw _ (List.mem_of_getElem? (i := 25) rfl))) (by decide) (backOf (W := 2) (rm4_4_3 l Z a0 hw [] b2 k2 i0 i1 i2 i3 i4 T294.heap n0 (Nat.le_trans Z0 K294.1) F311) hZ (hw _ (List.mem_of_getElem? (i := 25) rfl)) (hw _ (List.mem_of_getElem? (i := 24) rfl)) (by decide) (by decide)) (g := (mkF m 173 #[.val (.long i0), .second, .val (.long i1), .second, .val (.long i2), .second, .val (.long i3), .second, .val (.long i4), .second, .val (.int i5), .val (.int (4 : Int32)), .val (.ref b2), .val (.ref b19), .val (.ref b26)] [(.int (3 : Int32)), (.int (4 : Int32)), (.ref b2), (.long i0)])) rfl (by rw [hml]; rfl) (argsL := [(.ref b2), (.int (4 : Int32)), (.int (3 : Int32))]) (rest := [(.long i0)]) (lenOf pd_1 rfl) rfl (by show 2 * 0 + _ ≤ _; exact Nat.le_of_eq rfl) (hb hby at_173) (fun _ _ => ⟨rfl, e319, (by decide : 4 + 0 ≤ _), (by decide : 20 + 0 ≤ _)⟩)
    dsimp only [Pt.U, Pt.locs, Pt.cells, Pt.slots] at X322 l322 y322 z322 st322 hQ322
    subst l322 y322 z322
    obtain ⟨rfl, N322q, e322⟩ := hQ322
    have N322 := Fr.app N319 N322q
    have P322 : own_Go p e below S0 (T322.setTop (mkF m 176 #[.val (.long i0), .second, .val (.long i1), .second, .val (.long i2), .second, .val (.long i3), .second, .val (.long i4), .second, .val (.int i5), .val (.int (4 : Int32)), .val (.ref b2), .val (.ref b19), .val (.ref b26)] [(.long i0), (.long i0)])) := fun t k => P321 t (st322 _ k)
    obtain ⟨cl323, Ar323, q323, Sz323, Nn323, Hh323, Gg323⟩ := id F294_0
    have hin323 : ¬ ((4 : Int32) < 0 ∨ cl323.slots.size ≤ ((4 : Int32)).toNatClampNeg) := inb_of Sz323 ⟨by decide, by decide⟩
    have hat323 : cl323.slots[((4 : Int32)).toNatClampNeg]? = some (.long i4) := Has.at Hh323 hin323 rfl
    have P324 : own_Go p e below S0 (T322.setTop (mkF m 189 #[.val (.long i0), .second, .val (.long i1), .second, .val (.long i2), .second, .val (.long i3), .second, .val (.long i4), .second, .val (.int i5), .val (.int (4 : Int32)), .val (.ref b2), .val (.ref b19), .val (.ref b26)] [(.int (4 : Int32)), (.int (4 : Int32)), (.ref b2), (.long i4)])) := fun t k => P322 t (by
      show Steps p.tables e below (T322.setTop (mkF m 176 #[.val (.long i0), .second, .val (.long i1), .second, .val (.long i2), .second, .val (.long i3), .second, .val (.long i4), .second, .val (.int i5), .val (.int (4 : Int32)), .val (.ref b2), .val (.ref b19), .val (.ref b26)] [(.long i0), (.long i0)])) t
      refine XS.lcmp X322.here hx rfl (hb hby at_176) rfl ?_
      refine XS.ifNo X322.here hx rfl (hb hby at_177) rfl ((if0 _ _).trans (teq ((lw_eq i0 i0).mpr rfl)).2) ?_
      refine XS.aload X322.here hx rfl (hb hby at_180) rfl rfl ?_
      refine XS.iconst X322.here hx rfl (hb hby at_182) ?_
      show Steps p.tables e below (T322.setTop (mkF m 183 #[.val (.long i0), .second, .val (.long i1), .second, .val (.long i2), .second, .val (.long i3), .second, .val (.long i4), .second, .val (.int i5), .val (.int (4 : Int32)), .val (.ref b2), .val (.ref b19), .val (.ref b26)] [(.int (4 : Int32)), (.ref b26)])) t
      refine X322.laload hx (j := (4 : Int32)) (v := (.long i4)) (by rw [e322]; exact Ar323.1) (State.isArrayOf_alike hZ.alike Ar323.2.1) Ar323.2.2 hin323 hat323 (g := (mkF m 183 #[.val (.long i0), .second, .val (.long i1), .second, .val (.long i2), .second, .val (.long i3), .second, .val (.long i4), .second, .val (.int i5), .val (.int (4 : Int32)), .val (.ref b2), .val (.ref b19), .val (.ref b26)] [(.int (4 : Int32)), (.ref b26)])) rfl rfl (hb hby at_183) _ ?_
      refine XS.aload X322.here hx rfl (hb hby at_184) rfl rfl ?_
      show Steps p.tables e below (T322.setTop (mkF m 186 #[.val (.long i0), .second, .val (.long i1), .second, .val (.long i2), .second, .val (.long i3), .second, .val (.long i4), .second, .val (.int i5), .val (.int (4 : Int32)), .val (.ref b2), .val (.ref b19), .val (.ref b26)] [(.ref b2), (.long i4)])) t
      refine XS.iload X322.here hx rfl (hb hby at_186) rfl ?_
      refine XS.iconst X322.here hx rfl (hb hby at_188) ?_
      show Steps p.tables e below (T322.setTop (mkF m 189 #[.val (.long i0), .second, .val (.long i1), .second, .val (.long i2), .second, .val (.long i3), .second, .val (.long i4), .second, .val (.int i5), .val (.int (4 : Int32)), .val (.ref b2), .val (.ref b19), .val (.ref b26)] [(.int (4 : Int32)), (.int (4 : Int32)), (.ref b2), (.long i4)])) t
      exact k)
    obtain ⟨_, _, ⟨T325, L325, k325, n325⟩, -, X325, ⟨Lc325, hQ325, l325, y325, z325⟩, st325⟩ := Jvm.LawKit.callS X322 hx (y := (⟨"com/example/splice/splice/KeysReversePinLaw", "at", "([JII)J"⟩ : MethodName)) hown (mvT hZ (hw _ (List.mem_of_getElem? (i := 22) rfl))) (mvT hZ (hw _ (List.mem_of_getElem? (i := 23) rfl))) (mvT hZ (hw _ (List.mem_of_getElem? (i := 24) rfl))) (mvT hZ (hw _ (List.mem_of_getElem? (i := 25) rfl))) (by decide) (backOf (W := 2) (rm4_4_4 l Z a0 hw [] b2 k2 i0 i1 i2 i3 i4 T294.heap n0 (Nat.le_trans Z0 K294.1) F311) hZ (hw _ (List.mem_of_getElem? (i := 25) rfl)) (hw _ (List.mem_of_getElem? (i := 24) rfl)) (by decide) (by decide)) (g := (mkF m 189 #[.val (.long i0), .second, .val (.long i1), .second, .val (.long i2), .second, .val (.long i3), .second, .val (.long i4), .second, .val (.int i5), .val (.int (4 : Int32)), .val (.ref b2), .val (.ref b19), .val (.ref b26)] [(.int (4 : Int32)), (.int (4 : Int32)), (.ref b2), (.long i4)])) rfl (by rw [hml]; rfl) (argsL := [(.ref b2), (.int (4 : Int32)), (.int (4 : Int32))]) (rest := [(.long i4)]) (lenOf pd_1 rfl) rfl (by show 2 * 0 + _ ≤ _; exact Nat.le_of_eq rfl) (hb hby at_189) (fun _ _ => ⟨rfl, e322, (by decide : 4 + 0 ≤ _), (by decide : 20 + 0 ≤ _)⟩)
    dsimp only [Pt.U, Pt.locs, Pt.cells, Pt.slots] at X325 l325 y325 z325 st325 hQ325
    subst l325 y325 z325
    obtain ⟨rfl, N325q, e325⟩ := hQ325
    have N325 := Fr.app N322 N325q
    have P325 : own_Go p e below S0 (T325.setTop (mkF m 192 #[.val (.long i0), .second, .val (.long i1), .second, .val (.long i2), .second, .val (.long i3), .second, .val (.long i4), .second, .val (.int i5), .val (.int (4 : Int32)), .val (.ref b2), .val (.ref b19), .val (.ref b26)] [(.long i4), (.long i4)])) := fun t k => P324 t (st325 _ k)
    have P326 : own_Go p e below S0 (T325.setTop (mkF m 201 #[.val (.long i0), .second, .val (.long i1), .second, .val (.long i2), .second, .val (.long i3), .second, .val (.long i4), .second, .val (.int i5), .val (.int (4 : Int32)), .val (.ref b2), .val (.ref b19), .val (.ref b26)] [(.int (1 : Int32))])) := fun t k => P325 t (by
      show Steps p.tables e below (T325.setTop (mkF m 192 #[.val (.long i0), .second, .val (.long i1), .second, .val (.long i2), .second, .val (.long i3), .second, .val (.long i4), .second, .val (.int i5), .val (.int (4 : Int32)), .val (.ref b2), .val (.ref b19), .val (.ref b26)] [(.long i4), (.long i4)])) t
      refine XS.lcmp X325.here hx rfl (hb hby at_192) rfl ?_
      refine XS.ifNo X325.here hx rfl (hb hby at_193) rfl ((if0 _ _).trans (teq ((lw_eq i4 i4).mpr rfl)).2) ?_
      refine XS.iconst X325.here hx rfl (hb hby at_196) ?_
      refine XS.goto X325.here hx rfl (pc0 := 197) (pc' := 201) rfl (hb hby at_197) (by decide) (by decide) ?_
      show Steps p.tables e below (T325.setTop (mkF m 201 #[.val (.long i0), .second, .val (.long i1), .second, .val (.long i2), .second, .val (.long i3), .second, .val (.long i4), .second, .val (.int i5), .val (.int (4 : Int32)), .val (.ref b2), .val (.ref b19), .val (.ref b26)] [(.int (1 : Int32))])) t
      exact k)
    have F327 : Exa Z T294.heap b19 "com/example/splice/splice/XPath$Keys" := F289.keep Kc294
    have F328 : Arv Z h26 b4_22 k4_22 .long (8 : Int32) [(.long (0 : Int64)), (.long (0 : Int64)), (.long (0 : Int64)), (.long (0 : Int64)), (.long (0 : Int64)), (.long (0 : Int64)), (.long (0 : Int64)), (.long (0 : Int64))] (.long (0 : Int64)) := F22_1.ext E26
    have F329 : Arv Z h28 b4_22 k4_22 .long (8 : Int32) [(.long (0 : Int64)), (.long (0 : Int64)), (.long (0 : Int64)), (.long (0 : Int64)), (.long (0 : Int64)), (.long (0 : Int64)), (.long (0 : Int64)), (.long (0 : Int64))] (.long (0 : Int64)) := F328.other W28 ne_b4_22_b26
    have F330 : Arv Z h31 b4_22 k4_22 .long (8 : Int32) [(.long (0 : Int64)), (.long (0 : Int64)), (.long (0 : Int64)), (.long (0 : Int64)), (.long (0 : Int64)), (.long (0 : Int64)), (.long (0 : Int64)), (.long (0 : Int64))] (.long (0 : Int64)) := F329.other W31 ne_b4_22_b26
    have F331 : Arv Z h34 b4_22 k4_22 .long (8 : Int32) [(.long (0 : Int64)), (.long (0 : Int64)), (.long (0 : Int64)), (.long (0 : Int64)), (.long (0 : Int64)), (.long (0 : Int64)), (.long (0 : Int64)), (.long (0 : Int64))] (.long (0 : Int64)) := F330.other W34 ne_b4_22_b26
    have F332 : Arv Z h37 b4_22 k4_22 .long (8 : Int32) [(.long (0 : Int64)), (.long (0 : Int64)), (.long (0 : Int64)), (.long (0 : Int64)), (.long (0 : Int64)), (.long (0 : Int64)), (.long (0 : Int64)), (.long (0 : Int64))] (.long (0 : Int64)) := F331.other W37 ne_b4_22_b26
    have F333 : Arv Z h40 b4_22 k4_22 .long (8 : Int32) [(.long (0 : Int64)), (.long (0 : Int64)), (.long (0 : Int64)), (.long (0 : Int64)), (.long (0 : Int64)), (.long (0 : Int64)), (.long (0 : Int64)), (.long (0 : Int64))] (.long (0 : Int64)) := F332.other W40 ne_b4_22_b26
    have F334 : Arv Z h54 b4_22 k4_22 .long (8 : Int32) [(.long (0 : Int64)), (.long (0 : Int64)), (.long (0 : Int64)), (.long (0 : Int64)), (.long (0 : Int64)), (.long (0 : Int64)), (.long (0 : Int64)), (.long (0 : Int64))] (.long (0 : Int64)) := F333.other W54 (Ne.symm ne_b19_b4_22)
    have F335 : Arv Z h288 b4_22 k4_22 .long (8 : Int32) [(.long (0 : Int64)), (.long (0 : Int64)), (.long (0 : Int64)), (.long (0 : Int64)), (.long (0 : Int64)), (.long (0 : Int64)), (.long (0 : Int64)), (.long (0 : Int64))] (.long (0 : Int64)) := F334.other W288 (Ne.symm ne_b19_b4_22)
    have F336 : Arv Z T294.heap b4_22 k4_22 .long (8 : Int32) [(.long (0 : Int64)), (.long (0 : Int64)), (.long (0 : Int64)), (.long (0 : Int64)), (.long (0 : Int64)), (.long (0 : Int64)), (.long (0 : Int64)), (.long (0 : Int64))] (.long (0 : Int64)) := F335.keep Kc294 (ninS ne_b4_22_b26 nin0)
    obtain ⟨fs, hr, hrun, hended, hW, hsame⟩ := X325.leave (v := some (.int (1 : Int32))) (fun h => by rw [Bd.returns] at h; cases h)
    refine ⟨_, _, own_from hS0 (P326 _ ?_), hrun, hended, _, _, rfl, ?_, ⟨_, rfl⟩, hW, hsame.mono (by decide) (by decide)⟩
    · show Steps p.tables e below (T325.setTop (mkF m 201 #[.val (.long i0), .second, .val (.long i1), .second, .val (.long i2), .second, .val (.long i3), .second, .val (.long i4), .second, .val (.int i5), .val (.int (4 : Int32)), .val (.ref b2), .val (.ref b19), .val (.ref b26)] [(.int (1 : Int32))])) _
      exact retN X325 hx (t := .boolean) Bd.returns (by simp) (hb hby at_201) hr
    · show Q0 Z i0 i1 i2 i3 i4 i5 h0 n0 _ T325.heap _
      rw [e325]
      exact ⟨rfl, N325⟩
  · skip
    subst c56
    have F337 : Exa Z h54 b19 "com/example/splice/splice/XPath$Keys" := F47.wr W54
    have F338 : Fld Z h26 b19 "com/example/splice/splice/XPath$Keys" "size" "I" (.int (0 : Int32)) := F22_0.ext E26
    have F339 : Fld Z h28 b19 "com/example/splice/splice/XPath$Keys" "size" "I" (.int (0 : Int32)) := F338.other W28 (Or.inl ne_b19_b26)
    have F340 : Fld Z h31 b19 "com/example/splice/splice/XPath$Keys" "size" "I" (.int (0 : Int32)) := F339.other W31 (Or.inl ne_b19_b26)
    have F341 : Fld Z h34 b19 "com/example/splice/splice/XPath$Keys" "size" "I" (.int (0 : Int32)) := F340.other W34 (Or.inl ne_b19_b26)
    have F342 : Fld Z h37 b19 "com/example/splice/splice/XPath$Keys" "size" "I" (.int (0 : Int32)) := F341.other W37 (Or.inl ne_b19_b26)
    have F343 : Fld Z h40 b19 "com/example/splice/splice/XPath$Keys" "size" "I" (.int (0 : Int32)) := F342.other W40 (Or.inl ne_b19_b26)
    have F344 : Fld Z h54 b19 "com/example/splice/splice/XPath$Keys" "size" "I" (.int (0 : Int32)) := F343.other W54 (Or.inr (slot_ne (Or.inl (hw _ (List.mem_of_getElem? (i := 15) rfl))) (Or.inl (hw _ (List.mem_of_getElem? (i := 12) rfl))) (by decide) (t := .int) (t' := (.array .long)) (by decide) (by decide)))
    have P345 : own_Go p e below S0 (T54.setTop (mkF m 82 #[.val (.long i0), .second, .val (.long i1), .second, .val (.long i2), .second, .val (.long i3), .second, .val (.long i4), .second, .val (.int i5), .val (.int (5 : Int32)), .val (.ref b2), .val (.ref b19), .unset] [(.int (5 : Int32)), (.ref b19)])) := fun t k => P55 t (by
      show Steps p.tables e below (T54.setTop (mkF m 78 #[.val (.long i0), .second, .val (.long i1), .second, .val (.long i2), .second, .val (.long i3), .second, .val (.long i4), .second, .val (.int i5), .val (.int (5 : Int32)), .val (.ref b2), .val (.ref b19), .unset] [])) t
      refine XS.aload X54.here hx rfl (hb hby at_78) rfl rfl ?_
      refine XS.iload X54.here hx rfl (hb hby at_80) rfl ?_
      show Steps p.tables e below (T54.setTop (mkF m 82 #[.val (.long i0), .second, .val (.long i1), .second, .val (.long i2), .second, .val (.long i3), .second, .val (.long i4), .second, .val (.int i5), .val (.int (5 : Int32)), .val (.ref b2), .val (.ref b19), .unset] [(.int (5 : Int32)), (.ref b19)])) t
      exact k)
    obtain ⟨T346, h346, X346, e346, W346, st346⟩ := putF X54 hx hZ hown (host := "") (Or.inl (hw _ (List.mem_of_getElem? (i := 14) rfl))) Via.refl e54 F344 F337 (Or.inl (hw _ (List.mem_of_getElem? (i := 15) rfl))) (hw _ (List.mem_of_getElem? (i := 3) rfl)) (ty := .int) (by decide) rfl rfl (g := (mkF m 82 #[.val (.long i0), .second, .val (.long i1), .second, .val (.long i2), .second, .val (.long i3), .second, .val (.long i4), .second, .val (.int i5), .val (.int (5 : Int32)), .val (.ref b2), .val (.ref b19), .unset] [(.int (5 : Int32)), (.ref b19)])) rfl rfl (hb hby at_82)
    have K346 : Keep h0 h346 [] := K54.wr W346 (Or.inr o_b19)
    have N346 := Fr.snoc X346 N54 g_b19
    have F346w : Fld Z h346 b19 "com/example/splice/splice/XPath$Keys" "size" "I" (.int (5 : Int32)) := F344.same W346
    have P346 : own_Go p e below S0 (T346.setTop (mkF m 85 #[.val (.long i0), .second, .val (.long i1), .second, .val (.long i2), .second, .val (.long i3), .second, .val (.long i4), .second, .val (.int i5), .val (.int (5 : Int32)), .val (.ref b2), .val (.ref b19), .unset] [])) := fun t k => P345 t (st346 _ k)
    have F347 : Exa Z h346 b19 "com/example/splice/splice/XPath$Keys" := F337.wr W346
    have F348 : Fld Z h346 b19 "com/example/splice/splice/XPath$Keys" "keys" "[J" (.ref b26) := F54w.other W346 (Or.inr (slot_ne (Or.inl (hw _ (List.mem_of_getElem? (i := 12) rfl))) (Or.inl (hw _ (List.mem_of_getElem? (i := 15) rfl))) (by decide) (t := (.array .long)) (t' := .int) (by decide) (by decide)))
    have F349 : Arv Z h54 b26 k26 .long (5 : Int32) [(.long i0), (.long i1), (.long i2), (.long i3), (.long i4)] (.long (0 : Int64)) := V40.other W54 (Ne.symm ne_b19_b26)
    have F350 : Arv Z h346 b26 k26 .long (5 : Int32) [(.long i0), (.long i1), (.long i2), (.long i3), (.long i4)] (.long (0 : Int64)) := F349.other W346 (Ne.symm ne_b19_b26)
    have P351 : own_Go p e below S0 (T346.setTop (mkF m 87 #[.val (.long i0), .second, .val (.long i1), .second, .val (.long i2), .second, .val (.long i3), .second, .val (.long i4), .second, .val (.int i5), .val (.int (5 : Int32)), .val (.ref b2), .val (.ref b19), .unset] [(.ref b19)])) := fun t k => P346 t (by
      show Steps p.tables e below (T346.setTop (mkF m 85 #[.val (.long i0), .second, .val (.long i1), .second, .val (.long i2), .second, .val (.long i3), .second, .val (.long i4), .second, .val (.int i5), .val (.int (5 : Int32)), .val (.ref b2), .val (.ref b19), .unset] [])) t
      refine XS.aload X346.here hx rfl (hb hby at_85) rfl rfl ?_
      show Steps p.tables e below (T346.setTop (mkF m 87 #[.val (.long i0), .second, .val (.long i1), .second, .val (.long i2), .second, .val (.long i3), .second, .val (.long i4), .second, .val (.int i5), .val (.int (5 : Int32)), .val (.ref b2), .val (.ref b19), .unset] [(.ref b19)])) t
      exact k)
    obtain ⟨cq352, kq352, q352a, q352b, q352c⟩ := isOf hZ e346 F347
    obtain ⟨_, _, ⟨T352, L352, k352, n352⟩, -, X352, ⟨Lc352, hQ352, l352, y352, z352⟩, st352⟩ := X346.virtualBack hx (y := (⟨"com/example/splice/splice/XPath$Keys", "reverse", "()V"⟩ : MethodName)) (z := (⟨"com/example/splice/splice/XPath$Keys", "reverse", "()V"⟩ : MethodName)) hown (mvT hZ (hw _ (List.mem_of_getElem? (i := 16) rfl))) (mvT hZ (hw _ (List.mem_of_getElem? (i := 17) rfl))) (notFace_of_selects (args := #[]) (mvT hZ (hw _ (List.mem_of_getElem? (i := 19) rfl)))) (mvT hZ (hw _ (List.mem_of_getElem? (i := 19) rfl))) (mvT hZ (hw _ (List.mem_of_getElem? (i := 18) rfl))) (by decide) (backOf (W := 0) (rm3s5 l Z a0 hw [] b19 b26 k26 i0 i1 i2 i3 i4 h346 n0 (Nat.le_trans Z0 K346.1) F348 F346w F350 g_b26 ne_b19_b26) hZ (hw _ (List.mem_of_getElem? (i := 20) rfl)) (hw _ (List.mem_of_getElem? (i := 4) rfl)) (by decide) (by decide)) q352a q352c (g := (mkF m 87 #[.val (.long i0), .second, .val (.long i1), .second, .val (.long i2), .second, .val (.long i3), .second, .val (.long i4), .second, .val (.int i5), .val (.int (5 : Int32)), .val (.ref b2), .val (.ref b19), .unset] [(.ref b19)])) rfl (by rw [hml]; rfl) (Steps.refl _) (argsL := []) (rest := []) (lenOf pd_0 rfl) rfl (by show 2 * 0 + _ ≤ _; exact Nat.le_of_eq rfl) (hb hby at_87) (fun _ _ => ⟨rfl, e346, (by decide : 4 + 0 ≤ _), (by decide : 20 + 0 ≤ _)⟩)
    dsimp only [Pt.U, Pt.locs, Pt.cells, Pt.slots] at X352 l352 y352 z352 st352 hQ352
    subst l352 y352 z352
    obtain ⟨rfl, N352q, Kc352, F352_0⟩ := hQ352
    have N352 := Fr.app N346 N352q
    have K352 : Keep h0 T352.heap [] := Keep.trans K346 Kc352 (allS (Or.inr o_b26) all0)
    have P352 : own_Go p e below S0 (T352.setTop (mkF m 90 #[.val (.long i0), .second, .val (.long i1), .second, .val (.long i2), .second, .val (.long i3), .second, .val (.long i4), .second, .val (.int i5), .val (.int (5 : Int32)), .val (.ref b2), .val (.ref b19), .unset] [])) := fun t k => P351 t (st352.trans k)
    have F353 : Fld Z T352.heap b19 "com/example/splice/splice/XPath$Keys" "keys" "[J" (.ref b26) := F348.keep Kc352 (ninS ne_b19_b26 nin0)
    have P354 : own_Go p e below S0 (T352.setTop (mkF m 92 #[.val (.long i0), .second, .val (.long i1), .second, .val (.long i2), .second, .val (.long i3), .second, .val (.long i4), .second, .val (.int i5), .val (.int (5 : Int32)), .val (.ref b2), .val (.ref b19), .unset] [(.ref b19)])) := fun t k => P352 t (by
      show Steps p.tables e below (T352.setTop (mkF m 90 #[.val (.long i0), .second, .val (.long i1), .second, .val (.long i2), .second, .val (.long i3), .second, .val (.long i4), .second, .val (.int i5), .val (.int (5 : Int32)), .val (.ref b2), .val (.ref b19), .unset] [])) t
      refine XS.aload X352.here hx rfl (hb hby at_90) rfl rfl ?_
      show Steps p.tables e below (T352.setTop (mkF m 92 #[.val (.long i0), .second, .val (.long i1), .second, .val (.long i2), .second, .val (.long i3), .second, .val (.long i4), .second, .val (.int i5), .val (.int (5 : Int32)), .val (.ref b2), .val (.ref b19), .unset] [(.ref b19)])) t
      exact k)
    obtain ⟨T355, X355, e355, st355⟩ := getF X352 hx hZ hown (host := "") (Or.inl (hw _ (List.mem_of_getElem? (i := 13) rfl))) Via.refl rfl F353 (g := (mkF m 92 #[.val (.long i0), .second, .val (.long i1), .second, .val (.long i2), .second, .val (.long i3), .second, .val (.long i4), .second, .val (.int i5), .val (.int (5 : Int32)), .val (.ref b2), .val (.ref b19), .unset] [(.ref b19)])) rfl rfl (hb hby at_92)
    have P355 : own_Go p e below S0 (T355.setTop (mkF m 95 #[.val (.long i0), .second, .val (.long i1), .second, .val (.long i2), .second, .val (.long i3), .second, .val (.long i4), .second, .val (.int i5), .val (.int (5 : Int32)), .val (.ref b2), .val (.ref b19), .unset] [(.ref b26)])) := fun t k => P354 t (st355 _ k)
    have F356 : Fld Z T352.heap b19 "com/example/splice/splice/XPath$Keys" "size" "I" (.int (5 : Int32)) := F346w.keep Kc352 (ninS ne_b19_b26 nin0)
    have P357 : own_Go p e below S0 (T355.setTop (mkF m 99 #[.val (.long i0), .second, .val (.long i1), .second, .val (.long i2), .second, .val (.long i3), .second, .val (.long i4), .second, .val (.int i5), .val (.int (5 : Int32)), .val (.ref b2), .val (.ref b19), .val (.ref b26)] [(.ref b19)])) := fun t k => P355 t (by
      show Steps p.tables e below (T355.setTop (mkF m 95 #[.val (.long i0), .second, .val (.long i1), .second, .val (.long i2), .second, .val (.long i3), .second, .val (.long i4), .second, .val (.int i5), .val (.int (5 : Int32)), .val (.ref b2), .val (.ref b19), .unset] [(.ref b26)])) t
      refine XS.astore X355.here hx rfl (hb hby at_95) rfl rfl (l' := #[.val (.long i0), .second, .val (.long i1), .second, .val (.long i2), .second, .val (.long i3), .second, .val (.long i4), .second, .val (.int i5), .val (.int (5 : Int32)), .val (.ref b2), .val (.ref b19), .val (.ref b26)]) rfl ?_
      refine XS.aload X355.here hx rfl (hb hby at_97) rfl rfl ?_
      show Steps p.tables e below (T355.setTop (mkF m 99 #[.val (.long i0), .second, .val (.long i1), .second, .val (.long i2), .second, .val (.long i3), .second, .val (.long i4), .second, .val (.int i5), .val (.int (5 : Int32)), .val (.ref b2), .val (.ref b19), .val (.ref b26)] [(.ref b19)])) t
      exact k)
    obtain ⟨T358, X358, e358, st358⟩ := getF X355 hx hZ hown (host := "") (Or.inl (hw _ (List.mem_of_getElem? (i := 14) rfl))) Via.refl e355 F356 (g := (mkF m 99 #[.val (.long i0), .second, .val (.long i1), .second, .val (.long i2), .second, .val (.long i3), .second, .val (.long i4), .second, .val (.int i5), .val (.int (5 : Int32)), .val (.ref b2), .val (.ref b19), .val (.ref b26)] [(.ref b19)])) rfl rfl (hb hby at_99)
    have P358 : own_Go p e below S0 (T358.setTop (mkF m 102 #[.val (.long i0), .second, .val (.long i1), .second, .val (.long i2), .second, .val (.long i3), .second, .val (.long i4), .second, .val (.int i5), .val (.int (5 : Int32)), .val (.ref b2), .val (.ref b19), .val (.ref b26)] [(.int (5 : Int32))])) := fun t k => P357 t (st358 _ k)
    obtain ⟨cl359, Ar359, q359, Sz359, Nn359, Hh359, Gg359⟩ := id F352_0
    obtain ⟨cl360, Ar360, q360, Sz360, Nn360, Hh360, Gg360⟩ := id F352_0
    have hin360 : ¬ ((0 : Int32) < 0 ∨ cl360.slots.size ≤ ((0 : Int32)).toNatClampNeg) := inb_of Sz360 ⟨by decide, by decide⟩
    have hat360 : cl360.slots[((0 : Int32)).toNatClampNeg]? = some (.long i4) := Has.at Hh360 hin360 rfl
    have F361 : Arv Z h26 b2 k2 .long (5 : Int32) [(.long i0), (.long i1), (.long i2), (.long i3), (.long i4)] (.long (0 : Int64)) := F23.ext E26
    have F362 : Arv Z h28 b2 k2 .long (5 : Int32) [(.long i0), (.long i1), (.long i2), (.long i3), (.long i4)] (.long (0 : Int64)) := F361.other W28 ne_b2_b26
    have F363 : Arv Z h31 b2 k2 .long (5 : Int32) [(.long i0), (.long i1), (.long i2), (.long i3), (.long i4)] (.long (0 : Int64)) := F362.other W31 ne_b2_b26
    have F364 : Arv Z h34 b2 k2 .long (5 : Int32) [(.long i0), (.long i1), (.long i2), (.long i3), (.long i4)] (.long (0 : Int64)) := F363.other W34 ne_b2_b26
    have F365 : Arv Z h37 b2 k2 .long (5 : Int32) [(.long i0), (.long i1), (.long i2), (.long i3), (.long i4)] (.long (0 : Int64)) := F364.other W37 ne_b2_b26
    have F366 : Arv Z h40 b2 k2 .long (5 : Int32) [(.long i0), (.long i1), (.long i2), (.long i3), (.long i4)] (.long (0 : Int64)) := F365.other W40 ne_b2_b26
    have F367 : Arv Z h54 b2 k2 .long (5 : Int32) [(.long i0), (.long i1), (.long i2), (.long i3), (.long i4)] (.long (0 : Int64)) := F366.other W54 ne_b2_b19
    have F368 : Arv Z h346 b2 k2 .long (5 : Int32) [(.long i0), (.long i1), (.long i2), (.long i3), (.long i4)] (.long (0 : Int64)) := F367.other W346 ne_b2_b19
    have F369 : Arv Z T352.heap b2 k2 .long (5 : Int32) [(.long i0), (.long i1), (.long i2), (.long i3), (.long i4)] (.long (0 : Int64)) := F368.keep Kc352 (ninS ne_b2_b26 nin0)
    have P370 : own_Go p e below S0 (T358.setTop (mkF m 125 #[.val (.long i0), .second, .val (.long i1), .second, .val (.long i2), .second, .val (.long i3), .second, .val (.long i4), .second, .val (.int i5), .val (.int (5 : Int32)), .val (.ref b2), .val (.ref b19), .val (.ref b26)] [(.int (0 : Int32)), (.int (5 : Int32)), (.ref b2), (.long i4)])) := fun t k => P358 t (by
      show Steps p.tables e below (T358.setTop (mkF m 102 #[.val (.long i0), .second, .val (.long i1), .second, .val (.long i2), .second, .val (.long i3), .second, .val (.long i4), .second, .val (.int i5), .val (.int (5 : Int32)), .val (.ref b2), .val (.ref b19), .val (.ref b26)] [(.int (5 : Int32))])) t
      refine XS.iload X358.here hx rfl (hb hby at_102) rfl ?_
      refine XS.icmpNo X358.here hx rfl (hb hby at_104) rfl (teq (by decide)).2 ?_
      refine XS.aload X358.here hx rfl (hb hby at_107) rfl rfl ?_
      show Steps p.tables e below (T358.setTop (mkF m 109 #[.val (.long i0), .second, .val (.long i1), .second, .val (.long i2), .second, .val (.long i3), .second, .val (.long i4), .second, .val (.int i5), .val (.int (5 : Int32)), .val (.ref b2), .val (.ref b19), .val (.ref b26)] [(.ref b26)])) t
      refine X358.arraylength hx (by rw [e358]; exact Ar359.1) (State.isArrayOf_alike hZ.alike Ar359.2.1) (g := (mkF m 109 #[.val (.long i0), .second, .val (.long i1), .second, .val (.long i2), .second, .val (.long i3), .second, .val (.long i4), .second, .val (.int i5), .val (.int (5 : Int32)), .val (.ref b2), .val (.ref b19), .val (.ref b26)] [(.ref b26)])) rfl rfl (hb hby at_109) _ ?_
      rw [len_of Sz359 Nn359]
      refine XS.iconst X358.here hx rfl (hb hby at_110) ?_
      refine XS.icmpYes X358.here hx rfl (pc0 := 111) (pc' := 116) rfl (hb hby at_111) rfl (teq (by decide)).1 (by decide) (by decide) ?_
      show Steps p.tables e below (T358.setTop (mkF m 116 #[.val (.long i0), .second, .val (.long i1), .second, .val (.long i2), .second, .val (.long i3), .second, .val (.long i4), .second, .val (.int i5), .val (.int (5 : Int32)), .val (.ref b2), .val (.ref b19), .val (.ref b26)] [])) t
      refine XS.aload X358.here hx rfl (hb hby at_116) rfl rfl ?_
      refine XS.iconst X358.here hx rfl (hb hby at_118) ?_
      show Steps p.tables e below (T358.setTop (mkF m 119 #[.val (.long i0), .second, .val (.long i1), .second, .val (.long i2), .second, .val (.long i3), .second, .val (.long i4), .second, .val (.int i5), .val (.int (5 : Int32)), .val (.ref b2), .val (.ref b19), .val (.ref b26)] [(.int (0 : Int32)), (.ref b26)])) t
      refine X358.laload hx (j := (0 : Int32)) (v := (.long i4)) (by rw [e358]; exact Ar360.1) (State.isArrayOf_alike hZ.alike Ar360.2.1) Ar360.2.2 hin360 hat360 (g := (mkF m 119 #[.val (.long i0), .second, .val (.long i1), .second, .val (.long i2), .second, .val (.long i3), .second, .val (.long i4), .second, .val (.int i5), .val (.int (5 : Int32)), .val (.ref b2), .val (.ref b19), .val (.ref b26)] [(.int (0 : Int32)), (.ref b26)])) rfl rfl (hb hby at_119) _ ?_
      refine XS.aload X358.here hx rfl (hb hby at_120) rfl rfl ?_
      refine XS.iload X358.here hx rfl (hb hby at_122) rfl ?_
      refine XS.iconst X358.here hx rfl (hb hby at_124) ?_
      show Steps p.tables e below (T358.setTop (mkF m 125 #[.val (.long i0), .second, .val (.long i1), .second, .val (.long i2), .second, .val (.long i3), .second, .val (.long i4), .second, .val (.int i5), .val (.int (5 : Int32)), .val (.ref b2), .val (.ref b19), .val (.ref b26)] [(.int (0 : Int32)), (.int (5 : Int32)), (.ref b2), (.long i4)])) t
      exact k)
    obtain ⟨_, _, ⟨T371, L371, k371, n371⟩, -, X371, ⟨Lc371, hQ371, l371, y371, z371⟩, st371⟩ := Jvm.LawKit.callS X358 hx (y := (⟨"com/example/splice/splice/KeysReversePinLaw", "at", "([JII)J"⟩ : MethodName)) hown (mvT hZ (hw _ (List.mem_of_getElem? (i := 22) rfl))) (mvT hZ (hw _ (List.mem_of_getElem? (i := 23) rfl))) (mvT hZ (hw _ (List.mem_of_getElem? (i := 24) rfl))) (mvT hZ (hw _ (List.mem_of_getElem? (i := 25) rfl))) (by decide) (backOf (W := 2) (rm4_5_0 l Z a0 hw [] b2 k2 i0 i1 i2 i3 i4 T352.heap n0 (Nat.le_trans Z0 K352.1) F369) hZ (hw _ (List.mem_of_getElem? (i := 25) rfl)) (hw _ (List.mem_of_getElem? (i := 24) rfl)) (by decide) (by decide)) (g := (mkF m 125 #[.val (.long i0), .second, .val (.long i1), .second, .val (.long i2), .second, .val (.long i3), .second, .val (.long i4), .second, .val (.int i5), .val (.int (5 : Int32)), .val (.ref b2), .val (.ref b19), .val (.ref b26)] [(.int (0 : Int32)), (.int (5 : Int32)), (.ref b2), (.long i4)])) rfl (by rw [hml]; rfl) (argsL := [(.ref b2), (.int (5 : Int32)), (.int (0 : Int32))]) (rest := [(.long i4)]) (lenOf pd_1 rfl) rfl (by show 2 * 0 + _ ≤ _; exact Nat.le_of_eq rfl) (hb hby at_125) (fun _ _ => ⟨rfl, e358, (by decide : 4 + 0 ≤ _), (by decide : 20 + 0 ≤ _)⟩)
    dsimp only [Pt.U, Pt.locs, Pt.cells, Pt.slots] at X371 l371 y371 z371 st371 hQ371
    subst l371 y371 z371
    obtain ⟨rfl, N371q, e371⟩ := hQ371
    have N371 := Fr.app N352 N371q
    have P371 : own_Go p e below S0 (T371.setTop (mkF m 128 #[.val (.long i0), .second, .val (.long i1), .second, .val (.long i2), .second, .val (.long i3), .second, .val (.long i4), .second, .val (.int i5), .val (.int (5 : Int32)), .val (.ref b2), .val (.ref b19), .val (.ref b26)] [(.long i4), (.long i4)])) := fun t k => P370 t (st371 _ k)
    obtain ⟨cl372, Ar372, q372, Sz372, Nn372, Hh372, Gg372⟩ := id F352_0
    have hin372 : ¬ ((1 : Int32) < 0 ∨ cl372.slots.size ≤ ((1 : Int32)).toNatClampNeg) := inb_of Sz372 ⟨by decide, by decide⟩
    have hat372 : cl372.slots[((1 : Int32)).toNatClampNeg]? = some (.long i3) := Has.at Hh372 hin372 rfl
    have P373 : own_Go p e below S0 (T371.setTop (mkF m 141 #[.val (.long i0), .second, .val (.long i1), .second, .val (.long i2), .second, .val (.long i3), .second, .val (.long i4), .second, .val (.int i5), .val (.int (5 : Int32)), .val (.ref b2), .val (.ref b19), .val (.ref b26)] [(.int (1 : Int32)), (.int (5 : Int32)), (.ref b2), (.long i3)])) := fun t k => P371 t (by
      show Steps p.tables e below (T371.setTop (mkF m 128 #[.val (.long i0), .second, .val (.long i1), .second, .val (.long i2), .second, .val (.long i3), .second, .val (.long i4), .second, .val (.int i5), .val (.int (5 : Int32)), .val (.ref b2), .val (.ref b19), .val (.ref b26)] [(.long i4), (.long i4)])) t
      refine XS.lcmp X371.here hx rfl (hb hby at_128) rfl ?_
      refine XS.ifNo X371.here hx rfl (hb hby at_129) rfl ((if0 _ _).trans (teq ((lw_eq i4 i4).mpr rfl)).2) ?_
      refine XS.aload X371.here hx rfl (hb hby at_132) rfl rfl ?_
      refine XS.iconst X371.here hx rfl (hb hby at_134) ?_
      show Steps p.tables e below (T371.setTop (mkF m 135 #[.val (.long i0), .second, .val (.long i1), .second, .val (.long i2), .second, .val (.long i3), .second, .val (.long i4), .second, .val (.int i5), .val (.int (5 : Int32)), .val (.ref b2), .val (.ref b19), .val (.ref b26)] [(.int (1 : Int32)), (.ref b26)])) t
      refine X371.laload hx (j := (1 : Int32)) (v := (.long i3)) (by rw [e371]; exact Ar372.1) (State.isArrayOf_alike hZ.alike Ar372.2.1) Ar372.2.2 hin372 hat372 (g := (mkF m 135 #[.val (.long i0), .second, .val (.long i1), .second, .val (.long i2), .second, .val (.long i3), .second, .val (.long i4), .second, .val (.int i5), .val (.int (5 : Int32)), .val (.ref b2), .val (.ref b19), .val (.ref b26)] [(.int (1 : Int32)), (.ref b26)])) rfl rfl (hb hby at_135) _ ?_
      refine XS.aload X371.here hx rfl (hb hby at_136) rfl rfl ?_
      show Steps p.tables e below (T371.setTop (mkF m 138 #[.val (.long i0), .second, .val (.long i1), .second, .val (.long i2), .second, .val (.long i3), .second, .val (.long i4), .second, .val (.int i5), .val (.int (5 : Int32)), .val (.ref b2), .val (.ref b19), .val (.ref b26)] [(.ref b2), (.long i3)])) t
      refine XS.iload X371.here hx rfl (hb hby at_138) rfl ?_
      refine XS.iconst X371.here hx rfl (hb hby at_140) ?_
      show Steps p.tables e below (T371.setTop (mkF m 141 #[.val (.long i0), .second, .val (.long i1), .second, .val (.long i2), .second, .val (.long i3), .second, .val (.long i4), .second, .val (.int i5), .val (.int (5 : Int32)), .val (.ref b2), .val (.ref b19), .val (.ref b26)] [(.int (1 : Int32)), (.int (5 : Int32)), (.ref b2), (.long i3)])) t
      exact k)
    obtain ⟨_, _, ⟨T374, L374, k374, n374⟩, -, X374, ⟨Lc374, hQ374, l374, y374, z374⟩, st374⟩ := Jvm.LawKit.callS X371 hx (y := (⟨"com/example/splice/splice/KeysReversePinLaw", "at", "([JII)J"⟩ : MethodName)) hown (mvT hZ (hw _ (List.mem_of_getElem? (i := 22) rfl))) (mvT hZ (hw _ (List.mem_of_getElem? (i := 23) rfl))) (mvT hZ (hw _ (List.mem_of_getElem? (i := 24) rfl))) (mvT hZ (hw _ (List.mem_of_getElem? (i := 25) rfl))) (by decide) (backOf (W := 2) (rm4_5_1 l Z a0 hw [] b2 k2 i0 i1 i2 i3 i4 T352.heap n0 (Nat.le_trans Z0 K352.1) F369) hZ (hw _ (List.mem_of_getElem? (i := 25) rfl)) (hw _ (List.mem_of_getElem? (i := 24) rfl)) (by decide) (by decide)) (g := (mkF m 141 #[.val (.long i0), .second, .val (.long i1), .second, .val (.long i2), .second, .val (.long i3), .second, .val (.long i4), .second, .val (.int i5), .val (.int (5 : Int32)), .val (.ref b2), .val (.ref b19), .val (.ref b26)] [(.int (1 : Int32)), (.int (5 : Int32)), (.ref b2), (.long i3)])) rfl (by rw [hml]; rfl) (argsL := [(.ref b2), (.int (5 : Int32)), (.int (1 : Int32))]) (rest := [(.long i3)]) (lenOf pd_1 rfl) rfl (by show 2 * 0 + _ ≤ _; exact Nat.le_of_eq rfl) (hb hby at_141) (fun _ _ => ⟨rfl, e371, (by decide : 4 + 0 ≤ _), (by decide : 20 + 0 ≤ _)⟩)
    dsimp only [Pt.U, Pt.locs, Pt.cells, Pt.slots] at X374 l374 y374 z374 st374 hQ374
    subst l374 y374 z374
    obtain ⟨rfl, N374q, e374⟩ := hQ374
    have N374 := Fr.app N371 N374q
    have P374 : own_Go p e below S0 (T374.setTop (mkF m 144 #[.val (.long i0), .second, .val (.long i1), .second, .val (.long i2), .second, .val (.long i3), .second, .val (.long i4), .second, .val (.int i5), .val (.int (5 : Int32)), .val (.ref b2), .val (.ref b19), .val (.ref b26)] [(.long i3), (.long i3)])) := fun t k => P373 t (st374 _ k)
    obtain ⟨cl375, Ar375, q375, Sz375, Nn375, Hh375, Gg375⟩ := id F352_0
    have hin375 : ¬ ((2 : Int32) < 0 ∨ cl375.slots.size ≤ ((2 : Int32)).toNatClampNeg) := inb_of Sz375 ⟨by decide, by decide⟩
    have hat375 : cl375.slots[((2 : Int32)).toNatClampNeg]? = some (.long i2) := Has.at Hh375 hin375 rfl
    have P376 : own_Go p e below S0 (T374.setTop (mkF m 157 #[.val (.long i0), .second, .val (.long i1), .second, .val (.long i2), .second, .val (.long i3), .second, .val (.long i4), .second, .val (.int i5), .val (.int (5 : Int32)), .val (.ref b2), .val (.ref b19), .val (.ref b26)] [(.int (2 : Int32)), (.int (5 : Int32)), (.ref b2), (.long i2)])) := fun t k => P374 t (by
      show Steps p.tables e below (T374.setTop (mkF m 144 #[.val (.long i0), .second, .val (.long i1), .second, .val (.long i2), .second, .val (.long i3), .second, .val (.long i4), .second, .val (.int i5), .val (.int (5 : Int32)), .val (.ref b2), .val (.ref b19), .val (.ref b26)] [(.long i3), (.long i3)])) t
      refine XS.lcmp X374.here hx rfl (hb hby at_144) rfl ?_
      refine XS.ifNo X374.here hx rfl (hb hby at_145) rfl ((if0 _ _).trans (teq ((lw_eq i3 i3).mpr rfl)).2) ?_
      refine XS.aload X374.here hx rfl (hb hby at_148) rfl rfl ?_
      refine XS.iconst X374.here hx rfl (hb hby at_150) ?_
      show Steps p.tables e below (T374.setTop (mkF m 151 #[.val (.long i0), .second, .val (.long i1), .second, .val (.long i2), .second, .val (.long i3), .second, .val (.long i4), .second, .val (.int i5), .val (.int (5 : Int32)), .val (.ref b2), .val (.ref b19), .val (.ref b26)] [(.int (2 : Int32)), (.ref b26)])) t
      refine X374.laload hx (j := (2 : Int32)) (v := (.long i2)) (by rw [e374]; exact Ar375.1) (State.isArrayOf_alike hZ.alike Ar375.2.1) Ar375.2.2 hin375 hat375 (g := (mkF m 151 #[.val (.long i0), .second, .val (.long i1), .second, .val (.long i2), .second, .val (.long i3), .second, .val (.long i4), .second, .val (.int i5), .val (.int (5 : Int32)), .val (.ref b2), .val (.ref b19), .val (.ref b26)] [(.int (2 : Int32)), (.ref b26)])) rfl rfl (hb hby at_151) _ ?_
      refine XS.aload X374.here hx rfl (hb hby at_152) rfl rfl ?_
      show Steps p.tables e below (T374.setTop (mkF m 154 #[.val (.long i0), .second, .val (.long i1), .second, .val (.long i2), .second, .val (.long i3), .second, .val (.long i4), .second, .val (.int i5), .val (.int (5 : Int32)), .val (.ref b2), .val (.ref b19), .val (.ref b26)] [(.ref b2), (.long i2)])) t
      refine XS.iload X374.here hx rfl (hb hby at_154) rfl ?_
      refine XS.iconst X374.here hx rfl (hb hby at_156) ?_
      show Steps p.tables e below (T374.setTop (mkF m 157 #[.val (.long i0), .second, .val (.long i1), .second, .val (.long i2), .second, .val (.long i3), .second, .val (.long i4), .second, .val (.int i5), .val (.int (5 : Int32)), .val (.ref b2), .val (.ref b19), .val (.ref b26)] [(.int (2 : Int32)), (.int (5 : Int32)), (.ref b2), (.long i2)])) t
      exact k)
    obtain ⟨_, _, ⟨T377, L377, k377, n377⟩, -, X377, ⟨Lc377, hQ377, l377, y377, z377⟩, st377⟩ := Jvm.LawKit.callS X374 hx (y := (⟨"com/example/splice/splice/KeysReversePinLaw", "at", "([JII)J"⟩ : MethodName)) hown (mvT hZ (hw _ (List.mem_of_getElem? (i := 22) rfl))) (mvT hZ (hw _ (List.mem_of_getElem? (i := 23) rfl))) (mvT hZ (hw _ (List.mem_of_getElem? (i := 24) rfl))) (mvT hZ (hw _ (List.mem_of_getElem? (i := 25) rfl))) (by decide) (backOf (W := 2) (rm4_5_2 l Z a0 hw [] b2 k2 i0 i1 i2 i3 i4 T352.heap n0 (Nat.le_trans Z0 K352.1) F369) hZ (hw _ (List.mem_of_getElem? (i := 25) rfl)) (hw _ (List.mem_of_getElem? (i := 24) rfl)) (by decide) (by decide)) (g := (mkF m 157 #[.val (.long i0), .second, .val (.long i1), .second, .val (.long i2), .second, .val (.long i3), .second, .val (.long i4), .second, .val (.int i5), .val (.int (5 : Int32)), .val (.ref b2), .val (.ref b19), .val (.ref b26)] [(.int (2 : Int32)), (.int (5 : Int32)), (.ref b2), (.long i2)])) rfl (by rw [hml]; rfl) (argsL := [(.ref b2), (.int (5 : Int32)), (.int (2 : Int32))]) (rest := [(.long i2)]) (lenOf pd_1 rfl) rfl (by show 2 * 0 + _ ≤ _; exact Nat.le_of_eq rfl) (hb hby at_157) (fun _ _ => ⟨rfl, e374, (by decide : 4 + 0 ≤ _), (by decide : 20 + 0 ≤ _)⟩)
    dsimp only [Pt.U, Pt.locs, Pt.cells, Pt.slots] at X377 l377 y377 z377 st377 hQ377
    subst l377 y377 z377
    obtain ⟨rfl, N377q, e377⟩ := hQ377
    have N377 := Fr.app N374 N377q
    have P377 : own_Go p e below S0 (T377.setTop (mkF m 160 #[.val (.long i0), .second, .val (.long i1), .second, .val (.long i2), .second, .val (.long i3), .second, .val (.long i4), .second, .val (.int i5), .val (.int (5 : Int32)), .val (.ref b2), .val (.ref b19), .val (.ref b26)] [(.long i2), (.long i2)])) := fun t k => P376 t (st377 _ k)
    obtain ⟨cl378, Ar378, q378, Sz378, Nn378, Hh378, Gg378⟩ := id F352_0
    have hin378 : ¬ ((3 : Int32) < 0 ∨ cl378.slots.size ≤ ((3 : Int32)).toNatClampNeg) := inb_of Sz378 ⟨by decide, by decide⟩
    have hat378 : cl378.slots[((3 : Int32)).toNatClampNeg]? = some (.long i1) := Has.at Hh378 hin378 rfl
    have P379 : own_Go p e below S0 (T377.setTop (mkF m 173 #[.val (.long i0), .second, .val (.long i1), .second, .val (.long i2), .second, .val (.long i3), .second, .val (.long i4), .second, .val (.int i5), .val (.int (5 : Int32)), .val (.ref b2), .val (.ref b19), .val (.ref b26)] [(.int (3 : Int32)), (.int (5 : Int32)), (.ref b2), (.long i1)])) := fun t k => P377 t (by
      show Steps p.tables e below (T377.setTop (mkF m 160 #[.val (.long i0), .second, .val (.long i1), .second, .val (.long i2), .second, .val (.long i3), .second, .val (.long i4), .second, .val (.int i5), .val (.int (5 : Int32)), .val (.ref b2), .val (.ref b19), .val (.ref b26)] [(.long i2), (.long i2)])) t
      refine XS.lcmp X377.here hx rfl (hb hby at_160) rfl ?_
      refine XS.ifNo X377.here hx rfl (hb hby at_161) rfl ((if0 _ _).trans (teq ((lw_eq i2 i2).mpr rfl)).2) ?_
      refine XS.aload X377.here hx rfl (hb hby at_164) rfl rfl ?_
      refine XS.iconst X377.here hx rfl (hb hby at_166) ?_
      show Steps p.tables e below (T377.setTop (mkF m 167 #[.val (.long i0), .second, .val (.long i1), .second, .val (.long i2), .second, .val (.long i3), .second, .val (.long i4), .second, .val (.int i5), .val (.int (5 : Int32)), .val (.ref b2), .val (.ref b19), .val (.ref b26)] [(.int (3 : Int32)), (.ref b26)])) t
      refine X377.laload hx (j := (3 : Int32)) (v := (.long i1)) (by rw [e377]; exact Ar378.1) (State.isArrayOf_alike hZ.alike Ar378.2.1) Ar378.2.2 hin378 hat378 (g := (mkF m 167 #[.val (.long i0), .second, .val (.long i1), .second, .val (.long i2), .second, .val (.long i3), .second, .val (.long i4), .second, .val (.int i5), .val (.int (5 : Int32)), .val (.ref b2), .val (.ref b19), .val (.ref b26)] [(.int (3 : Int32)), (.ref b26)])) rfl rfl (hb hby at_167) _ ?_
      refine XS.aload X377.here hx rfl (hb hby at_168) rfl rfl ?_
      show Steps p.tables e below (T377.setTop (mkF m 170 #[.val (.long i0), .second, .val (.long i1), .second, .val (.long i2), .second, .val (.long i3), .second, .val (.long i4), .second, .val (.int i5), .val (.int (5 : Int32)), .val (.ref b2), .val (.ref b19), .val (.ref b26)] [(.ref b2), (.long i1)])) t
      refine XS.iload X377.here hx rfl (hb hby at_170) rfl ?_
      refine XS.iconst X377.here hx rfl (hb hby at_172) ?_
      show Steps p.tables e below (T377.setTop (mkF m 173 #[.val (.long i0), .second, .val (.long i1), .second, .val (.long i2), .second, .val (.long i3), .second, .val (.long i4), .second, .val (.int i5), .val (.int (5 : Int32)), .val (.ref b2), .val (.ref b19), .val (.ref b26)] [(.int (3 : Int32)), (.int (5 : Int32)), (.ref b2), (.long i1)])) t
      exact k)
    obtain ⟨_, _, ⟨T380, L380, k380, n380⟩, -, X380, ⟨Lc380, hQ380, l380, y380, z380⟩, st380⟩ := Jvm.LawKit.callS X377 hx (y := (⟨"com/example/splice/splice/KeysReversePinLaw", "at", "([JII)J"⟩ : MethodName)) hown (mvT hZ (hw _ (List.mem_of_getElem? (i := 22) rfl))) (mvT hZ (hw _ (List.mem_of_getElem? (i := 23) rfl))) (mvT hZ (hw _ (List.mem_of_getElem? (i := 24) rfl))) (mvT hZ (hw _ (List.mem_of_getElem? (i := 25) rfl))) (by decide) (backOf (W := 2) (rm4_5_3 l Z a0 hw [] b2 k2 i0 i1 i2 i3 i4 T352.heap n0 (Nat.le_trans Z0 K352.1) F369) hZ (hw _ (List.mem_of_getElem? (i := 25) rfl)) (hw _ (List.mem_of_getElem? (i := 24) rfl)) (by decide) (by decide)) (g := (mkF m 173 #[.val (.long i0), .second, .val (.long i1), .second, .val (.long i2), .second, .val (.long i3), .second, .val (.long i4), .second, .val (.int i5), .val (.int (5 : Int32)), .val (.ref b2), .val (.ref b19), .val (.ref b26)] [(.int (3 : Int32)), (.int (5 : Int32)), (.ref b2), (.long i1)])) rfl (by rw [hml]; rfl) (argsL := [(.ref b2), (.int (5 : Int32)), (.int (3 : Int32))]) (rest := [(.long i1)]) (lenOf pd_1 rfl) rfl (by show 2 * 0 + _ ≤ _; exact Nat.le_of_eq rfl) (hb hby at_173) (fun _ _ => ⟨rfl, e377, (by decide : 4 + 0 ≤ _), (by decide : 20 + 0 ≤ _)⟩)
    dsimp only [Pt.U, Pt.locs, Pt.cells, Pt.slots] at X380 l380 y380 z380 st380 hQ380
    subst l380 y380 z380
    obtain ⟨rfl, N380q, e380⟩ := hQ380
    have N380 := Fr.app N377 N380q
    have P380 : own_Go p e below S0 (T380.setTop (mkF m 176 #[.val (.long i0), .second, .val (.long i1), .second, .val (.long i2), .second, .val (.long i3), .second, .val (.long i4), .second, .val (.int i5), .val (.int (5 : Int32)), .val (.ref b2), .val (.ref b19), .val (.ref b26)] [(.long i1), (.long i1)])) := fun t k => P379 t (st380 _ k)
    obtain ⟨cl381, Ar381, q381, Sz381, Nn381, Hh381, Gg381⟩ := id F352_0
    have hin381 : ¬ ((4 : Int32) < 0 ∨ cl381.slots.size ≤ ((4 : Int32)).toNatClampNeg) := inb_of Sz381 ⟨by decide, by decide⟩
    have hat381 : cl381.slots[((4 : Int32)).toNatClampNeg]? = some (.long i0) := Has.at Hh381 hin381 rfl
    have P382 : own_Go p e below S0 (T380.setTop (mkF m 189 #[.val (.long i0), .second, .val (.long i1), .second, .val (.long i2), .second, .val (.long i3), .second, .val (.long i4), .second, .val (.int i5), .val (.int (5 : Int32)), .val (.ref b2), .val (.ref b19), .val (.ref b26)] [(.int (4 : Int32)), (.int (5 : Int32)), (.ref b2), (.long i0)])) := fun t k => P380 t (by
      show Steps p.tables e below (T380.setTop (mkF m 176 #[.val (.long i0), .second, .val (.long i1), .second, .val (.long i2), .second, .val (.long i3), .second, .val (.long i4), .second, .val (.int i5), .val (.int (5 : Int32)), .val (.ref b2), .val (.ref b19), .val (.ref b26)] [(.long i1), (.long i1)])) t
      refine XS.lcmp X380.here hx rfl (hb hby at_176) rfl ?_
      refine XS.ifNo X380.here hx rfl (hb hby at_177) rfl ((if0 _ _).trans (teq ((lw_eq i1 i1).mpr rfl)).2) ?_
      refine XS.aload X380.here hx rfl (hb hby at_180) rfl rfl ?_
      refine XS.iconst X380.here hx rfl (hb hby at_182) ?_
      show Steps p.tables e below (T380.setTop (mkF m 183 #[.val (.long i0), .second, .val (.long i1), .second, .val (.long i2), .second, .val (.long i3), .second, .val (.long i4), .second, .val (.int i5), .val (.int (5 : Int32)), .val (.ref b2), .val (.ref b19), .val (.ref b26)] [(.int (4 : Int32)), (.ref b26)])) t
      refine X380.laload hx (j := (4 : Int32)) (v := (.long i0)) (by rw [e380]; exact Ar381.1) (State.isArrayOf_alike hZ.alike Ar381.2.1) Ar381.2.2 hin381 hat381 (g := (mkF m 183 #[.val (.long i0), .second, .val (.long i1), .second, .val (.long i2), .second, .val (.long i3), .second, .val (.long i4), .second, .val (.int i5), .val (.int (5 : Int32)), .val (.ref b2), .val (.ref b19), .val (.ref b26)] [(.int (4 : Int32)), (.ref b26)])) rfl rfl (hb hby at_183) _ ?_
      refine XS.aload X380.here hx rfl (hb hby at_184) rfl rfl ?_
      show Steps p.tables e below (T380.setTop (mkF m 186 #[.val (.long i0), .second, .val (.long i1), .second, .val (.long i2), .second, .val (.long i3), .second, .val (.long i4), .second, .val (.int i5), .val (.int (5 : Int32)), .val (.ref b2), .val (.ref b19), .val (.ref b26)] [(.ref b2), (.long i0)])) t
      refine XS.iload X380.here hx rfl (hb hby at_186) rfl ?_
      refine XS.iconst X380.here hx rfl (hb hby at_188) ?_
      show Steps p.tables e below (T380.setTop (mkF m 189 #[.val (.long i0), .second, .val (.long i1), .second, .val (.long i2), .second, .val (.long i3), .second, .val (.long i4), .second, .val (.int i5), .val (.int (5 : Int32)), .val (.ref b2), .val (.ref b19), .val (.ref b26)] [(.int (4 : Int32)), (.int (5 : Int32)), (.ref b2), (.long i0)])) t
      exact k)
    obtain ⟨_, _, ⟨T383, L383, k383, n383⟩, -, X383, ⟨Lc383, hQ383, l383, y383, z383⟩, st383⟩ := Jvm.LawKit.callS X380 hx (y := (⟨"com/example/splice/splice/KeysReversePinLaw", "at", "([JII)J"⟩ : MethodName)) hown (mvT hZ (hw _ (List.mem_of_getElem? (i := 22) rfl))) (mvT hZ (hw _ (List.mem_of_getElem? (i := 23) rfl))) (mvT hZ (hw _ (List.mem_of_getElem? (i := 24) rfl))) (mvT hZ (hw _ (List.mem_of_getElem? (i := 25) rfl))) (by decide) (backOf (W := 2) (rm4_5_4 l Z a0 hw [] b2 k2 i0 i1 i2 i3 i4 T352.heap n0 (Nat.le_trans Z0 K352.1) F369) hZ (hw _ (List.mem_of_getElem? (i := 25) rfl)) (hw _ (List.mem_of_getElem? (i := 24) rfl)) (by decide) (by decide)) (g := (mkF m 189 #[.val (.long i0), .second, .val (.long i1), .second, .val (.long i2), .second, .val (.long i3), .second, .val (.long i4), .second, .val (.int i5), .val (.int (5 : Int32)), .val (.ref b2), .val (.ref b19), .val (.ref b26)] [(.int (4 : Int32)), (.int (5 : Int32)), (.ref b2), (.long i0)])) rfl (by rw [hml]; rfl) (argsL := [(.ref b2), (.int (5 : Int32)), (.int (4 : Int32))]) (rest := [(.long i0)]) (lenOf pd_1 rfl) rfl (by show 2 * 0 + _ ≤ _; exact Nat.le_of_eq rfl) (hb hby at_189) (fun _ _ => ⟨rfl, e380, (by decide : 4 + 0 ≤ _), (by decide : 20 + 0 ≤ _)⟩)
    dsimp only [Pt.U, Pt.locs, Pt.cells, Pt.slots] at X383 l383 y383 z383 st383 hQ383
    subst l383 y383 z383
    obtain ⟨rfl, N383q, e383⟩ := hQ383
    have N383 := Fr.app N380 N383q
    have P383 : own_Go p e below S0 (T383.setTop (mkF m 192 #[.val (.long i0), .second, .val (.long i1), .second, .val (.long i2), .second, .val (.long i3), .second, .val (.long i4), .second, .val (.int i5), .val (.int (5 : Int32)), .val (.ref b2), .val (.ref b19), .val (.ref b26)] [(.long i0), (.long i0)])) := fun t k => P382 t (st383 _ k)
    have P384 : own_Go p e below S0 (T383.setTop (mkF m 201 #[.val (.long i0), .second, .val (.long i1), .second, .val (.long i2), .second, .val (.long i3), .second, .val (.long i4), .second, .val (.int i5), .val (.int (5 : Int32)), .val (.ref b2), .val (.ref b19), .val (.ref b26)] [(.int (1 : Int32))])) := fun t k => P383 t (by
      show Steps p.tables e below (T383.setTop (mkF m 192 #[.val (.long i0), .second, .val (.long i1), .second, .val (.long i2), .second, .val (.long i3), .second, .val (.long i4), .second, .val (.int i5), .val (.int (5 : Int32)), .val (.ref b2), .val (.ref b19), .val (.ref b26)] [(.long i0), (.long i0)])) t
      refine XS.lcmp X383.here hx rfl (hb hby at_192) rfl ?_
      refine XS.ifNo X383.here hx rfl (hb hby at_193) rfl ((if0 _ _).trans (teq ((lw_eq i0 i0).mpr rfl)).2) ?_
      refine XS.iconst X383.here hx rfl (hb hby at_196) ?_
      refine XS.goto X383.here hx rfl (pc0 := 197) (pc' := 201) rfl (hb hby at_197) (by decide) (by decide) ?_
      show Steps p.tables e below (T383.setTop (mkF m 201 #[.val (.long i0), .second, .val (.long i1), .second, .val (.long i2), .second, .val (.long i3), .second, .val (.long i4), .second, .val (.int i5), .val (.int (5 : Int32)), .val (.ref b2), .val (.ref b19), .val (.ref b26)] [(.int (1 : Int32))])) t
      exact k)
    have F385 : Exa Z T352.heap b19 "com/example/splice/splice/XPath$Keys" := F347.keep Kc352
    have F386 : Arv Z h26 b4_22 k4_22 .long (8 : Int32) [(.long (0 : Int64)), (.long (0 : Int64)), (.long (0 : Int64)), (.long (0 : Int64)), (.long (0 : Int64)), (.long (0 : Int64)), (.long (0 : Int64)), (.long (0 : Int64))] (.long (0 : Int64)) := F22_1.ext E26
    have F387 : Arv Z h28 b4_22 k4_22 .long (8 : Int32) [(.long (0 : Int64)), (.long (0 : Int64)), (.long (0 : Int64)), (.long (0 : Int64)), (.long (0 : Int64)), (.long (0 : Int64)), (.long (0 : Int64)), (.long (0 : Int64))] (.long (0 : Int64)) := F386.other W28 ne_b4_22_b26
    have F388 : Arv Z h31 b4_22 k4_22 .long (8 : Int32) [(.long (0 : Int64)), (.long (0 : Int64)), (.long (0 : Int64)), (.long (0 : Int64)), (.long (0 : Int64)), (.long (0 : Int64)), (.long (0 : Int64)), (.long (0 : Int64))] (.long (0 : Int64)) := F387.other W31 ne_b4_22_b26
    have F389 : Arv Z h34 b4_22 k4_22 .long (8 : Int32) [(.long (0 : Int64)), (.long (0 : Int64)), (.long (0 : Int64)), (.long (0 : Int64)), (.long (0 : Int64)), (.long (0 : Int64)), (.long (0 : Int64)), (.long (0 : Int64))] (.long (0 : Int64)) := F388.other W34 ne_b4_22_b26
    have F390 : Arv Z h37 b4_22 k4_22 .long (8 : Int32) [(.long (0 : Int64)), (.long (0 : Int64)), (.long (0 : Int64)), (.long (0 : Int64)), (.long (0 : Int64)), (.long (0 : Int64)), (.long (0 : Int64)), (.long (0 : Int64))] (.long (0 : Int64)) := F389.other W37 ne_b4_22_b26
    have F391 : Arv Z h40 b4_22 k4_22 .long (8 : Int32) [(.long (0 : Int64)), (.long (0 : Int64)), (.long (0 : Int64)), (.long (0 : Int64)), (.long (0 : Int64)), (.long (0 : Int64)), (.long (0 : Int64)), (.long (0 : Int64))] (.long (0 : Int64)) := F390.other W40 ne_b4_22_b26
    have F392 : Arv Z h54 b4_22 k4_22 .long (8 : Int32) [(.long (0 : Int64)), (.long (0 : Int64)), (.long (0 : Int64)), (.long (0 : Int64)), (.long (0 : Int64)), (.long (0 : Int64)), (.long (0 : Int64)), (.long (0 : Int64))] (.long (0 : Int64)) := F391.other W54 (Ne.symm ne_b19_b4_22)
    have F393 : Arv Z h346 b4_22 k4_22 .long (8 : Int32) [(.long (0 : Int64)), (.long (0 : Int64)), (.long (0 : Int64)), (.long (0 : Int64)), (.long (0 : Int64)), (.long (0 : Int64)), (.long (0 : Int64)), (.long (0 : Int64))] (.long (0 : Int64)) := F392.other W346 (Ne.symm ne_b19_b4_22)
    have F394 : Arv Z T352.heap b4_22 k4_22 .long (8 : Int32) [(.long (0 : Int64)), (.long (0 : Int64)), (.long (0 : Int64)), (.long (0 : Int64)), (.long (0 : Int64)), (.long (0 : Int64)), (.long (0 : Int64)), (.long (0 : Int64))] (.long (0 : Int64)) := F393.keep Kc352 (ninS ne_b4_22_b26 nin0)
    obtain ⟨fs, hr, hrun, hended, hW, hsame⟩ := X383.leave (v := some (.int (1 : Int32))) (fun h => by rw [Bd.returns] at h; cases h)
    refine ⟨_, _, own_from hS0 (P384 _ ?_), hrun, hended, _, _, rfl, ?_, ⟨_, rfl⟩, hW, hsame.mono (by decide) (by decide)⟩
    · show Steps p.tables e below (T383.setTop (mkF m 201 #[.val (.long i0), .second, .val (.long i1), .second, .val (.long i2), .second, .val (.long i3), .second, .val (.long i4), .second, .val (.int i5), .val (.int (5 : Int32)), .val (.ref b2), .val (.ref b19), .val (.ref b26)] [(.int (1 : Int32))])) _
      exact retN X383 hx (t := .boolean) Bd.returns (by simp) (hb hby at_201) hr
    · show Q0 Z i0 i1 i2 i3 i4 i5 h0 n0 _ T383.heap _
      rw [e383]
      exact ⟨rfl, N383⟩
set_option maxRecDepth 65536 in
set_option maxHeartbeats 40000000 in
theorem comes_1 {Post : Tables → Env → Array Value → State → Outcome → State → Prop} (hpost : ∀ tb e args s v u, (limb_1_1.after args s (.returned v) u = true ∧ limb_1_2.after args s (.returned v) u = true ∧ True) → FrameEnd s (.returned v) u (Jvm.fieldLocs frame_1_writes args s ++ Jvm.arrayLocs frame_1_arrays args s ++ Jvm.staticLocs frame_1_statics s) 16 128 → Post tb e args s (.returned v) u) :
    ArmFor flags0 classFile x code maxLocals ret World_1 tables_1 room_1 Calls_1 rest_1 Pre_1 Post := by
  intro l hfl _ _ p e ha hc hk s m args below hf hA hF happ hP
  obtain ⟨hcalls, hrest, hpre⟩ := hP
  obtain ⟨-, -, -, hnamed, -, -, -, hat⟩ := (Spec.applies_iff hf).mp happ
  obtain ⟨hg, hn⟩ := and_e (Cond.before_iff.mp (show (Jvm.Cond.and given_1 narrow_1).before args s = true from hpre))
  obtain ⟨ga1, gb1⟩ := and_e hg
  obtain ⟨ga2, gb2⟩ := and_e gb1
  obtain ⟨ga3, gb3⟩ := and_e gb2
  obtain ⟨ga4, gb4⟩ := and_e gb3
  obtain ⟨ga5, gb5⟩ := and_e gb4
  obtain ⟨ga6, gb6⟩ := and_e gb5
  obtain ⟨w0, w1, w2, w3, w4, w5, rfl⟩ : ∃ w0 w1 w2 w3 w4 w5 : Value, args = #[w0, w1, w2, w3, w4, w5] := by
    have hs : args.size = 6 := by simpa [Cond.value, given_1] using ga1
    obtain ⟨L⟩ := args
    match L, hs with
    | [w0, w1, w2, w3, w4, w5], _ => exact ⟨w0, w1, w2, w3, w4, w5, rfl⟩
  have hw := fun d (hd : d ∈ tables_1) => atoms_spec (ws := Jvm.Cond.code x code maxLocals ret :: tables_1) hat d (List.mem_cons_of_mem _ hd)
  have hfit : Fit s := fun {y c} hc i hi => by
    obtain ⟨ha, rfl⟩ := Array.getElem?_eq_some_iff.mp hc
    have q := List.all_eq_true.mp ((Array.all_eq_true_iff_forall_mem.mp hF) _ (Array.getElem_mem ha)) i (List.mem_range.mpr hi)
    simpa [Array.getElem?_eq_getElem hi] using q
  obtain ⟨i0, ei0⟩ := isL_v ga2
  obtain rfl : w0 = (.long i0) := Option.some.inj ei0
  obtain ⟨i1, ei1⟩ := isL_v ga3
  obtain rfl : w1 = (.long i1) := Option.some.inj ei1
  obtain ⟨i2, ei2⟩ := isL_v ga4
  obtain rfl : w2 = (.long i2) := Option.some.inj ei2
  obtain ⟨i3, ei3⟩ := isL_v ga5
  obtain rfl : w3 = (.long i3) := Option.some.inj ei3
  obtain ⟨i4, ei4⟩ := isL_v ga6
  obtain rfl : w4 = (.long i4) := Option.some.inj ei4
  obtain ⟨i5, ei5⟩ := is_v gb6
  obtain rfl : w5 = (.int i5) := Option.some.inj ei5
  obtain ⟨n, o, h1, h2, h3, _, L, rfl, ⟨rfl, N⟩, hq⟩ := rm0 l s _ hw tables_1 i0 i1 i2 i3 i4 i5 s.heap s.heap.size (Nat.le_refl _) p e ha hc hk s m _ below hf ((Spec.applies_iff_loose hf).mp happ).1 ⟨rfl, State.Warmed39.refl s, rfl⟩ trivial
  refine ⟨n, _, h1, h2, h3, hpost _ _ _ _ _ _ ⟨Cond.after_iff.mpr rfl, Cond.after_iff.mpr (eq_i res_at (Term.int_eval (1)) rfl), trivial⟩ ⟨hq.1, hq.2.1, (hq.2.2.sift fun y hy => Or.inr (N y hy)).mono (by decide) (by decide)⟩⟩
theorem main_1_1 : Claimed_1_1 := comes_1 fun _ _ _ _ _ _ h hF => ⟨h.1, hF⟩
theorem main_1_2 : Claimed_1_2 := comes_1 fun _ _ _ _ _ _ h hF => ⟨h.2.1, hF⟩
end Jvm.Pilot.@@N@@
namespace Jvm.Pilot.@@N@@
open Jvm Jvm.ClassFile Sem Op Lib Jvm.Free Jvm.Stand Jvm.Pilot.@@N@@.Jvm.D
/-! MADE BY PROGRAM (witnessworld.py) out of the Statement's table words and the real class files: 11 classes; the members and pool entries that the words name. The judged class is class 1, her method 2. -/
namespace start1
open Jvm.ClassFile
def u (s : String) : CpInfo := .utf8 (stringToUtf16 s)
/-- a pool by its gaps: so many unusable entries, then the entry; so many at the end -/
def gap : Nat → List CpInfo → List CpInfo
  | 0, r => r
  | n + 1, r => .unusable :: gap n r
def poolList (es : List (Nat × CpInfo)) (last : Nat) : List CpInfo := es.foldr (fun e r => gap e.1 (e.2 :: r)) (gap last [])
def pool (es : List (Nat × CpInfo)) (last : Nat) : Array CpInfo := ⟨poolList es last⟩
def fileOf (pool : Array CpInfo) (this : Nat) (attrs : Array Attribute := #[]) (ms : Array MethodInfo := #[]) (fl : Nat := 33) (sup : Nat := 0) (ifs : Array Nat := #[]) (fds : Array FieldInfo := #[]) : ClassFile where
  minorVersion := 0
  majorVersion := 65
  constantPool := pool
  accessFlags := fl
  thisClass := this
  superClass := sup
  interfaces := ifs
  fields := fds
  methods := ms
  attributes := attrs
def plain (name : String) (sup : Option ClassId) : Class where
  name := name
  kind := .ordinary
  loader := none
  accessFlags := 33
  super := sup
  interfaces := #[]
  cf := none
  fields := #[]
  methods := #[]
  instanceTypes := #[]
  staticTypes := #[]
  resolved := #[]
  callSites := []
  init := .initialized
  statics := none
  mirror := none

def pool0 : Array CpInfo := pool [(5, u "<init>"), (0, u "()V"), (1, .class_ 10), (1, u "java/lang/Object")] 113

def k0c0 : Code := { maxStack := 0, maxLocals := 1, code := object_method_1_code, exceptionTable := #[], attributes := #[] }
def k0m0 : Method := { name := "<init>", desc := "()V", sig := { parameters := [], returnType := none }, accessFlags := 1, code := some k0c0 }
/-- java/lang/Object -/
def k0 : Class := { plain "java/lang/Object" none with
  accessFlags := 33
  interfaces := #[]
  cf := some (fileOf pool0 8 #[] #[{ accessFlags := 1, nameIndex := 5, descriptorIndex := 6, attributes := #[] }] 33 0 #[] #[])
  fields := #[]
  methods := #[k0m0]
  instanceTypes := #[]
  staticTypes := #[]
  resolved := Array.replicate 124 none
  statics := none }

def pool1 : Array CpInfo := pool [(2, .class_ 4), (0, .nameAndType 5 6), (0, u "java/lang/Object"), (0, u "<init>"), (0, u "()V"), (0, .integer 2147483647), (0, .class_ 9), (0, u "com/example/splice/splice/XPath$Keys"), (0, .methodref 8 3), (0, .fieldref 8 12), (0, .nameAndType 13 14), (0, u "keys"), (0, u "[J"), (0, .fieldref 8 16), (0, .nameAndType 17 18), (0, u "size"), (0, u "I"), (0, .methodref 8 20), (0, .nameAndType 21 6), (0, u "reverse"), (0, .methodref 23 24), (0, .class_ 25), (0, .nameAndType 26 27), (0, u "com/example/splice/splice/KeysReversePinLaw"), (0, u "at"), (0, u "([JII)J"), (3, u "law"), (0, u "(JJJJJI)Z")] 7

def k1m0 : Method := { name := "<init>", desc := "()V", sig := { parameters := [], returnType := none }, accessFlags := 1, code := none }
def k1c1 : Code := { maxStack := 3, maxLocals := 3, code := method_2_code, exceptionTable := #[], attributes := #[] }
def k1m1 : Method := { name := "at", desc := "([JII)J", sig := { parameters := [(.array .long), .int, .int], returnType := some .long }, accessFlags := 10, code := some k1c1 }
def k1c2 : Code := { maxStack := 6, maxLocals := 15, code := code, exceptionTable := #[], attributes := #[] }
def k1m2 : Method := { name := "law", desc := "(JJJJJI)Z", sig := { parameters := [.long, .long, .long, .long, .long, .int], returnType := some .boolean }, accessFlags := 9, code := some k1c2 }
/-- com/example/splice/splice/KeysReversePinLaw -/
def k1 : Class := { plain "com/example/splice/splice/KeysReversePinLaw" (some 0) with
  accessFlags := 49
  interfaces := #[]
  cf := some (fileOf pool1 23 #[] #[{ accessFlags := 1, nameIndex := 5, descriptorIndex := 6, attributes := #[] }, { accessFlags := 10, nameIndex := 26, descriptorIndex := 27, attributes := #[] }, { accessFlags := 9, nameIndex := 31, descriptorIndex := 32, attributes := #[] }] 49 2 #[] #[])
  fields := #[]
  methods := #[k1m0, k1m1, k1m2]
  instanceTypes := #[]
  staticTypes := #[]
  resolved := Array.replicate 40 none
  statics := none }

def pool2 : Array CpInfo := pool [(1, .methodref 2 3), (0, .class_ 4), (0, .nameAndType 5 6), (0, u "java/lang/Object"), (0, u "<init>"), (0, u "()V"), (0, .fieldref 8 9), (0, .class_ 10), (0, .nameAndType 11 12), (0, u "com/example/splice/splice/XPath$Keys"), (0, u "keys"), (0, u "[J"), (0, .fieldref 8 14), (0, .nameAndType 15 16), (0, u "size"), (0, u "I"), (35, u "reverse"), (5, .class_ 59), (0, u "com/example/splice/splice/XPath")] 3

def k2c0 : Code := { maxStack := 2, maxLocals := 1, code := prog_149_method_1_code, exceptionTable := #[], attributes := #[] }
def k2m0 : Method := { name := "<init>", desc := "()V", sig := { parameters := [], returnType := none }, accessFlags := 0, code := some k2c0 }
def k2c1 : Code := { maxStack := 4, maxLocals := 5, code := prog_149_method_5_code, exceptionTable := #[], attributes := #[] }
def k2m1 : Method := { name := "reverse", desc := "()V", sig := { parameters := [], returnType := none }, accessFlags := 0, code := some k2c1 }
/-- com/example/splice/splice/XPath$Keys -/
def k2 : Class := { plain "com/example/splice/splice/XPath$Keys" (some 0) with
  accessFlags := 48
  interfaces := #[]
  cf := some (fileOf pool2 8 #[.nestHost 58] #[{ accessFlags := 0, nameIndex := 5, descriptorIndex := 6, attributes := #[] }, { accessFlags := 0, nameIndex := 52, descriptorIndex := 6, attributes := #[] }] 48 2 #[] #[{ accessFlags := 0, nameIndex := 11, descriptorIndex := 12, attributes := #[] }, { accessFlags := 0, nameIndex := 15, descriptorIndex := 16, attributes := #[] }])
  fields := #[{ name := "keys", type := (.array .long), accessFlags := 0, slot := 0, constantValue := 0 }, { name := "size", type := .int, accessFlags := 0, slot := 1, constantValue := 0 }]
  methods := #[k2m0, k2m1]
  instanceTypes := #[(.array .long), .int]
  staticTypes := #[]
  resolved := Array.replicate 63 none
  statics := none }

def pool3 : Array CpInfo := pool [(1, u "java/lang/Cloneable"), (0, .class_ 1), (0, u "java/lang/Object"), (0, .class_ 3)] 3

/-- java/lang/Cloneable -/
def k3 : Class := { plain "java/lang/Cloneable" (some 0) with
  accessFlags := 1537
  interfaces := #[]
  cf := some (fileOf pool3 2 #[] #[] 1537 4 #[] #[])
  fields := #[]
  methods := #[]
  instanceTypes := #[]
  staticTypes := #[]
  resolved := Array.replicate 8 none
  statics := none }

def pool4 : Array CpInfo := pool [(1, u "java/io/Serializable"), (0, .class_ 1), (0, u "java/lang/Object"), (0, .class_ 3)] 3

/-- java/io/Serializable -/
def k4 : Class := { plain "java/io/Serializable" (some 0) with
  accessFlags := 1537
  interfaces := #[]
  cf := some (fileOf pool4 2 #[] #[] 1537 4 #[] #[])
  fields := #[]
  methods := #[]
  instanceTypes := #[]
  staticTypes := #[]
  resolved := Array.replicate 8 none
  statics := none }

/-- the primitive byte -/
def k5 : Class := { plain "byte" none with kind := .primitive 'B', accessFlags := 0x411 }
/-- [B -/
def k6 : Class := { plain "[B" (some 0) with kind := .array 5 .byte, interfaces := #[3, 4], accessFlags := 1041 }

/-- the primitive int -/
def k7 : Class := { plain "int" none with kind := .primitive 'I', accessFlags := 0x411 }
/-- [I -/
def k8 : Class := { plain "[I" (some 0) with kind := .array 7 .int, interfaces := #[3, 4], accessFlags := 1041 }

/-- the primitive long -/
def k9 : Class := { plain "long" none with kind := .primitive 'J', accessFlags := 0x411 }
/-- [J -/
def k10 : Class := { plain "[J" (some 0) with kind := .array 9 .long, interfaces := #[3, 4], accessFlags := 1041 }

def heap : Heap := #[]
def classes : Array Class := #[k0, k1, k2, k3, k4, k5, k6, k7, k8, k9, k10]
def interned : List (Array UInt16 × Addr) := []
def slotsUsed : Nat := 0
def theMethod : MethodId := ⟨1, 2⟩
def args0 : Array Value := #[.long 5, .long 3, .long 6, .long 6, .long 6, .int 5]
def aboutOver (below : List Frame) : State where
  vm := { classes := classes, interned := interned.toArray }
  heap := heap
  slotsUsed := slotsUsed
  threads := #[{ frames := .invoking theMethod args0 :: below }]
def below0 : List Frame := [.native { method := ⟨0, 0⟩, args := #[] }]
def about1 : State := aboutOver below0
def p0 : Program := .bare "" "" ""
def e0 : Env := launch0.env 0 0 0
theorem w_frames : about1.frames = Frame.invoking theMethod args0 :: below0 := rfl
set_option maxRecDepth 65536 in
theorem w_args : argsFit about1.vm theMethod args0 = true := by decide +kernel
set_option maxRecDepth 65536 in
theorem w_heap : heapFits about1 = true := by decide +kernel
set_option maxRecDepth 65536 in
theorem w_runnable : about1.curStatus? = some .runnable := by decide +kernel
set_option maxRecDepth 65536 in
theorem w_alone : about1.alone = true := by decide +kernel
set_option maxRecDepth 65536 in
theorem w_named : about1.methodNamed? x = some theMethod := by decide +kernel
set_option maxRecDepth 65536 in
theorem w_hears : about1.hears theMethod below0 = true := by decide +kernel
set_option maxRecDepth 65536 in
theorem w_ripe : about1.ripe theMethod args0 below0 = true := by decide +kernel
theorem w_running : about1.status = .running := rfl
set_option maxRecDepth 65536 in
theorem w_room : about1.hasRoom e0.platform room_1 = true :=
  launch0.hasRoom_least _ room_1 (by decide +kernel) (by decide +kernel) (by decide +kernel) (by decide +kernel) (by decide +kernel) (by decide +kernel)
theorem allAtoms_all (ts : List Jvm.Cond) (a : Array Jvm.Value) (st : Jvm.State) : (allAtoms ts).before a st = ts.all (fun c => c.before a st) := by
  induction ts with
  | nil => rfl
  | cons c t ih =>
    show (Jvm.Cond.and c (allAtoms t)).before a st = _
    rw [Jvm.Cond.before_and, ih, List.all_cons]
def words1 : List Jvm.Cond := Jvm.Cond.code x code maxLocals ret :: tables_1
/-- a 'code' word, met by the world's own term for the bytes: nothing is compared byte by byte -/
theorem code_word {y : MethodName} {bytes : ByteArray} {mx : Nat} {rt : Option FieldType} {a : Array Value} {s : State} {m : MethodId} {meth : Method} {c : Code} (h1 : s.methodNamed? y = some m) (h2 : s.vm.method? m = some meth) (h3 : meth.code = some c) (h4 : c.code = bytes)
    (h5 : (c.maxLocals == mx && c.exceptionTable.isEmpty && decide (c.maxStack ≤ mostOperands) && decide (meth.sig.returnType = rt) && !meth.locks && decide (parseMethodDescriptor y.desc = some meth.sig)) = true) : (Jvm.Cond.code y bytes mx rt).before a s = true := by
  simp only [Bool.and_eq_true, beq_iff_eq, Bool.not_eq_true', decide_eq_true_eq] at h5
  obtain ⟨⟨⟨⟨⟨g1, g2⟩, g3⟩, g4⟩, g5⟩, g6⟩ := h5
  simp [Cond.before, Cond.holds, Cond.value, h1, h2, h3, h4, g1, g2, g3, g4, g5, g6]
def isCode : Jvm.Cond → Bool
  | .code _ _ _ _ => true
  | _ => false
theorem all_split {L : List Jvm.Cond} {P : Jvm.Cond → Bool} (h1 : L.all (fun c => isCode c || P c) = true) (h2 : ∀ c ∈ L.filter isCode, P c = true) : L.all P = true := by
  refine List.all_eq_true.mpr fun c hc => ?_
  have h := List.all_eq_true.mp h1 c hc
  rcases Bool.eq_false_or_eq_true (isCode c) with hi | hi
  · exact h2 c (List.mem_filter.mpr ⟨hc, hi⟩)
  · simpa [hi] using h
set_option maxRecDepth 65536 in
theorem w_c0 : (Jvm.Cond.code x code maxLocals ret).before args0 about1 = true := code_word (m := ⟨1, 2⟩) (meth := k1m2) (c := k1c2) (by decide +kernel) rfl rfl rfl (by decide +kernel)
set_option maxRecDepth 65536 in
theorem w_c1 : (Jvm.Cond.code ({ cls := "com/example/splice/splice/XPath$Keys", name := "<init>", desc := "()V" } : Jvm.MethodName) prog_149_method_1_code (1 : Nat) (Option.none : Option Jvm.ClassFile.FieldType)).before args0 about1 = true := code_word (m := ⟨2, 0⟩) (meth := k2m0) (c := k2c0) (by decide +kernel) rfl rfl rfl (by decide +kernel)
set_option maxRecDepth 65536 in
theorem w_c2 : (Jvm.Cond.code ({ cls := "java/lang/Object", name := "<init>", desc := "()V" } : Jvm.MethodName) object_method_1_code (1 : Nat) (Option.none : Option Jvm.ClassFile.FieldType)).before args0 about1 = true := code_word (m := ⟨0, 0⟩) (meth := k0m0) (c := k0c0) (by decide +kernel) rfl rfl rfl (by decide +kernel)
set_option maxRecDepth 65536 in
theorem w_c3 : (Jvm.Cond.code ({ cls := "com/example/splice/splice/XPath$Keys", name := "reverse", desc := "()V" } : Jvm.MethodName) prog_149_method_5_code (5 : Nat) (Option.none : Option Jvm.ClassFile.FieldType)).before args0 about1 = true := code_word (m := ⟨2, 1⟩) (meth := k2m1) (c := k2c1) (by decide +kernel) rfl rfl rfl (by decide +kernel)
set_option maxRecDepth 65536 in
theorem w_c4 : (Jvm.Cond.code ({ cls := "com/example/splice/splice/KeysReversePinLaw", name := "at", desc := "([JII)J" } : Jvm.MethodName) method_2_code (3 : Nat) (Option.some Jvm.ClassFile.FieldType.long)).before args0 about1 = true := code_word (m := ⟨1, 1⟩) (meth := k1m1) (c := k1c1) (by decide +kernel) rfl rfl rfl (by decide +kernel)
def codes1 : List Jvm.Cond := [Jvm.Cond.code x code maxLocals ret, Jvm.Cond.code ({ cls := "com/example/splice/splice/XPath$Keys", name := "<init>", desc := "()V" } : Jvm.MethodName) prog_149_method_1_code (1 : Nat) (Option.none : Option Jvm.ClassFile.FieldType), Jvm.Cond.code ({ cls := "java/lang/Object", name := "<init>", desc := "()V" } : Jvm.MethodName) object_method_1_code (1 : Nat) (Option.none : Option Jvm.ClassFile.FieldType), Jvm.Cond.code ({ cls := "com/example/splice/splice/XPath$Keys", name := "reverse", desc := "()V" } : Jvm.MethodName) prog_149_method_5_code (5 : Nat) (Option.none : Option Jvm.ClassFile.FieldType), Jvm.Cond.code ({ cls := "com/example/splice/splice/KeysReversePinLaw", name := "at", desc := "([JII)J" } : Jvm.MethodName) method_2_code (3 : Nat) (Option.some Jvm.ClassFile.FieldType.long)]
set_option maxRecDepth 65536 in
theorem codes_eq : words1.filter isCode = codes1 := rfl
theorem w_codes : ∀ c ∈ words1.filter isCode, c.before args0 about1 = true := by
  rw [codes_eq]
  intro c hc
  simp only [codes1, List.mem_cons, List.not_mem_nil, or_false] at hc
  rcases hc with rfl | rfl | rfl | rfl | rfl
  · exact w_c0
  · exact w_c1
  · exact w_c2
  · exact w_c3
  · exact w_c4
set_option maxRecDepth 65536 in
theorem w_t1 : (words1.take 24).all (fun c => isCode c || c.before args0 about1) = true := by decide +kernel
set_option maxRecDepth 65536 in
theorem w_t2 : (words1.drop 24).all (fun c => isCode c || c.before args0 about1) = true := by decide +kernel
theorem w_tables : (allAtoms (Jvm.Cond.code x code maxLocals ret :: tables_1)).before args0 about1 = true := by
  rw [allAtoms_all]
  show words1.all (fun c => c.before args0 about1) = true
  refine all_split ?_ w_codes
  rw [← List.take_append_drop 24 words1, List.all_append, w_t1, w_t2]
  rfl
set_option maxRecDepth 65536 in
theorem w_case : (Jvm.Cond.and given_1 narrow_1).before args0 about1 = true := by decide +kernel
theorem w_applies : (headSpec (Jvm.Cond.code x code maxLocals ret :: tables_1) room_1).applies x e0.platform about1 = true :=
  (Spec.applies_iff w_frames).mpr ⟨w_running, w_runnable, w_alone, w_named, w_hears, w_ripe, w_room, w_tables⟩
theorem atStart : AtStart classFile x code maxLocals ret World_1 tables_1 room_1 Calls_1 rest_1 Pre_1 launch0 p0 e0 about1 theMethod args0 below0 :=
  ⟨lists_1, trivial, launch0.admits_env _ _ _, launch0.least_env, fairChoices_fair.cas, fairChoices_fair.clock, w_frames, w_args, w_heap, w_applies, trivial, trivial, w_case⟩
end start1
theorem witness_1 : WitnessClaimed_1 := ⟨start1.p0, start1.e0, start1.about1, start1.theMethod, start1.args0, start1.below0, start1.atStart⟩
end Jvm.Pilot.@@N@@
