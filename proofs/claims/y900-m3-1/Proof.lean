import JvmDerived
import JvmDerived.Pilot.@@N@@Statement
import JvmDerived.Pilot.@@N@@Code
set_option linter.unusedVariables false
set_option linter.unusedSimpArgs false
namespace Jvm.RoadKit
open Sem ClassFile Op Lib Jvm.Stand Jvm.Free Jvm.LawKit
section New
variable {p : Program} {l : Launch} {e : Env} {R : Room} {s : State} {m : MethodId} {args : Array Value} {below : List Frame} {meth : Method} {c : Code} {T : State} {locs : List Loc} {cells slots : Nat}
theorem retI (X : Stand p l e R s m args below meth c T locs cells slots) (hx : p.tables.exec = Jvm.exec) {pc : Nat} {Ls : Array Slot} {z : Int32} {rest : List Value} (hret : meth.sig.returnType = some .int) (hd : decode c.code pc = .ok (.ireturn, 1)) {fs : List Frame}
    (hl : ∀ (f : JFrame) (acts : List Action), f.method = m → f.locked = none → f.entered = [] → (doReturn e (T.setTop f) acts (some (.int z))).1 = T.setFrames fs) : Steps p.tables e below (T.setTop (mkF m pc Ls (.int z :: rest))) (T.setFrames fs) := by
  have hm' : T.vm.method? m = some meth := X.method'
  have hn : narrow .int (.int z) = .int z := rfl
  show Steps p.tables e below (T.setTop { method := m, pc := pc, locals := Ls, stack := _ :: rest, locked := none }) _
  jvm_step X.here [X.here.top, hx, hd, hm', hret, hn]
  first | (intro acts; rw [hl _ acts rfl rfl rfl]) | rw [hl _ _ rfl rfl rfl]
  exact Steps.refl _
end New
end Jvm.RoadKit
namespace Jvm.Pilot.@@N@@
open Jvm Jvm.ClassFile Sem Op Lib Jvm.Free Jvm.Stand Jvm.LawKit Jvm.RoadKit Bundle Jvm.Pilot.@@N@@.Jvm.D
abbrev own_Go (p : Program) (e : Env) (below : List Frame) (A B : State) : Prop := ∀ t, Steps p.tables e below B t → Steps p.tables e below A t
theorem own_from {p : Program} {e : Env} {below : List Frame} {A B t : State} (h : A = B) (k : Steps p.tables e below A t) : Steps p.tables e below B t := h ▸ k
theorem own_ite1 {P : Prop} [Decidable P] (h : P) : ¬ ((if P then (1 : Int32) else (0 : Int32)) = (0 : Int32)) := by rw [if_pos h]; decide
theorem own_ite0 {P : Prop} [Decidable P] (h : ¬ P) : (if P then (1 : Int32) else (0 : Int32)) = (0 : Int32) := if_neg h
def own_Pl (h : Heap) (a : Addr) : Prop := ∃ c : Cell, h[a]? = some c ∧ c.vm.isStatics = false
theorem own_plE {Z : State} {h : Heap} {a : Addr} {C : String} (F : Exa Z h a C) : own_Pl h a := by obtain ⟨cell, k, h1, _, _, h4, _⟩ := F; exact ⟨cell, h1, h4⟩
theorem own_plF {Z : State} {h : Heap} {a : Addr} {C n d : String} {v : Value} (F : Fld Z h a C n d v) : own_Pl h a := by obtain ⟨cell, cf, k, i, f, h1, _, _, _, h5, _⟩ := F; exact ⟨cell, h1, h5⟩
theorem own_plA {Z : State} {h : Heap} {a : Addr} {k : ClassId} {ty : FieldType} {n : Int32} {vs : List Value} {d : Value} (F : Arv Z h a k ty n vs d) : own_Pl h a := by obtain ⟨c, A, _⟩ := F; exact ⟨c, A.1, A.plain⟩
theorem own_staK {Z : State} {h h' : Heap} {C n d : String} {v : Value} {ws : List Addr} (F : Sta Z h C n d v) (K : Keep h h' ws) (q : ∀ x ∈ ws, own_Pl h x) : Sta Z h' C n d v := by
  obtain ⟨cf, i, k, f, st, cell, h1, h2, h3, h4, h5, h6, h7⟩ := F
  refine ⟨cf, i, k, f, st, cell, h1, h2, h3, h4, K.2.1 st cell h5 fun z => ?_, h6, h7⟩
  obtain ⟨c, q1, q2⟩ := q st z
  cases h5.symm.trans q1
  rw [h6] at q2; cases q2
theorem own_insK {Z : State} {h h' : Heap} {a : Addr} {C : String} {bo : Bool} {ws : List Addr} (F : Ins Z h a C bo) (K : Keep h h' ws) : Ins Z h' a C bo := by
  obtain ⟨cell, cT, h1, h2, h3⟩ := F
  obtain ⟨c', q1, q2, q3, q4⟩ := K.2.2 a cell h1
  exact ⟨c', cT, q1, h2, by rw [q2, q3]; exact h3⟩
theorem own_atI {c : Cell} {vs : List Value} {d : Value} {ty : FieldType} {j : Int32} (H : Has c vs d) (G : ∀ i, i < c.slots.size → fits ty (vs.getD i d) = true) (q : ¬ (j < 0 ∨ c.slots.size ≤ j.toNatClampNeg)) (ht : ty = .int ∨ ty = .boolean ∨ ty = .byte ∨ ty = .char ∨ ty = .short) : ∃ z, c.slots[j.toNatClampNeg]? = some (.int z) := by
  have hlt := Nat.lt_of_not_le fun y => q (Or.inr y)
  obtain ⟨z, hz⟩ := fit_I (G _ hlt) ht
  exact ⟨z, by rw [H _ hlt, hz]⟩
theorem own_cat {v : Value} (h : v.isRef = true) : v.category = 1 := by cases v <;> simp [Value.isRef, Value.category] at h ⊢
theorem pn_1 : plainName "com/example/firm_ledger/firmledger/ledger/RecordFile$Next" = true := by first | (simp [plainName, overriddenIn]; done) | decide +kernel
theorem d1_0 : decode prog_41_method_4_code 0 = .ok (.iload_n 0, 1) := by decide +kernel
theorem d1_1 : decode prog_41_method_4_code 1 = .ok (.ifCond .eq 9, 3) := by decide +kernel
theorem d1_4 : decode prog_41_method_4_code 4 = .ok (.getstatic 10, 3) := by decide +kernel
theorem d1_7 : decode prog_41_method_4_code 7 = .ok (.goto 6, 3) := by decide +kernel
theorem d1_13 : decode prog_41_method_4_code 13 = .ok (.areturn, 1) := by decide +kernel
theorem ef_1t (m : MethodId)  : entryFrame m #[(.int (1 : Int32))] 1 = mkF m 0 #[.val (.int (1 : Int32))] [] := by first | (simp [entryFrame, mkF, argsToLocals, Value.category]; done) | rfl
def Q1t (Z : State) (z1t_CHECKED : Addr) (h0 : Heap) (n0 : Nat) (v : Option Value) (h : Heap) (L : List Loc) : Prop := v = some (.ref z1t_CHECKED) ∧ Fr n0 L ∧ h = h0
set_option maxRecDepth 65536 in
set_option maxHeartbeats 40000000 in
theorem rm1t (l : Launch) (Z : State) (a0 : Array Value) (hw : ∀ d ∈ tables_1, d.before a0 Z = true) (ws : List Jvm.Cond) (z1t_CHECKED : Addr) (h0 : Heap) (n0 : Nat) (Z0 : n0 ≤ h0.size) (S_CHECKED : Sta Z h0 "com/example/firm_ledger/firmledger/ledger/RecordFile$Next" "CHECKED" "Lcom/example/firm_ledger/firmledger/ledger/RecordFile$Next;" (.ref z1t_CHECKED)) :
    MetFree l (⟨"com/example/firm_ledger/firmledger/ledger/RecordFile$Next", "reading", "(Z)Lcom/example/firm_ledger/firmledger/ledger/RecordFile$Next;"⟩ : MethodName) (head1 (Jvm.Cond.code (⟨"com/example/firm_ledger/firmledger/ledger/RecordFile$Next", "reading", "(Z)Lcom/example/firm_ledger/firmledger/ledger/RecordFile$Next;"⟩ : MethodName) prog_41_method_4_code 1 (some (.object "com/example/firm_ledger/firmledger/ledger/RecordFile$Next")) :: ws) ({ frames := 0, cells := 0, slots := 0, locals := 0 } : Room)) (fun a U => a = #[(.int (1 : Int32))] ∧ Z.Warmed39 U.vm ∧ U.heap = h0) (fun _ _ _ _ _ => True) (fun _ U o U' => ∃ v L, o = .returned v ∧ Q1t Z z1t_CHECKED h0 n0 v U'.heap L ∧ FrameEnd U o U' L ({ frames := 0, cells := 0, slots := 0, locals := 0 } : Room).cells ({ frames := 0, cells := 0, slots := 0, locals := 0 } : Room).slots) := by
  refine MetFree.of_bodySF (plainFor_of_name pn_1) hisR ?_
  intro p e s m args below meth c s₁ Bd hml0 hP hK
  obtain ⟨rfl, hZ, hh⟩ := hP
  have hx := Bd.exec
  have hby := Bd.bytes
  have hml : c.maxLocals = 1 := hml0
  have hown : s.vm.findClass "com/example/firm_ledger/firmledger/ledger/RecordFile$Next" = some m.cls := findClass_of_methodNamed Bd.named
  have hnm := (name_of_methodNamed Bd.named Bd.method).1
  have X0 : Stand p l e ({ frames := 0, cells := 0, slots := 0, locals := 0 } : Room) s m #[(.int (1 : Int32))] below meth c s₁ [] 0 0 := Stand.of_body Bd
  have e0 : s₁.heap = h0 := by rw [← hh, Bd.state]; rfl
  have N0 := Fr.nil n0
  obtain ⟨S0, hS0⟩ : ∃ z, z = s₁.setTop (entryFrame m #[(.int (1 : Int32))] 1) := ⟨_, rfl⟩
  have P0 : own_Go p e below S0 (s₁.setTop (mkF m 0 #[.val (.int (1 : Int32))] [])) := fun t k => by rw [hS0]; exact castTop (ef_1t m ) k
  have P1 : own_Go p e below S0 (s₁.setTop (mkF m 4 #[.val (.int (1 : Int32))] [])) := fun t k => P0 t (by
    show Steps p.tables e below (s₁.setTop (mkF m 0 #[.val (.int (1 : Int32))] [])) t
    refine XS.iloadN X0.here hx rfl (hb hby d1_0) rfl ?_
    refine XS.ifNo X0.here hx rfl (hb hby d1_1) rfl ((if0 _ _).trans (feq (by decide)).1) ?_
    show Steps p.tables e below (s₁.setTop (mkF m 4 #[.val (.int (1 : Int32))] [])) t
    exact k)
  obtain ⟨T2, X2, e2, st2⟩ := getS2 X0 hx hZ hown (host := "") (Or.inl (hw _ (List.mem_of_getElem? (i := 11) rfl))) Via.refl e0 S_CHECKED (g := (mkF m 4 #[.val (.int (1 : Int32))] [])) rfl (hb hby d1_4)
  have P2 : own_Go p e below S0 (T2.setTop (mkF m 7 #[.val (.int (1 : Int32))] [(.ref z1t_CHECKED)])) := fun t k => P1 t (st2 _ k)
  have P3 : own_Go p e below S0 (T2.setTop (mkF m 13 #[.val (.int (1 : Int32))] [(.ref z1t_CHECKED)])) := fun t k => P2 t (by
    show Steps p.tables e below (T2.setTop (mkF m 7 #[.val (.int (1 : Int32))] [(.ref z1t_CHECKED)])) t
    refine XS.goto X2.here hx rfl (pc0 := 7) (pc' := 13) rfl (hb hby d1_7) (by decide) (by decide) ?_
    show Steps p.tables e below (T2.setTop (mkF m 13 #[.val (.int (1 : Int32))] [(.ref z1t_CHECKED)])) t
    exact k)
  obtain ⟨fs, hr, hrun, hended, hW, hsame⟩ := X2.leave (v := some (.ref z1t_CHECKED)) (fun h => by rw [Bd.returns] at h; cases h)
  refine ⟨_, _, own_from hS0 (P3 _ ?_), hrun, hended, _, _, rfl, ?_, ⟨_, rfl⟩, hW, hsame.mono (by decide) (by decide)⟩
  · show Steps p.tables e below (T2.setTop (mkF m 13 #[.val (.int (1 : Int32))] [(.ref z1t_CHECKED)])) _
    jvm_step X2.here [X2.here.top, hx, (hb hby d1_13), X2.method', Bd.returns, Value.isRef, FieldType.isReference]
    first | (intro acts; rw [hr _ acts rfl rfl rfl]) | rw [hr _ _ rfl rfl rfl]
    exact Steps.refl _
  · show Q1t Z z1t_CHECKED h0 n0 _ T2.heap _
    rw [e2]
    exact ⟨rfl, N0, rfl⟩
theorem d1_10 : decode prog_41_method_4_code 10 = .ok (.getstatic 7, 3) := by decide +kernel
theorem ef_1f (m : MethodId)  : entryFrame m #[(.int (0 : Int32))] 1 = mkF m 0 #[.val (.int (0 : Int32))] [] := by first | (simp [entryFrame, mkF, argsToLocals, Value.category]; done) | rfl
def Q1f (Z : State) (z1f_UNCHECKED : Addr) (h0 : Heap) (n0 : Nat) (v : Option Value) (h : Heap) (L : List Loc) : Prop := v = some (.ref z1f_UNCHECKED) ∧ Fr n0 L ∧ h = h0
set_option maxRecDepth 65536 in
set_option maxHeartbeats 40000000 in
theorem rm1f (l : Launch) (Z : State) (a0 : Array Value) (hw : ∀ d ∈ tables_1, d.before a0 Z = true) (ws : List Jvm.Cond) (z1f_UNCHECKED : Addr) (h0 : Heap) (n0 : Nat) (Z0 : n0 ≤ h0.size) (S_UNCHECKED : Sta Z h0 "com/example/firm_ledger/firmledger/ledger/RecordFile$Next" "UNCHECKED" "Lcom/example/firm_ledger/firmledger/ledger/RecordFile$Next;" (.ref z1f_UNCHECKED)) :
    MetFree l (⟨"com/example/firm_ledger/firmledger/ledger/RecordFile$Next", "reading", "(Z)Lcom/example/firm_ledger/firmledger/ledger/RecordFile$Next;"⟩ : MethodName) (head1 (Jvm.Cond.code (⟨"com/example/firm_ledger/firmledger/ledger/RecordFile$Next", "reading", "(Z)Lcom/example/firm_ledger/firmledger/ledger/RecordFile$Next;"⟩ : MethodName) prog_41_method_4_code 1 (some (.object "com/example/firm_ledger/firmledger/ledger/RecordFile$Next")) :: ws) ({ frames := 0, cells := 0, slots := 0, locals := 0 } : Room)) (fun a U => a = #[(.int (0 : Int32))] ∧ Z.Warmed39 U.vm ∧ U.heap = h0) (fun _ _ _ _ _ => True) (fun _ U o U' => ∃ v L, o = .returned v ∧ Q1f Z z1f_UNCHECKED h0 n0 v U'.heap L ∧ FrameEnd U o U' L ({ frames := 0, cells := 0, slots := 0, locals := 0 } : Room).cells ({ frames := 0, cells := 0, slots := 0, locals := 0 } : Room).slots) := by
  refine MetFree.of_bodySF (plainFor_of_name pn_1) hisR ?_
  intro p e s m args below meth c s₁ Bd hml0 hP hK
  obtain ⟨rfl, hZ, hh⟩ := hP
  have hx := Bd.exec
  have hby := Bd.bytes
  have hml : c.maxLocals = 1 := hml0
  have hown : s.vm.findClass "com/example/firm_ledger/firmledger/ledger/RecordFile$Next" = some m.cls := findClass_of_methodNamed Bd.named
  have hnm := (name_of_methodNamed Bd.named Bd.method).1
  have X0 : Stand p l e ({ frames := 0, cells := 0, slots := 0, locals := 0 } : Room) s m #[(.int (0 : Int32))] below meth c s₁ [] 0 0 := Stand.of_body Bd
  have e0 : s₁.heap = h0 := by rw [← hh, Bd.state]; rfl
  have N0 := Fr.nil n0
  obtain ⟨S0, hS0⟩ : ∃ z, z = s₁.setTop (entryFrame m #[(.int (0 : Int32))] 1) := ⟨_, rfl⟩
  have P0 : own_Go p e below S0 (s₁.setTop (mkF m 0 #[.val (.int (0 : Int32))] [])) := fun t k => by rw [hS0]; exact castTop (ef_1f m ) k
  have P1 : own_Go p e below S0 (s₁.setTop (mkF m 10 #[.val (.int (0 : Int32))] [])) := fun t k => P0 t (by
    show Steps p.tables e below (s₁.setTop (mkF m 0 #[.val (.int (0 : Int32))] [])) t
    refine XS.iloadN X0.here hx rfl (hb hby d1_0) rfl ?_
    refine XS.ifYes X0.here hx rfl (pc0 := 1) (pc' := 10) rfl (hb hby d1_1) rfl ((if0 _ _).trans (teq (by decide)).1) (by decide) (by decide) ?_
    show Steps p.tables e below (s₁.setTop (mkF m 10 #[.val (.int (0 : Int32))] [])) t
    exact k)
  obtain ⟨T2, X2, e2, st2⟩ := getS2 X0 hx hZ hown (host := "") (Or.inl (hw _ (List.mem_of_getElem? (i := 4) rfl))) Via.refl e0 S_UNCHECKED (g := (mkF m 10 #[.val (.int (0 : Int32))] [])) rfl (hb hby d1_10)
  have P2 : own_Go p e below S0 (T2.setTop (mkF m 13 #[.val (.int (0 : Int32))] [(.ref z1f_UNCHECKED)])) := fun t k => P1 t (st2 _ k)
  obtain ⟨fs, hr, hrun, hended, hW, hsame⟩ := X2.leave (v := some (.ref z1f_UNCHECKED)) (fun h => by rw [Bd.returns] at h; cases h)
  refine ⟨_, _, own_from hS0 (P2 _ ?_), hrun, hended, _, _, rfl, ?_, ⟨_, rfl⟩, hW, hsame.mono (by decide) (by decide)⟩
  · show Steps p.tables e below (T2.setTop (mkF m 13 #[.val (.int (0 : Int32))] [(.ref z1f_UNCHECKED)])) _
    jvm_step X2.here [X2.here.top, hx, (hb hby d1_13), X2.method', Bd.returns, Value.isRef, FieldType.isReference]
    first | (intro acts; rw [hr _ acts rfl rfl rfl]) | rw [hr _ _ rfl rfl rfl]
    exact Steps.refl _
  · show Q1f Z z1f_UNCHECKED h0 n0 _ T2.heap _
    rw [e2]
    exact ⟨rfl, N0, rfl⟩
theorem pd_0 : parseMethodDescriptor "(Z)Lcom/example/firm_ledger/firmledger/ledger/RecordFile$Next;" = some ⟨[.boolean], some (.object "com/example/firm_ledger/firmledger/ledger/RecordFile$Next")⟩ := by decide +kernel
theorem pn_0 : plainName "com/example/firm_ledger/firmledger/ledger/RecordFileReadingPinLaw" = true := by first | (simp [plainName, overriddenIn]; done) | decide +kernel
theorem ef_0 (m : MethodId) (i0 : Int32) : entryFrame m #[(.int i0)] maxLocals = mkF m 0 #[.val (.int i0), .unset, .unset, .unset, .unset, .unset] [] := by first | (simp [entryFrame, mkF, argsToLocals, Value.category, maxLocals]; done) | rfl
def Q0 (Z : State) (i0 : Int32) (z0_UNCHECKED : Addr) (z0_STOP : Addr) (z0_CHECKED : Addr) (h0 : Heap) (n0 : Nat) (v : Option Value) (h : Heap) (L : List Loc) : Prop := v = some (.int 1) ∧ Fr n0 L
set_option maxRecDepth 65536 in
set_option maxHeartbeats 40000000 in
theorem rm0 (l : Launch) (Z : State) (a0 : Array Value) (hw : ∀ d ∈ tables_1, d.before a0 Z = true) (ws : List Jvm.Cond) (i0 : Int32) (z0_UNCHECKED : Addr) (z0_STOP : Addr) (z0_CHECKED : Addr) (h0 : Heap) (n0 : Nat) (Z0 : n0 ≤ h0.size) (S_UNCHECKED : Sta Z h0 "com/example/firm_ledger/firmledger/ledger/RecordFile$Next" "UNCHECKED" "Lcom/example/firm_ledger/firmledger/ledger/RecordFile$Next;" (.ref z0_UNCHECKED)) (S_STOP : Sta Z h0 "com/example/firm_ledger/firmledger/ledger/RecordFile$Next" "STOP" "Lcom/example/firm_ledger/firmledger/ledger/RecordFile$Next;" (.ref z0_STOP)) (hne_z0_UNCHECKED_z0_STOP : z0_UNCHECKED ≠ z0_STOP) (S_CHECKED : Sta Z h0 "com/example/firm_ledger/firmledger/ledger/RecordFile$Next" "CHECKED" "Lcom/example/firm_ledger/firmledger/ledger/RecordFile$Next;" (.ref z0_CHECKED)) (hne_z0_UNCHECKED_z0_CHECKED : z0_UNCHECKED ≠ z0_CHECKED) (hne_z0_CHECKED_z0_STOP : z0_CHECKED ≠ z0_STOP) :
    MetFree l x (head1 (Jvm.Cond.code x code maxLocals ret :: ws) room_1) (fun a U => a = #[(.int i0)] ∧ Z.Warmed39 U.vm ∧ U.heap = h0) (fun _ _ _ _ _ => True) (fun _ U o U' => ∃ v L, o = .returned v ∧ Q0 Z i0 z0_UNCHECKED z0_STOP z0_CHECKED h0 n0 v U'.heap L ∧ FrameEnd U o U' L room_1.cells room_1.slots) := by
  refine MetFree.of_bodySF (plainFor_of_name pn_0) hisR ?_
  intro p e s m args below meth c s₁ Bd hml0 hP hK
  obtain ⟨rfl, hZ, hh⟩ := hP
  have hx := Bd.exec
  have hby := Bd.bytes
  have hml : c.maxLocals = 6 := hml0
  have hown : s.vm.findClass "com/example/firm_ledger/firmledger/ledger/RecordFileReadingPinLaw" = some m.cls := findClass_of_methodNamed Bd.named
  have hnm := (name_of_methodNamed Bd.named Bd.method).1
  have X0 : Stand p l e room_1 s m #[(.int i0)] below meth c s₁ [] 0 0 := Stand.of_body Bd
  have e0 : s₁.heap = h0 := by rw [← hh, Bd.state]; rfl
  have N0 := Fr.nil n0
  obtain ⟨S0, hS0⟩ : ∃ z, z = s₁.setTop (entryFrame m #[(.int i0)] maxLocals) := ⟨_, rfl⟩
  have P0 : own_Go p e below S0 (s₁.setTop (mkF m 0 #[.val (.int i0), .unset, .unset, .unset, .unset, .unset] [])) := fun t k => by rw [hS0]; exact castTop (ef_0 m i0) k
  have P1 : own_Go p e below S0 (s₁.setTop (mkF m 3 #[.val (.int i0), .unset, .unset, .unset, .unset, .unset] [(.int (i0 &&& (1 : Int32)))])) := fun t k => P0 t (by
    show Steps p.tables e below (s₁.setTop (mkF m 0 #[.val (.int i0), .unset, .unset, .unset, .unset, .unset] [])) t
    refine XS.iloadN X0.here hx rfl (hb hby at_0) rfl ?_
    refine XS.iconst X0.here hx rfl (hb hby at_1) ?_
    refine XS.iand X0.here hx rfl (hb hby at_2) rfl ?_
    show Steps p.tables e below (s₁.setTop (mkF m 3 #[.val (.int i0), .unset, .unset, .unset, .unset, .unset] [(.int (i0 &&& (1 : Int32)))])) t
    exact k)
  by_cases c2 : (i0 &&& (1 : Int32)) = (0 : Int32)
  · skip
    have P3 : own_Go p e below S0 (s₁.setTop (mkF m 13 #[.val (.int i0), .val (.int (0 : Int32)), .unset, .unset, .unset, .unset] [(.int (0 : Int32))])) := fun t k => P1 t (by
      show Steps p.tables e below (s₁.setTop (mkF m 3 #[.val (.int i0), .unset, .unset, .unset, .unset, .unset] [(.int (i0 &&& (1 : Int32)))])) t
      refine XS.ifYes X0.here hx rfl (pc0 := 3) (pc' := 10) rfl (hb hby at_3) rfl ((if0 _ _).trans (teq c2).1) (by decide) (by decide) ?_
      refine XS.iconst X0.here hx rfl (hb hby at_10) ?_
      refine XS.istoreN X0.here hx rfl (hb hby at_11) rfl (l' := #[.val (.int i0), .val (.int (0 : Int32)), .unset, .unset, .unset, .unset]) rfl ?_
      refine XS.iloadN X0.here hx rfl (hb hby at_12) rfl ?_
      show Steps p.tables e below (s₁.setTop (mkF m 13 #[.val (.int i0), .val (.int (0 : Int32)), .unset, .unset, .unset, .unset] [(.int (0 : Int32))])) t
      exact k)
    obtain ⟨_, _, ⟨T4, L4, k4, n4⟩, -, X4, ⟨Lc4, hQ4, l4, y4, z4⟩, st4⟩ := Jvm.LawKit.callS X0 hx (y := (⟨"com/example/firm_ledger/firmledger/ledger/RecordFile$Next", "reading", "(Z)Lcom/example/firm_ledger/firmledger/ledger/RecordFile$Next;"⟩ : MethodName)) hown (mvT hZ (hw _ (List.mem_of_getElem? (i := 0) rfl))) (mvT hZ (hw _ (List.mem_of_getElem? (i := 1) rfl))) (mvT hZ (hw _ (List.mem_of_getElem? (i := 2) rfl))) (mvT hZ (hw _ (List.mem_of_getElem? (i := 3) rfl))) (by decide) (backOf (W := 0) (rm1f l Z a0 hw [] z0_UNCHECKED h0 n0 Z0 S_UNCHECKED) hZ (hw _ (List.mem_of_getElem? (i := 3) rfl)) (hw _ (List.mem_of_getElem? (i := 2) rfl)) (by decide) (by decide)) (g := (mkF m 13 #[.val (.int i0), .val (.int (0 : Int32)), .unset, .unset, .unset, .unset] [(.int (0 : Int32))])) rfl (by rw [hml]; rfl) (argsL := [(.int (0 : Int32))]) (rest := []) (lenOf pd_0 rfl) rfl (by show 2 * 0 + _ ≤ _; exact Nat.le_of_eq rfl) (hb hby at_13) (fun _ _ => ⟨rfl, e0, (by decide : 0 + 0 ≤ _), (by decide : 0 + 0 ≤ _)⟩)
    dsimp only [Pt.U, Pt.locs, Pt.cells, Pt.slots] at X4 l4 y4 z4 st4 hQ4
    subst l4 y4 z4
    obtain ⟨rfl, N4q, e4⟩ := hQ4
    have N4 := Fr.app N0 N4q
    have P4 : own_Go p e below S0 (T4.setTop (mkF m 16 #[.val (.int i0), .val (.int (0 : Int32)), .unset, .unset, .unset, .unset] [(.ref z0_UNCHECKED)])) := fun t k => P3 t (st4 _ k)
    have P5 : own_Go p e below S0 (T4.setTop (mkF m 18 #[.val (.int i0), .val (.int (0 : Int32)), .val (.ref z0_UNCHECKED), .unset, .unset, .unset] [(.ref z0_UNCHECKED)])) := fun t k => P4 t (by
      show Steps p.tables e below (T4.setTop (mkF m 16 #[.val (.int i0), .val (.int (0 : Int32)), .unset, .unset, .unset, .unset] [(.ref z0_UNCHECKED)])) t
      refine XS.astoreN X4.here hx rfl (hb hby at_16) rfl rfl (l' := #[.val (.int i0), .val (.int (0 : Int32)), .val (.ref z0_UNCHECKED), .unset, .unset, .unset]) rfl ?_
      refine XS.aloadN X4.here hx rfl (hb hby at_17) rfl rfl ?_
      show Steps p.tables e below (T4.setTop (mkF m 18 #[.val (.int i0), .val (.int (0 : Int32)), .val (.ref z0_UNCHECKED), .unset, .unset, .unset] [(.ref z0_UNCHECKED)])) t
      exact k)
    obtain ⟨T6, X6, e6, st6⟩ := getS2 X4 hx hZ hown (host := "") (Or.inl (hw _ (List.mem_of_getElem? (i := 6) rfl))) Via.refl e4 S_STOP (g := (mkF m 18 #[.val (.int i0), .val (.int (0 : Int32)), .val (.ref z0_UNCHECKED), .unset, .unset, .unset] [(.ref z0_UNCHECKED)])) rfl (hb hby at_18)
    have P6 : own_Go p e below S0 (T6.setTop (mkF m 21 #[.val (.int i0), .val (.int (0 : Int32)), .val (.ref z0_UNCHECKED), .unset, .unset, .unset] [(.ref z0_STOP), (.ref z0_UNCHECKED)])) := fun t k => P5 t (st6 _ k)
    have P7 : own_Go p e below S0 (T6.setTop (mkF m 31 #[.val (.int i0), .val (.int (0 : Int32)), .val (.ref z0_UNCHECKED), .val (.int (1 : Int32)), .unset, .unset] [(.ref z0_UNCHECKED)])) := fun t k => P6 t (by
      show Steps p.tables e below (T6.setTop (mkF m 21 #[.val (.int i0), .val (.int (0 : Int32)), .val (.ref z0_UNCHECKED), .unset, .unset, .unset] [(.ref z0_STOP), (.ref z0_UNCHECKED)])) t
      refine Jvm.RoadKit.acmp (g := (mkF m 21 #[.val (.int i0), .val (.int (0 : Int32)), .val (.ref z0_UNCHECKED), .unset, .unset, .unset] [(.ref z0_STOP), (.ref z0_UNCHECKED)])) X6 hx rfl rfl rfl (pc0 := 21) (pc' := 24) (same := false) rfl (hb hby at_21) rfl (decide_eq_false fun q => hne_z0_UNCHECKED_z0_STOP (Value.ref.inj q)) (by decide) (by decide) ?_
      refine XS.iconst X6.here hx rfl (hb hby at_24) ?_
      refine XS.goto X6.here hx rfl (pc0 := 25) (pc' := 29) rfl (hb hby at_25) (by decide) (by decide) ?_
      refine XS.istoreN X6.here hx rfl (hb hby at_29) rfl (l' := #[.val (.int i0), .val (.int (0 : Int32)), .val (.ref z0_UNCHECKED), .val (.int (1 : Int32)), .unset, .unset]) rfl ?_
      refine XS.aloadN X6.here hx rfl (hb hby at_30) rfl rfl ?_
      show Steps p.tables e below (T6.setTop (mkF m 31 #[.val (.int i0), .val (.int (0 : Int32)), .val (.ref z0_UNCHECKED), .val (.int (1 : Int32)), .unset, .unset] [(.ref z0_UNCHECKED)])) t
      exact k)
    obtain ⟨T8, X8, e8, st8⟩ := getS2 X6 hx hZ hown (host := "") (Or.inl (hw _ (List.mem_of_getElem? (i := 8) rfl))) Via.refl e6 S_CHECKED (g := (mkF m 31 #[.val (.int i0), .val (.int (0 : Int32)), .val (.ref z0_UNCHECKED), .val (.int (1 : Int32)), .unset, .unset] [(.ref z0_UNCHECKED)])) rfl (hb hby at_31)
    have P8 : own_Go p e below S0 (T8.setTop (mkF m 34 #[.val (.int i0), .val (.int (0 : Int32)), .val (.ref z0_UNCHECKED), .val (.int (1 : Int32)), .unset, .unset] [(.ref z0_CHECKED), (.ref z0_UNCHECKED)])) := fun t k => P7 t (st8 _ k)
    have P9 : own_Go p e below S0 (T8.setTop (mkF m 54 #[.val (.int i0), .val (.int (0 : Int32)), .val (.ref z0_UNCHECKED), .val (.int (1 : Int32)), .val (.int (1 : Int32)), .unset] [(.ref z0_UNCHECKED)])) := fun t k => P8 t (by
      show Steps p.tables e below (T8.setTop (mkF m 34 #[.val (.int i0), .val (.int (0 : Int32)), .val (.ref z0_UNCHECKED), .val (.int (1 : Int32)), .unset, .unset] [(.ref z0_CHECKED), (.ref z0_UNCHECKED)])) t
      refine Jvm.RoadKit.acmp (g := (mkF m 34 #[.val (.int i0), .val (.int (0 : Int32)), .val (.ref z0_UNCHECKED), .val (.int (1 : Int32)), .unset, .unset] [(.ref z0_CHECKED), (.ref z0_UNCHECKED)])) X8 hx rfl rfl rfl (pc0 := 34) (pc' := 41) (same := false) rfl (hb hby at_34) rfl (decide_eq_false fun q => hne_z0_UNCHECKED_z0_CHECKED (Value.ref.inj q)) (by decide) (by decide) ?_
      refine XS.iconst X8.here hx rfl (hb hby at_41) ?_
      refine XS.iloadN X8.here hx rfl (hb hby at_42) rfl ?_
      refine XS.icmpNo X8.here hx rfl (hb hby at_43) rfl (teq (by decide)).2 ?_
      refine XS.iconst X8.here hx rfl (hb hby at_46) ?_
      refine XS.goto X8.here hx rfl (pc0 := 47) (pc' := 51) rfl (hb hby at_47) (by decide) (by decide) ?_
      show Steps p.tables e below (T8.setTop (mkF m 51 #[.val (.int i0), .val (.int (0 : Int32)), .val (.ref z0_UNCHECKED), .val (.int (1 : Int32)), .unset, .unset] [(.int (1 : Int32))])) t
      refine XS.istore X8.here hx rfl (hb hby at_51) rfl (l' := #[.val (.int i0), .val (.int (0 : Int32)), .val (.ref z0_UNCHECKED), .val (.int (1 : Int32)), .val (.int (1 : Int32)), .unset]) rfl ?_
      refine XS.aloadN X8.here hx rfl (hb hby at_53) rfl rfl ?_
      show Steps p.tables e below (T8.setTop (mkF m 54 #[.val (.int i0), .val (.int (0 : Int32)), .val (.ref z0_UNCHECKED), .val (.int (1 : Int32)), .val (.int (1 : Int32)), .unset] [(.ref z0_UNCHECKED)])) t
      exact k)
    obtain ⟨T10, X10, e10, st10⟩ := getS2 X8 hx hZ hown (host := "") (Or.inl (hw _ (List.mem_of_getElem? (i := 10) rfl))) Via.refl e8 S_UNCHECKED (g := (mkF m 54 #[.val (.int i0), .val (.int (0 : Int32)), .val (.ref z0_UNCHECKED), .val (.int (1 : Int32)), .val (.int (1 : Int32)), .unset] [(.ref z0_UNCHECKED)])) rfl (hb hby at_54)
    have P10 : own_Go p e below S0 (T10.setTop (mkF m 57 #[.val (.int i0), .val (.int (0 : Int32)), .val (.ref z0_UNCHECKED), .val (.int (1 : Int32)), .val (.int (1 : Int32)), .unset] [(.ref z0_UNCHECKED), (.ref z0_UNCHECKED)])) := fun t k => P9 t (st10 _ k)
    have P11 : own_Go p e below S0 (T10.setTop (mkF m 103 #[.val (.int i0), .val (.int (0 : Int32)), .val (.ref z0_UNCHECKED), .val (.int (1 : Int32)), .val (.int (1 : Int32)), .val (.int (1 : Int32))] [(.int (1 : Int32))])) := fun t k => P10 t (by
      show Steps p.tables e below (T10.setTop (mkF m 57 #[.val (.int i0), .val (.int (0 : Int32)), .val (.ref z0_UNCHECKED), .val (.int (1 : Int32)), .val (.int (1 : Int32)), .unset] [(.ref z0_UNCHECKED), (.ref z0_UNCHECKED)])) t
      refine Jvm.RoadKit.acmp (g := (mkF m 57 #[.val (.int i0), .val (.int (0 : Int32)), .val (.ref z0_UNCHECKED), .val (.int (1 : Int32)), .val (.int (1 : Int32)), .unset] [(.ref z0_UNCHECKED), (.ref z0_UNCHECKED)])) X10 hx rfl rfl rfl (pc0 := 57) (pc' := 60) (same := true) rfl (hb hby at_57) rfl (decide_eq_true rfl) (by decide) (by decide) ?_
      refine XS.iconst X10.here hx rfl (hb hby at_60) ?_
      refine XS.goto X10.here hx rfl (pc0 := 61) (pc' := 65) rfl (hb hby at_61) (by decide) (by decide) ?_
      refine XS.iloadN X10.here hx rfl (hb hby at_65) rfl ?_
      refine XS.ifNo X10.here hx rfl (hb hby at_66) rfl ((if0 _ _).trans (teq (by decide)).2) ?_
      refine XS.iconst X10.here hx rfl (hb hby at_69) ?_
      show Steps p.tables e below (T10.setTop (mkF m 70 #[.val (.int i0), .val (.int (0 : Int32)), .val (.ref z0_UNCHECKED), .val (.int (1 : Int32)), .val (.int (1 : Int32)), .unset] [(.int (1 : Int32)), (.int (1 : Int32))])) t
      refine XS.goto X10.here hx rfl (pc0 := 70) (pc' := 74) rfl (hb hby at_70) (by decide) (by decide) ?_
      refine XS.icmpNo X10.here hx rfl (hb hby at_74) rfl (teq (by decide)).2 ?_
      refine XS.iconst X10.here hx rfl (hb hby at_77) ?_
      refine XS.goto X10.here hx rfl (pc0 := 78) (pc' := 82) rfl (hb hby at_78) (by decide) (by decide) ?_
      refine XS.istore X10.here hx rfl (hb hby at_82) rfl (l' := #[.val (.int i0), .val (.int (0 : Int32)), .val (.ref z0_UNCHECKED), .val (.int (1 : Int32)), .val (.int (1 : Int32)), .val (.int (1 : Int32))]) rfl ?_
      refine XS.iloadN X10.here hx rfl (hb hby at_84) rfl ?_
      show Steps p.tables e below (T10.setTop (mkF m 85 #[.val (.int i0), .val (.int (0 : Int32)), .val (.ref z0_UNCHECKED), .val (.int (1 : Int32)), .val (.int (1 : Int32)), .val (.int (1 : Int32))] [(.int (1 : Int32))])) t
      refine XS.ifNo X10.here hx rfl (hb hby at_85) rfl ((if0 _ _).trans (feq (by decide)).1) ?_
      refine XS.iload X10.here hx rfl (hb hby at_88) rfl ?_
      refine XS.ifNo X10.here hx rfl (hb hby at_90) rfl ((if0 _ _).trans (feq (by decide)).1) ?_
      refine XS.iload X10.here hx rfl (hb hby at_93) rfl ?_
      refine XS.ifNo X10.here hx rfl (hb hby at_95) rfl ((if0 _ _).trans (feq (by decide)).1) ?_
      refine XS.iconst X10.here hx rfl (hb hby at_98) ?_
      show Steps p.tables e below (T10.setTop (mkF m 99 #[.val (.int i0), .val (.int (0 : Int32)), .val (.ref z0_UNCHECKED), .val (.int (1 : Int32)), .val (.int (1 : Int32)), .val (.int (1 : Int32))] [(.int (1 : Int32))])) t
      refine XS.goto X10.here hx rfl (pc0 := 99) (pc' := 103) rfl (hb hby at_99) (by decide) (by decide) ?_
      show Steps p.tables e below (T10.setTop (mkF m 103 #[.val (.int i0), .val (.int (0 : Int32)), .val (.ref z0_UNCHECKED), .val (.int (1 : Int32)), .val (.int (1 : Int32)), .val (.int (1 : Int32))] [(.int (1 : Int32))])) t
      exact k)
    obtain ⟨fs, hr, hrun, hended, hW, hsame⟩ := X10.leave (v := some (.int (1 : Int32))) (fun h => by rw [Bd.returns] at h; cases h)
    refine ⟨_, _, own_from hS0 (P11 _ ?_), hrun, hended, _, _, rfl, ?_, ⟨_, rfl⟩, hW, hsame.mono (by decide) (by decide)⟩
    · show Steps p.tables e below (T10.setTop (mkF m 103 #[.val (.int i0), .val (.int (0 : Int32)), .val (.ref z0_UNCHECKED), .val (.int (1 : Int32)), .val (.int (1 : Int32)), .val (.int (1 : Int32))] [(.int (1 : Int32))])) _
      exact retN X10 hx (t := .boolean) Bd.returns (by simp) (hb hby at_103) hr
    · show Q0 Z i0 z0_UNCHECKED z0_STOP z0_CHECKED h0 n0 _ T10.heap _
      rw [e10]
      exact ⟨rfl, N4⟩
  · skip
    have P12 : own_Go p e below S0 (s₁.setTop (mkF m 13 #[.val (.int i0), .val (.int (1 : Int32)), .unset, .unset, .unset, .unset] [(.int (1 : Int32))])) := fun t k => P1 t (by
      show Steps p.tables e below (s₁.setTop (mkF m 3 #[.val (.int i0), .unset, .unset, .unset, .unset, .unset] [(.int (i0 &&& (1 : Int32)))])) t
      refine XS.ifNo X0.here hx rfl (hb hby at_3) rfl ((if0 _ _).trans (feq c2).1) ?_
      refine XS.iconst X0.here hx rfl (hb hby at_6) ?_
      refine XS.goto X0.here hx rfl (pc0 := 7) (pc' := 11) rfl (hb hby at_7) (by decide) (by decide) ?_
      refine XS.istoreN X0.here hx rfl (hb hby at_11) rfl (l' := #[.val (.int i0), .val (.int (1 : Int32)), .unset, .unset, .unset, .unset]) rfl ?_
      refine XS.iloadN X0.here hx rfl (hb hby at_12) rfl ?_
      show Steps p.tables e below (s₁.setTop (mkF m 13 #[.val (.int i0), .val (.int (1 : Int32)), .unset, .unset, .unset, .unset] [(.int (1 : Int32))])) t
      exact k)
    obtain ⟨_, _, ⟨T13, L13, k13, n13⟩, -, X13, ⟨Lc13, hQ13, l13, y13, z13⟩, st13⟩ := Jvm.LawKit.callS X0 hx (y := (⟨"com/example/firm_ledger/firmledger/ledger/RecordFile$Next", "reading", "(Z)Lcom/example/firm_ledger/firmledger/ledger/RecordFile$Next;"⟩ : MethodName)) hown (mvT hZ (hw _ (List.mem_of_getElem? (i := 0) rfl))) (mvT hZ (hw _ (List.mem_of_getElem? (i := 1) rfl))) (mvT hZ (hw _ (List.mem_of_getElem? (i := 2) rfl))) (mvT hZ (hw _ (List.mem_of_getElem? (i := 3) rfl))) (by decide) (backOf (W := 0) (rm1t l Z a0 hw [] z0_CHECKED h0 n0 Z0 S_CHECKED) hZ (hw _ (List.mem_of_getElem? (i := 3) rfl)) (hw _ (List.mem_of_getElem? (i := 2) rfl)) (by decide) (by decide)) (g := (mkF m 13 #[.val (.int i0), .val (.int (1 : Int32)), .unset, .unset, .unset, .unset] [(.int (1 : Int32))])) rfl (by rw [hml]; rfl) (argsL := [(.int (1 : Int32))]) (rest := []) (lenOf pd_0 rfl) rfl (by show 2 * 0 + _ ≤ _; exact Nat.le_of_eq rfl) (hb hby at_13) (fun _ _ => ⟨rfl, e0, (by decide : 0 + 0 ≤ _), (by decide : 0 + 0 ≤ _)⟩)
    dsimp only [Pt.U, Pt.locs, Pt.cells, Pt.slots] at X13 l13 y13 z13 st13 hQ13
    subst l13 y13 z13
    obtain ⟨rfl, N13q, e13⟩ := hQ13
    have N13 := Fr.app N0 N13q
    have P13 : own_Go p e below S0 (T13.setTop (mkF m 16 #[.val (.int i0), .val (.int (1 : Int32)), .unset, .unset, .unset, .unset] [(.ref z0_CHECKED)])) := fun t k => P12 t (st13 _ k)
    have P14 : own_Go p e below S0 (T13.setTop (mkF m 18 #[.val (.int i0), .val (.int (1 : Int32)), .val (.ref z0_CHECKED), .unset, .unset, .unset] [(.ref z0_CHECKED)])) := fun t k => P13 t (by
      show Steps p.tables e below (T13.setTop (mkF m 16 #[.val (.int i0), .val (.int (1 : Int32)), .unset, .unset, .unset, .unset] [(.ref z0_CHECKED)])) t
      refine XS.astoreN X13.here hx rfl (hb hby at_16) rfl rfl (l' := #[.val (.int i0), .val (.int (1 : Int32)), .val (.ref z0_CHECKED), .unset, .unset, .unset]) rfl ?_
      refine XS.aloadN X13.here hx rfl (hb hby at_17) rfl rfl ?_
      show Steps p.tables e below (T13.setTop (mkF m 18 #[.val (.int i0), .val (.int (1 : Int32)), .val (.ref z0_CHECKED), .unset, .unset, .unset] [(.ref z0_CHECKED)])) t
      exact k)
    obtain ⟨T15, X15, e15, st15⟩ := getS2 X13 hx hZ hown (host := "") (Or.inl (hw _ (List.mem_of_getElem? (i := 6) rfl))) Via.refl e13 S_STOP (g := (mkF m 18 #[.val (.int i0), .val (.int (1 : Int32)), .val (.ref z0_CHECKED), .unset, .unset, .unset] [(.ref z0_CHECKED)])) rfl (hb hby at_18)
    have P15 : own_Go p e below S0 (T15.setTop (mkF m 21 #[.val (.int i0), .val (.int (1 : Int32)), .val (.ref z0_CHECKED), .unset, .unset, .unset] [(.ref z0_STOP), (.ref z0_CHECKED)])) := fun t k => P14 t (st15 _ k)
    have P16 : own_Go p e below S0 (T15.setTop (mkF m 31 #[.val (.int i0), .val (.int (1 : Int32)), .val (.ref z0_CHECKED), .val (.int (1 : Int32)), .unset, .unset] [(.ref z0_CHECKED)])) := fun t k => P15 t (by
      show Steps p.tables e below (T15.setTop (mkF m 21 #[.val (.int i0), .val (.int (1 : Int32)), .val (.ref z0_CHECKED), .unset, .unset, .unset] [(.ref z0_STOP), (.ref z0_CHECKED)])) t
      refine Jvm.RoadKit.acmp (g := (mkF m 21 #[.val (.int i0), .val (.int (1 : Int32)), .val (.ref z0_CHECKED), .unset, .unset, .unset] [(.ref z0_STOP), (.ref z0_CHECKED)])) X15 hx rfl rfl rfl (pc0 := 21) (pc' := 24) (same := false) rfl (hb hby at_21) rfl (decide_eq_false fun q => hne_z0_CHECKED_z0_STOP (Value.ref.inj q)) (by decide) (by decide) ?_
      refine XS.iconst X15.here hx rfl (hb hby at_24) ?_
      refine XS.goto X15.here hx rfl (pc0 := 25) (pc' := 29) rfl (hb hby at_25) (by decide) (by decide) ?_
      refine XS.istoreN X15.here hx rfl (hb hby at_29) rfl (l' := #[.val (.int i0), .val (.int (1 : Int32)), .val (.ref z0_CHECKED), .val (.int (1 : Int32)), .unset, .unset]) rfl ?_
      refine XS.aloadN X15.here hx rfl (hb hby at_30) rfl rfl ?_
      show Steps p.tables e below (T15.setTop (mkF m 31 #[.val (.int i0), .val (.int (1 : Int32)), .val (.ref z0_CHECKED), .val (.int (1 : Int32)), .unset, .unset] [(.ref z0_CHECKED)])) t
      exact k)
    obtain ⟨T17, X17, e17, st17⟩ := getS2 X15 hx hZ hown (host := "") (Or.inl (hw _ (List.mem_of_getElem? (i := 8) rfl))) Via.refl e15 S_CHECKED (g := (mkF m 31 #[.val (.int i0), .val (.int (1 : Int32)), .val (.ref z0_CHECKED), .val (.int (1 : Int32)), .unset, .unset] [(.ref z0_CHECKED)])) rfl (hb hby at_31)
    have P17 : own_Go p e below S0 (T17.setTop (mkF m 34 #[.val (.int i0), .val (.int (1 : Int32)), .val (.ref z0_CHECKED), .val (.int (1 : Int32)), .unset, .unset] [(.ref z0_CHECKED), (.ref z0_CHECKED)])) := fun t k => P16 t (st17 _ k)
    have P18 : own_Go p e below S0 (T17.setTop (mkF m 54 #[.val (.int i0), .val (.int (1 : Int32)), .val (.ref z0_CHECKED), .val (.int (1 : Int32)), .val (.int (1 : Int32)), .unset] [(.ref z0_CHECKED)])) := fun t k => P17 t (by
      show Steps p.tables e below (T17.setTop (mkF m 34 #[.val (.int i0), .val (.int (1 : Int32)), .val (.ref z0_CHECKED), .val (.int (1 : Int32)), .unset, .unset] [(.ref z0_CHECKED), (.ref z0_CHECKED)])) t
      refine Jvm.RoadKit.acmp (g := (mkF m 34 #[.val (.int i0), .val (.int (1 : Int32)), .val (.ref z0_CHECKED), .val (.int (1 : Int32)), .unset, .unset] [(.ref z0_CHECKED), (.ref z0_CHECKED)])) X17 hx rfl rfl rfl (pc0 := 34) (pc' := 37) (same := true) rfl (hb hby at_34) rfl (decide_eq_true rfl) (by decide) (by decide) ?_
      refine XS.iconst X17.here hx rfl (hb hby at_37) ?_
      refine XS.goto X17.here hx rfl (pc0 := 38) (pc' := 42) rfl (hb hby at_38) (by decide) (by decide) ?_
      refine XS.iloadN X17.here hx rfl (hb hby at_42) rfl ?_
      refine XS.icmpNo X17.here hx rfl (hb hby at_43) rfl (teq (by decide)).2 ?_
      refine XS.iconst X17.here hx rfl (hb hby at_46) ?_
      show Steps p.tables e below (T17.setTop (mkF m 47 #[.val (.int i0), .val (.int (1 : Int32)), .val (.ref z0_CHECKED), .val (.int (1 : Int32)), .unset, .unset] [(.int (1 : Int32))])) t
      refine XS.goto X17.here hx rfl (pc0 := 47) (pc' := 51) rfl (hb hby at_47) (by decide) (by decide) ?_
      refine XS.istore X17.here hx rfl (hb hby at_51) rfl (l' := #[.val (.int i0), .val (.int (1 : Int32)), .val (.ref z0_CHECKED), .val (.int (1 : Int32)), .val (.int (1 : Int32)), .unset]) rfl ?_
      refine XS.aloadN X17.here hx rfl (hb hby at_53) rfl rfl ?_
      show Steps p.tables e below (T17.setTop (mkF m 54 #[.val (.int i0), .val (.int (1 : Int32)), .val (.ref z0_CHECKED), .val (.int (1 : Int32)), .val (.int (1 : Int32)), .unset] [(.ref z0_CHECKED)])) t
      exact k)
    obtain ⟨T19, X19, e19, st19⟩ := getS2 X17 hx hZ hown (host := "") (Or.inl (hw _ (List.mem_of_getElem? (i := 10) rfl))) Via.refl e17 S_UNCHECKED (g := (mkF m 54 #[.val (.int i0), .val (.int (1 : Int32)), .val (.ref z0_CHECKED), .val (.int (1 : Int32)), .val (.int (1 : Int32)), .unset] [(.ref z0_CHECKED)])) rfl (hb hby at_54)
    have P19 : own_Go p e below S0 (T19.setTop (mkF m 57 #[.val (.int i0), .val (.int (1 : Int32)), .val (.ref z0_CHECKED), .val (.int (1 : Int32)), .val (.int (1 : Int32)), .unset] [(.ref z0_UNCHECKED), (.ref z0_CHECKED)])) := fun t k => P18 t (st19 _ k)
    have P20 : own_Go p e below S0 (T19.setTop (mkF m 103 #[.val (.int i0), .val (.int (1 : Int32)), .val (.ref z0_CHECKED), .val (.int (1 : Int32)), .val (.int (1 : Int32)), .val (.int (1 : Int32))] [(.int (1 : Int32))])) := fun t k => P19 t (by
      show Steps p.tables e below (T19.setTop (mkF m 57 #[.val (.int i0), .val (.int (1 : Int32)), .val (.ref z0_CHECKED), .val (.int (1 : Int32)), .val (.int (1 : Int32)), .unset] [(.ref z0_UNCHECKED), (.ref z0_CHECKED)])) t
      refine Jvm.RoadKit.acmp (g := (mkF m 57 #[.val (.int i0), .val (.int (1 : Int32)), .val (.ref z0_CHECKED), .val (.int (1 : Int32)), .val (.int (1 : Int32)), .unset] [(.ref z0_UNCHECKED), (.ref z0_CHECKED)])) X19 hx rfl rfl rfl (pc0 := 57) (pc' := 64) (same := false) rfl (hb hby at_57) rfl (decide_eq_false fun q => (Ne.symm hne_z0_UNCHECKED_z0_CHECKED) (Value.ref.inj q)) (by decide) (by decide) ?_
      refine XS.iconst X19.here hx rfl (hb hby at_64) ?_
      refine XS.iloadN X19.here hx rfl (hb hby at_65) rfl ?_
      refine XS.ifYes X19.here hx rfl (pc0 := 66) (pc' := 73) rfl (hb hby at_66) rfl ((if0 _ _).trans (feq (by decide)).2) (by decide) (by decide) ?_
      refine XS.iconst X19.here hx rfl (hb hby at_73) ?_
      refine XS.icmpNo X19.here hx rfl (hb hby at_74) rfl (teq (by decide)).2 ?_
      show Steps p.tables e below (T19.setTop (mkF m 77 #[.val (.int i0), .val (.int (1 : Int32)), .val (.ref z0_CHECKED), .val (.int (1 : Int32)), .val (.int (1 : Int32)), .unset] [])) t
      refine XS.iconst X19.here hx rfl (hb hby at_77) ?_
      refine XS.goto X19.here hx rfl (pc0 := 78) (pc' := 82) rfl (hb hby at_78) (by decide) (by decide) ?_
      refine XS.istore X19.here hx rfl (hb hby at_82) rfl (l' := #[.val (.int i0), .val (.int (1 : Int32)), .val (.ref z0_CHECKED), .val (.int (1 : Int32)), .val (.int (1 : Int32)), .val (.int (1 : Int32))]) rfl ?_
      refine XS.iloadN X19.here hx rfl (hb hby at_84) rfl ?_
      refine XS.ifNo X19.here hx rfl (hb hby at_85) rfl ((if0 _ _).trans (feq (by decide)).1) ?_
      refine XS.iload X19.here hx rfl (hb hby at_88) rfl ?_
      show Steps p.tables e below (T19.setTop (mkF m 90 #[.val (.int i0), .val (.int (1 : Int32)), .val (.ref z0_CHECKED), .val (.int (1 : Int32)), .val (.int (1 : Int32)), .val (.int (1 : Int32))] [(.int (1 : Int32))])) t
      refine XS.ifNo X19.here hx rfl (hb hby at_90) rfl ((if0 _ _).trans (feq (by decide)).1) ?_
      refine XS.iload X19.here hx rfl (hb hby at_93) rfl ?_
      refine XS.ifNo X19.here hx rfl (hb hby at_95) rfl ((if0 _ _).trans (feq (by decide)).1) ?_
      refine XS.iconst X19.here hx rfl (hb hby at_98) ?_
      refine XS.goto X19.here hx rfl (pc0 := 99) (pc' := 103) rfl (hb hby at_99) (by decide) (by decide) ?_
      show Steps p.tables e below (T19.setTop (mkF m 103 #[.val (.int i0), .val (.int (1 : Int32)), .val (.ref z0_CHECKED), .val (.int (1 : Int32)), .val (.int (1 : Int32)), .val (.int (1 : Int32))] [(.int (1 : Int32))])) t
      exact k)
    obtain ⟨fs, hr, hrun, hended, hW, hsame⟩ := X19.leave (v := some (.int (1 : Int32))) (fun h => by rw [Bd.returns] at h; cases h)
    refine ⟨_, _, own_from hS0 (P20 _ ?_), hrun, hended, _, _, rfl, ?_, ⟨_, rfl⟩, hW, hsame.mono (by decide) (by decide)⟩
    · show Steps p.tables e below (T19.setTop (mkF m 103 #[.val (.int i0), .val (.int (1 : Int32)), .val (.ref z0_CHECKED), .val (.int (1 : Int32)), .val (.int (1 : Int32)), .val (.int (1 : Int32))] [(.int (1 : Int32))])) _
      exact retN X19 hx (t := .boolean) Bd.returns (by simp) (hb hby at_103) hr
    · show Q0 Z i0 z0_UNCHECKED z0_STOP z0_CHECKED h0 n0 _ T19.heap _
      rw [e19]
      exact ⟨rfl, N13⟩
set_option maxRecDepth 65536 in
set_option maxHeartbeats 40000000 in
theorem comes_1 {Post : Tables → Env → Array Value → State → Outcome → State → Prop} (hpost : ∀ tb e args s v u, (limb_1_1.after args s (.returned v) u = true ∧ limb_1_2.after args s (.returned v) u = true ∧ True) → FrameEnd s (.returned v) u (Jvm.fieldLocs frame_1_writes args s ++ Jvm.arrayLocs frame_1_arrays args s ++ Jvm.staticLocs frame_1_statics s) 0 0 → Post tb e args s (.returned v) u) :
    ArmFor flags0 classFile x code maxLocals ret World_1 tables_1 room_1 Calls_1 rest_1 Pre_1 Post := by
  intro l hfl _ _ p e ha hc hk s m args below hf hA hF happ hP
  obtain ⟨hcalls, hrest, hpre⟩ := hP
  obtain ⟨-, -, -, hnamed, -, -, -, hat⟩ := (Spec.applies_iff hf).mp happ
  obtain ⟨hg, hn⟩ := and_e (Cond.before_iff.mp (show (Jvm.Cond.and given_1 narrow_1).before args s = true from hpre))
  obtain ⟨ga1, gb1⟩ := and_e hg
  obtain ⟨w0, rfl⟩ : ∃ w0 : Value, args = #[w0] := by
    have hs : args.size = 1 := by simpa [Cond.value, given_1] using ga1
    obtain ⟨L⟩ := args
    match L, hs with
    | [w0], _ => exact ⟨w0, rfl⟩
  have hw := fun d (hd : d ∈ tables_1) => atoms_spec (ws := Jvm.Cond.code x code maxLocals ret :: tables_1) hat d (List.mem_cons_of_mem _ hd)
  have hfit : Fit s := fun {y c} hc i hi => by
    obtain ⟨ha, rfl⟩ := Array.getElem?_eq_some_iff.mp hc
    have q := List.all_eq_true.mp ((Array.all_eq_true_iff_forall_mem.mp hF) _ (Array.getElem_mem ha)) i (List.mem_range.mpr hi)
    simpa [Array.getElem?_eq_getElem hi] using q
  obtain ⟨i0, ei0⟩ := is_v gb1
  obtain rfl : w0 = (.int i0) := Option.some.inj ei0
  obtain ⟨ga2, gb2⟩ := and_e hn
  obtain ⟨ga3, gb3⟩ := and_e gb2
  obtain ⟨ga4, gb4⟩ := and_e gb3
  obtain ⟨ga5, gb5⟩ := and_e gb4
  obtain ⟨ga6, gb6⟩ := and_e gb5
  obtain ⟨z0_UNCHECKED, ev1⟩ := exa_v ga2
  have S_UNCHECKED : Sta s s.heap "com/example/firm_ledger/firmledger/ledger/RecordFile$Next" "UNCHECKED" "Lcom/example/firm_ledger/firmledger/ledger/RecordFile$Next;" (.ref z0_UNCHECKED) := Sta.start ev1 (Or.inr ⟨(hw _ (List.mem_of_getElem? (i := 2) rfl)), (hw _ (List.mem_of_getElem? (i := 5) rfl))⟩)
  have Ex_z0_UNCHECKED : Exa s s.heap z0_UNCHECKED "com/example/firm_ledger/firmledger/ledger/RecordFile$Next" := Exa.start ev1 ga2
  have Od_z0_UNCHECKED : Fld s s.heap z0_UNCHECKED "java/lang/Enum" "ordinal" "I" (.int (1 : Int32)) := Fld.start ((fld_at ev1).symm.trans (Cond.eq_int (Cond.before_iff.mpr ga4) rfl))
  obtain ⟨z0_STOP, ev2⟩ := exa_v ga3
  have S_STOP : Sta s s.heap "com/example/firm_ledger/firmledger/ledger/RecordFile$Next" "STOP" "Lcom/example/firm_ledger/firmledger/ledger/RecordFile$Next;" (.ref z0_STOP) := Sta.start ev2 (Or.inr ⟨(hw _ (List.mem_of_getElem? (i := 2) rfl)), (hw _ (List.mem_of_getElem? (i := 7) rfl))⟩)
  have Ex_z0_STOP : Exa s s.heap z0_STOP "com/example/firm_ledger/firmledger/ledger/RecordFile$Next" := Exa.start ev2 ga3
  have Od_z0_STOP : Fld s s.heap z0_STOP "java/lang/Enum" "ordinal" "I" (.int (0 : Int32)) := Fld.start ((fld_at ev2).symm.trans (Cond.eq_int (Cond.before_iff.mpr ga5) rfl))
  obtain ⟨z0_CHECKED, ev3⟩ := exa_v ga6
  have S_CHECKED : Sta s s.heap "com/example/firm_ledger/firmledger/ledger/RecordFile$Next" "CHECKED" "Lcom/example/firm_ledger/firmledger/ledger/RecordFile$Next;" (.ref z0_CHECKED) := Sta.start ev3 (Or.inr ⟨(hw _ (List.mem_of_getElem? (i := 2) rfl)), (hw _ (List.mem_of_getElem? (i := 9) rfl))⟩)
  have Ex_z0_CHECKED : Exa s s.heap z0_CHECKED "com/example/firm_ledger/firmledger/ledger/RecordFile$Next" := Exa.start ev3 ga6
  have Od_z0_CHECKED : Fld s s.heap z0_CHECKED "java/lang/Enum" "ordinal" "I" (.int (2 : Int32)) := Fld.start ((fld_at ev3).symm.trans (Cond.eq_int (Cond.before_iff.mpr gb6) rfl))
  obtain ⟨n, o, h1, h2, h3, _, L, rfl, ⟨rfl, N⟩, hq⟩ := rm0 l s _ hw tables_1 i0 z0_UNCHECKED z0_STOP z0_CHECKED s.heap s.heap.size (Nat.le_refl _) S_UNCHECKED S_STOP (Fld.ne Od_z0_UNCHECKED Od_z0_STOP (fun q => absurd (Value.int.inj q) (by decide))) S_CHECKED (Fld.ne Od_z0_UNCHECKED Od_z0_CHECKED (fun q => absurd (Value.int.inj q) (by decide))) (Fld.ne Od_z0_CHECKED Od_z0_STOP (fun q => absurd (Value.int.inj q) (by decide))) p e ha hc hk s m _ below hf ((Spec.applies_iff_loose hf).mp happ).1 ⟨rfl, State.Warmed39.refl s, rfl⟩ trivial
  refine ⟨n, _, h1, h2, h3, hpost _ _ _ _ _ _ ⟨Cond.after_iff.mpr rfl, Cond.after_iff.mpr (eq_i res_at (Term.int_eval (1)) rfl), trivial⟩ ⟨hq.1, hq.2.1, (hq.2.2.sift fun y hy => Or.inr (N y hy)).mono (by decide) (by decide)⟩⟩
theorem main_1_1 : Claimed_1_1 := comes_1 fun _ _ _ _ _ _ h hF => ⟨h.1, hF⟩
theorem main_1_2 : Claimed_1_2 := comes_1 fun _ _ _ _ _ _ h hF => ⟨h.2.1, hF⟩
end Jvm.Pilot.@@N@@
namespace Jvm.Pilot.@@N@@
open Jvm Jvm.ClassFile Sem Op Lib Jvm.Free Jvm.Stand Jvm.Pilot.@@N@@.Jvm.D
/-! MADE BY PROGRAM (witnessworld.py) out of the Statement's table words and the real class files: 12 classes; the members and pool entries that the words name. The judged class is class 1, her method 1. -/
namespace start1
open Jvm.ClassFile
def u (s : String) : CpInfo := .utf8 (stringToUtf16 s)
/-- a pool by its gaps: so many unusable entries, then the entry; so many at the end -/
def gap : Nat → List CpInfo → List CpInfo
  | 0, r => r
  | n + 1, r => .unusable :: gap n r
def poolList (es : List (Nat × CpInfo)) (last : Nat) : List CpInfo := es.foldr (fun e r => gap e.1 (e.2 :: r)) (gap last [])
def pool (es : List (Nat × CpInfo)) (last : Nat) : Array CpInfo := ⟨poolList es last⟩
def fileOf (pool : Array CpInfo) (this : Nat) (attrs : Array Attribute := #[]) (ms : Array MethodInfo := #[]) (fl : Nat := 33) (sup : Nat := 0) (ifs : Array Nat := #[]) (fds : Array FieldInfo := #[]) : ClassFile where
  minorVersion := 0
  majorVersion := 65
  constantPool := pool
  accessFlags := fl
  thisClass := this
  superClass := sup
  interfaces := ifs
  fields := fds
  methods := ms
  attributes := attrs
def plain (name : String) (sup : Option ClassId) : Class where
  name := name
  kind := .ordinary
  loader := none
  accessFlags := 33
  super := sup
  interfaces := #[]
  cf := none
  fields := #[]
  methods := #[]
  instanceTypes := #[]
  staticTypes := #[]
  resolved := #[]
  callSites := []
  init := .initialized
  statics := none
  mirror := none

def pool0 : Array CpInfo := pool [(5, u "<init>"), (0, u "()V"), (1, .class_ 10), (1, u "java/lang/Object")] 113

def k0m0 : Method := { name := "<init>", desc := "()V", sig := { parameters := [], returnType := none }, accessFlags := 1, code := none }
/-- java/lang/Object -/
def k0 : Class := { plain "java/lang/Object" none with
  accessFlags := 33
  interfaces := #[]
  cf := some (fileOf pool0 8 #[] #[{ accessFlags := 1, nameIndex := 5, descriptorIndex := 6, attributes := #[] }] 33 0 #[] #[])
  fields := #[]
  methods := #[k0m0]
  instanceTypes := #[]
  staticTypes := #[]
  resolved := Array.replicate 124 none
  statics := none }

def pool1 : Array CpInfo := pool [(2, .class_ 4), (1, u "java/lang/Object"), (0, u "<init>"), (0, u "()V"), (0, .methodref 8 9), (0, .class_ 10), (0, .nameAndType 11 12), (0, u "com/example/firm_ledger/firmledger/ledger/RecordFile$Next"), (0, u "reading"), (0, u "(Z)Lcom/example/firm_ledger/firmledger/ledger/RecordFile$Next;"), (0, .fieldref 8 14), (0, .nameAndType 15 16), (0, u "STOP"), (0, u "Lcom/example/firm_ledger/firmledger/ledger/RecordFile$Next;"), (0, .fieldref 8 18), (0, .nameAndType 19 16), (0, u "CHECKED"), (0, .fieldref 8 21), (0, .nameAndType 22 16), (0, u "UNCHECKED"), (0, .class_ 24), (0, u "com/example/firm_ledger/firmledger/ledger/RecordFileReadingPinLaw"), (2, u "law"), (0, u "(I)Z")] 7

def k1m0 : Method := { name := "<init>", desc := "()V", sig := { parameters := [], returnType := none }, accessFlags := 2, code := none }
def k1c1 : Code := { maxStack := 2, maxLocals := 6, code := code, exceptionTable := #[], attributes := #[] }
def k1m1 : Method := { name := "law", desc := "(I)Z", sig := { parameters := [.int], returnType := some .boolean }, accessFlags := 9, code := some k1c1 }
/-- com/example/firm_ledger/firmledger/ledger/RecordFileReadingPinLaw -/
def k1 : Class := { plain "com/example/firm_ledger/firmledger/ledger/RecordFileReadingPinLaw" (some 0) with
  accessFlags := 49
  interfaces := #[]
  cf := some (fileOf pool1 23 #[] #[{ accessFlags := 2, nameIndex := 5, descriptorIndex := 6, attributes := #[] }, { accessFlags := 9, nameIndex := 27, descriptorIndex := 28, attributes := #[] }] 49 2 #[] #[])
  fields := #[]
  methods := #[k1m0, k1m1]
  instanceTypes := #[]
  staticTypes := #[]
  resolved := Array.replicate 36 none
  statics := none }

def pool2 : Array CpInfo := pool [(1, .class_ 2), (0, u "java/lang/constant/Constable"), (0, .class_ 4), (0, u "java/lang/Object")] 6

/-- java/lang/constant/Constable -/
def k2 : Class := { plain "java/lang/constant/Constable" (some 0) with
  accessFlags := 1537
  interfaces := #[]
  cf := some (fileOf pool2 1 #[] #[] 1537 3 #[] #[])
  fields := #[]
  methods := #[]
  instanceTypes := #[]
  staticTypes := #[]
  resolved := Array.replicate 11 none
  statics := none }

def pool3 : Array CpInfo := pool [(1, .class_ 2), (0, u "java/lang/Comparable"), (0, .class_ 4), (0, u "java/lang/Object")] 7

/-- java/lang/Comparable -/
def k3 : Class := { plain "java/lang/Comparable" (some 0) with
  accessFlags := 1537
  interfaces := #[]
  cf := some (fileOf pool3 1 #[] #[] 1537 3 #[] #[])
  fields := #[]
  methods := #[]
  instanceTypes := #[]
  staticTypes := #[]
  resolved := Array.replicate 12 none
  statics := none }

def pool4 : Array CpInfo := pool [(1, .class_ 2), (0, u "java/io/Serializable"), (0, .class_ 4), (0, u "java/lang/Object")] 2

/-- java/io/Serializable -/
def k4 : Class := { plain "java/io/Serializable" (some 0) with
  accessFlags := 1537
  interfaces := #[]
  cf := some (fileOf pool4 1 #[] #[] 1537 3 #[] #[])
  fields := #[]
  methods := #[]
  instanceTypes := #[]
  staticTypes := #[]
  resolved := Array.replicate 7 none
  statics := none }

def pool5 : Array CpInfo := pool [(2, .class_ 4), (1, u "java/lang/Enum"), (0, u "name"), (0, u "Ljava/lang/String;"), (2, u "ordinal"), (0, u "I"), (1, .class_ 14), (1, u "java/lang/Object"), (4, u "hash"), (86, .class_ 108), (1, u "java/lang/Enum$EnumDesc"), (2, .class_ 112), (0, u "java/lang/constant/Constable"), (0, .class_ 114), (0, u "java/lang/Comparable"), (0, .class_ 116), (0, u "java/io/Serializable")] 87

/-- java/lang/Enum -/
def k5 : Class := { plain "java/lang/Enum" (some 0) with
  accessFlags := 1057
  interfaces := #[2, 3, 4]
  cf := some (fileOf pool5 2 #[.nestMembers #[106]] #[] 1057 12 #[111, 113, 115] #[{ accessFlags := 18, nameIndex := 5, descriptorIndex := 6, attributes := #[] }, { accessFlags := 18, nameIndex := 9, descriptorIndex := 10, attributes := #[] }, { accessFlags := 2, nameIndex := 19, descriptorIndex := 10, attributes := #[] }])
  fields := #[{ name := "name", type := (.object "java/lang/String"), accessFlags := 18, slot := 0, constantValue := 0 }, { name := "ordinal", type := .int, accessFlags := 18, slot := 1, constantValue := 0 }, { name := "hash", type := .int, accessFlags := 2, slot := 2, constantValue := 0 }]
  methods := #[]
  instanceTypes := #[(.object "java/lang/String"), .int, .int]
  staticTypes := #[]
  resolved := Array.replicate 204 none
  statics := none }

def pool6 : Array CpInfo := pool [(1, .class_ 2), (0, u "com/example/firm_ledger/firmledger/ledger/RecordFile$Next"), (2, u "STOP"), (0, u "Lcom/example/firm_ledger/firmledger/ledger/RecordFile$Next;"), (0, .fieldref 1 8), (0, .nameAndType 9 6), (0, u "UNCHECKED"), (0, .fieldref 1 11), (0, .nameAndType 12 6), (0, u "CHECKED"), (2, u "$VALUES"), (0, u "[Lcom/example/firm_ledger/firmledger/ledger/RecordFile$Next;"), (6, .class_ 25), (1, u "java/lang/Enum"), (21, u "reading"), (0, u "(Z)Lcom/example/firm_ledger/firmledger/ledger/RecordFile$Next;"), (6, .class_ 56), (0, u "com/example/firm_ledger/firmledger/ledger/RecordFile")] 2

def k6c0 : Code := { maxStack := 1, maxLocals := 1, code := prog_41_method_4_code, exceptionTable := #[], attributes := #[] }
def k6m0 : Method := { name := "reading", desc := "(Z)Lcom/example/firm_ledger/firmledger/ledger/RecordFile$Next;", sig := { parameters := [.boolean], returnType := some (.object "com/example/firm_ledger/firmledger/ledger/RecordFile$Next") }, accessFlags := 8, code := some k6c0 }
/-- com/example/firm_ledger/firmledger/ledger/RecordFile$Next -/
def k6 : Class := { plain "com/example/firm_ledger/firmledger/ledger/RecordFile$Next" (some 5) with
  accessFlags := 16432
  interfaces := #[]
  cf := some (fileOf pool6 1 #[.nestHost 55] #[{ accessFlags := 8, nameIndex := 47, descriptorIndex := 48, attributes := #[] }] 16432 23 #[] #[{ accessFlags := 16409, nameIndex := 5, descriptorIndex := 6, attributes := #[] }, { accessFlags := 16409, nameIndex := 9, descriptorIndex := 6, attributes := #[] }, { accessFlags := 16409, nameIndex := 12, descriptorIndex := 6, attributes := #[] }, { accessFlags := 4122, nameIndex := 15, descriptorIndex := 16, attributes := #[] }])
  fields := #[{ name := "STOP", type := (.object "com/example/firm_ledger/firmledger/ledger/RecordFile$Next"), accessFlags := 16409, slot := 0, constantValue := 0 }, { name := "UNCHECKED", type := (.object "com/example/firm_ledger/firmledger/ledger/RecordFile$Next"), accessFlags := 16409, slot := 1, constantValue := 0 }, { name := "CHECKED", type := (.object "com/example/firm_ledger/firmledger/ledger/RecordFile$Next"), accessFlags := 16409, slot := 2, constantValue := 0 }, { name := "$VALUES", type := (.array (.object "com/example/firm_ledger/firmledger/ledger/RecordFile$Next")), accessFlags := 4122, slot := 3, constantValue := 0 }]
  methods := #[k6m0]
  instanceTypes := #[(.object "java/lang/String"), .int, .int]
  staticTypes := #[(.object "com/example/firm_ledger/firmledger/ledger/RecordFile$Next"), (.object "com/example/firm_ledger/firmledger/ledger/RecordFile$Next"), (.object "com/example/firm_ledger/firmledger/ledger/RecordFile$Next"), (.array (.object "com/example/firm_ledger/firmledger/ledger/RecordFile$Next"))]
  resolved := Array.replicate 59 none
  statics := some 0 }

def pool7 : Array CpInfo := pool [(1, u "java/lang/Cloneable"), (0, .class_ 1), (0, u "java/lang/Object"), (0, .class_ 3)] 3

/-- java/lang/Cloneable -/
def k7 : Class := { plain "java/lang/Cloneable" (some 0) with
  accessFlags := 1537
  interfaces := #[]
  cf := some (fileOf pool7 2 #[] #[] 1537 4 #[] #[])
  fields := #[]
  methods := #[]
  instanceTypes := #[]
  staticTypes := #[]
  resolved := Array.replicate 8 none
  statics := none }

/-- the primitive byte -/
def k8 : Class := { plain "byte" none with kind := .primitive 'B', accessFlags := 0x411 }
/-- [B -/
def k9 : Class := { plain "[B" (some 0) with kind := .array 8 .byte, interfaces := #[7, 4], accessFlags := 1041 }

/-- the primitive int -/
def k10 : Class := { plain "int" none with kind := .primitive 'I', accessFlags := 0x411 }
/-- [I -/
def k11 : Class := { plain "[I" (some 0) with kind := .array 10 .int, interfaces := #[7, 4], accessFlags := 1041 }

def heap : Heap := #[{ cls := 6, slots := #[.ref 1, .ref 2, .ref 3, .null], vm := .statics 6 },
  { cls := 6, slots := #[.null, .int 0, .int 0], vm := .none },
  { cls := 6, slots := #[.null, .int 1, .int 0], vm := .none },
  { cls := 6, slots := #[.null, .int 2, .int 0], vm := .none }]
def classes : Array Class := #[k0, k1, k2, k3, k4, k5, k6, k7, k8, k9, k10, k11]
def interned : List (Array UInt16 × Addr) := []
def slotsUsed : Nat := 13
def theMethod : MethodId := ⟨1, 1⟩
def args0 : Array Value := #[.int 5]
def aboutOver (below : List Frame) : State where
  vm := { classes := classes, interned := interned.toArray }
  heap := heap
  slotsUsed := slotsUsed
  threads := #[{ frames := .invoking theMethod args0 :: below }]
def below0 : List Frame := [.native { method := ⟨0, 0⟩, args := #[] }]
def about1 : State := aboutOver below0
def p0 : Program := .bare "" "" ""
def e0 : Env := launch0.env 0 0 0
theorem w_frames : about1.frames = Frame.invoking theMethod args0 :: below0 := rfl
set_option maxRecDepth 65536 in
theorem w_args : argsFit about1.vm theMethod args0 = true := by decide +kernel
set_option maxRecDepth 65536 in
theorem w_heap : heapFits about1 = true := by decide +kernel
set_option maxRecDepth 65536 in
theorem w_runnable : about1.curStatus? = some .runnable := by decide +kernel
set_option maxRecDepth 65536 in
theorem w_alone : about1.alone = true := by decide +kernel
set_option maxRecDepth 65536 in
theorem w_named : about1.methodNamed? x = some theMethod := by decide +kernel
set_option maxRecDepth 65536 in
theorem w_hears : about1.hears theMethod below0 = true := by decide +kernel
set_option maxRecDepth 65536 in
theorem w_ripe : about1.ripe theMethod args0 below0 = true := by decide +kernel
theorem w_running : about1.status = .running := rfl
set_option maxRecDepth 65536 in
theorem w_room : about1.hasRoom e0.platform room_1 = true :=
  launch0.hasRoom_least _ room_1 (by decide +kernel) (by decide +kernel) (by decide +kernel) (by decide +kernel) (by decide +kernel) (by decide +kernel)
theorem allAtoms_all (ts : List Jvm.Cond) (a : Array Jvm.Value) (st : Jvm.State) : (allAtoms ts).before a st = ts.all (fun c => c.before a st) := by
  induction ts with
  | nil => rfl
  | cons c t ih =>
    show (Jvm.Cond.and c (allAtoms t)).before a st = _
    rw [Jvm.Cond.before_and, ih, List.all_cons]
def words1 : List Jvm.Cond := Jvm.Cond.code x code maxLocals ret :: tables_1
/-- a 'code' word, met by the world's own term for the bytes: nothing is compared byte by byte -/
theorem code_word {y : MethodName} {bytes : ByteArray} {mx : Nat} {rt : Option FieldType} {a : Array Value} {s : State} {m : MethodId} {meth : Method} {c : Code} (h1 : s.methodNamed? y = some m) (h2 : s.vm.method? m = some meth) (h3 : meth.code = some c) (h4 : c.code = bytes)
    (h5 : (c.maxLocals == mx && c.exceptionTable.isEmpty && decide (c.maxStack ≤ mostOperands) && decide (meth.sig.returnType = rt) && !meth.locks && decide (parseMethodDescriptor y.desc = some meth.sig)) = true) : (Jvm.Cond.code y bytes mx rt).before a s = true := by
  simp only [Bool.and_eq_true, beq_iff_eq, Bool.not_eq_true', decide_eq_true_eq] at h5
  obtain ⟨⟨⟨⟨⟨g1, g2⟩, g3⟩, g4⟩, g5⟩, g6⟩ := h5
  simp [Cond.before, Cond.holds, Cond.value, h1, h2, h3, h4, g1, g2, g3, g4, g5, g6]
def isCode : Jvm.Cond → Bool
  | .code _ _ _ _ => true
  | _ => false
theorem all_split {L : List Jvm.Cond} {P : Jvm.Cond → Bool} (h1 : L.all (fun c => isCode c || P c) = true) (h2 : ∀ c ∈ L.filter isCode, P c = true) : L.all P = true := by
  refine List.all_eq_true.mpr fun c hc => ?_
  have h := List.all_eq_true.mp h1 c hc
  rcases Bool.eq_false_or_eq_true (isCode c) with hi | hi
  · exact h2 c (List.mem_filter.mpr ⟨hc, hi⟩)
  · simpa [hi] using h
set_option maxRecDepth 65536 in
theorem w_c0 : (Jvm.Cond.code x code maxLocals ret).before args0 about1 = true := code_word (m := ⟨1, 1⟩) (meth := k1m1) (c := k1c1) (by decide +kernel) rfl rfl rfl (by decide +kernel)
set_option maxRecDepth 65536 in
theorem w_c1 : (Jvm.Cond.code ({ cls := "com/example/firm_ledger/firmledger/ledger/RecordFile$Next", name := "reading", desc := "(Z)Lcom/example/firm_ledger/firmledger/ledger/RecordFile$Next;" } : Jvm.MethodName) prog_41_method_4_code (1 : Nat) (Option.some (Jvm.ClassFile.FieldType.object "com/example/firm_ledger/firmledger/ledger/RecordFile$Next"))).before args0 about1 = true := code_word (m := ⟨6, 0⟩) (meth := k6m0) (c := k6c0) (by decide +kernel) rfl rfl rfl (by decide +kernel)
def codes1 : List Jvm.Cond := [Jvm.Cond.code x code maxLocals ret, Jvm.Cond.code ({ cls := "com/example/firm_ledger/firmledger/ledger/RecordFile$Next", name := "reading", desc := "(Z)Lcom/example/firm_ledger/firmledger/ledger/RecordFile$Next;" } : Jvm.MethodName) prog_41_method_4_code (1 : Nat) (Option.some (Jvm.ClassFile.FieldType.object "com/example/firm_ledger/firmledger/ledger/RecordFile$Next"))]
set_option maxRecDepth 65536 in
theorem codes_eq : words1.filter isCode = codes1 := rfl
theorem w_codes : ∀ c ∈ words1.filter isCode, c.before args0 about1 = true := by
  rw [codes_eq]
  intro c hc
  simp only [codes1, List.mem_cons, List.not_mem_nil, or_false] at hc
  rcases hc with rfl | rfl
  · exact w_c0
  · exact w_c1
set_option maxRecDepth 65536 in
theorem w_t1 : words1.all (fun c => isCode c || c.before args0 about1) = true := by decide +kernel
theorem w_tables : (allAtoms (Jvm.Cond.code x code maxLocals ret :: tables_1)).before args0 about1 = true := by
  rw [allAtoms_all]
  show words1.all (fun c => c.before args0 about1) = true
  refine all_split ?_ w_codes
  rw [w_t1]
set_option maxRecDepth 65536 in
theorem w_case : (Jvm.Cond.and given_1 narrow_1).before args0 about1 = true := by decide +kernel
theorem w_applies : (headSpec (Jvm.Cond.code x code maxLocals ret :: tables_1) room_1).applies x e0.platform about1 = true :=
  (Spec.applies_iff w_frames).mpr ⟨w_running, w_runnable, w_alone, w_named, w_hears, w_ripe, w_room, w_tables⟩
theorem atStart : AtStart classFile x code maxLocals ret World_1 tables_1 room_1 Calls_1 rest_1 Pre_1 launch0 p0 e0 about1 theMethod args0 below0 :=
  ⟨lists_1, trivial, launch0.admits_env _ _ _, launch0.least_env, fairChoices_fair.cas, fairChoices_fair.clock, w_frames, w_args, w_heap, w_applies, trivial, trivial, w_case⟩
end start1
theorem witness_1 : WitnessClaimed_1 := ⟨start1.p0, start1.e0, start1.about1, start1.theMethod, start1.args0, start1.below0, start1.atStart⟩
end Jvm.Pilot.@@N@@
