import JvmDerived
import JvmDerived.Pilot.@@N@@Statement
import JvmDerived.Pilot.@@N@@Code
set_option linter.unusedVariables false
set_option linter.unusedSimpArgs false
namespace Jvm.RoadKit
open Sem ClassFile Op Lib Jvm.Stand Jvm.Free Jvm.LawKit
section New
variable {p : Program} {l : Launch} {e : Env} {R : Room} {s : State} {m : MethodId} {args : Array Value} {below : List Frame} {meth : Method} {c : Code} {T : State} {locs : List Loc} {cells slots : Nat}
theorem retI (X : Stand p l e R s m args below meth c T locs cells slots) (hx : p.tables.exec = Jvm.exec) {pc : Nat} {Ls : Array Slot} {z : Int32} {rest : List Value} (hret : meth.sig.returnType = some .int) (hd : decode c.code pc = .ok (.ireturn, 1)) {fs : List Frame}
    (hl : ∀ (f : JFrame) (acts : List Action), f.method = m → f.locked = none → f.entered = [] → (doReturn e (T.setTop f) acts (some (.int z))).1 = T.setFrames fs) : Steps p.tables e below (T.setTop (mkF m pc Ls (.int z :: rest))) (T.setFrames fs) := by
  have hm' : T.vm.method? m = some meth := X.method'
  have hn : narrow .int (.int z) = .int z := rfl
  show Steps p.tables e below (T.setTop { method := m, pc := pc, locals := Ls, stack := _ :: rest, locked := none }) _
  jvm_step X.here [X.here.top, hx, hd, hm', hret, hn]
  first | (intro acts; rw [hl _ acts rfl rfl rfl]) | rw [hl _ _ rfl rfl rfl]
  exact Steps.refl _
end New
end Jvm.RoadKit
namespace Jvm.Pilot.@@N@@
open Jvm Jvm.ClassFile Sem Op Lib Jvm.Free Jvm.Stand Jvm.LawKit Jvm.RoadKit Bundle Jvm.Pilot.@@N@@.Jvm.D
abbrev own_Go (p : Program) (e : Env) (below : List Frame) (A B : State) : Prop := ∀ t, Steps p.tables e below B t → Steps p.tables e below A t
theorem own_from {p : Program} {e : Env} {below : List Frame} {A B t : State} (h : A = B) (k : Steps p.tables e below A t) : Steps p.tables e below B t := h ▸ k
theorem own_ite1 {P : Prop} [Decidable P] (h : P) : ¬ ((if P then (1 : Int32) else (0 : Int32)) = (0 : Int32)) := by rw [if_pos h]; decide
theorem own_ite0 {P : Prop} [Decidable P] (h : ¬ P) : (if P then (1 : Int32) else (0 : Int32)) = (0 : Int32) := if_neg h
def own_Pl (h : Heap) (a : Addr) : Prop := ∃ c : Cell, h[a]? = some c ∧ c.vm.isStatics = false
theorem own_plE {Z : State} {h : Heap} {a : Addr} {C : String} (F : Exa Z h a C) : own_Pl h a := by obtain ⟨cell, k, h1, _, _, h4, _⟩ := F; exact ⟨cell, h1, h4⟩
theorem own_plF {Z : State} {h : Heap} {a : Addr} {C n d : String} {v : Value} (F : Fld Z h a C n d v) : own_Pl h a := by obtain ⟨cell, cf, k, i, f, h1, _, _, _, h5, _⟩ := F; exact ⟨cell, h1, h5⟩
theorem own_plA {Z : State} {h : Heap} {a : Addr} {k : ClassId} {ty : FieldType} {n : Int32} {vs : List Value} {d : Value} (F : Arv Z h a k ty n vs d) : own_Pl h a := by obtain ⟨c, A, _⟩ := F; exact ⟨c, A.1, A.plain⟩
theorem own_staK {Z : State} {h h' : Heap} {C n d : String} {v : Value} {ws : List Addr} (F : Sta Z h C n d v) (K : Keep h h' ws) (q : ∀ x ∈ ws, own_Pl h x) : Sta Z h' C n d v := by
  obtain ⟨cf, i, k, f, st, cell, h1, h2, h3, h4, h5, h6, h7⟩ := F
  refine ⟨cf, i, k, f, st, cell, h1, h2, h3, h4, K.2.1 st cell h5 fun z => ?_, h6, h7⟩
  obtain ⟨c, q1, q2⟩ := q st z
  cases h5.symm.trans q1
  rw [h6] at q2; cases q2
theorem own_insK {Z : State} {h h' : Heap} {a : Addr} {C : String} {bo : Bool} {ws : List Addr} (F : Ins Z h a C bo) (K : Keep h h' ws) : Ins Z h' a C bo := by
  obtain ⟨cell, cT, h1, h2, h3⟩ := F
  obtain ⟨c', q1, q2, q3, q4⟩ := K.2.2 a cell h1
  exact ⟨c', cT, q1, h2, by rw [q2, q3]; exact h3⟩
theorem own_atI {c : Cell} {vs : List Value} {d : Value} {ty : FieldType} {j : Int32} (H : Has c vs d) (G : ∀ i, i < c.slots.size → fits ty (vs.getD i d) = true) (q : ¬ (j < 0 ∨ c.slots.size ≤ j.toNatClampNeg)) (ht : ty = .int ∨ ty = .boolean ∨ ty = .byte ∨ ty = .char ∨ ty = .short) : ∃ z, c.slots[j.toNatClampNeg]? = some (.int z) := by
  have hlt := Nat.lt_of_not_le fun y => q (Or.inr y)
  obtain ⟨z, hz⟩ := fit_I (G _ hlt) ht
  exact ⟨z, by rw [H _ hlt, hz]⟩
theorem own_cat {v : Value} (h : v.isRef = true) : v.category = 1 := by cases v <;> simp [Value.isRef, Value.category] at h ⊢
theorem pn_1 : plainName "dev/quotefuse/engine/Side" = true := by first | (simp [plainName, overriddenIn]; done) | decide +kernel
theorem d1_0 : decode prog_35_method_4_code 0 = .ok (.aload_n 0, 1) := by decide +kernel
theorem d1_1 : decode prog_35_method_4_code 1 = .ok (.getstatic 3, 3) := by decide +kernel
theorem d1_4 : decode prog_35_method_4_code 4 = .ok (.if_acmp .ne 9, 3) := by decide +kernel
theorem d1_7 : decode prog_35_method_4_code 7 = .ok (.getstatic 7, 3) := by decide +kernel
theorem d1_10 : decode prog_35_method_4_code 10 = .ok (.goto 6, 3) := by decide +kernel
theorem d1_16 : decode prog_35_method_4_code 16 = .ok (.areturn, 1) := by decide +kernel
theorem ef_1b (m : MethodId) (z1b_BUY : Addr) : entryFrame m #[(.ref z1b_BUY)] 1 = mkF m 0 #[.val (.ref z1b_BUY)] [] := by first | (simp [entryFrame, mkF, argsToLocals, Value.category]; done) | rfl
def Q1b (Z : State) (z1b_BUY : Addr) (z1b_SELL : Addr) (h0 : Heap) (n0 : Nat) (v : Option Value) (h : Heap) (L : List Loc) : Prop := v = some (.ref z1b_SELL) ∧ Fr n0 L ∧ h = h0
set_option maxRecDepth 65536 in
set_option maxHeartbeats 40000000 in
theorem rm1b (l : Launch) (Z : State) (a0 : Array Value) (hw : ∀ d ∈ tables_1, d.before a0 Z = true) (ws : List Jvm.Cond) (z1b_BUY : Addr) (z1b_SELL : Addr) (h0 : Heap) (n0 : Nat) (Z0 : n0 ≤ h0.size) (S_BUY : Sta Z h0 "dev/quotefuse/engine/Side" "BUY" "Ldev/quotefuse/engine/Side;" (.ref z1b_BUY)) (S_SELL : Sta Z h0 "dev/quotefuse/engine/Side" "SELL" "Ldev/quotefuse/engine/Side;" (.ref z1b_SELL)) :
    MetFree l (⟨"dev/quotefuse/engine/Side", "opposite", "()Ldev/quotefuse/engine/Side;"⟩ : MethodName) (head1 (Jvm.Cond.code (⟨"dev/quotefuse/engine/Side", "opposite", "()Ldev/quotefuse/engine/Side;"⟩ : MethodName) prog_35_method_4_code 1 (some (.object "dev/quotefuse/engine/Side")) :: ws) ({ frames := 0, cells := 0, slots := 0, locals := 0 } : Room)) (fun a U => a = #[(.ref z1b_BUY)] ∧ Z.Warmed39 U.vm ∧ U.heap = h0) (fun _ _ _ _ _ => True) (fun _ U o U' => ∃ v L, o = .returned v ∧ Q1b Z z1b_BUY z1b_SELL h0 n0 v U'.heap L ∧ FrameEnd U o U' L ({ frames := 0, cells := 0, slots := 0, locals := 0 } : Room).cells ({ frames := 0, cells := 0, slots := 0, locals := 0 } : Room).slots) := by
  refine MetFree.of_bodySF (plainFor_of_name pn_1) hisR ?_
  intro p e s m args below meth c s₁ Bd hml0 hP hK
  obtain ⟨rfl, hZ, hh⟩ := hP
  have hx := Bd.exec
  have hby := Bd.bytes
  have hml : c.maxLocals = 1 := hml0
  have hown : s.vm.findClass "dev/quotefuse/engine/Side" = some m.cls := findClass_of_methodNamed Bd.named
  have hnm := (name_of_methodNamed Bd.named Bd.method).1
  have X0 : Stand p l e ({ frames := 0, cells := 0, slots := 0, locals := 0 } : Room) s m #[(.ref z1b_BUY)] below meth c s₁ [] 0 0 := Stand.of_body Bd
  have e0 : s₁.heap = h0 := by rw [← hh, Bd.state]; rfl
  have N0 := Fr.nil n0
  obtain ⟨S0, hS0⟩ : ∃ z, z = s₁.setTop (entryFrame m #[(.ref z1b_BUY)] 1) := ⟨_, rfl⟩
  have P0 : own_Go p e below S0 (s₁.setTop (mkF m 0 #[.val (.ref z1b_BUY)] [])) := fun t k => by rw [hS0]; exact castTop (ef_1b m z1b_BUY) k
  have P1 : own_Go p e below S0 (s₁.setTop (mkF m 1 #[.val (.ref z1b_BUY)] [(.ref z1b_BUY)])) := fun t k => P0 t (by
    show Steps p.tables e below (s₁.setTop (mkF m 0 #[.val (.ref z1b_BUY)] [])) t
    refine XS.aloadN X0.here hx rfl (hb hby d1_0) rfl rfl ?_
    show Steps p.tables e below (s₁.setTop (mkF m 1 #[.val (.ref z1b_BUY)] [(.ref z1b_BUY)])) t
    exact k)
  obtain ⟨T2, X2, e2, st2⟩ := getS2 X0 hx hZ hown (host := "") (Or.inl (hw _ (List.mem_of_getElem? (i := 8) rfl))) Via.refl e0 S_BUY (g := (mkF m 1 #[.val (.ref z1b_BUY)] [(.ref z1b_BUY)])) rfl (hb hby d1_1)
  have P2 : own_Go p e below S0 (T2.setTop (mkF m 4 #[.val (.ref z1b_BUY)] [(.ref z1b_BUY), (.ref z1b_BUY)])) := fun t k => P1 t (st2 _ k)
  have P3 : own_Go p e below S0 (T2.setTop (mkF m 7 #[.val (.ref z1b_BUY)] [])) := fun t k => P2 t (by
    show Steps p.tables e below (T2.setTop (mkF m 4 #[.val (.ref z1b_BUY)] [(.ref z1b_BUY), (.ref z1b_BUY)])) t
    refine Jvm.RoadKit.acmp (g := (mkF m 4 #[.val (.ref z1b_BUY)] [(.ref z1b_BUY), (.ref z1b_BUY)])) X2 hx rfl rfl rfl (pc0 := 4) (pc' := 7) (same := true) rfl (hb hby d1_4) rfl (decide_eq_true rfl) (by decide) (by decide) ?_
    show Steps p.tables e below (T2.setTop (mkF m 7 #[.val (.ref z1b_BUY)] [])) t
    exact k)
  obtain ⟨T4, X4, e4, st4⟩ := getS2 X2 hx hZ hown (host := "") (Or.inl (hw _ (List.mem_of_getElem? (i := 9) rfl))) Via.refl e2 S_SELL (g := (mkF m 7 #[.val (.ref z1b_BUY)] [])) rfl (hb hby d1_7)
  have P4 : own_Go p e below S0 (T4.setTop (mkF m 10 #[.val (.ref z1b_BUY)] [(.ref z1b_SELL)])) := fun t k => P3 t (st4 _ k)
  have P5 : own_Go p e below S0 (T4.setTop (mkF m 16 #[.val (.ref z1b_BUY)] [(.ref z1b_SELL)])) := fun t k => P4 t (by
    show Steps p.tables e below (T4.setTop (mkF m 10 #[.val (.ref z1b_BUY)] [(.ref z1b_SELL)])) t
    refine XS.goto X4.here hx rfl (pc0 := 10) (pc' := 16) rfl (hb hby d1_10) (by decide) (by decide) ?_
    show Steps p.tables e below (T4.setTop (mkF m 16 #[.val (.ref z1b_BUY)] [(.ref z1b_SELL)])) t
    exact k)
  obtain ⟨fs, hr, hrun, hended, hW, hsame⟩ := X4.leave (v := some (.ref z1b_SELL)) (fun h => by rw [Bd.returns] at h; cases h)
  refine ⟨_, _, own_from hS0 (P5 _ ?_), hrun, hended, _, _, rfl, ?_, ⟨_, rfl⟩, hW, hsame.mono (by decide) (by decide)⟩
  · show Steps p.tables e below (T4.setTop (mkF m 16 #[.val (.ref z1b_BUY)] [(.ref z1b_SELL)])) _
    jvm_step X4.here [X4.here.top, hx, (hb hby d1_16), X4.method', Bd.returns, Value.isRef, FieldType.isReference]
    first | (intro acts; rw [hr _ acts rfl rfl rfl]) | rw [hr _ _ rfl rfl rfl]
    exact Steps.refl _
  · show Q1b Z z1b_BUY z1b_SELL h0 n0 _ T4.heap _
    rw [e4]
    exact ⟨rfl, N0, rfl⟩
theorem d1_13 : decode prog_35_method_4_code 13 = .ok (.getstatic 3, 3) := by decide +kernel
theorem ef_1s (m : MethodId) (z1s_SELL : Addr) : entryFrame m #[(.ref z1s_SELL)] 1 = mkF m 0 #[.val (.ref z1s_SELL)] [] := by first | (simp [entryFrame, mkF, argsToLocals, Value.category]; done) | rfl
def Q1s (Z : State) (z1s_SELL : Addr) (z1s_BUY : Addr) (h0 : Heap) (n0 : Nat) (v : Option Value) (h : Heap) (L : List Loc) : Prop := v = some (.ref z1s_BUY) ∧ Fr n0 L ∧ h = h0
set_option maxRecDepth 65536 in
set_option maxHeartbeats 40000000 in
theorem rm1s (l : Launch) (Z : State) (a0 : Array Value) (hw : ∀ d ∈ tables_1, d.before a0 Z = true) (ws : List Jvm.Cond) (z1s_SELL : Addr) (z1s_BUY : Addr) (h0 : Heap) (n0 : Nat) (Z0 : n0 ≤ h0.size) (S_BUY : Sta Z h0 "dev/quotefuse/engine/Side" "BUY" "Ldev/quotefuse/engine/Side;" (.ref z1s_BUY)) (hne_z1s_SELL_z1s_BUY : z1s_SELL ≠ z1s_BUY) :
    MetFree l (⟨"dev/quotefuse/engine/Side", "opposite", "()Ldev/quotefuse/engine/Side;"⟩ : MethodName) (head1 (Jvm.Cond.code (⟨"dev/quotefuse/engine/Side", "opposite", "()Ldev/quotefuse/engine/Side;"⟩ : MethodName) prog_35_method_4_code 1 (some (.object "dev/quotefuse/engine/Side")) :: ws) ({ frames := 0, cells := 0, slots := 0, locals := 0 } : Room)) (fun a U => a = #[(.ref z1s_SELL)] ∧ Z.Warmed39 U.vm ∧ U.heap = h0) (fun _ _ _ _ _ => True) (fun _ U o U' => ∃ v L, o = .returned v ∧ Q1s Z z1s_SELL z1s_BUY h0 n0 v U'.heap L ∧ FrameEnd U o U' L ({ frames := 0, cells := 0, slots := 0, locals := 0 } : Room).cells ({ frames := 0, cells := 0, slots := 0, locals := 0 } : Room).slots) := by
  refine MetFree.of_bodySF (plainFor_of_name pn_1) hisR ?_
  intro p e s m args below meth c s₁ Bd hml0 hP hK
  obtain ⟨rfl, hZ, hh⟩ := hP
  have hx := Bd.exec
  have hby := Bd.bytes
  have hml : c.maxLocals = 1 := hml0
  have hown : s.vm.findClass "dev/quotefuse/engine/Side" = some m.cls := findClass_of_methodNamed Bd.named
  have hnm := (name_of_methodNamed Bd.named Bd.method).1
  have X0 : Stand p l e ({ frames := 0, cells := 0, slots := 0, locals := 0 } : Room) s m #[(.ref z1s_SELL)] below meth c s₁ [] 0 0 := Stand.of_body Bd
  have e0 : s₁.heap = h0 := by rw [← hh, Bd.state]; rfl
  have N0 := Fr.nil n0
  obtain ⟨S0, hS0⟩ : ∃ z, z = s₁.setTop (entryFrame m #[(.ref z1s_SELL)] 1) := ⟨_, rfl⟩
  have P0 : own_Go p e below S0 (s₁.setTop (mkF m 0 #[.val (.ref z1s_SELL)] [])) := fun t k => by rw [hS0]; exact castTop (ef_1s m z1s_SELL) k
  have P1 : own_Go p e below S0 (s₁.setTop (mkF m 1 #[.val (.ref z1s_SELL)] [(.ref z1s_SELL)])) := fun t k => P0 t (by
    show Steps p.tables e below (s₁.setTop (mkF m 0 #[.val (.ref z1s_SELL)] [])) t
    refine XS.aloadN X0.here hx rfl (hb hby d1_0) rfl rfl ?_
    show Steps p.tables e below (s₁.setTop (mkF m 1 #[.val (.ref z1s_SELL)] [(.ref z1s_SELL)])) t
    exact k)
  obtain ⟨T2, X2, e2, st2⟩ := getS2 X0 hx hZ hown (host := "") (Or.inl (hw _ (List.mem_of_getElem? (i := 8) rfl))) Via.refl e0 S_BUY (g := (mkF m 1 #[.val (.ref z1s_SELL)] [(.ref z1s_SELL)])) rfl (hb hby d1_1)
  have P2 : own_Go p e below S0 (T2.setTop (mkF m 4 #[.val (.ref z1s_SELL)] [(.ref z1s_BUY), (.ref z1s_SELL)])) := fun t k => P1 t (st2 _ k)
  have P3 : own_Go p e below S0 (T2.setTop (mkF m 13 #[.val (.ref z1s_SELL)] [])) := fun t k => P2 t (by
    show Steps p.tables e below (T2.setTop (mkF m 4 #[.val (.ref z1s_SELL)] [(.ref z1s_BUY), (.ref z1s_SELL)])) t
    refine Jvm.RoadKit.acmp (g := (mkF m 4 #[.val (.ref z1s_SELL)] [(.ref z1s_BUY), (.ref z1s_SELL)])) X2 hx rfl rfl rfl (pc0 := 4) (pc' := 13) (same := false) rfl (hb hby d1_4) rfl (decide_eq_false fun q => hne_z1s_SELL_z1s_BUY (Value.ref.inj q)) (by decide) (by decide) ?_
    show Steps p.tables e below (T2.setTop (mkF m 13 #[.val (.ref z1s_SELL)] [])) t
    exact k)
  obtain ⟨T4, X4, e4, st4⟩ := getS2 X2 hx hZ hown (host := "") (Or.inl (hw _ (List.mem_of_getElem? (i := 8) rfl))) Via.refl e2 S_BUY (g := (mkF m 13 #[.val (.ref z1s_SELL)] [])) rfl (hb hby d1_13)
  have P4 : own_Go p e below S0 (T4.setTop (mkF m 16 #[.val (.ref z1s_SELL)] [(.ref z1s_BUY)])) := fun t k => P3 t (st4 _ k)
  obtain ⟨fs, hr, hrun, hended, hW, hsame⟩ := X4.leave (v := some (.ref z1s_BUY)) (fun h => by rw [Bd.returns] at h; cases h)
  refine ⟨_, _, own_from hS0 (P4 _ ?_), hrun, hended, _, _, rfl, ?_, ⟨_, rfl⟩, hW, hsame.mono (by decide) (by decide)⟩
  · show Steps p.tables e below (T4.setTop (mkF m 16 #[.val (.ref z1s_SELL)] [(.ref z1s_BUY)])) _
    jvm_step X4.here [X4.here.top, hx, (hb hby d1_16), X4.method', Bd.returns, Value.isRef, FieldType.isReference]
    first | (intro acts; rw [hr _ acts rfl rfl rfl]) | rw [hr _ _ rfl rfl rfl]
    exact Steps.refl _
  · show Q1s Z z1s_SELL z1s_BUY h0 n0 _ T4.heap _
    rw [e4]
    exact ⟨rfl, N0, rfl⟩
theorem pd_0 : parseMethodDescriptor "()Ldev/quotefuse/engine/Side;" = some ⟨[], some (.object "dev/quotefuse/engine/Side")⟩ := by decide +kernel
theorem pn_0 : plainName "dev/quotefuse/engine/SideOppositePinLaw" = true := by first | (simp [plainName, overriddenIn]; done) | decide +kernel
theorem ef_0 (m : MethodId) (i0 : Int32) : entryFrame m #[(.int i0)] maxLocals = mkF m 0 #[.val (.int i0), .unset, .unset] [] := by first | (simp [entryFrame, mkF, argsToLocals, Value.category, maxLocals]; done) | rfl
def Q0 (Z : State) (i0 : Int32) (z0_BUY : Addr) (z0_SELL : Addr) (h0 : Heap) (n0 : Nat) (v : Option Value) (h : Heap) (L : List Loc) : Prop := v = some (.int 1) ∧ Fr n0 L
set_option maxRecDepth 65536 in
set_option maxHeartbeats 40000000 in
theorem rm0 (l : Launch) (Z : State) (a0 : Array Value) (hw : ∀ d ∈ tables_1, d.before a0 Z = true) (ws : List Jvm.Cond) (i0 : Int32) (z0_BUY : Addr) (z0_SELL : Addr) (h0 : Heap) (n0 : Nat) (Z0 : n0 ≤ h0.size) (S_BUY : Sta Z h0 "dev/quotefuse/engine/Side" "BUY" "Ldev/quotefuse/engine/Side;" (.ref z0_BUY)) (E_z0_BUY : Exa Z h0 z0_BUY "dev/quotefuse/engine/Side") (S_SELL : Sta Z h0 "dev/quotefuse/engine/Side" "SELL" "Ldev/quotefuse/engine/Side;" (.ref z0_SELL)) (hne_z0_SELL_z0_BUY : z0_SELL ≠ z0_BUY) (E_z0_SELL : Exa Z h0 z0_SELL "dev/quotefuse/engine/Side") :
    MetFree l x (head1 (Jvm.Cond.code x code maxLocals ret :: ws) room_1) (fun a U => a = #[(.int i0)] ∧ Z.Warmed39 U.vm ∧ U.heap = h0) (fun _ _ _ _ _ => True) (fun _ U o U' => ∃ v L, o = .returned v ∧ Q0 Z i0 z0_BUY z0_SELL h0 n0 v U'.heap L ∧ FrameEnd U o U' L room_1.cells room_1.slots) := by
  refine MetFree.of_bodySF (plainFor_of_name pn_0) hisR ?_
  intro p e s m args below meth c s₁ Bd hml0 hP hK
  obtain ⟨rfl, hZ, hh⟩ := hP
  have hx := Bd.exec
  have hby := Bd.bytes
  have hml : c.maxLocals = 3 := hml0
  have hown : s.vm.findClass "dev/quotefuse/engine/SideOppositePinLaw" = some m.cls := findClass_of_methodNamed Bd.named
  have hnm := (name_of_methodNamed Bd.named Bd.method).1
  have X0 : Stand p l e room_1 s m #[(.int i0)] below meth c s₁ [] 0 0 := Stand.of_body Bd
  have e0 : s₁.heap = h0 := by rw [← hh, Bd.state]; rfl
  have N0 := Fr.nil n0
  obtain ⟨S0, hS0⟩ : ∃ z, z = s₁.setTop (entryFrame m #[(.int i0)] maxLocals) := ⟨_, rfl⟩
  have P0 : own_Go p e below S0 (s₁.setTop (mkF m 0 #[.val (.int i0), .unset, .unset] [])) := fun t k => by rw [hS0]; exact castTop (ef_0 m i0) k
  have P1 : own_Go p e below S0 (s₁.setTop (mkF m 3 #[.val (.int i0), .unset, .unset] [(.int (i0 &&& (1 : Int32)))])) := fun t k => P0 t (by
    show Steps p.tables e below (s₁.setTop (mkF m 0 #[.val (.int i0), .unset, .unset] [])) t
    refine XS.iloadN X0.here hx rfl (hb hby at_0) rfl ?_
    refine XS.iconst X0.here hx rfl (hb hby at_1) ?_
    refine XS.iand X0.here hx rfl (hb hby at_2) rfl ?_
    show Steps p.tables e below (s₁.setTop (mkF m 3 #[.val (.int i0), .unset, .unset] [(.int (i0 &&& (1 : Int32)))])) t
    exact k)
  by_cases c2 : (i0 &&& (1 : Int32)) = (0 : Int32)
  · skip
    have P3 : own_Go p e below S0 (s₁.setTop (mkF m 12 #[.val (.int i0), .unset, .unset] [])) := fun t k => P1 t (by
      show Steps p.tables e below (s₁.setTop (mkF m 3 #[.val (.int i0), .unset, .unset] [(.int (i0 &&& (1 : Int32)))])) t
      refine XS.ifYes X0.here hx rfl (pc0 := 3) (pc' := 12) rfl (hb hby at_3) rfl ((if0 _ _).trans (teq c2).1) (by decide) (by decide) ?_
      show Steps p.tables e below (s₁.setTop (mkF m 12 #[.val (.int i0), .unset, .unset] [])) t
      exact k)
    obtain ⟨T4, X4, e4, st4⟩ := getS2 X0 hx hZ hown (host := "") (Or.inl (hw _ (List.mem_of_getElem? (i := 0) rfl))) Via.refl e0 S_BUY (g := (mkF m 12 #[.val (.int i0), .unset, .unset] [])) rfl (hb hby at_12)
    have P4 : own_Go p e below S0 (T4.setTop (mkF m 15 #[.val (.int i0), .unset, .unset] [(.ref z0_BUY)])) := fun t k => P3 t (st4 _ k)
    have P5 : own_Go p e below S0 (T4.setTop (mkF m 17 #[.val (.int i0), .val (.ref z0_BUY), .unset] [(.ref z0_BUY)])) := fun t k => P4 t (by
      show Steps p.tables e below (T4.setTop (mkF m 15 #[.val (.int i0), .unset, .unset] [(.ref z0_BUY)])) t
      refine XS.astoreN X4.here hx rfl (hb hby at_15) rfl rfl (l' := #[.val (.int i0), .val (.ref z0_BUY), .unset]) rfl ?_
      refine XS.aloadN X4.here hx rfl (hb hby at_16) rfl rfl ?_
      show Steps p.tables e below (T4.setTop (mkF m 17 #[.val (.int i0), .val (.ref z0_BUY), .unset] [(.ref z0_BUY)])) t
      exact k)
    obtain ⟨cq6, kq6, q6a, q6b, q6c⟩ := isOf hZ e4 E_z0_BUY
    obtain ⟨_, _, ⟨T6, L6, k6, n6⟩, -, X6, ⟨Lc6, hQ6, l6, y6, z6⟩, st6⟩ := X4.virtualBack hx (y := (⟨"dev/quotefuse/engine/Side", "opposite", "()Ldev/quotefuse/engine/Side;"⟩ : MethodName)) (z := (⟨"dev/quotefuse/engine/Side", "opposite", "()Ldev/quotefuse/engine/Side;"⟩ : MethodName)) hown (mvT hZ (hw _ (List.mem_of_getElem? (i := 3) rfl))) (mvT hZ (hw _ (List.mem_of_getElem? (i := 4) rfl))) (notFace_of_selects (args := #[]) (mvT hZ (hw _ (List.mem_of_getElem? (i := 6) rfl)))) (mvT hZ (hw _ (List.mem_of_getElem? (i := 6) rfl))) (mvT hZ (hw _ (List.mem_of_getElem? (i := 5) rfl))) (by decide) (backOf (W := 0) (rm1b l Z a0 hw [] z0_BUY z0_SELL h0 n0 Z0 S_BUY S_SELL) hZ (hw _ (List.mem_of_getElem? (i := 7) rfl)) (hw _ (List.mem_of_getElem? (i := 1) rfl)) (by decide) (by decide)) q6a q6c (g := (mkF m 17 #[.val (.int i0), .val (.ref z0_BUY), .unset] [(.ref z0_BUY)])) rfl (by rw [hml]; rfl) (Steps.refl _) (argsL := []) (rest := []) (lenOf pd_0 rfl) rfl (by show 2 * 0 + _ ≤ _; exact Nat.le_of_eq rfl) (hb hby at_17) (fun _ _ => ⟨rfl, e4, (by decide : 0 + 0 ≤ _), (by decide : 0 + 0 ≤ _)⟩)
    dsimp only [Pt.U, Pt.locs, Pt.cells, Pt.slots] at X6 l6 y6 z6 st6 hQ6
    subst l6 y6 z6
    obtain ⟨rfl, N6q, e6⟩ := hQ6
    have N6 := Fr.app N0 N6q
    have P6 : own_Go p e below S0 (T6.setTop (mkF m 20 #[.val (.int i0), .val (.ref z0_BUY), .unset] [(.ref z0_SELL)])) := fun t k => P5 t (st6.trans k)
    have P7 : own_Go p e below S0 (T6.setTop (mkF m 35 #[.val (.int i0), .val (.ref z0_BUY), .val (.ref z0_SELL)] [(.ref z0_SELL)])) := fun t k => P6 t (by
      show Steps p.tables e below (T6.setTop (mkF m 20 #[.val (.int i0), .val (.ref z0_BUY), .unset] [(.ref z0_SELL)])) t
      refine XS.astoreN X6.here hx rfl (hb hby at_20) rfl rfl (l' := #[.val (.int i0), .val (.ref z0_BUY), .val (.ref z0_SELL)]) rfl ?_
      refine XS.aloadN X6.here hx rfl (hb hby at_21) rfl rfl ?_
      refine XS.ifnonnullYes X6.here hx rfl (pc0 := 22) (pc' := 27) rfl (hb hby at_22) rfl (by decide) (by decide) ?_
      refine XS.aloadN X6.here hx rfl (hb hby at_27) rfl rfl ?_
      refine XS.aloadN X6.here hx rfl (hb hby at_28) rfl rfl ?_
      refine Jvm.RoadKit.acmp (g := (mkF m 29 #[.val (.int i0), .val (.ref z0_BUY), .val (.ref z0_SELL)] [(.ref z0_BUY), (.ref z0_SELL)])) X6 hx rfl rfl rfl (pc0 := 29) (pc' := 34) (same := false) rfl (hb hby at_29) rfl (decide_eq_false fun q => hne_z0_SELL_z0_BUY (Value.ref.inj q)) (by decide) (by decide) ?_
      show Steps p.tables e below (T6.setTop (mkF m 34 #[.val (.int i0), .val (.ref z0_BUY), .val (.ref z0_SELL)] [])) t
      refine XS.aloadN X6.here hx rfl (hb hby at_34) rfl rfl ?_
      show Steps p.tables e below (T6.setTop (mkF m 35 #[.val (.int i0), .val (.ref z0_BUY), .val (.ref z0_SELL)] [(.ref z0_SELL)])) t
      exact k)
    obtain ⟨cq8, kq8, q8a, q8b, q8c⟩ := isOf hZ e6 E_z0_SELL
    obtain ⟨_, _, ⟨T8, L8, k8, n8⟩, -, X8, ⟨Lc8, hQ8, l8, y8, z8⟩, st8⟩ := X6.virtualBack hx (y := (⟨"dev/quotefuse/engine/Side", "opposite", "()Ldev/quotefuse/engine/Side;"⟩ : MethodName)) (z := (⟨"dev/quotefuse/engine/Side", "opposite", "()Ldev/quotefuse/engine/Side;"⟩ : MethodName)) hown (mvT hZ (hw _ (List.mem_of_getElem? (i := 3) rfl))) (mvT hZ (hw _ (List.mem_of_getElem? (i := 4) rfl))) (notFace_of_selects (args := #[]) (mvT hZ (hw _ (List.mem_of_getElem? (i := 6) rfl)))) (mvT hZ (hw _ (List.mem_of_getElem? (i := 6) rfl))) (mvT hZ (hw _ (List.mem_of_getElem? (i := 5) rfl))) (by decide) (backOf (W := 0) (rm1s l Z a0 hw [] z0_SELL z0_BUY h0 n0 Z0 S_BUY hne_z0_SELL_z0_BUY) hZ (hw _ (List.mem_of_getElem? (i := 7) rfl)) (hw _ (List.mem_of_getElem? (i := 1) rfl)) (by decide) (by decide)) q8a q8c (g := (mkF m 35 #[.val (.int i0), .val (.ref z0_BUY), .val (.ref z0_SELL)] [(.ref z0_SELL)])) rfl (by rw [hml]; rfl) (Steps.refl _) (argsL := []) (rest := []) (lenOf pd_0 rfl) rfl (by show 2 * 0 + _ ≤ _; exact Nat.le_of_eq rfl) (hb hby at_35) (fun _ _ => ⟨rfl, e6, (by decide : 0 + 0 ≤ _), (by decide : 0 + 0 ≤ _)⟩)
    dsimp only [Pt.U, Pt.locs, Pt.cells, Pt.slots] at X8 l8 y8 z8 st8 hQ8
    subst l8 y8 z8
    obtain ⟨rfl, N8q, e8⟩ := hQ8
    have N8 := Fr.app N6 N8q
    have P8 : own_Go p e below S0 (T8.setTop (mkF m 38 #[.val (.int i0), .val (.ref z0_BUY), .val (.ref z0_SELL)] [(.ref z0_BUY)])) := fun t k => P7 t (st8.trans k)
    have P9 : own_Go p e below S0 (T8.setTop (mkF m 47 #[.val (.int i0), .val (.ref z0_BUY), .val (.ref z0_SELL)] [(.int (1 : Int32))])) := fun t k => P8 t (by
      show Steps p.tables e below (T8.setTop (mkF m 38 #[.val (.int i0), .val (.ref z0_BUY), .val (.ref z0_SELL)] [(.ref z0_BUY)])) t
      refine XS.aloadN X8.here hx rfl (hb hby at_38) rfl rfl ?_
      refine Jvm.RoadKit.acmp (g := (mkF m 39 #[.val (.int i0), .val (.ref z0_BUY), .val (.ref z0_SELL)] [(.ref z0_BUY), (.ref z0_BUY)])) X8 hx rfl rfl rfl (pc0 := 39) (pc' := 42) (same := true) rfl (hb hby at_39) rfl (decide_eq_true rfl) (by decide) (by decide) ?_
      refine XS.iconst X8.here hx rfl (hb hby at_42) ?_
      refine XS.goto X8.here hx rfl (pc0 := 43) (pc' := 47) rfl (hb hby at_43) (by decide) (by decide) ?_
      show Steps p.tables e below (T8.setTop (mkF m 47 #[.val (.int i0), .val (.ref z0_BUY), .val (.ref z0_SELL)] [(.int (1 : Int32))])) t
      exact k)
    obtain ⟨fs, hr, hrun, hended, hW, hsame⟩ := X8.leave (v := some (.int (1 : Int32))) (fun h => by rw [Bd.returns] at h; cases h)
    refine ⟨_, _, own_from hS0 (P9 _ ?_), hrun, hended, _, _, rfl, ?_, ⟨_, rfl⟩, hW, hsame.mono (by decide) (by decide)⟩
    · show Steps p.tables e below (T8.setTop (mkF m 47 #[.val (.int i0), .val (.ref z0_BUY), .val (.ref z0_SELL)] [(.int (1 : Int32))])) _
      exact retN X8 hx (t := .boolean) Bd.returns (by simp) (hb hby at_47) hr
    · show Q0 Z i0 z0_BUY z0_SELL h0 n0 _ T8.heap _
      rw [e8]
      exact ⟨rfl, N8⟩
  · skip
    have P10 : own_Go p e below S0 (s₁.setTop (mkF m 6 #[.val (.int i0), .unset, .unset] [])) := fun t k => P1 t (by
      show Steps p.tables e below (s₁.setTop (mkF m 3 #[.val (.int i0), .unset, .unset] [(.int (i0 &&& (1 : Int32)))])) t
      refine XS.ifNo X0.here hx rfl (hb hby at_3) rfl ((if0 _ _).trans (feq c2).1) ?_
      show Steps p.tables e below (s₁.setTop (mkF m 6 #[.val (.int i0), .unset, .unset] [])) t
      exact k)
    obtain ⟨T11, X11, e11, st11⟩ := getS2 X0 hx hZ hown (host := "") (Or.inl (hw _ (List.mem_of_getElem? (i := 11) rfl))) Via.refl e0 S_SELL (g := (mkF m 6 #[.val (.int i0), .unset, .unset] [])) rfl (hb hby at_6)
    have P11 : own_Go p e below S0 (T11.setTop (mkF m 9 #[.val (.int i0), .unset, .unset] [(.ref z0_SELL)])) := fun t k => P10 t (st11 _ k)
    have P12 : own_Go p e below S0 (T11.setTop (mkF m 17 #[.val (.int i0), .val (.ref z0_SELL), .unset] [(.ref z0_SELL)])) := fun t k => P11 t (by
      show Steps p.tables e below (T11.setTop (mkF m 9 #[.val (.int i0), .unset, .unset] [(.ref z0_SELL)])) t
      refine XS.goto X11.here hx rfl (pc0 := 9) (pc' := 15) rfl (hb hby at_9) (by decide) (by decide) ?_
      refine XS.astoreN X11.here hx rfl (hb hby at_15) rfl rfl (l' := #[.val (.int i0), .val (.ref z0_SELL), .unset]) rfl ?_
      refine XS.aloadN X11.here hx rfl (hb hby at_16) rfl rfl ?_
      show Steps p.tables e below (T11.setTop (mkF m 17 #[.val (.int i0), .val (.ref z0_SELL), .unset] [(.ref z0_SELL)])) t
      exact k)
    obtain ⟨cq13, kq13, q13a, q13b, q13c⟩ := isOf hZ e11 E_z0_SELL
    obtain ⟨_, _, ⟨T13, L13, k13, n13⟩, -, X13, ⟨Lc13, hQ13, l13, y13, z13⟩, st13⟩ := X11.virtualBack hx (y := (⟨"dev/quotefuse/engine/Side", "opposite", "()Ldev/quotefuse/engine/Side;"⟩ : MethodName)) (z := (⟨"dev/quotefuse/engine/Side", "opposite", "()Ldev/quotefuse/engine/Side;"⟩ : MethodName)) hown (mvT hZ (hw _ (List.mem_of_getElem? (i := 3) rfl))) (mvT hZ (hw _ (List.mem_of_getElem? (i := 4) rfl))) (notFace_of_selects (args := #[]) (mvT hZ (hw _ (List.mem_of_getElem? (i := 6) rfl)))) (mvT hZ (hw _ (List.mem_of_getElem? (i := 6) rfl))) (mvT hZ (hw _ (List.mem_of_getElem? (i := 5) rfl))) (by decide) (backOf (W := 0) (rm1s l Z a0 hw [] z0_SELL z0_BUY h0 n0 Z0 S_BUY hne_z0_SELL_z0_BUY) hZ (hw _ (List.mem_of_getElem? (i := 7) rfl)) (hw _ (List.mem_of_getElem? (i := 1) rfl)) (by decide) (by decide)) q13a q13c (g := (mkF m 17 #[.val (.int i0), .val (.ref z0_SELL), .unset] [(.ref z0_SELL)])) rfl (by rw [hml]; rfl) (Steps.refl _) (argsL := []) (rest := []) (lenOf pd_0 rfl) rfl (by show 2 * 0 + _ ≤ _; exact Nat.le_of_eq rfl) (hb hby at_17) (fun _ _ => ⟨rfl, e11, (by decide : 0 + 0 ≤ _), (by decide : 0 + 0 ≤ _)⟩)
    dsimp only [Pt.U, Pt.locs, Pt.cells, Pt.slots] at X13 l13 y13 z13 st13 hQ13
    subst l13 y13 z13
    obtain ⟨rfl, N13q, e13⟩ := hQ13
    have N13 := Fr.app N0 N13q
    have P13 : own_Go p e below S0 (T13.setTop (mkF m 20 #[.val (.int i0), .val (.ref z0_SELL), .unset] [(.ref z0_BUY)])) := fun t k => P12 t (st13.trans k)
    have P14 : own_Go p e below S0 (T13.setTop (mkF m 35 #[.val (.int i0), .val (.ref z0_SELL), .val (.ref z0_BUY)] [(.ref z0_BUY)])) := fun t k => P13 t (by
      show Steps p.tables e below (T13.setTop (mkF m 20 #[.val (.int i0), .val (.ref z0_SELL), .unset] [(.ref z0_BUY)])) t
      refine XS.astoreN X13.here hx rfl (hb hby at_20) rfl rfl (l' := #[.val (.int i0), .val (.ref z0_SELL), .val (.ref z0_BUY)]) rfl ?_
      refine XS.aloadN X13.here hx rfl (hb hby at_21) rfl rfl ?_
      refine XS.ifnonnullYes X13.here hx rfl (pc0 := 22) (pc' := 27) rfl (hb hby at_22) rfl (by decide) (by decide) ?_
      refine XS.aloadN X13.here hx rfl (hb hby at_27) rfl rfl ?_
      refine XS.aloadN X13.here hx rfl (hb hby at_28) rfl rfl ?_
      refine Jvm.RoadKit.acmp (g := (mkF m 29 #[.val (.int i0), .val (.ref z0_SELL), .val (.ref z0_BUY)] [(.ref z0_SELL), (.ref z0_BUY)])) X13 hx rfl rfl rfl (pc0 := 29) (pc' := 34) (same := false) rfl (hb hby at_29) rfl (decide_eq_false fun q => (Ne.symm hne_z0_SELL_z0_BUY) (Value.ref.inj q)) (by decide) (by decide) ?_
      show Steps p.tables e below (T13.setTop (mkF m 34 #[.val (.int i0), .val (.ref z0_SELL), .val (.ref z0_BUY)] [])) t
      refine XS.aloadN X13.here hx rfl (hb hby at_34) rfl rfl ?_
      show Steps p.tables e below (T13.setTop (mkF m 35 #[.val (.int i0), .val (.ref z0_SELL), .val (.ref z0_BUY)] [(.ref z0_BUY)])) t
      exact k)
    obtain ⟨cq15, kq15, q15a, q15b, q15c⟩ := isOf hZ e13 E_z0_BUY
    obtain ⟨_, _, ⟨T15, L15, k15, n15⟩, -, X15, ⟨Lc15, hQ15, l15, y15, z15⟩, st15⟩ := X13.virtualBack hx (y := (⟨"dev/quotefuse/engine/Side", "opposite", "()Ldev/quotefuse/engine/Side;"⟩ : MethodName)) (z := (⟨"dev/quotefuse/engine/Side", "opposite", "()Ldev/quotefuse/engine/Side;"⟩ : MethodName)) hown (mvT hZ (hw _ (List.mem_of_getElem? (i := 3) rfl))) (mvT hZ (hw _ (List.mem_of_getElem? (i := 4) rfl))) (notFace_of_selects (args := #[]) (mvT hZ (hw _ (List.mem_of_getElem? (i := 6) rfl)))) (mvT hZ (hw _ (List.mem_of_getElem? (i := 6) rfl))) (mvT hZ (hw _ (List.mem_of_getElem? (i := 5) rfl))) (by decide) (backOf (W := 0) (rm1b l Z a0 hw [] z0_BUY z0_SELL h0 n0 Z0 S_BUY S_SELL) hZ (hw _ (List.mem_of_getElem? (i := 7) rfl)) (hw _ (List.mem_of_getElem? (i := 1) rfl)) (by decide) (by decide)) q15a q15c (g := (mkF m 35 #[.val (.int i0), .val (.ref z0_SELL), .val (.ref z0_BUY)] [(.ref z0_BUY)])) rfl (by rw [hml]; rfl) (Steps.refl _) (argsL := []) (rest := []) (lenOf pd_0 rfl) rfl (by show 2 * 0 + _ ≤ _; exact Nat.le_of_eq rfl) (hb hby at_35) (fun _ _ => ⟨rfl, e13, (by decide : 0 + 0 ≤ _), (by decide : 0 + 0 ≤ _)⟩)
    dsimp only [Pt.U, Pt.locs, Pt.cells, Pt.slots] at X15 l15 y15 z15 st15 hQ15
    subst l15 y15 z15
    obtain ⟨rfl, N15q, e15⟩ := hQ15
    have N15 := Fr.app N13 N15q
    have P15 : own_Go p e below S0 (T15.setTop (mkF m 38 #[.val (.int i0), .val (.ref z0_SELL), .val (.ref z0_BUY)] [(.ref z0_SELL)])) := fun t k => P14 t (st15.trans k)
    have P16 : own_Go p e below S0 (T15.setTop (mkF m 47 #[.val (.int i0), .val (.ref z0_SELL), .val (.ref z0_BUY)] [(.int (1 : Int32))])) := fun t k => P15 t (by
      show Steps p.tables e below (T15.setTop (mkF m 38 #[.val (.int i0), .val (.ref z0_SELL), .val (.ref z0_BUY)] [(.ref z0_SELL)])) t
      refine XS.aloadN X15.here hx rfl (hb hby at_38) rfl rfl ?_
      refine Jvm.RoadKit.acmp (g := (mkF m 39 #[.val (.int i0), .val (.ref z0_SELL), .val (.ref z0_BUY)] [(.ref z0_SELL), (.ref z0_SELL)])) X15 hx rfl rfl rfl (pc0 := 39) (pc' := 42) (same := true) rfl (hb hby at_39) rfl (decide_eq_true rfl) (by decide) (by decide) ?_
      refine XS.iconst X15.here hx rfl (hb hby at_42) ?_
      refine XS.goto X15.here hx rfl (pc0 := 43) (pc' := 47) rfl (hb hby at_43) (by decide) (by decide) ?_
      show Steps p.tables e below (T15.setTop (mkF m 47 #[.val (.int i0), .val (.ref z0_SELL), .val (.ref z0_BUY)] [(.int (1 : Int32))])) t
      exact k)
    obtain ⟨fs, hr, hrun, hended, hW, hsame⟩ := X15.leave (v := some (.int (1 : Int32))) (fun h => by rw [Bd.returns] at h; cases h)
    refine ⟨_, _, own_from hS0 (P16 _ ?_), hrun, hended, _, _, rfl, ?_, ⟨_, rfl⟩, hW, hsame.mono (by decide) (by decide)⟩
    · show Steps p.tables e below (T15.setTop (mkF m 47 #[.val (.int i0), .val (.ref z0_SELL), .val (.ref z0_BUY)] [(.int (1 : Int32))])) _
      exact retN X15 hx (t := .boolean) Bd.returns (by simp) (hb hby at_47) hr
    · show Q0 Z i0 z0_BUY z0_SELL h0 n0 _ T15.heap _
      rw [e15]
      exact ⟨rfl, N15⟩
set_option maxRecDepth 65536 in
set_option maxHeartbeats 40000000 in
theorem comes_1 {Post : Tables → Env → Array Value → State → Outcome → State → Prop} (hpost : ∀ tb e args s v u, (limb_1_1.after args s (.returned v) u = true ∧ limb_1_2.after args s (.returned v) u = true ∧ True) → FrameEnd s (.returned v) u (Jvm.fieldLocs frame_1_writes args s ++ Jvm.arrayLocs frame_1_arrays args s ++ Jvm.staticLocs frame_1_statics s) 0 0 → Post tb e args s (.returned v) u) :
    ArmFor flags0 classFile x code maxLocals ret World_1 tables_1 room_1 Calls_1 rest_1 Pre_1 Post := by
  intro l hfl _ _ p e ha hc hk s m args below hf hA hF happ hP
  obtain ⟨hcalls, hrest, hpre⟩ := hP
  obtain ⟨-, -, -, hnamed, -, -, -, hat⟩ := (Spec.applies_iff hf).mp happ
  obtain ⟨hg, hn⟩ := and_e (Cond.before_iff.mp (show (Jvm.Cond.and given_1 narrow_1).before args s = true from hpre))
  obtain ⟨ga1, gb1⟩ := and_e hg
  obtain ⟨w0, rfl⟩ : ∃ w0 : Value, args = #[w0] := by
    have hs : args.size = 1 := by simpa [Cond.value, given_1] using ga1
    obtain ⟨L⟩ := args
    match L, hs with
    | [w0], _ => exact ⟨w0, rfl⟩
  have hw := fun d (hd : d ∈ tables_1) => atoms_spec (ws := Jvm.Cond.code x code maxLocals ret :: tables_1) hat d (List.mem_cons_of_mem _ hd)
  have hfit : Fit s := fun {y c} hc i hi => by
    obtain ⟨ha, rfl⟩ := Array.getElem?_eq_some_iff.mp hc
    have q := List.all_eq_true.mp ((Array.all_eq_true_iff_forall_mem.mp hF) _ (Array.getElem_mem ha)) i (List.mem_range.mpr hi)
    simpa [Array.getElem?_eq_getElem hi] using q
  obtain ⟨i0, ei0⟩ := is_v gb1
  obtain rfl : w0 = (.int i0) := Option.some.inj ei0
  obtain ⟨ga2, gb2⟩ := and_e hn
  obtain ⟨ga3, gb3⟩ := and_e gb2
  obtain ⟨ga4, gb4⟩ := and_e gb3
  obtain ⟨z0_BUY, ev1⟩ := exa_v ga2
  have S_BUY : Sta s s.heap "dev/quotefuse/engine/Side" "BUY" "Ldev/quotefuse/engine/Side;" (.ref z0_BUY) := Sta.start ev1 (Or.inr ⟨(hw _ (List.mem_of_getElem? (i := 1) rfl)), (hw _ (List.mem_of_getElem? (i := 2) rfl))⟩)
  have Ex_z0_BUY : Exa s s.heap z0_BUY "dev/quotefuse/engine/Side" := Exa.start ev1 ga2
  have Od_z0_BUY : Fld s s.heap z0_BUY "java/lang/Enum" "ordinal" "I" (.int (0 : Int32)) := Fld.start ((fld_at ev1).symm.trans (Cond.eq_int (Cond.before_iff.mpr gb4) rfl))
  obtain ⟨z0_SELL, ev2⟩ := exa_v ga3
  have S_SELL : Sta s s.heap "dev/quotefuse/engine/Side" "SELL" "Ldev/quotefuse/engine/Side;" (.ref z0_SELL) := Sta.start ev2 (Or.inr ⟨(hw _ (List.mem_of_getElem? (i := 1) rfl)), (hw _ (List.mem_of_getElem? (i := 10) rfl))⟩)
  have Ex_z0_SELL : Exa s s.heap z0_SELL "dev/quotefuse/engine/Side" := Exa.start ev2 ga3
  have Od_z0_SELL : Fld s s.heap z0_SELL "java/lang/Enum" "ordinal" "I" (.int (1 : Int32)) := Fld.start ((fld_at ev2).symm.trans (Cond.eq_int (Cond.before_iff.mpr ga4) rfl))
  obtain ⟨n, o, h1, h2, h3, _, L, rfl, ⟨rfl, N⟩, hq⟩ := rm0 l s _ hw tables_1 i0 z0_BUY z0_SELL s.heap s.heap.size (Nat.le_refl _) S_BUY Ex_z0_BUY S_SELL (Fld.ne Od_z0_SELL Od_z0_BUY (fun q => absurd (Value.int.inj q) (by decide))) Ex_z0_SELL p e ha hc hk s m _ below hf ((Spec.applies_iff_loose hf).mp happ).1 ⟨rfl, State.Warmed39.refl s, rfl⟩ trivial
  refine ⟨n, _, h1, h2, h3, hpost _ _ _ _ _ _ ⟨Cond.after_iff.mpr rfl, Cond.after_iff.mpr (eq_i res_at (Term.int_eval (1)) rfl), trivial⟩ ⟨hq.1, hq.2.1, (hq.2.2.sift fun y hy => Or.inr (N y hy)).mono (by decide) (by decide)⟩⟩
theorem main_1_1 : Claimed_1_1 := comes_1 fun _ _ _ _ _ _ h hF => ⟨h.1, hF⟩
theorem main_1_2 : Claimed_1_2 := comes_1 fun _ _ _ _ _ _ h hF => ⟨h.2.1, hF⟩
end Jvm.Pilot.@@N@@
namespace Jvm.Pilot.@@N@@
open Jvm Jvm.ClassFile Sem Op Lib Jvm.Free Jvm.Stand Jvm.Pilot.@@N@@.Jvm.D
/-! MADE BY PROGRAM (witnessworld.py) out of the Statement's table words and the real class files: 12 classes; the members and pool entries that the words name. The judged class is class 1, her method 1. -/
namespace start1
open Jvm.ClassFile
def u (s : String) : CpInfo := .utf8 (stringToUtf16 s)
/-- a pool by its gaps: so many unusable entries, then the entry; so many at the end -/
def gap : Nat → List CpInfo → List CpInfo
  | 0, r => r
  | n + 1, r => .unusable :: gap n r
def poolList (es : List (Nat × CpInfo)) (last : Nat) : List CpInfo := es.foldr (fun e r => gap e.1 (e.2 :: r)) (gap last [])
def pool (es : List (Nat × CpInfo)) (last : Nat) : Array CpInfo := ⟨poolList es last⟩
def fileOf (pool : Array CpInfo) (this : Nat) (attrs : Array Attribute := #[]) (ms : Array MethodInfo := #[]) (fl : Nat := 33) (sup : Nat := 0) (ifs : Array Nat := #[]) (fds : Array FieldInfo := #[]) : ClassFile where
  minorVersion := 0
  majorVersion := 65
  constantPool := pool
  accessFlags := fl
  thisClass := this
  superClass := sup
  interfaces := ifs
  fields := fds
  methods := ms
  attributes := attrs
def plain (name : String) (sup : Option ClassId) : Class where
  name := name
  kind := .ordinary
  loader := none
  accessFlags := 33
  super := sup
  interfaces := #[]
  cf := none
  fields := #[]
  methods := #[]
  instanceTypes := #[]
  staticTypes := #[]
  resolved := #[]
  callSites := []
  init := .initialized
  statics := none
  mirror := none

def pool0 : Array CpInfo := pool [(5, u "<init>"), (0, u "()V"), (1, .class_ 10), (1, u "java/lang/Object")] 113

def k0m0 : Method := { name := "<init>", desc := "()V", sig := { parameters := [], returnType := none }, accessFlags := 1, code := none }
/-- java/lang/Object -/
def k0 : Class := { plain "java/lang/Object" none with
  accessFlags := 33
  interfaces := #[]
  cf := some (fileOf pool0 8 #[] #[{ accessFlags := 1, nameIndex := 5, descriptorIndex := 6, attributes := #[] }] 33 0 #[] #[])
  fields := #[]
  methods := #[k0m0]
  instanceTypes := #[]
  staticTypes := #[]
  resolved := Array.replicate 124 none
  statics := none }

def pool1 : Array CpInfo := pool [(2, .class_ 4), (1, u "java/lang/Object"), (0, u "<init>"), (0, u "()V"), (0, .fieldref 8 9), (0, .class_ 10), (0, .nameAndType 11 12), (0, u "dev/quotefuse/engine/Side"), (0, u "SELL"), (0, u "Ldev/quotefuse/engine/Side;"), (0, .fieldref 8 14), (0, .nameAndType 15 12), (0, u "BUY"), (0, .methodref 8 17), (0, .nameAndType 18 19), (0, u "opposite"), (0, u "()Ldev/quotefuse/engine/Side;"), (0, .class_ 21), (0, u "dev/quotefuse/engine/SideOppositePinLaw"), (2, u "law"), (0, u "(I)Z")] 3

def k1m0 : Method := { name := "<init>", desc := "()V", sig := { parameters := [], returnType := none }, accessFlags := 1, code := none }
def k1c1 : Code := { maxStack := 2, maxLocals := 3, code := code, exceptionTable := #[], attributes := #[] }
def k1m1 : Method := { name := "law", desc := "(I)Z", sig := { parameters := [.int], returnType := some .boolean }, accessFlags := 9, code := some k1c1 }
/-- dev/quotefuse/engine/SideOppositePinLaw -/
def k1 : Class := { plain "dev/quotefuse/engine/SideOppositePinLaw" (some 0) with
  accessFlags := 49
  interfaces := #[]
  cf := some (fileOf pool1 20 #[] #[{ accessFlags := 1, nameIndex := 5, descriptorIndex := 6, attributes := #[] }, { accessFlags := 9, nameIndex := 24, descriptorIndex := 25, attributes := #[] }] 49 2 #[] #[])
  fields := #[]
  methods := #[k1m0, k1m1]
  instanceTypes := #[]
  staticTypes := #[]
  resolved := Array.replicate 29 none
  statics := none }

def pool2 : Array CpInfo := pool [(1, .class_ 2), (0, u "java/lang/constant/Constable"), (0, .class_ 4), (0, u "java/lang/Object")] 6

/-- java/lang/constant/Constable -/
def k2 : Class := { plain "java/lang/constant/Constable" (some 0) with
  accessFlags := 1537
  interfaces := #[]
  cf := some (fileOf pool2 1 #[] #[] 1537 3 #[] #[])
  fields := #[]
  methods := #[]
  instanceTypes := #[]
  staticTypes := #[]
  resolved := Array.replicate 11 none
  statics := none }

def pool3 : Array CpInfo := pool [(1, .class_ 2), (0, u "java/lang/Comparable"), (0, .class_ 4), (0, u "java/lang/Object")] 7

/-- java/lang/Comparable -/
def k3 : Class := { plain "java/lang/Comparable" (some 0) with
  accessFlags := 1537
  interfaces := #[]
  cf := some (fileOf pool3 1 #[] #[] 1537 3 #[] #[])
  fields := #[]
  methods := #[]
  instanceTypes := #[]
  staticTypes := #[]
  resolved := Array.replicate 12 none
  statics := none }

def pool4 : Array CpInfo := pool [(1, .class_ 2), (0, u "java/io/Serializable"), (0, .class_ 4), (0, u "java/lang/Object")] 2

/-- java/io/Serializable -/
def k4 : Class := { plain "java/io/Serializable" (some 0) with
  accessFlags := 1537
  interfaces := #[]
  cf := some (fileOf pool4 1 #[] #[] 1537 3 #[] #[])
  fields := #[]
  methods := #[]
  instanceTypes := #[]
  staticTypes := #[]
  resolved := Array.replicate 7 none
  statics := none }

def pool5 : Array CpInfo := pool [(2, .class_ 4), (1, u "java/lang/Enum"), (0, u "name"), (0, u "Ljava/lang/String;"), (2, u "ordinal"), (0, u "I"), (1, .class_ 14), (1, u "java/lang/Object"), (4, u "hash"), (86, .class_ 108), (1, u "java/lang/Enum$EnumDesc"), (2, .class_ 112), (0, u "java/lang/constant/Constable"), (0, .class_ 114), (0, u "java/lang/Comparable"), (0, .class_ 116), (0, u "java/io/Serializable")] 87

/-- java/lang/Enum -/
def k5 : Class := { plain "java/lang/Enum" (some 0) with
  accessFlags := 1057
  interfaces := #[2, 3, 4]
  cf := some (fileOf pool5 2 #[.nestMembers #[106]] #[] 1057 12 #[111, 113, 115] #[{ accessFlags := 18, nameIndex := 5, descriptorIndex := 6, attributes := #[] }, { accessFlags := 18, nameIndex := 9, descriptorIndex := 10, attributes := #[] }, { accessFlags := 2, nameIndex := 19, descriptorIndex := 10, attributes := #[] }])
  fields := #[{ name := "name", type := (.object "java/lang/String"), accessFlags := 18, slot := 0, constantValue := 0 }, { name := "ordinal", type := .int, accessFlags := 18, slot := 1, constantValue := 0 }, { name := "hash", type := .int, accessFlags := 2, slot := 2, constantValue := 0 }]
  methods := #[]
  instanceTypes := #[(.object "java/lang/String"), .int, .int]
  staticTypes := #[]
  resolved := Array.replicate 204 none
  statics := none }

def pool6 : Array CpInfo := pool [(1, .class_ 2), (0, u "dev/quotefuse/engine/Side"), (0, .fieldref 1 4), (0, .nameAndType 5 6), (0, u "BUY"), (0, u "Ldev/quotefuse/engine/Side;"), (0, .fieldref 1 8), (0, .nameAndType 9 6), (0, u "SELL"), (2, u "$VALUES"), (0, u "[Ldev/quotefuse/engine/Side;"), (6, .class_ 22), (1, u "java/lang/Enum"), (20, u "opposite"), (0, u "()Ldev/quotefuse/engine/Side;")] 5

def k6c0 : Code := { maxStack := 2, maxLocals := 1, code := prog_35_method_4_code, exceptionTable := #[], attributes := #[] }
def k6m0 : Method := { name := "opposite", desc := "()Ldev/quotefuse/engine/Side;", sig := { parameters := [], returnType := some (.object "dev/quotefuse/engine/Side") }, accessFlags := 1, code := some k6c0 }
/-- dev/quotefuse/engine/Side -/
def k6 : Class := { plain "dev/quotefuse/engine/Side" (some 5) with
  accessFlags := 16433
  interfaces := #[]
  cf := some (fileOf pool6 1 #[] #[{ accessFlags := 1, nameIndex := 43, descriptorIndex := 44, attributes := #[] }] 16433 20 #[] #[{ accessFlags := 16409, nameIndex := 5, descriptorIndex := 6, attributes := #[] }, { accessFlags := 16409, nameIndex := 9, descriptorIndex := 6, attributes := #[] }, { accessFlags := 4122, nameIndex := 12, descriptorIndex := 13, attributes := #[] }])
  fields := #[{ name := "BUY", type := (.object "dev/quotefuse/engine/Side"), accessFlags := 16409, slot := 0, constantValue := 0 }, { name := "SELL", type := (.object "dev/quotefuse/engine/Side"), accessFlags := 16409, slot := 1, constantValue := 0 }, { name := "$VALUES", type := (.array (.object "dev/quotefuse/engine/Side")), accessFlags := 4122, slot := 2, constantValue := 0 }]
  methods := #[k6m0]
  instanceTypes := #[(.object "java/lang/String"), .int, .int]
  staticTypes := #[(.object "dev/quotefuse/engine/Side"), (.object "dev/quotefuse/engine/Side"), (.array (.object "dev/quotefuse/engine/Side"))]
  resolved := Array.replicate 50 none
  statics := some 0 }

def pool7 : Array CpInfo := pool [(1, u "java/lang/Cloneable"), (0, .class_ 1), (0, u "java/lang/Object"), (0, .class_ 3)] 3

/-- java/lang/Cloneable -/
def k7 : Class := { plain "java/lang/Cloneable" (some 0) with
  accessFlags := 1537
  interfaces := #[]
  cf := some (fileOf pool7 2 #[] #[] 1537 4 #[] #[])
  fields := #[]
  methods := #[]
  instanceTypes := #[]
  staticTypes := #[]
  resolved := Array.replicate 8 none
  statics := none }

/-- the primitive byte -/
def k8 : Class := { plain "byte" none with kind := .primitive 'B', accessFlags := 0x411 }
/-- [B -/
def k9 : Class := { plain "[B" (some 0) with kind := .array 8 .byte, interfaces := #[7, 4], accessFlags := 1041 }

/-- the primitive int -/
def k10 : Class := { plain "int" none with kind := .primitive 'I', accessFlags := 0x411 }
/-- [I -/
def k11 : Class := { plain "[I" (some 0) with kind := .array 10 .int, interfaces := #[7, 4], accessFlags := 1041 }

def heap : Heap := #[{ cls := 6, slots := #[.ref 1, .ref 2, .null], vm := .statics 6 },
  { cls := 6, slots := #[.null, .int 0, .int 0], vm := .none },
  { cls := 6, slots := #[.null, .int 1, .int 0], vm := .none }]
def classes : Array Class := #[k0, k1, k2, k3, k4, k5, k6, k7, k8, k9, k10, k11]
def interned : List (Array UInt16 × Addr) := []
def slotsUsed : Nat := 9
def theMethod : MethodId := ⟨1, 1⟩
def args0 : Array Value := #[.int 5]
def aboutOver (below : List Frame) : State where
  vm := { classes := classes, interned := interned.toArray }
  heap := heap
  slotsUsed := slotsUsed
  threads := #[{ frames := .invoking theMethod args0 :: below }]
def below0 : List Frame := [.native { method := ⟨0, 0⟩, args := #[] }]
def about1 : State := aboutOver below0
def p0 : Program := .bare "" "" ""
def e0 : Env := launch0.env 0 0 0
theorem w_frames : about1.frames = Frame.invoking theMethod args0 :: below0 := rfl
set_option maxRecDepth 65536 in
theorem w_args : argsFit about1.vm theMethod args0 = true := by decide +kernel
set_option maxRecDepth 65536 in
theorem w_heap : heapFits about1 = true := by decide +kernel
set_option maxRecDepth 65536 in
theorem w_runnable : about1.curStatus? = some .runnable := by decide +kernel
set_option maxRecDepth 65536 in
theorem w_alone : about1.alone = true := by decide +kernel
set_option maxRecDepth 65536 in
theorem w_named : about1.methodNamed? x = some theMethod := by decide +kernel
set_option maxRecDepth 65536 in
theorem w_hears : about1.hears theMethod below0 = true := by decide +kernel
set_option maxRecDepth 65536 in
theorem w_ripe : about1.ripe theMethod args0 below0 = true := by decide +kernel
theorem w_running : about1.status = .running := rfl
set_option maxRecDepth 65536 in
theorem w_room : about1.hasRoom e0.platform room_1 = true :=
  launch0.hasRoom_least _ room_1 (by decide +kernel) (by decide +kernel) (by decide +kernel) (by decide +kernel) (by decide +kernel) (by decide +kernel)
theorem allAtoms_all (ts : List Jvm.Cond) (a : Array Jvm.Value) (st : Jvm.State) : (allAtoms ts).before a st = ts.all (fun c => c.before a st) := by
  induction ts with
  | nil => rfl
  | cons c t ih =>
    show (Jvm.Cond.and c (allAtoms t)).before a st = _
    rw [Jvm.Cond.before_and, ih, List.all_cons]
def words1 : List Jvm.Cond := Jvm.Cond.code x code maxLocals ret :: tables_1
/-- a 'code' word, met by the world's own term for the bytes: nothing is compared byte by byte -/
theorem code_word {y : MethodName} {bytes : ByteArray} {mx : Nat} {rt : Option FieldType} {a : Array Value} {s : State} {m : MethodId} {meth : Method} {c : Code} (h1 : s.methodNamed? y = some m) (h2 : s.vm.method? m = some meth) (h3 : meth.code = some c) (h4 : c.code = bytes)
    (h5 : (c.maxLocals == mx && c.exceptionTable.isEmpty && decide (c.maxStack ≤ mostOperands) && decide (meth.sig.returnType = rt) && !meth.locks && decide (parseMethodDescriptor y.desc = some meth.sig)) = true) : (Jvm.Cond.code y bytes mx rt).before a s = true := by
  simp only [Bool.and_eq_true, beq_iff_eq, Bool.not_eq_true', decide_eq_true_eq] at h5
  obtain ⟨⟨⟨⟨⟨g1, g2⟩, g3⟩, g4⟩, g5⟩, g6⟩ := h5
  simp [Cond.before, Cond.holds, Cond.value, h1, h2, h3, h4, g1, g2, g3, g4, g5, g6]
def isCode : Jvm.Cond → Bool
  | .code _ _ _ _ => true
  | _ => false
theorem all_split {L : List Jvm.Cond} {P : Jvm.Cond → Bool} (h1 : L.all (fun c => isCode c || P c) = true) (h2 : ∀ c ∈ L.filter isCode, P c = true) : L.all P = true := by
  refine List.all_eq_true.mpr fun c hc => ?_
  have h := List.all_eq_true.mp h1 c hc
  rcases Bool.eq_false_or_eq_true (isCode c) with hi | hi
  · exact h2 c (List.mem_filter.mpr ⟨hc, hi⟩)
  · simpa [hi] using h
set_option maxRecDepth 65536 in
theorem w_c0 : (Jvm.Cond.code x code maxLocals ret).before args0 about1 = true := code_word (m := ⟨1, 1⟩) (meth := k1m1) (c := k1c1) (by decide +kernel) rfl rfl rfl (by decide +kernel)
set_option maxRecDepth 65536 in
theorem w_c1 : (Jvm.Cond.code ({ cls := "dev/quotefuse/engine/Side", name := "opposite", desc := "()Ldev/quotefuse/engine/Side;" } : Jvm.MethodName) prog_35_method_4_code (1 : Nat) (Option.some (Jvm.ClassFile.FieldType.object "dev/quotefuse/engine/Side"))).before args0 about1 = true := code_word (m := ⟨6, 0⟩) (meth := k6m0) (c := k6c0) (by decide +kernel) rfl rfl rfl (by decide +kernel)
def codes1 : List Jvm.Cond := [Jvm.Cond.code x code maxLocals ret, Jvm.Cond.code ({ cls := "dev/quotefuse/engine/Side", name := "opposite", desc := "()Ldev/quotefuse/engine/Side;" } : Jvm.MethodName) prog_35_method_4_code (1 : Nat) (Option.some (Jvm.ClassFile.FieldType.object "dev/quotefuse/engine/Side"))]
set_option maxRecDepth 65536 in
theorem codes_eq : words1.filter isCode = codes1 := rfl
theorem w_codes : ∀ c ∈ words1.filter isCode, c.before args0 about1 = true := by
  rw [codes_eq]
  intro c hc
  simp only [codes1, List.mem_cons, List.not_mem_nil, or_false] at hc
  rcases hc with rfl | rfl
  · exact w_c0
  · exact w_c1
set_option maxRecDepth 65536 in
theorem w_t1 : words1.all (fun c => isCode c || c.before args0 about1) = true := by decide +kernel
theorem w_tables : (allAtoms (Jvm.Cond.code x code maxLocals ret :: tables_1)).before args0 about1 = true := by
  rw [allAtoms_all]
  show words1.all (fun c => c.before args0 about1) = true
  refine all_split ?_ w_codes
  rw [w_t1]
set_option maxRecDepth 65536 in
theorem w_case : (Jvm.Cond.and given_1 narrow_1).before args0 about1 = true := by decide +kernel
theorem w_applies : (headSpec (Jvm.Cond.code x code maxLocals ret :: tables_1) room_1).applies x e0.platform about1 = true :=
  (Spec.applies_iff w_frames).mpr ⟨w_running, w_runnable, w_alone, w_named, w_hears, w_ripe, w_room, w_tables⟩
theorem atStart : AtStart classFile x code maxLocals ret World_1 tables_1 room_1 Calls_1 rest_1 Pre_1 launch0 p0 e0 about1 theMethod args0 below0 :=
  ⟨lists_1, trivial, launch0.admits_env _ _ _, launch0.least_env, fairChoices_fair.cas, fairChoices_fair.clock, w_frames, w_args, w_heap, w_applies, trivial, trivial, w_case⟩
end start1
theorem witness_1 : WitnessClaimed_1 := ⟨start1.p0, start1.e0, start1.about1, start1.theMethod, start1.args0, start1.below0, start1.atStart⟩
end Jvm.Pilot.@@N@@
