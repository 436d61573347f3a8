import JvmDerived
import JvmDerived.Pilot.@@N@@Statement
import JvmDerived.Pilot.@@N@@Code
set_option linter.unusedVariables false
set_option linter.unusedSimpArgs false
namespace Jvm.RoadKit
open Sem ClassFile Op Lib Jvm.Stand Jvm.Free Jvm.LawKit
section New
variable {p : Program} {l : Launch} {e : Env} {R : Room} {s : State} {m : MethodId} {args : Array Value} {below : List Frame} {meth : Method} {c : Code} {T : State} {locs : List Loc} {cells slots : Nat}
theorem retI (X : Stand p l e R s m args below meth c T locs cells slots) (hx : p.tables.exec = Jvm.exec) {pc : Nat} {Ls : Array Slot} {z : Int32} {rest : List Value} (hret : meth.sig.returnType = some .int) (hd : decode c.code pc = .ok (.ireturn, 1)) {fs : List Frame}
    (hl : ∀ (f : JFrame) (acts : List Action), f.method = m → f.locked = none → f.entered = [] → (doReturn e (T.setTop f) acts (some (.int z))).1 = T.setFrames fs) : Steps p.tables e below (T.setTop (mkF m pc Ls (.int z :: rest))) (T.setFrames fs) := by
  have hm' : T.vm.method? m = some meth := X.method'
  have hn : narrow .int (.int z) = .int z := rfl
  show Steps p.tables e below (T.setTop { method := m, pc := pc, locals := Ls, stack := _ :: rest, locked := none }) _
  jvm_step X.here [X.here.top, hx, hd, hm', hret, hn]
  first | (intro acts; rw [hl _ acts rfl rfl rfl]) | rw [hl _ _ rfl rfl rfl]
  exact Steps.refl _
end New
end Jvm.RoadKit
namespace Jvm.Pilot.@@N@@
open Jvm Jvm.ClassFile Sem Op Lib Jvm.Free Jvm.Stand Jvm.LawKit Jvm.RoadKit Bundle Jvm.Pilot.@@N@@.Jvm.D
abbrev own_Go (p : Program) (e : Env) (below : List Frame) (A B : State) : Prop := ∀ t, Steps p.tables e below B t → Steps p.tables e below A t
theorem own_from {p : Program} {e : Env} {below : List Frame} {A B t : State} (h : A = B) (k : Steps p.tables e below A t) : Steps p.tables e below B t := h ▸ k
theorem own_ite1 {P : Prop} [Decidable P] (h : P) : ¬ ((if P then (1 : Int32) else (0 : Int32)) = (0 : Int32)) := by rw [if_pos h]; decide
theorem own_ite0 {P : Prop} [Decidable P] (h : ¬ P) : (if P then (1 : Int32) else (0 : Int32)) = (0 : Int32) := if_neg h
def own_Pl (h : Heap) (a : Addr) : Prop := ∃ c : Cell, h[a]? = some c ∧ c.vm.isStatics = false
theorem own_plE {Z : State} {h : Heap} {a : Addr} {C : String} (F : Exa Z h a C) : own_Pl h a := by obtain ⟨cell, k, h1, _, _, h4, _⟩ := F; exact ⟨cell, h1, h4⟩
theorem own_plF {Z : State} {h : Heap} {a : Addr} {C n d : String} {v : Value} (F : Fld Z h a C n d v) : own_Pl h a := by obtain ⟨cell, cf, k, i, f, h1, _, _, _, h5, _⟩ := F; exact ⟨cell, h1, h5⟩
theorem own_plA {Z : State} {h : Heap} {a : Addr} {k : ClassId} {ty : FieldType} {n : Int32} {vs : List Value} {d : Value} (F : Arv Z h a k ty n vs d) : own_Pl h a := by obtain ⟨c, A, _⟩ := F; exact ⟨c, A.1, A.plain⟩
theorem own_staK {Z : State} {h h' : Heap} {C n d : String} {v : Value} {ws : List Addr} (F : Sta Z h C n d v) (K : Keep h h' ws) (q : ∀ x ∈ ws, own_Pl h x) : Sta Z h' C n d v := by
  obtain ⟨cf, i, k, f, st, cell, h1, h2, h3, h4, h5, h6, h7⟩ := F
  refine ⟨cf, i, k, f, st, cell, h1, h2, h3, h4, K.2.1 st cell h5 fun z => ?_, h6, h7⟩
  obtain ⟨c, q1, q2⟩ := q st z
  cases h5.symm.trans q1
  rw [h6] at q2; cases q2
theorem own_insK {Z : State} {h h' : Heap} {a : Addr} {C : String} {bo : Bool} {ws : List Addr} (F : Ins Z h a C bo) (K : Keep h h' ws) : Ins Z h' a C bo := by
  obtain ⟨cell, cT, h1, h2, h3⟩ := F
  obtain ⟨c', q1, q2, q3, q4⟩ := K.2.2 a cell h1
  exact ⟨c', cT, q1, h2, by rw [q2, q3]; exact h3⟩
theorem own_atI {c : Cell} {vs : List Value} {d : Value} {ty : FieldType} {j : Int32} (H : Has c vs d) (G : ∀ i, i < c.slots.size → fits ty (vs.getD i d) = true) (q : ¬ (j < 0 ∨ c.slots.size ≤ j.toNatClampNeg)) (ht : ty = .int ∨ ty = .boolean ∨ ty = .byte ∨ ty = .char ∨ ty = .short) : ∃ z, c.slots[j.toNatClampNeg]? = some (.int z) := by
  have hlt := Nat.lt_of_not_le fun y => q (Or.inr y)
  obtain ⟨z, hz⟩ := fit_I (G _ hlt) ht
  exact ⟨z, by rw [H _ hlt, hz]⟩
theorem own_cat {v : Value} (h : v.isRef = true) : v.category = 1 := by cases v <;> simp [Value.isRef, Value.category] at h ⊢
theorem pn_1 : plainName "com/example/firm_ledger/firmledger/diameter/ResultCode" = true := by first | (simp [plainName, overriddenIn]; done) | decide +kernel
theorem d1_0 : decode prog_21_method_2_code 0 = .ok (.lload_n 0, 1) := by decide +kernel
theorem d1_1 : decode prog_21_method_2_code 1 = .ok (.ldc2_w 7, 3) := by decide +kernel
theorem d1_4 : decode prog_21_method_2_code 4 = .ok (.lcmp, 1) := by decide +kernel
theorem d1_5 : decode prog_21_method_2_code 5 = .ok (.ifCond .lt 15, 3) := by decide +kernel
theorem d1_8 : decode prog_21_method_2_code 8 = .ok (.lload_n 0, 1) := by decide +kernel
theorem d1_9 : decode prog_21_method_2_code 9 = .ok (.ldc2_w 9, 3) := by decide +kernel
theorem d1_12 : decode prog_21_method_2_code 12 = .ok (.lcmp, 1) := by decide +kernel
theorem d1_13 : decode prog_21_method_2_code 13 = .ok (.ifCond .ge 7, 3) := by decide +kernel
theorem d1_16 : decode prog_21_method_2_code 16 = .ok (.iconst 1, 1) := by decide +kernel
theorem d1_17 : decode prog_21_method_2_code 17 = .ok (.goto 4, 3) := by decide +kernel
theorem d1_20 : decode prog_21_method_2_code 20 = .ok (.iconst 0, 1) := by decide +kernel
theorem d1_21 : decode prog_21_method_2_code 21 = .ok (.ireturn, 1) := by decide +kernel
theorem ef_1 (m : MethodId) (q1_0 : Int64) : entryFrame m #[(.long q1_0)] 2 = mkF m 0 #[.val (.long q1_0), .second] [] := by first | (simp [entryFrame, mkF, argsToLocals, Value.category]; done) | rfl
def r1 (q1_0 : Int64) : Int32 := (if q1_0 < (3000 : Int64) then (0 : Int32) else (if q1_0 < (4000 : Int64) then (1 : Int32) else (0 : Int32)))
def Q1 (Z : State) (q1_0 : Int64) (h0 : Heap) (n0 : Nat) (v : Option Value) (h : Heap) (L : List Loc) : Prop := v = some (.int (r1 q1_0)) ∧ Fr n0 L ∧ h = h0
set_option maxRecDepth 65536 in
set_option maxHeartbeats 40000000 in
theorem rm1 (l : Launch) (Z : State) (a0 : Array Value) (hw : ∀ d ∈ tables_1, d.before a0 Z = true) (ws : List Jvm.Cond) (q1_0 : Int64) (h0 : Heap) (n0 : Nat) (Z0 : n0 ≤ h0.size) :
    MetFree l (⟨"com/example/firm_ledger/firmledger/diameter/ResultCode", "isProtocolError", "(J)Z"⟩ : MethodName) (head1 (Jvm.Cond.code (⟨"com/example/firm_ledger/firmledger/diameter/ResultCode", "isProtocolError", "(J)Z"⟩ : MethodName) prog_21_method_2_code 2 (some .boolean) :: ws) ({ frames := 0, cells := 0, slots := 0, locals := 0 } : Room)) (fun a U => a = #[(.long q1_0)] ∧ Z.Warmed39 U.vm ∧ U.heap = h0) (fun _ _ _ _ _ => True) (fun _ U o U' => ∃ v L, o = .returned v ∧ Q1 Z q1_0 h0 n0 v U'.heap L ∧ FrameEnd U o U' L ({ frames := 0, cells := 0, slots := 0, locals := 0 } : Room).cells ({ frames := 0, cells := 0, slots := 0, locals := 0 } : Room).slots) := by
  refine MetFree.of_bodySF (plainFor_of_name pn_1) hisR ?_
  intro p e s m args below meth c s₁ Bd hml0 hP hK
  obtain ⟨rfl, hZ, hh⟩ := hP
  have hx := Bd.exec
  have hby := Bd.bytes
  have hml : c.maxLocals = 2 := hml0
  have hown : s.vm.findClass "com/example/firm_ledger/firmledger/diameter/ResultCode" = some m.cls := findClass_of_methodNamed Bd.named
  have hnm := (name_of_methodNamed Bd.named Bd.method).1
  have X0 : Stand p l e ({ frames := 0, cells := 0, slots := 0, locals := 0 } : Room) s m #[(.long q1_0)] below meth c s₁ [] 0 0 := Stand.of_body Bd
  have e0 : s₁.heap = h0 := by rw [← hh, Bd.state]; rfl
  have N0 := Fr.nil n0
  obtain ⟨S0, hS0⟩ : ∃ z, z = s₁.setTop (entryFrame m #[(.long q1_0)] 2) := ⟨_, rfl⟩
  have P0 : own_Go p e below S0 (s₁.setTop (mkF m 0 #[.val (.long q1_0), .second] [])) := fun t k => by rw [hS0]; exact castTop (ef_1 m q1_0) k
  have P1 : own_Go p e below S0 (s₁.setTop (mkF m 5 #[.val (.long q1_0), .second] [(.int (lcmpW q1_0 (3000 : Int64)))])) := fun t k => P0 t (by
    show Steps p.tables e below (s₁.setTop (mkF m 0 #[.val (.long q1_0), .second] [])) t
    refine XS.lloadN X0.here hx rfl (hb hby d1_0) rfl ?_
    show Steps p.tables e below (s₁.setTop (mkF m 1 #[.val (.long q1_0), .second] [(.long q1_0)])) t
    refine X0.ldc2Long hx hown (mvT hZ (hw _ (List.mem_of_getElem? (i := 9) rfl))) (g := (mkF m 1 #[.val (.long q1_0), .second] [(.long q1_0)])) rfl (hb hby d1_1) _ ?_
    refine XS.lcmp X0.here hx rfl (hb hby d1_4) rfl ?_
    show Steps p.tables e below (s₁.setTop (mkF m 5 #[.val (.long q1_0), .second] [(.int (lcmpW q1_0 (3000 : Int64)))])) t
    exact k)
  by_cases c2 : q1_0 < (3000 : Int64)
  · skip
    have P3 : own_Go p e below S0 (s₁.setTop (mkF m 21 #[.val (.long q1_0), .second] [(.int (0 : Int32))])) := fun t k => P1 t (by
      show Steps p.tables e below (s₁.setTop (mkF m 5 #[.val (.long q1_0), .second] [(.int (lcmpW q1_0 (3000 : Int64)))])) t
      refine XS.ifYes X0.here hx rfl (pc0 := 5) (pc' := 20) rfl (hb hby d1_5) rfl ((if0 _ _).trans (tlt ((lw_lt q1_0 (3000 : Int64)).mpr c2)).1) (by decide) (by decide) ?_
      refine XS.iconst X0.here hx rfl (hb hby d1_20) ?_
      show Steps p.tables e below (s₁.setTop (mkF m 21 #[.val (.long q1_0), .second] [(.int (0 : Int32))])) t
      exact k)
    obtain ⟨fs, hr, hrun, hended, hW, hsame⟩ := X0.leave (v := some (.int (0 : Int32))) (fun h => by rw [Bd.returns] at h; cases h)
    refine ⟨_, _, own_from hS0 (P3 _ ?_), hrun, hended, _, _, rfl, ?_, ⟨_, rfl⟩, hW, hsame.mono (by decide) (by decide)⟩
    · show Steps p.tables e below (s₁.setTop (mkF m 21 #[.val (.long q1_0), .second] [(.int (0 : Int32))])) _
      exact retN X0 hx (t := .boolean) Bd.returns (by simp) (hb hby d1_21) hr
    · show Q1 Z q1_0 h0 n0 _ s₁.heap _
      rw [e0]
      exact ⟨(congrArg (fun z => some (Value.int z)) (Eq.symm (if_pos c2))), N0, rfl⟩
  · skip
    have P4 : own_Go p e below S0 (s₁.setTop (mkF m 13 #[.val (.long q1_0), .second] [(.int (lcmpW q1_0 (4000 : Int64)))])) := fun t k => P1 t (by
      show Steps p.tables e below (s₁.setTop (mkF m 5 #[.val (.long q1_0), .second] [(.int (lcmpW q1_0 (3000 : Int64)))])) t
      refine XS.ifNo X0.here hx rfl (hb hby d1_5) rfl ((if0 _ _).trans (flt (fun q => c2 ((lw_lt q1_0 (3000 : Int64)).mp q))).1) ?_
      refine XS.lloadN X0.here hx rfl (hb hby d1_8) rfl ?_
      show Steps p.tables e below (s₁.setTop (mkF m 9 #[.val (.long q1_0), .second] [(.long q1_0)])) t
      refine X0.ldc2Long hx hown (mvT hZ (hw _ (List.mem_of_getElem? (i := 10) rfl))) (g := (mkF m 9 #[.val (.long q1_0), .second] [(.long q1_0)])) rfl (hb hby d1_9) _ ?_
      refine XS.lcmp X0.here hx rfl (hb hby d1_12) rfl ?_
      show Steps p.tables e below (s₁.setTop (mkF m 13 #[.val (.long q1_0), .second] [(.int (lcmpW q1_0 (4000 : Int64)))])) t
      exact k)
    by_cases c5 : q1_0 < (4000 : Int64)
    · skip
      have P6 : own_Go p e below S0 (s₁.setTop (mkF m 21 #[.val (.long q1_0), .second] [(.int (1 : Int32))])) := fun t k => P4 t (by
        show Steps p.tables e below (s₁.setTop (mkF m 13 #[.val (.long q1_0), .second] [(.int (lcmpW q1_0 (4000 : Int64)))])) t
        refine XS.ifNo X0.here hx rfl (hb hby d1_13) rfl ((if0 _ _).trans (tlt ((lw_lt q1_0 (4000 : Int64)).mpr c5)).2.1) ?_
        refine XS.iconst X0.here hx rfl (hb hby d1_16) ?_
        refine XS.goto X0.here hx rfl (pc0 := 17) (pc' := 21) rfl (hb hby d1_17) (by decide) (by decide) ?_
        show Steps p.tables e below (s₁.setTop (mkF m 21 #[.val (.long q1_0), .second] [(.int (1 : Int32))])) t
        exact k)
      obtain ⟨fs, hr, hrun, hended, hW, hsame⟩ := X0.leave (v := some (.int (1 : Int32))) (fun h => by rw [Bd.returns] at h; cases h)
      refine ⟨_, _, own_from hS0 (P6 _ ?_), hrun, hended, _, _, rfl, ?_, ⟨_, rfl⟩, hW, hsame.mono (by decide) (by decide)⟩
      · show Steps p.tables e below (s₁.setTop (mkF m 21 #[.val (.long q1_0), .second] [(.int (1 : Int32))])) _
        exact retN X0 hx (t := .boolean) Bd.returns (by simp) (hb hby d1_21) hr
      · show Q1 Z q1_0 h0 n0 _ s₁.heap _
        rw [e0]
        exact ⟨(congrArg (fun z => some (Value.int z)) (Eq.symm (Eq.trans (if_neg c2) (if_pos c5)))), N0, rfl⟩
    · skip
      have P7 : own_Go p e below S0 (s₁.setTop (mkF m 21 #[.val (.long q1_0), .second] [(.int (0 : Int32))])) := fun t k => P4 t (by
        show Steps p.tables e below (s₁.setTop (mkF m 13 #[.val (.long q1_0), .second] [(.int (lcmpW q1_0 (4000 : Int64)))])) t
        refine XS.ifYes X0.here hx rfl (pc0 := 13) (pc' := 20) rfl (hb hby d1_13) rfl ((if0 _ _).trans (flt (fun q => c5 ((lw_lt q1_0 (4000 : Int64)).mp q))).2.1) (by decide) (by decide) ?_
        refine XS.iconst X0.here hx rfl (hb hby d1_20) ?_
        show Steps p.tables e below (s₁.setTop (mkF m 21 #[.val (.long q1_0), .second] [(.int (0 : Int32))])) t
        exact k)
      obtain ⟨fs, hr, hrun, hended, hW, hsame⟩ := X0.leave (v := some (.int (0 : Int32))) (fun h => by rw [Bd.returns] at h; cases h)
      refine ⟨_, _, own_from hS0 (P7 _ ?_), hrun, hended, _, _, rfl, ?_, ⟨_, rfl⟩, hW, hsame.mono (by decide) (by decide)⟩
      · show Steps p.tables e below (s₁.setTop (mkF m 21 #[.val (.long q1_0), .second] [(.int (0 : Int32))])) _
        exact retN X0 hx (t := .boolean) Bd.returns (by simp) (hb hby d1_21) hr
      · show Q1 Z q1_0 h0 n0 _ s₁.heap _
        rw [e0]
        exact ⟨(congrArg (fun z => some (Value.int z)) (Eq.symm (Eq.trans (if_neg c2) (if_neg c5)))), N0, rfl⟩
theorem own_law (c : Int64) : r1 c = (if c < (0 : Int64) then (0 : Int32) else (if (c / (1000 : Int64)) = (3 : Int64) then (1 : Int32) else (0 : Int32))) := by
  have hd : 0 ≤ c.toInt → (c / (1000 : Int64)).toInt = c.toInt / 1000 := fun h => (c_ldiv c 1000 1000 (by decide) (by decide)).1 h
  have e0 : (0 : Int64).toInt = 0 := by decide
  have e1 : (3000 : Int64).toInt = 3000 := by decide
  have e2 : (4000 : Int64).toInt = 4000 := by decide
  have e3 : (3 : Int64).toInt = 3 := by decide
  unfold r1
  simp only [Int64.lt_iff_toInt_lt, ← Int64.toInt_inj, e0, e1, e2, e3]
  by_cases h0 : c.toInt < 0
  · rw [if_pos h0, if_pos (by omega)]
  · rw [if_neg h0, hd (by omega)]
    repeat' split
    all_goals first | rfl | (exfalso; omega)
theorem pd_0 : parseMethodDescriptor "(J)Z" = some ⟨[.long], some .boolean⟩ := by decide +kernel
theorem pn_0 : plainName "com/example/firm_ledger/firmledger/diameter/ResultCodeIsProtocolErrorPinLaw" = true := by first | (simp [plainName, overriddenIn]; done) | decide +kernel
theorem ef_0 (m : MethodId) (i0 : Int64) (i1 : Int32) : entryFrame m #[(.long i0), (.int i1)] maxLocals = mkF m 0 #[.val (.long i0), .second, .val (.int i1), .unset, .unset, .unset, .unset, .unset, .unset, .unset] [] := by first | (simp [entryFrame, mkF, argsToLocals, Value.category, maxLocals]; done) | rfl
def Q0 (Z : State) (i0 : Int64) (i1 : Int32) (h0 : Heap) (n0 : Nat) (v : Option Value) (h : Heap) (L : List Loc) : Prop := v = some (.int 1) ∧ Fr n0 L
set_option maxRecDepth 65536 in
set_option maxHeartbeats 40000000 in
theorem rm0 (l : Launch) (Z : State) (a0 : Array Value) (hw : ∀ d ∈ tables_1, d.before a0 Z = true) (ws : List Jvm.Cond) (i0 : Int64) (i1 : Int32) (h0 : Heap) (n0 : Nat) (Z0 : n0 ≤ h0.size) :
    MetFree l x (head1 (Jvm.Cond.code x code maxLocals ret :: ws) room_1) (fun a U => a = #[(.long i0), (.int i1)] ∧ Z.Warmed39 U.vm ∧ U.heap = h0) (fun _ _ _ _ _ => True) (fun _ U o U' => ∃ v L, o = .returned v ∧ Q0 Z i0 i1 h0 n0 v U'.heap L ∧ FrameEnd U o U' L room_1.cells room_1.slots) := by
  refine MetFree.of_bodySF (plainFor_of_name pn_0) hisR ?_
  intro p e s m args below meth c s₁ Bd hml0 hP hK
  obtain ⟨rfl, hZ, hh⟩ := hP
  have hx := Bd.exec
  have hby := Bd.bytes
  have hml : c.maxLocals = 10 := hml0
  have hown : s.vm.findClass "com/example/firm_ledger/firmledger/diameter/ResultCodeIsProtocolErrorPinLaw" = some m.cls := findClass_of_methodNamed Bd.named
  have hnm := (name_of_methodNamed Bd.named Bd.method).1
  have X0 : Stand p l e room_1 s m #[(.long i0), (.int i1)] below meth c s₁ [] 0 0 := Stand.of_body Bd
  have e0 : s₁.heap = h0 := by rw [← hh, Bd.state]; rfl
  have N0 := Fr.nil n0
  obtain ⟨S0, hS0⟩ : ∃ z, z = s₁.setTop (entryFrame m #[(.long i0), (.int i1)] maxLocals) := ⟨_, rfl⟩
  have P0 : own_Go p e below S0 (s₁.setTop (mkF m 0 #[.val (.long i0), .second, .val (.int i1), .unset, .unset, .unset, .unset, .unset, .unset, .unset] [])) := fun t k => by rw [hS0]; exact castTop (ef_0 m i0 i1) k
  have P1 : own_Go p e below S0 (s₁.setTop (mkF m 14 #[.val (.long i0), .second, .val (.int i1), .val (.int (i1 &&& (3 : Int32))), .val (.long ((((i1.toUInt32 >>> ((2 : Int32) &&& 31).toUInt32).toInt32) &&& (1023 : Int32)).toInt64)), .second, .unset, .unset, .unset, .unset] [])) := fun t k => P0 t (by
    show Steps p.tables e below (s₁.setTop (mkF m 0 #[.val (.long i0), .second, .val (.int i1), .unset, .unset, .unset, .unset, .unset, .unset, .unset] [])) t
    refine XS.iloadN X0.here hx rfl (hb hby at_0) rfl ?_
    refine XS.iconst X0.here hx rfl (hb hby at_1) ?_
    refine XS.iand X0.here hx rfl (hb hby at_2) rfl ?_
    refine XS.istoreN X0.here hx rfl (hb hby at_3) rfl (l' := #[.val (.long i0), .second, .val (.int i1), .val (.int (i1 &&& (3 : Int32))), .unset, .unset, .unset, .unset, .unset, .unset]) rfl ?_
    refine XS.iloadN X0.here hx rfl (hb hby at_4) rfl ?_
    refine XS.iconst X0.here hx rfl (hb hby at_5) ?_
    show Steps p.tables e below (s₁.setTop (mkF m 6 #[.val (.long i0), .second, .val (.int i1), .val (.int (i1 &&& (3 : Int32))), .unset, .unset, .unset, .unset, .unset, .unset] [(.int (2 : Int32)), (.int i1)])) t
    refine XS.iushr X0.here hx rfl (hb hby at_6) rfl ?_
    refine XS.sipush X0.here hx rfl (hb hby at_7) ?_
    refine XS.iand X0.here hx rfl (hb hby at_10) rfl ?_
    refine XS.i2l X0.here hx rfl (hb hby at_11) rfl ?_
    refine XS.lstore X0.here hx rfl (hb hby at_12) rfl (l' := #[.val (.long i0), .second, .val (.int i1), .val (.int (i1 &&& (3 : Int32))), .val (.long ((((i1.toUInt32 >>> ((2 : Int32) &&& 31).toUInt32).toInt32) &&& (1023 : Int32)).toInt64)), .second, .unset, .unset, .unset, .unset]) rfl ?_
    show Steps p.tables e below (s₁.setTop (mkF m 14 #[.val (.long i0), .second, .val (.int i1), .val (.int (i1 &&& (3 : Int32))), .val (.long ((((i1.toUInt32 >>> ((2 : Int32) &&& 31).toUInt32).toInt32) &&& (1023 : Int32)).toInt64)), .second, .unset, .unset, .unset, .unset] [])) t
    exact k)
  obtain ⟨n2, hn2⟩ : ∃ z : Int64, z = ((((i1.toUInt32 >>> ((2 : Int32) &&& 31).toUInt32).toInt32) &&& (1023 : Int32)).toInt64) := ⟨_, rfl⟩
  have P2 : own_Go p e below S0 (s₁.setTop (mkF m 14 #[.val (.long i0), .second, .val (.int i1), .val (.int (i1 &&& (3 : Int32))), .val (.long n2), .second, .unset, .unset, .unset, .unset] [])) := by rw [hn2]; exact P1
  have P3 : own_Go p e below S0 (s₁.setTop (mkF m 15 #[.val (.long i0), .second, .val (.int i1), .val (.int (i1 &&& (3 : Int32))), .val (.long n2), .second, .unset, .unset, .unset, .unset] [(.int (i1 &&& (3 : Int32)))])) := fun t k => P2 t (by
    show Steps p.tables e below (s₁.setTop (mkF m 14 #[.val (.long i0), .second, .val (.int i1), .val (.int (i1 &&& (3 : Int32))), .val (.long n2), .second, .unset, .unset, .unset, .unset] [])) t
    refine XS.iloadN X0.here hx rfl (hb hby at_14) rfl ?_
    show Steps p.tables e below (s₁.setTop (mkF m 15 #[.val (.long i0), .second, .val (.int i1), .val (.int (i1 &&& (3 : Int32))), .val (.long n2), .second, .unset, .unset, .unset, .unset] [(.int (i1 &&& (3 : Int32)))])) t
    exact k)
  obtain ⟨v13_l6, hv13_l6, P13⟩ : ∃ (v13_l6 : Int64), (v13_l6 = (if (i1 &&& (3 : Int32)) = (0 : Int32) then i0 else (if (i1 &&& (3 : Int32)) = (1 : Int32) then ((2990 : Int64) + (n2 &&& (31 : Int64))) else (if (i1 &&& (3 : Int32)) = (2 : Int32) then ((3990 : Int64) + (n2 &&& (31 : Int64))) else ((3000 : Int64) + n2))))) ∧ (own_Go p e below S0 (s₁.setTop (mkF m 72 #[.val (.long i0), .second, .val (.int i1), .val (.int (i1 &&& (3 : Int32))), .val (.long n2), .second, .val (.long v13_l6), .second, .unset, .unset] []))) := by
    by_cases c4 : (i1 &&& (3 : Int32)) = (0 : Int32)
    · skip
      have P5 : own_Go p e below S0 (s₁.setTop (mkF m 72 #[.val (.long i0), .second, .val (.int i1), .val (.int (i1 &&& (3 : Int32))), .val (.long n2), .second, .val (.long i0), .second, .unset, .unset] [])) := fun t k => P3 t (by
        show Steps p.tables e below (s₁.setTop (mkF m 15 #[.val (.long i0), .second, .val (.int i1), .val (.int (i1 &&& (3 : Int32))), .val (.long n2), .second, .unset, .unset, .unset, .unset] [(.int (i1 &&& (3 : Int32)))])) t
        refine XS.ifNo X0.here hx rfl (hb hby at_15) rfl ((if0 _ _).trans (teq c4).2) ?_
        refine XS.lloadN X0.here hx rfl (hb hby at_18) rfl ?_
        refine XS.lstore X0.here hx rfl (hb hby at_19) rfl (l' := #[.val (.long i0), .second, .val (.int i1), .val (.int (i1 &&& (3 : Int32))), .val (.long n2), .second, .val (.long i0), .second, .unset, .unset]) rfl ?_
        refine XS.goto X0.here hx rfl (pc0 := 21) (pc' := 72) rfl (hb hby at_21) (by decide) (by decide) ?_
        show Steps p.tables e below (s₁.setTop (mkF m 72 #[.val (.long i0), .second, .val (.int i1), .val (.int (i1 &&& (3 : Int32))), .val (.long n2), .second, .val (.long i0), .second, .unset, .unset] [])) t
        exact k)
      exact ⟨i0, (Eq.symm (if_pos c4)), P5⟩
    · skip
      have P6 : own_Go p e below S0 (s₁.setTop (mkF m 26 #[.val (.long i0), .second, .val (.int i1), .val (.int (i1 &&& (3 : Int32))), .val (.long n2), .second, .unset, .unset, .unset, .unset] [(.int (1 : Int32)), (.int (i1 &&& (3 : Int32)))])) := fun t k => P3 t (by
        show Steps p.tables e below (s₁.setTop (mkF m 15 #[.val (.long i0), .second, .val (.int i1), .val (.int (i1 &&& (3 : Int32))), .val (.long n2), .second, .unset, .unset, .unset, .unset] [(.int (i1 &&& (3 : Int32)))])) t
        refine XS.ifYes X0.here hx rfl (pc0 := 15) (pc' := 24) rfl (hb hby at_15) rfl ((if0 _ _).trans (feq c4).2) (by decide) (by decide) ?_
        refine XS.iloadN X0.here hx rfl (hb hby at_24) rfl ?_
        refine XS.iconst X0.here hx rfl (hb hby at_25) ?_
        show Steps p.tables e below (s₁.setTop (mkF m 26 #[.val (.long i0), .second, .val (.int i1), .val (.int (i1 &&& (3 : Int32))), .val (.long n2), .second, .unset, .unset, .unset, .unset] [(.int (1 : Int32)), (.int (i1 &&& (3 : Int32)))])) t
        exact k)
      by_cases c7 : (i1 &&& (3 : Int32)) = (1 : Int32)
      · skip
        have P8 : own_Go p e below S0 (s₁.setTop (mkF m 72 #[.val (.long i0), .second, .val (.int i1), .val (.int (i1 &&& (3 : Int32))), .val (.long n2), .second, .val (.long ((2990 : Int64) + (n2 &&& (31 : Int64)))), .second, .unset, .unset] [])) := fun t k => P6 t (by
          show Steps p.tables e below (s₁.setTop (mkF m 26 #[.val (.long i0), .second, .val (.int i1), .val (.int (i1 &&& (3 : Int32))), .val (.long n2), .second, .unset, .unset, .unset, .unset] [(.int (1 : Int32)), (.int (i1 &&& (3 : Int32)))])) t
          refine XS.icmpNo X0.here hx rfl (hb hby at_26) rfl (teq c7).2 ?_
          show Steps p.tables e below (s₁.setTop (mkF m 29 #[.val (.long i0), .second, .val (.int i1), .val (.int (i1 &&& (3 : Int32))), .val (.long n2), .second, .unset, .unset, .unset, .unset] [])) t
          refine X0.ldc2Long hx hown (mvT hZ (hw _ (List.mem_of_getElem? (i := 16) rfl))) (g := (mkF m 29 #[.val (.long i0), .second, .val (.int i1), .val (.int (i1 &&& (3 : Int32))), .val (.long n2), .second, .unset, .unset, .unset, .unset] [])) rfl (hb hby at_29) _ ?_
          refine XS.lload X0.here hx rfl (hb hby at_32) rfl ?_
          show Steps p.tables e below (s₁.setTop (mkF m 34 #[.val (.long i0), .second, .val (.int i1), .val (.int (i1 &&& (3 : Int32))), .val (.long n2), .second, .unset, .unset, .unset, .unset] [(.long n2), (.long (2990 : Int64))])) t
          refine X0.ldc2Long hx hown (mvT hZ (hw _ (List.mem_of_getElem? (i := 1) rfl))) (g := (mkF m 34 #[.val (.long i0), .second, .val (.int i1), .val (.int (i1 &&& (3 : Int32))), .val (.long n2), .second, .unset, .unset, .unset, .unset] [(.long n2), (.long (2990 : Int64))])) rfl (hb hby at_34) _ ?_
          refine XS.land X0.here hx rfl (hb hby at_37) rfl ?_
          refine XS.ladd X0.here hx rfl (hb hby at_38) rfl ?_
          show Steps p.tables e below (s₁.setTop (mkF m 39 #[.val (.long i0), .second, .val (.int i1), .val (.int (i1 &&& (3 : Int32))), .val (.long n2), .second, .unset, .unset, .unset, .unset] [(.long ((2990 : Int64) + (n2 &&& (31 : Int64))))])) t
          refine XS.lstore X0.here hx rfl (hb hby at_39) rfl (l' := #[.val (.long i0), .second, .val (.int i1), .val (.int (i1 &&& (3 : Int32))), .val (.long n2), .second, .val (.long ((2990 : Int64) + (n2 &&& (31 : Int64)))), .second, .unset, .unset]) rfl ?_
          refine XS.goto X0.here hx rfl (pc0 := 41) (pc' := 72) rfl (hb hby at_41) (by decide) (by decide) ?_
          show Steps p.tables e below (s₁.setTop (mkF m 72 #[.val (.long i0), .second, .val (.int i1), .val (.int (i1 &&& (3 : Int32))), .val (.long n2), .second, .val (.long ((2990 : Int64) + (n2 &&& (31 : Int64)))), .second, .unset, .unset] [])) t
          exact k)
        exact ⟨((2990 : Int64) + (n2 &&& (31 : Int64))), (Eq.symm (Eq.trans (if_neg c4) (if_pos c7))), P8⟩
      · skip
        have P9 : own_Go p e below S0 (s₁.setTop (mkF m 46 #[.val (.long i0), .second, .val (.int i1), .val (.int (i1 &&& (3 : Int32))), .val (.long n2), .second, .unset, .unset, .unset, .unset] [(.int (2 : Int32)), (.int (i1 &&& (3 : Int32)))])) := fun t k => P6 t (by
          show Steps p.tables e below (s₁.setTop (mkF m 26 #[.val (.long i0), .second, .val (.int i1), .val (.int (i1 &&& (3 : Int32))), .val (.long n2), .second, .unset, .unset, .unset, .unset] [(.int (1 : Int32)), (.int (i1 &&& (3 : Int32)))])) t
          refine XS.icmpYes X0.here hx rfl (pc0 := 26) (pc' := 44) rfl (hb hby at_26) rfl (feq c7).2 (by decide) (by decide) ?_
          refine XS.iloadN X0.here hx rfl (hb hby at_44) rfl ?_
          refine XS.iconst X0.here hx rfl (hb hby at_45) ?_
          show Steps p.tables e below (s₁.setTop (mkF m 46 #[.val (.long i0), .second, .val (.int i1), .val (.int (i1 &&& (3 : Int32))), .val (.long n2), .second, .unset, .unset, .unset, .unset] [(.int (2 : Int32)), (.int (i1 &&& (3 : Int32)))])) t
          exact k)
        by_cases c10 : (i1 &&& (3 : Int32)) = (2 : Int32)
        · skip
          have P11 : own_Go p e below S0 (s₁.setTop (mkF m 72 #[.val (.long i0), .second, .val (.int i1), .val (.int (i1 &&& (3 : Int32))), .val (.long n2), .second, .val (.long ((3990 : Int64) + (n2 &&& (31 : Int64)))), .second, .unset, .unset] [])) := fun t k => P9 t (by
            show Steps p.tables e below (s₁.setTop (mkF m 46 #[.val (.long i0), .second, .val (.int i1), .val (.int (i1 &&& (3 : Int32))), .val (.long n2), .second, .unset, .unset, .unset, .unset] [(.int (2 : Int32)), (.int (i1 &&& (3 : Int32)))])) t
            refine XS.icmpNo X0.here hx rfl (hb hby at_46) rfl (teq c10).2 ?_
            show Steps p.tables e below (s₁.setTop (mkF m 49 #[.val (.long i0), .second, .val (.int i1), .val (.int (i1 &&& (3 : Int32))), .val (.long n2), .second, .unset, .unset, .unset, .unset] [])) t
            refine X0.ldc2Long hx hown (mvT hZ (hw _ (List.mem_of_getElem? (i := 0) rfl))) (g := (mkF m 49 #[.val (.long i0), .second, .val (.int i1), .val (.int (i1 &&& (3 : Int32))), .val (.long n2), .second, .unset, .unset, .unset, .unset] [])) rfl (hb hby at_49) _ ?_
            refine XS.lload X0.here hx rfl (hb hby at_52) rfl ?_
            show Steps p.tables e below (s₁.setTop (mkF m 54 #[.val (.long i0), .second, .val (.int i1), .val (.int (i1 &&& (3 : Int32))), .val (.long n2), .second, .unset, .unset, .unset, .unset] [(.long n2), (.long (3990 : Int64))])) t
            refine X0.ldc2Long hx hown (mvT hZ (hw _ (List.mem_of_getElem? (i := 1) rfl))) (g := (mkF m 54 #[.val (.long i0), .second, .val (.int i1), .val (.int (i1 &&& (3 : Int32))), .val (.long n2), .second, .unset, .unset, .unset, .unset] [(.long n2), (.long (3990 : Int64))])) rfl (hb hby at_54) _ ?_
            refine XS.land X0.here hx rfl (hb hby at_57) rfl ?_
            refine XS.ladd X0.here hx rfl (hb hby at_58) rfl ?_
            show Steps p.tables e below (s₁.setTop (mkF m 59 #[.val (.long i0), .second, .val (.int i1), .val (.int (i1 &&& (3 : Int32))), .val (.long n2), .second, .unset, .unset, .unset, .unset] [(.long ((3990 : Int64) + (n2 &&& (31 : Int64))))])) t
            refine XS.lstore X0.here hx rfl (hb hby at_59) rfl (l' := #[.val (.long i0), .second, .val (.int i1), .val (.int (i1 &&& (3 : Int32))), .val (.long n2), .second, .val (.long ((3990 : Int64) + (n2 &&& (31 : Int64)))), .second, .unset, .unset]) rfl ?_
            refine XS.goto X0.here hx rfl (pc0 := 61) (pc' := 72) rfl (hb hby at_61) (by decide) (by decide) ?_
            show Steps p.tables e below (s₁.setTop (mkF m 72 #[.val (.long i0), .second, .val (.int i1), .val (.int (i1 &&& (3 : Int32))), .val (.long n2), .second, .val (.long ((3990 : Int64) + (n2 &&& (31 : Int64)))), .second, .unset, .unset] [])) t
            exact k)
          exact ⟨((3990 : Int64) + (n2 &&& (31 : Int64))), (Eq.symm (Eq.trans (if_neg c4) (Eq.trans (if_neg c7) (if_pos c10)))), P11⟩
        · skip
          have P12 : own_Go p e below S0 (s₁.setTop (mkF m 72 #[.val (.long i0), .second, .val (.int i1), .val (.int (i1 &&& (3 : Int32))), .val (.long n2), .second, .val (.long ((3000 : Int64) + n2)), .second, .unset, .unset] [])) := fun t k => P9 t (by
            show Steps p.tables e below (s₁.setTop (mkF m 46 #[.val (.long i0), .second, .val (.int i1), .val (.int (i1 &&& (3 : Int32))), .val (.long n2), .second, .unset, .unset, .unset, .unset] [(.int (2 : Int32)), (.int (i1 &&& (3 : Int32)))])) t
            refine XS.icmpYes X0.here hx rfl (pc0 := 46) (pc' := 64) rfl (hb hby at_46) rfl (feq c10).2 (by decide) (by decide) ?_
            show Steps p.tables e below (s₁.setTop (mkF m 64 #[.val (.long i0), .second, .val (.int i1), .val (.int (i1 &&& (3 : Int32))), .val (.long n2), .second, .unset, .unset, .unset, .unset] [])) t
            refine X0.ldc2Long hx hown (mvT hZ (hw _ (List.mem_of_getElem? (i := 15) rfl))) (g := (mkF m 64 #[.val (.long i0), .second, .val (.int i1), .val (.int (i1 &&& (3 : Int32))), .val (.long n2), .second, .unset, .unset, .unset, .unset] [])) rfl (hb hby at_64) _ ?_
            refine XS.lload X0.here hx rfl (hb hby at_67) rfl ?_
            refine XS.ladd X0.here hx rfl (hb hby at_69) rfl ?_
            refine XS.lstore X0.here hx rfl (hb hby at_70) rfl (l' := #[.val (.long i0), .second, .val (.int i1), .val (.int (i1 &&& (3 : Int32))), .val (.long n2), .second, .val (.long ((3000 : Int64) + n2)), .second, .unset, .unset]) rfl ?_
            show Steps p.tables e below (s₁.setTop (mkF m 72 #[.val (.long i0), .second, .val (.int i1), .val (.int (i1 &&& (3 : Int32))), .val (.long n2), .second, .val (.long ((3000 : Int64) + n2)), .second, .unset, .unset] [])) t
            exact k)
          exact ⟨((3000 : Int64) + n2), (Eq.symm (Eq.trans (if_neg c4) (Eq.trans (if_neg c7) (if_neg c10)))), P12⟩
  have P14 : own_Go p e below S0 (s₁.setTop (mkF m 76 #[.val (.long i0), .second, .val (.int i1), .val (.int (i1 &&& (3 : Int32))), .val (.long n2), .second, .val (.long v13_l6), .second, .unset, .unset] [(.int (lcmpW v13_l6 (0 : Int64)))])) := fun t k => P13 t (by
    show Steps p.tables e below (s₁.setTop (mkF m 72 #[.val (.long i0), .second, .val (.int i1), .val (.int (i1 &&& (3 : Int32))), .val (.long n2), .second, .val (.long v13_l6), .second, .unset, .unset] [])) t
    refine XS.lload X0.here hx rfl (hb hby at_72) rfl ?_
    refine XS.lconst X0.here hx rfl (hb hby at_74) ?_
    refine XS.lcmp X0.here hx rfl (hb hby at_75) rfl ?_
    show Steps p.tables e below (s₁.setTop (mkF m 76 #[.val (.long i0), .second, .val (.int i1), .val (.int (i1 &&& (3 : Int32))), .val (.long n2), .second, .val (.long v13_l6), .second, .unset, .unset] [(.int (lcmpW v13_l6 (0 : Int64)))])) t
    exact k)
  obtain ⟨v21_s0, hv21_s0, P21⟩ : ∃ (v21_s0 : Int32), (v21_s0 = (if v13_l6 < (0 : Int64) then (0 : Int32) else (if (v13_l6 / (1000 : Int64)) = (3 : Int64) then (1 : Int32) else (0 : Int32)))) ∧ (own_Go p e below S0 (s₁.setTop (mkF m 97 #[.val (.long i0), .second, .val (.int i1), .val (.int (i1 &&& (3 : Int32))), .val (.long n2), .second, .val (.long v13_l6), .second, .unset, .unset] [(.int v21_s0)]))) := by
    by_cases c15 : v13_l6 < (0 : Int64)
    · skip
      have P16 : own_Go p e below S0 (s₁.setTop (mkF m 97 #[.val (.long i0), .second, .val (.int i1), .val (.int (i1 &&& (3 : Int32))), .val (.long n2), .second, .val (.long v13_l6), .second, .unset, .unset] [(.int (0 : Int32))])) := fun t k => P14 t (by
        show Steps p.tables e below (s₁.setTop (mkF m 76 #[.val (.long i0), .second, .val (.int i1), .val (.int (i1 &&& (3 : Int32))), .val (.long n2), .second, .val (.long v13_l6), .second, .unset, .unset] [(.int (lcmpW v13_l6 (0 : Int64)))])) t
        refine XS.ifYes X0.here hx rfl (pc0 := 76) (pc' := 96) rfl (hb hby at_76) rfl ((if0 _ _).trans (tlt ((lw_lt v13_l6 (0 : Int64)).mpr c15)).1) (by decide) (by decide) ?_
        refine XS.iconst X0.here hx rfl (hb hby at_96) ?_
        show Steps p.tables e below (s₁.setTop (mkF m 97 #[.val (.long i0), .second, .val (.int i1), .val (.int (i1 &&& (3 : Int32))), .val (.long n2), .second, .val (.long v13_l6), .second, .unset, .unset] [(.int (0 : Int32))])) t
        exact k)
      exact ⟨(0 : Int32), (Eq.symm (if_pos c15)), P16⟩
    · skip
      have P17 : own_Go p e below S0 (s₁.setTop (mkF m 89 #[.val (.long i0), .second, .val (.int i1), .val (.int (i1 &&& (3 : Int32))), .val (.long n2), .second, .val (.long v13_l6), .second, .unset, .unset] [(.int (lcmpW (v13_l6 / (1000 : Int64)) (3 : Int64)))])) := fun t k => P14 t (by
        show Steps p.tables e below (s₁.setTop (mkF m 76 #[.val (.long i0), .second, .val (.int i1), .val (.int (i1 &&& (3 : Int32))), .val (.long n2), .second, .val (.long v13_l6), .second, .unset, .unset] [(.int (lcmpW v13_l6 (0 : Int64)))])) t
        refine XS.ifNo X0.here hx rfl (hb hby at_76) rfl ((if0 _ _).trans (flt (fun q => c15 ((lw_lt v13_l6 (0 : Int64)).mp q))).1) ?_
        refine XS.lload X0.here hx rfl (hb hby at_79) rfl ?_
        show Steps p.tables e below (s₁.setTop (mkF m 81 #[.val (.long i0), .second, .val (.int i1), .val (.int (i1 &&& (3 : Int32))), .val (.long n2), .second, .val (.long v13_l6), .second, .unset, .unset] [(.long v13_l6)])) t
        refine X0.ldc2Long hx hown (mvT hZ (hw _ (List.mem_of_getElem? (i := 2) rfl))) (g := (mkF m 81 #[.val (.long i0), .second, .val (.int i1), .val (.int (i1 &&& (3 : Int32))), .val (.long n2), .second, .val (.long v13_l6), .second, .unset, .unset] [(.long v13_l6)])) rfl (hb hby at_81) _ ?_
        refine XS.ldiv X0.here hx rfl (hb hby at_84) rfl (by decide) ?_
        show Steps p.tables e below (s₁.setTop (mkF m 85 #[.val (.long i0), .second, .val (.int i1), .val (.int (i1 &&& (3 : Int32))), .val (.long n2), .second, .val (.long v13_l6), .second, .unset, .unset] [(.long (v13_l6 / (1000 : Int64)))])) t
        refine X0.ldc2Long hx hown (mvT hZ (hw _ (List.mem_of_getElem? (i := 3) rfl))) (g := (mkF m 85 #[.val (.long i0), .second, .val (.int i1), .val (.int (i1 &&& (3 : Int32))), .val (.long n2), .second, .val (.long v13_l6), .second, .unset, .unset] [(.long (v13_l6 / (1000 : Int64)))])) rfl (hb hby at_85) _ ?_
        refine XS.lcmp X0.here hx rfl (hb hby at_88) rfl ?_
        show Steps p.tables e below (s₁.setTop (mkF m 89 #[.val (.long i0), .second, .val (.int i1), .val (.int (i1 &&& (3 : Int32))), .val (.long n2), .second, .val (.long v13_l6), .second, .unset, .unset] [(.int (lcmpW (v13_l6 / (1000 : Int64)) (3 : Int64)))])) t
        exact k)
      by_cases c18 : (v13_l6 / (1000 : Int64)) = (3 : Int64)
      · skip
        have P19 : own_Go p e below S0 (s₁.setTop (mkF m 97 #[.val (.long i0), .second, .val (.int i1), .val (.int (i1 &&& (3 : Int32))), .val (.long n2), .second, .val (.long v13_l6), .second, .unset, .unset] [(.int (1 : Int32))])) := fun t k => P17 t (by
          show Steps p.tables e below (s₁.setTop (mkF m 89 #[.val (.long i0), .second, .val (.int i1), .val (.int (i1 &&& (3 : Int32))), .val (.long n2), .second, .val (.long v13_l6), .second, .unset, .unset] [(.int (lcmpW (v13_l6 / (1000 : Int64)) (3 : Int64)))])) t
          refine XS.ifNo X0.here hx rfl (hb hby at_89) rfl ((if0 _ _).trans (teq ((lw_eq (v13_l6 / (1000 : Int64)) (3 : Int64)).mpr c18)).2) ?_
          refine XS.iconst X0.here hx rfl (hb hby at_92) ?_
          refine XS.goto X0.here hx rfl (pc0 := 93) (pc' := 97) rfl (hb hby at_93) (by decide) (by decide) ?_
          show Steps p.tables e below (s₁.setTop (mkF m 97 #[.val (.long i0), .second, .val (.int i1), .val (.int (i1 &&& (3 : Int32))), .val (.long n2), .second, .val (.long v13_l6), .second, .unset, .unset] [(.int (1 : Int32))])) t
          exact k)
        exact ⟨(1 : Int32), (Eq.symm (Eq.trans (if_neg c15) (if_pos c18))), P19⟩
      · skip
        have P20 : own_Go p e below S0 (s₁.setTop (mkF m 97 #[.val (.long i0), .second, .val (.int i1), .val (.int (i1 &&& (3 : Int32))), .val (.long n2), .second, .val (.long v13_l6), .second, .unset, .unset] [(.int (0 : Int32))])) := fun t k => P17 t (by
          show Steps p.tables e below (s₁.setTop (mkF m 89 #[.val (.long i0), .second, .val (.int i1), .val (.int (i1 &&& (3 : Int32))), .val (.long n2), .second, .val (.long v13_l6), .second, .unset, .unset] [(.int (lcmpW (v13_l6 / (1000 : Int64)) (3 : Int64)))])) t
          refine XS.ifYes X0.here hx rfl (pc0 := 89) (pc' := 96) rfl (hb hby at_89) rfl ((if0 _ _).trans (feq (fun q => c18 ((lw_eq (v13_l6 / (1000 : Int64)) (3 : Int64)).mp q))).2) (by decide) (by decide) ?_
          refine XS.iconst X0.here hx rfl (hb hby at_96) ?_
          show Steps p.tables e below (s₁.setTop (mkF m 97 #[.val (.long i0), .second, .val (.int i1), .val (.int (i1 &&& (3 : Int32))), .val (.long n2), .second, .val (.long v13_l6), .second, .unset, .unset] [(.int (0 : Int32))])) t
          exact k)
        exact ⟨(0 : Int32), (Eq.symm (Eq.trans (if_neg c15) (if_neg c18))), P20⟩
  have P22 : own_Go p e below S0 (s₁.setTop (mkF m 102 #[.val (.long i0), .second, .val (.int i1), .val (.int (i1 &&& (3 : Int32))), .val (.long n2), .second, .val (.long v13_l6), .second, .val (.int v21_s0), .unset] [(.long (3001 : Int64))])) := fun t k => P21 t (by
    show Steps p.tables e below (s₁.setTop (mkF m 97 #[.val (.long i0), .second, .val (.int i1), .val (.int (i1 &&& (3 : Int32))), .val (.long n2), .second, .val (.long v13_l6), .second, .unset, .unset] [(.int v21_s0)])) t
    refine XS.istore X0.here hx rfl (hb hby at_97) rfl (l' := #[.val (.long i0), .second, .val (.int i1), .val (.int (i1 &&& (3 : Int32))), .val (.long n2), .second, .val (.long v13_l6), .second, .val (.int v21_s0), .unset]) rfl ?_
    show Steps p.tables e below (s₁.setTop (mkF m 99 #[.val (.long i0), .second, .val (.int i1), .val (.int (i1 &&& (3 : Int32))), .val (.long n2), .second, .val (.long v13_l6), .second, .val (.int v21_s0), .unset] [])) t
    refine X0.ldc2Long hx hown (mvT hZ (hw _ (List.mem_of_getElem? (i := 4) rfl))) (g := (mkF m 99 #[.val (.long i0), .second, .val (.int i1), .val (.int (i1 &&& (3 : Int32))), .val (.long n2), .second, .val (.long v13_l6), .second, .val (.int v21_s0), .unset] [])) rfl (hb hby at_99) _ ?_
    show Steps p.tables e below (s₁.setTop (mkF m 102 #[.val (.long i0), .second, .val (.int i1), .val (.int (i1 &&& (3 : Int32))), .val (.long n2), .second, .val (.long v13_l6), .second, .val (.int v21_s0), .unset] [(.long (3001 : Int64))])) t
    exact k)
  obtain ⟨_, _, ⟨T23, L23, k23, n23⟩, -, X23, ⟨Lc23, hQ23, l23, y23, z23⟩, st23⟩ := Jvm.LawKit.callS X0 hx (y := (⟨"com/example/firm_ledger/firmledger/diameter/ResultCode", "isProtocolError", "(J)Z"⟩ : MethodName)) hown (mvT hZ (hw _ (List.mem_of_getElem? (i := 5) rfl))) (mvT hZ (hw _ (List.mem_of_getElem? (i := 6) rfl))) (mvT hZ (hw _ (List.mem_of_getElem? (i := 7) rfl))) (mvT hZ (hw _ (List.mem_of_getElem? (i := 8) rfl))) (by decide) (backOf (W := 0) (rm1 l Z a0 hw [] (3001 : Int64) h0 n0 Z0) hZ (hw _ (List.mem_of_getElem? (i := 8) rfl)) (hw _ (List.mem_of_getElem? (i := 7) rfl)) (by decide) (by decide)) (g := (mkF m 102 #[.val (.long i0), .second, .val (.int i1), .val (.int (i1 &&& (3 : Int32))), .val (.long n2), .second, .val (.long v13_l6), .second, .val (.int v21_s0), .unset] [(.long (3001 : Int64))])) rfl (by rw [hml]; rfl) (argsL := [(.long (3001 : Int64))]) (rest := []) (lenOf pd_0 rfl) rfl (by show 2 * 0 + _ ≤ _; exact Nat.le_of_eq rfl) (hb hby at_102) (fun _ _ => ⟨rfl, e0, (by decide : 0 + 0 ≤ _), (by decide : 0 + 0 ≤ _)⟩)
  dsimp only [Pt.U, Pt.locs, Pt.cells, Pt.slots] at X23 l23 y23 z23 st23 hQ23
  subst l23 y23 z23
  obtain ⟨rfl, N23q, e23⟩ := hQ23
  have N23 := Fr.app N0 N23q
  have P23 : own_Go p e below S0 (T23.setTop (mkF m 105 #[.val (.long i0), .second, .val (.int i1), .val (.int (i1 &&& (3 : Int32))), .val (.long n2), .second, .val (.long v13_l6), .second, .val (.int v21_s0), .unset] [(.int (r1 (3001 : Int64)))])) := fun t k => P22 t (st23 _ k)
  have c24 : ¬ ((r1 (3001 : Int64)) = (0 : Int32)) := by decide
  have P25 : own_Go p e below S0 (T23.setTop (mkF m 111 #[.val (.long i0), .second, .val (.int i1), .val (.int (i1 &&& (3 : Int32))), .val (.long n2), .second, .val (.long v13_l6), .second, .val (.int v21_s0), .unset] [(.long (3007 : Int64))])) := fun t k => P23 t (by
    show Steps p.tables e below (T23.setTop (mkF m 105 #[.val (.long i0), .second, .val (.int i1), .val (.int (i1 &&& (3 : Int32))), .val (.long n2), .second, .val (.long v13_l6), .second, .val (.int v21_s0), .unset] [(.int (r1 (3001 : Int64)))])) t
    refine XS.ifNo X23.here hx rfl (hb hby at_105) rfl ((if0 _ _).trans (feq c24).1) ?_
    show Steps p.tables e below (T23.setTop (mkF m 108 #[.val (.long i0), .second, .val (.int i1), .val (.int (i1 &&& (3 : Int32))), .val (.long n2), .second, .val (.long v13_l6), .second, .val (.int v21_s0), .unset] [])) t
    refine X23.ldc2Long hx hown (mvT hZ (hw _ (List.mem_of_getElem? (i := 11) rfl))) (g := (mkF m 108 #[.val (.long i0), .second, .val (.int i1), .val (.int (i1 &&& (3 : Int32))), .val (.long n2), .second, .val (.long v13_l6), .second, .val (.int v21_s0), .unset] [])) rfl (hb hby at_108) _ ?_
    show Steps p.tables e below (T23.setTop (mkF m 111 #[.val (.long i0), .second, .val (.int i1), .val (.int (i1 &&& (3 : Int32))), .val (.long n2), .second, .val (.long v13_l6), .second, .val (.int v21_s0), .unset] [(.long (3007 : Int64))])) t
    exact k)
  obtain ⟨_, _, ⟨T26, L26, k26, n26⟩, -, X26, ⟨Lc26, hQ26, l26, y26, z26⟩, st26⟩ := Jvm.LawKit.callS X23 hx (y := (⟨"com/example/firm_ledger/firmledger/diameter/ResultCode", "isProtocolError", "(J)Z"⟩ : MethodName)) hown (mvT hZ (hw _ (List.mem_of_getElem? (i := 5) rfl))) (mvT hZ (hw _ (List.mem_of_getElem? (i := 6) rfl))) (mvT hZ (hw _ (List.mem_of_getElem? (i := 7) rfl))) (mvT hZ (hw _ (List.mem_of_getElem? (i := 8) rfl))) (by decide) (backOf (W := 0) (rm1 l Z a0 hw [] (3007 : Int64) h0 n0 Z0) hZ (hw _ (List.mem_of_getElem? (i := 8) rfl)) (hw _ (List.mem_of_getElem? (i := 7) rfl)) (by decide) (by decide)) (g := (mkF m 111 #[.val (.long i0), .second, .val (.int i1), .val (.int (i1 &&& (3 : Int32))), .val (.long n2), .second, .val (.long v13_l6), .second, .val (.int v21_s0), .unset] [(.long (3007 : Int64))])) rfl (by rw [hml]; rfl) (argsL := [(.long (3007 : Int64))]) (rest := []) (lenOf pd_0 rfl) rfl (by show 2 * 0 + _ ≤ _; exact Nat.le_of_eq rfl) (hb hby at_111) (fun _ _ => ⟨rfl, e23, (by decide : 0 + 0 ≤ _), (by decide : 0 + 0 ≤ _)⟩)
  dsimp only [Pt.U, Pt.locs, Pt.cells, Pt.slots] at X26 l26 y26 z26 st26 hQ26
  subst l26 y26 z26
  obtain ⟨rfl, N26q, e26⟩ := hQ26
  have N26 := Fr.app N23 N26q
  have P26 : own_Go p e below S0 (T26.setTop (mkF m 114 #[.val (.long i0), .second, .val (.int i1), .val (.int (i1 &&& (3 : Int32))), .val (.long n2), .second, .val (.long v13_l6), .second, .val (.int v21_s0), .unset] [(.int (r1 (3007 : Int64)))])) := fun t k => P25 t (st26 _ k)
  have c27 : ¬ ((r1 (3007 : Int64)) = (0 : Int32)) := by decide
  have P28 : own_Go p e below S0 (T26.setTop (mkF m 120 #[.val (.long i0), .second, .val (.int i1), .val (.int (i1 &&& (3 : Int32))), .val (.long n2), .second, .val (.long v13_l6), .second, .val (.int v21_s0), .unset] [(.long (2001 : Int64))])) := fun t k => P26 t (by
    show Steps p.tables e below (T26.setTop (mkF m 114 #[.val (.long i0), .second, .val (.int i1), .val (.int (i1 &&& (3 : Int32))), .val (.long n2), .second, .val (.long v13_l6), .second, .val (.int v21_s0), .unset] [(.int (r1 (3007 : Int64)))])) t
    refine XS.ifNo X26.here hx rfl (hb hby at_114) rfl ((if0 _ _).trans (feq c27).1) ?_
    show Steps p.tables e below (T26.setTop (mkF m 117 #[.val (.long i0), .second, .val (.int i1), .val (.int (i1 &&& (3 : Int32))), .val (.long n2), .second, .val (.long v13_l6), .second, .val (.int v21_s0), .unset] [])) t
    refine X26.ldc2Long hx hown (mvT hZ (hw _ (List.mem_of_getElem? (i := 12) rfl))) (g := (mkF m 117 #[.val (.long i0), .second, .val (.int i1), .val (.int (i1 &&& (3 : Int32))), .val (.long n2), .second, .val (.long v13_l6), .second, .val (.int v21_s0), .unset] [])) rfl (hb hby at_117) _ ?_
    show Steps p.tables e below (T26.setTop (mkF m 120 #[.val (.long i0), .second, .val (.int i1), .val (.int (i1 &&& (3 : Int32))), .val (.long n2), .second, .val (.long v13_l6), .second, .val (.int v21_s0), .unset] [(.long (2001 : Int64))])) t
    exact k)
  obtain ⟨_, _, ⟨T29, L29, k29, n29⟩, -, X29, ⟨Lc29, hQ29, l29, y29, z29⟩, st29⟩ := Jvm.LawKit.callS X26 hx (y := (⟨"com/example/firm_ledger/firmledger/diameter/ResultCode", "isProtocolError", "(J)Z"⟩ : MethodName)) hown (mvT hZ (hw _ (List.mem_of_getElem? (i := 5) rfl))) (mvT hZ (hw _ (List.mem_of_getElem? (i := 6) rfl))) (mvT hZ (hw _ (List.mem_of_getElem? (i := 7) rfl))) (mvT hZ (hw _ (List.mem_of_getElem? (i := 8) rfl))) (by decide) (backOf (W := 0) (rm1 l Z a0 hw [] (2001 : Int64) h0 n0 Z0) hZ (hw _ (List.mem_of_getElem? (i := 8) rfl)) (hw _ (List.mem_of_getElem? (i := 7) rfl)) (by decide) (by decide)) (g := (mkF m 120 #[.val (.long i0), .second, .val (.int i1), .val (.int (i1 &&& (3 : Int32))), .val (.long n2), .second, .val (.long v13_l6), .second, .val (.int v21_s0), .unset] [(.long (2001 : Int64))])) rfl (by rw [hml]; rfl) (argsL := [(.long (2001 : Int64))]) (rest := []) (lenOf pd_0 rfl) rfl (by show 2 * 0 + _ ≤ _; exact Nat.le_of_eq rfl) (hb hby at_120) (fun _ _ => ⟨rfl, e26, (by decide : 0 + 0 ≤ _), (by decide : 0 + 0 ≤ _)⟩)
  dsimp only [Pt.U, Pt.locs, Pt.cells, Pt.slots] at X29 l29 y29 z29 st29 hQ29
  subst l29 y29 z29
  obtain ⟨rfl, N29q, e29⟩ := hQ29
  have N29 := Fr.app N26 N29q
  have P29 : own_Go p e below S0 (T29.setTop (mkF m 123 #[.val (.long i0), .second, .val (.int i1), .val (.int (i1 &&& (3 : Int32))), .val (.long n2), .second, .val (.long v13_l6), .second, .val (.int v21_s0), .unset] [(.int (r1 (2001 : Int64)))])) := fun t k => P28 t (st29 _ k)
  have c30 : (r1 (2001 : Int64)) = (0 : Int32) := by decide
  have P31 : own_Go p e below S0 (T29.setTop (mkF m 129 #[.val (.long i0), .second, .val (.int i1), .val (.int (i1 &&& (3 : Int32))), .val (.long n2), .second, .val (.long v13_l6), .second, .val (.int v21_s0), .unset] [(.long (4012 : Int64))])) := fun t k => P29 t (by
    show Steps p.tables e below (T29.setTop (mkF m 123 #[.val (.long i0), .second, .val (.int i1), .val (.int (i1 &&& (3 : Int32))), .val (.long n2), .second, .val (.long v13_l6), .second, .val (.int v21_s0), .unset] [(.int (r1 (2001 : Int64)))])) t
    refine XS.ifNo X29.here hx rfl (hb hby at_123) rfl ((if0 _ _).trans (teq c30).2) ?_
    show Steps p.tables e below (T29.setTop (mkF m 126 #[.val (.long i0), .second, .val (.int i1), .val (.int (i1 &&& (3 : Int32))), .val (.long n2), .second, .val (.long v13_l6), .second, .val (.int v21_s0), .unset] [])) t
    refine X29.ldc2Long hx hown (mvT hZ (hw _ (List.mem_of_getElem? (i := 13) rfl))) (g := (mkF m 126 #[.val (.long i0), .second, .val (.int i1), .val (.int (i1 &&& (3 : Int32))), .val (.long n2), .second, .val (.long v13_l6), .second, .val (.int v21_s0), .unset] [])) rfl (hb hby at_126) _ ?_
    show Steps p.tables e below (T29.setTop (mkF m 129 #[.val (.long i0), .second, .val (.int i1), .val (.int (i1 &&& (3 : Int32))), .val (.long n2), .second, .val (.long v13_l6), .second, .val (.int v21_s0), .unset] [(.long (4012 : Int64))])) t
    exact k)
  obtain ⟨_, _, ⟨T32, L32, k32, n32⟩, -, X32, ⟨Lc32, hQ32, l32, y32, z32⟩, st32⟩ := Jvm.LawKit.callS X29 hx (y := (⟨"com/example/firm_ledger/firmledger/diameter/ResultCode", "isProtocolError", "(J)Z"⟩ : MethodName)) hown (mvT hZ (hw _ (List.mem_of_getElem? (i := 5) rfl))) (mvT hZ (hw _ (List.mem_of_getElem? (i := 6) rfl))) (mvT hZ (hw _ (List.mem_of_getElem? (i := 7) rfl))) (mvT hZ (hw _ (List.mem_of_getElem? (i := 8) rfl))) (by decide) (backOf (W := 0) (rm1 l Z a0 hw [] (4012 : Int64) h0 n0 Z0) hZ (hw _ (List.mem_of_getElem? (i := 8) rfl)) (hw _ (List.mem_of_getElem? (i := 7) rfl)) (by decide) (by decide)) (g := (mkF m 129 #[.val (.long i0), .second, .val (.int i1), .val (.int (i1 &&& (3 : Int32))), .val (.long n2), .second, .val (.long v13_l6), .second, .val (.int v21_s0), .unset] [(.long (4012 : Int64))])) rfl (by rw [hml]; rfl) (argsL := [(.long (4012 : Int64))]) (rest := []) (lenOf pd_0 rfl) rfl (by show 2 * 0 + _ ≤ _; exact Nat.le_of_eq rfl) (hb hby at_129) (fun _ _ => ⟨rfl, e29, (by decide : 0 + 0 ≤ _), (by decide : 0 + 0 ≤ _)⟩)
  dsimp only [Pt.U, Pt.locs, Pt.cells, Pt.slots] at X32 l32 y32 z32 st32 hQ32
  subst l32 y32 z32
  obtain ⟨rfl, N32q, e32⟩ := hQ32
  have N32 := Fr.app N29 N32q
  have P32 : own_Go p e below S0 (T32.setTop (mkF m 132 #[.val (.long i0), .second, .val (.int i1), .val (.int (i1 &&& (3 : Int32))), .val (.long n2), .second, .val (.long v13_l6), .second, .val (.int v21_s0), .unset] [(.int (r1 (4012 : Int64)))])) := fun t k => P31 t (st32 _ k)
  have c33 : (r1 (4012 : Int64)) = (0 : Int32) := by decide
  have P34 : own_Go p e below S0 (T32.setTop (mkF m 138 #[.val (.long i0), .second, .val (.int i1), .val (.int (i1 &&& (3 : Int32))), .val (.long n2), .second, .val (.long v13_l6), .second, .val (.int v21_s0), .unset] [(.long (5012 : Int64))])) := fun t k => P32 t (by
    show Steps p.tables e below (T32.setTop (mkF m 132 #[.val (.long i0), .second, .val (.int i1), .val (.int (i1 &&& (3 : Int32))), .val (.long n2), .second, .val (.long v13_l6), .second, .val (.int v21_s0), .unset] [(.int (r1 (4012 : Int64)))])) t
    refine XS.ifNo X32.here hx rfl (hb hby at_132) rfl ((if0 _ _).trans (teq c33).2) ?_
    show Steps p.tables e below (T32.setTop (mkF m 135 #[.val (.long i0), .second, .val (.int i1), .val (.int (i1 &&& (3 : Int32))), .val (.long n2), .second, .val (.long v13_l6), .second, .val (.int v21_s0), .unset] [])) t
    refine X32.ldc2Long hx hown (mvT hZ (hw _ (List.mem_of_getElem? (i := 14) rfl))) (g := (mkF m 135 #[.val (.long i0), .second, .val (.int i1), .val (.int (i1 &&& (3 : Int32))), .val (.long n2), .second, .val (.long v13_l6), .second, .val (.int v21_s0), .unset] [])) rfl (hb hby at_135) _ ?_
    show Steps p.tables e below (T32.setTop (mkF m 138 #[.val (.long i0), .second, .val (.int i1), .val (.int (i1 &&& (3 : Int32))), .val (.long n2), .second, .val (.long v13_l6), .second, .val (.int v21_s0), .unset] [(.long (5012 : Int64))])) t
    exact k)
  obtain ⟨_, _, ⟨T35, L35, k35, n35⟩, -, X35, ⟨Lc35, hQ35, l35, y35, z35⟩, st35⟩ := Jvm.LawKit.callS X32 hx (y := (⟨"com/example/firm_ledger/firmledger/diameter/ResultCode", "isProtocolError", "(J)Z"⟩ : MethodName)) hown (mvT hZ (hw _ (List.mem_of_getElem? (i := 5) rfl))) (mvT hZ (hw _ (List.mem_of_getElem? (i := 6) rfl))) (mvT hZ (hw _ (List.mem_of_getElem? (i := 7) rfl))) (mvT hZ (hw _ (List.mem_of_getElem? (i := 8) rfl))) (by decide) (backOf (W := 0) (rm1 l Z a0 hw [] (5012 : Int64) h0 n0 Z0) hZ (hw _ (List.mem_of_getElem? (i := 8) rfl)) (hw _ (List.mem_of_getElem? (i := 7) rfl)) (by decide) (by decide)) (g := (mkF m 138 #[.val (.long i0), .second, .val (.int i1), .val (.int (i1 &&& (3 : Int32))), .val (.long n2), .second, .val (.long v13_l6), .second, .val (.int v21_s0), .unset] [(.long (5012 : Int64))])) rfl (by rw [hml]; rfl) (argsL := [(.long (5012 : Int64))]) (rest := []) (lenOf pd_0 rfl) rfl (by show 2 * 0 + _ ≤ _; exact Nat.le_of_eq rfl) (hb hby at_138) (fun _ _ => ⟨rfl, e32, (by decide : 0 + 0 ≤ _), (by decide : 0 + 0 ≤ _)⟩)
  dsimp only [Pt.U, Pt.locs, Pt.cells, Pt.slots] at X35 l35 y35 z35 st35 hQ35
  subst l35 y35 z35
  obtain ⟨rfl, N35q, e35⟩ := hQ35
  have N35 := Fr.app N32 N35q
  have P35 : own_Go p e below S0 (T35.setTop (mkF m 141 #[.val (.long i0), .second, .val (.int i1), .val (.int (i1 &&& (3 : Int32))), .val (.long n2), .second, .val (.long v13_l6), .second, .val (.int v21_s0), .unset] [(.int (r1 (5012 : Int64)))])) := fun t k => P34 t (st35 _ k)
  have c36 : (r1 (5012 : Int64)) = (0 : Int32) := by decide
  have P37 : own_Go p e below S0 (T35.setTop (mkF m 158 #[.val (.long i0), .second, .val (.int i1), .val (.int (i1 &&& (3 : Int32))), .val (.long n2), .second, .val (.long v13_l6), .second, .val (.int v21_s0), .val (.int (1 : Int32))] [(.long v13_l6)])) := fun t k => P35 t (by
    show Steps p.tables e below (T35.setTop (mkF m 141 #[.val (.long i0), .second, .val (.int i1), .val (.int (i1 &&& (3 : Int32))), .val (.long n2), .second, .val (.long v13_l6), .second, .val (.int v21_s0), .unset] [(.int (r1 (5012 : Int64)))])) t
    refine XS.ifNo X35.here hx rfl (hb hby at_141) rfl ((if0 _ _).trans (teq c36).2) ?_
    refine XS.iconst X35.here hx rfl (hb hby at_144) ?_
    refine XS.goto X35.here hx rfl (pc0 := 145) (pc' := 149) rfl (hb hby at_145) (by decide) (by decide) ?_
    refine XS.istore X35.here hx rfl (hb hby at_149) rfl (l' := #[.val (.long i0), .second, .val (.int i1), .val (.int (i1 &&& (3 : Int32))), .val (.long n2), .second, .val (.long v13_l6), .second, .val (.int v21_s0), .val (.int (1 : Int32))]) rfl ?_
    refine XS.iload X35.here hx rfl (hb hby at_151) rfl ?_
    refine XS.ifNo X35.here hx rfl (hb hby at_153) rfl ((if0 _ _).trans (feq (by decide)).1) ?_
    show Steps p.tables e below (T35.setTop (mkF m 156 #[.val (.long i0), .second, .val (.int i1), .val (.int (i1 &&& (3 : Int32))), .val (.long n2), .second, .val (.long v13_l6), .second, .val (.int v21_s0), .val (.int (1 : Int32))] [])) t
    refine XS.lload X35.here hx rfl (hb hby at_156) rfl ?_
    show Steps p.tables e below (T35.setTop (mkF m 158 #[.val (.long i0), .second, .val (.int i1), .val (.int (i1 &&& (3 : Int32))), .val (.long n2), .second, .val (.long v13_l6), .second, .val (.int v21_s0), .val (.int (1 : Int32))] [(.long v13_l6)])) t
    exact k)
  obtain ⟨_, _, ⟨T38, L38, k38, n38⟩, -, X38, ⟨Lc38, hQ38, l38, y38, z38⟩, st38⟩ := Jvm.LawKit.callS X35 hx (y := (⟨"com/example/firm_ledger/firmledger/diameter/ResultCode", "isProtocolError", "(J)Z"⟩ : MethodName)) hown (mvT hZ (hw _ (List.mem_of_getElem? (i := 5) rfl))) (mvT hZ (hw _ (List.mem_of_getElem? (i := 6) rfl))) (mvT hZ (hw _ (List.mem_of_getElem? (i := 7) rfl))) (mvT hZ (hw _ (List.mem_of_getElem? (i := 8) rfl))) (by decide) (backOf (W := 0) (rm1 l Z a0 hw [] v13_l6 h0 n0 Z0) hZ (hw _ (List.mem_of_getElem? (i := 8) rfl)) (hw _ (List.mem_of_getElem? (i := 7) rfl)) (by decide) (by decide)) (g := (mkF m 158 #[.val (.long i0), .second, .val (.int i1), .val (.int (i1 &&& (3 : Int32))), .val (.long n2), .second, .val (.long v13_l6), .second, .val (.int v21_s0), .val (.int (1 : Int32))] [(.long v13_l6)])) rfl (by rw [hml]; rfl) (argsL := [(.long v13_l6)]) (rest := []) (lenOf pd_0 rfl) rfl (by show 2 * 0 + _ ≤ _; exact Nat.le_of_eq rfl) (hb hby at_158) (fun _ _ => ⟨rfl, e35, (by decide : 0 + 0 ≤ _), (by decide : 0 + 0 ≤ _)⟩)
  dsimp only [Pt.U, Pt.locs, Pt.cells, Pt.slots] at X38 l38 y38 z38 st38 hQ38
  subst l38 y38 z38
  obtain ⟨rfl, N38q, e38⟩ := hQ38
  have N38 := Fr.app N35 N38q
  have P38 : own_Go p e below S0 (T38.setTop (mkF m 161 #[.val (.long i0), .second, .val (.int i1), .val (.int (i1 &&& (3 : Int32))), .val (.long n2), .second, .val (.long v13_l6), .second, .val (.int v21_s0), .val (.int (1 : Int32))] [(.int (r1 v13_l6))])) := fun t k => P37 t (st38 _ k)
  have c39 : (r1 v13_l6) = v21_s0 := (own_law _).trans (Eq.symm hv21_s0)
  have P40 : own_Go p e below S0 (T38.setTop (mkF m 171 #[.val (.long i0), .second, .val (.int i1), .val (.int (i1 &&& (3 : Int32))), .val (.long n2), .second, .val (.long v13_l6), .second, .val (.int v21_s0), .val (.int (1 : Int32))] [(.int (1 : Int32))])) := fun t k => P38 t (by
    show Steps p.tables e below (T38.setTop (mkF m 161 #[.val (.long i0), .second, .val (.int i1), .val (.int (i1 &&& (3 : Int32))), .val (.long n2), .second, .val (.long v13_l6), .second, .val (.int v21_s0), .val (.int (1 : Int32))] [(.int (r1 v13_l6))])) t
    refine XS.iload X38.here hx rfl (hb hby at_161) rfl ?_
    refine XS.icmpNo X38.here hx rfl (hb hby at_163) rfl (teq c39).2 ?_
    refine XS.iconst X38.here hx rfl (hb hby at_166) ?_
    refine XS.goto X38.here hx rfl (pc0 := 167) (pc' := 171) rfl (hb hby at_167) (by decide) (by decide) ?_
    show Steps p.tables e below (T38.setTop (mkF m 171 #[.val (.long i0), .second, .val (.int i1), .val (.int (i1 &&& (3 : Int32))), .val (.long n2), .second, .val (.long v13_l6), .second, .val (.int v21_s0), .val (.int (1 : Int32))] [(.int (1 : Int32))])) t
    exact k)
  obtain ⟨fs, hr, hrun, hended, hW, hsame⟩ := X38.leave (v := some (.int (1 : Int32))) (fun h => by rw [Bd.returns] at h; cases h)
  refine ⟨_, _, own_from hS0 (P40 _ ?_), hrun, hended, _, _, rfl, ?_, ⟨_, rfl⟩, hW, hsame.mono (by decide) (by decide)⟩
  · show Steps p.tables e below (T38.setTop (mkF m 171 #[.val (.long i0), .second, .val (.int i1), .val (.int (i1 &&& (3 : Int32))), .val (.long n2), .second, .val (.long v13_l6), .second, .val (.int v21_s0), .val (.int (1 : Int32))] [(.int (1 : Int32))])) _
    exact retN X38 hx (t := .boolean) Bd.returns (by simp) (hb hby at_171) hr
  · show Q0 Z i0 i1 h0 n0 _ T38.heap _
    rw [e38]
    exact ⟨rfl, N38⟩
set_option maxRecDepth 65536 in
set_option maxHeartbeats 40000000 in
theorem comes_1 {Post : Tables → Env → Array Value → State → Outcome → State → Prop} (hpost : ∀ tb e args s v u, (limb_1_1.after args s (.returned v) u = true ∧ limb_1_2.after args s (.returned v) u = true ∧ True) → FrameEnd s (.returned v) u (Jvm.fieldLocs frame_1_writes args s ++ Jvm.arrayLocs frame_1_arrays args s ++ Jvm.staticLocs frame_1_statics s) 0 0 → Post tb e args s (.returned v) u) :
    ArmFor flags0 classFile x code maxLocals ret World_1 tables_1 room_1 Calls_1 rest_1 Pre_1 Post := by
  intro l hfl _ _ p e ha hc hk s m args below hf hA hF happ hP
  obtain ⟨hcalls, hrest, hpre⟩ := hP
  obtain ⟨-, -, -, hnamed, -, -, -, hat⟩ := (Spec.applies_iff hf).mp happ
  obtain ⟨hg, hn⟩ := and_e (Cond.before_iff.mp (show (Jvm.Cond.and given_1 narrow_1).before args s = true from hpre))
  obtain ⟨ga1, gb1⟩ := and_e hg
  obtain ⟨ga2, gb2⟩ := and_e gb1
  obtain ⟨w0, w1, rfl⟩ : ∃ w0 w1 : Value, args = #[w0, w1] := by
    have hs : args.size = 2 := by simpa [Cond.value, given_1] using ga1
    obtain ⟨L⟩ := args
    match L, hs with
    | [w0, w1], _ => exact ⟨w0, w1, rfl⟩
  have hw := fun d (hd : d ∈ tables_1) => atoms_spec (ws := Jvm.Cond.code x code maxLocals ret :: tables_1) hat d (List.mem_cons_of_mem _ hd)
  have hfit : Fit s := fun {y c} hc i hi => by
    obtain ⟨ha, rfl⟩ := Array.getElem?_eq_some_iff.mp hc
    have q := List.all_eq_true.mp ((Array.all_eq_true_iff_forall_mem.mp hF) _ (Array.getElem_mem ha)) i (List.mem_range.mpr hi)
    simpa [Array.getElem?_eq_getElem hi] using q
  obtain ⟨i0, ei0⟩ := isL_v ga2
  obtain rfl : w0 = (.long i0) := Option.some.inj ei0
  obtain ⟨i1, ei1⟩ := is_v gb2
  obtain rfl : w1 = (.int i1) := Option.some.inj ei1
  obtain ⟨n, o, h1, h2, h3, _, L, rfl, ⟨rfl, N⟩, hq⟩ := rm0 l s _ hw tables_1 i0 i1 s.heap s.heap.size (Nat.le_refl _) p e ha hc hk s m _ below hf ((Spec.applies_iff_loose hf).mp happ).1 ⟨rfl, State.Warmed39.refl s, rfl⟩ trivial
  refine ⟨n, _, h1, h2, h3, hpost _ _ _ _ _ _ ⟨Cond.after_iff.mpr rfl, Cond.after_iff.mpr (eq_i res_at (Term.int_eval (1)) rfl), trivial⟩ ⟨hq.1, hq.2.1, (hq.2.2.sift fun y hy => Or.inr (N y hy)).mono (by decide) (by decide)⟩⟩
theorem main_1_1 : Claimed_1_1 := comes_1 fun _ _ _ _ _ _ h hF => ⟨h.1, hF⟩
theorem main_1_2 : Claimed_1_2 := comes_1 fun _ _ _ _ _ _ h hF => ⟨h.2.1, hF⟩
end Jvm.Pilot.@@N@@
namespace Jvm.Pilot.@@N@@
open Jvm Jvm.ClassFile Sem Op Lib Jvm.Free Jvm.Stand Jvm.Pilot.@@N@@.Jvm.D
/-! MADE BY PROGRAM (witnessworld.py) out of the Statement's table words and the real class files: 9 classes; the members and pool entries that the words name. The judged class is class 1, her method 1. -/
namespace start1
open Jvm.ClassFile
def u (s : String) : CpInfo := .utf8 (stringToUtf16 s)
/-- a pool by its gaps: so many unusable entries, then the entry; so many at the end -/
def gap : Nat → List CpInfo → List CpInfo
  | 0, r => r
  | n + 1, r => .unusable :: gap n r
def poolList (es : List (Nat × CpInfo)) (last : Nat) : List CpInfo := es.foldr (fun e r => gap e.1 (e.2 :: r)) (gap last [])
def pool (es : List (Nat × CpInfo)) (last : Nat) : Array CpInfo := ⟨poolList es last⟩
def fileOf (pool : Array CpInfo) (this : Nat) (attrs : Array Attribute := #[]) (ms : Array MethodInfo := #[]) (fl : Nat := 33) (sup : Nat := 0) (ifs : Array Nat := #[]) (fds : Array FieldInfo := #[]) : ClassFile where
  minorVersion := 0
  majorVersion := 65
  constantPool := pool
  accessFlags := fl
  thisClass := this
  superClass := sup
  interfaces := ifs
  fields := fds
  methods := ms
  attributes := attrs
def plain (name : String) (sup : Option ClassId) : Class where
  name := name
  kind := .ordinary
  loader := none
  accessFlags := 33
  super := sup
  interfaces := #[]
  cf := none
  fields := #[]
  methods := #[]
  instanceTypes := #[]
  staticTypes := #[]
  resolved := #[]
  callSites := []
  init := .initialized
  statics := none
  mirror := none

def pool0 : Array CpInfo := pool [(5, u "<init>"), (0, u "()V"), (1, .class_ 10), (1, u "java/lang/Object")] 113

def k0m0 : Method := { name := "<init>", desc := "()V", sig := { parameters := [], returnType := none }, accessFlags := 1, code := none }
/-- java/lang/Object -/
def k0 : Class := { plain "java/lang/Object" none with
  accessFlags := 33
  interfaces := #[]
  cf := some (fileOf pool0 8 #[] #[{ accessFlags := 1, nameIndex := 5, descriptorIndex := 6, attributes := #[] }] 33 0 #[] #[])
  fields := #[]
  methods := #[k0m0]
  instanceTypes := #[]
  staticTypes := #[]
  resolved := Array.replicate 124 none
  statics := none }

def pool1 : Array CpInfo := pool [(2, .class_ 4), (1, u "java/lang/Object"), (0, u "<init>"), (0, u "()V"), (0, .long 2990), (1, .long 31), (1, .long 3990), (1, .long 3000), (1, .long 1000), (1, .long 3), (1, .class_ 20), (0, u "com/example/firm_ledger/firmledger/diameter/ResultCode"), (0, .long 3001), (1, .methodref 19 24), (0, .nameAndType 25 26), (0, u "isProtocolError"), (0, u "(J)Z"), (0, .long 3007), (1, .long 2001), (1, .long 4012), (1, .long 5012), (1, .class_ 36), (0, u "com/example/firm_ledger/firmledger/diameter/ResultCodeIsProtocolErrorPinLaw"), (2, u "law"), (0, u "(JI)Z")] 3

def k1m0 : Method := { name := "<init>", desc := "()V", sig := { parameters := [], returnType := none }, accessFlags := 1, code := none }
def k1c1 : Code := { maxStack := 6, maxLocals := 10, code := code, exceptionTable := #[], attributes := #[] }
def k1m1 : Method := { name := "law", desc := "(JI)Z", sig := { parameters := [.long, .int], returnType := some .boolean }, accessFlags := 9, code := some k1c1 }
/-- com/example/firm_ledger/firmledger/diameter/ResultCodeIsProtocolErrorPinLaw -/
def k1 : Class := { plain "com/example/firm_ledger/firmledger/diameter/ResultCodeIsProtocolErrorPinLaw" (some 0) with
  accessFlags := 49
  interfaces := #[]
  cf := some (fileOf pool1 35 #[] #[{ accessFlags := 1, nameIndex := 5, descriptorIndex := 6, attributes := #[] }, { accessFlags := 9, nameIndex := 39, descriptorIndex := 40, attributes := #[] }] 49 2 #[] #[])
  fields := #[]
  methods := #[k1m0, k1m1]
  instanceTypes := #[]
  staticTypes := #[]
  resolved := Array.replicate 44 none
  statics := none }

def pool2 : Array CpInfo := pool [(2, .class_ 4), (1, u "java/lang/Object"), (0, u "<init>"), (0, u "()V"), (0, .long 3000), (1, .long 4000), (1, .class_ 12), (0, u "com/example/firm_ledger/firmledger/diameter/ResultCode"), (0, u "SUCCESS"), (0, u "J"), (3, u "COMMAND_UNSUPPORTED"), (2, u "APPLICATION_UNSUPPORTED"), (2, u "CREDIT_LIMIT_REACHED"), (2, u "AVP_UNSUPPORTED"), (2, u "UNKNOWN_SESSION_ID"), (2, u "INVALID_AVP_VALUE"), (2, u "MISSING_AVP"), (2, u "NO_COMMON_APPLICATION"), (2, u "UNABLE_TO_COMPLY"), (2, u "INVALID_AVP_LENGTH"), (2, u "USER_UNKNOWN"), (2, u "RATING_FAILED"), (4, u "isProtocolError"), (0, u "(J)Z")] 3

def k2m0 : Method := { name := "<init>", desc := "()V", sig := { parameters := [], returnType := none }, accessFlags := 2, code := none }
def k2c1 : Code := { maxStack := 4, maxLocals := 2, code := prog_21_method_2_code, exceptionTable := #[], attributes := #[] }
def k2m1 : Method := { name := "isProtocolError", desc := "(J)Z", sig := { parameters := [.long], returnType := some .boolean }, accessFlags := 9, code := some k2c1 }
/-- com/example/firm_ledger/firmledger/diameter/ResultCode -/
def k2 : Class := { plain "com/example/firm_ledger/firmledger/diameter/ResultCode" (some 0) with
  accessFlags := 33
  interfaces := #[]
  cf := some (fileOf pool2 11 #[] #[{ accessFlags := 2, nameIndex := 5, descriptorIndex := 6, attributes := #[] }, { accessFlags := 9, nameIndex := 56, descriptorIndex := 57, attributes := #[] }] 33 2 #[] #[{ accessFlags := 25, nameIndex := 13, descriptorIndex := 14, attributes := #[] }, { accessFlags := 25, nameIndex := 18, descriptorIndex := 14, attributes := #[] }, { accessFlags := 25, nameIndex := 21, descriptorIndex := 14, attributes := #[] }, { accessFlags := 25, nameIndex := 24, descriptorIndex := 14, attributes := #[] }, { accessFlags := 25, nameIndex := 27, descriptorIndex := 14, attributes := #[] }, { accessFlags := 25, nameIndex := 30, descriptorIndex := 14, attributes := #[] }, { accessFlags := 25, nameIndex := 33, descriptorIndex := 14, attributes := #[] }, { accessFlags := 25, nameIndex := 36, descriptorIndex := 14, attributes := #[] }, { accessFlags := 25, nameIndex := 39, descriptorIndex := 14, attributes := #[] }, { accessFlags := 25, nameIndex := 42, descriptorIndex := 14, attributes := #[] }, { accessFlags := 25, nameIndex := 45, descriptorIndex := 14, attributes := #[] }, { accessFlags := 25, nameIndex := 48, descriptorIndex := 14, attributes := #[] }, { accessFlags := 25, nameIndex := 51, descriptorIndex := 14, attributes := #[] }])
  fields := #[{ name := "SUCCESS", type := .long, accessFlags := 25, slot := 0, constantValue := 0 }, { name := "COMMAND_UNSUPPORTED", type := .long, accessFlags := 25, slot := 1, constantValue := 0 }, { name := "APPLICATION_UNSUPPORTED", type := .long, accessFlags := 25, slot := 2, constantValue := 0 }, { name := "CREDIT_LIMIT_REACHED", type := .long, accessFlags := 25, slot := 3, constantValue := 0 }, { name := "AVP_UNSUPPORTED", type := .long, accessFlags := 25, slot := 4, constantValue := 0 }, { name := "UNKNOWN_SESSION_ID", type := .long, accessFlags := 25, slot := 5, constantValue := 0 }, { name := "INVALID_AVP_VALUE", type := .long, accessFlags := 25, slot := 6, constantValue := 0 }, { name := "MISSING_AVP", type := .long, accessFlags := 25, slot := 7, constantValue := 0 }, { name := "NO_COMMON_APPLICATION", type := .long, accessFlags := 25, slot := 8, constantValue := 0 }, { name := "UNABLE_TO_COMPLY", type := .long, accessFlags := 25, slot := 9, constantValue := 0 }, { name := "INVALID_AVP_LENGTH", type := .long, accessFlags := 25, slot := 10, constantValue := 0 }, { name := "USER_UNKNOWN", type := .long, accessFlags := 25, slot := 11, constantValue := 0 }, { name := "RATING_FAILED", type := .long, accessFlags := 25, slot := 12, constantValue := 0 }]
  methods := #[k2m0, k2m1]
  instanceTypes := #[]
  staticTypes := #[.long, .long, .long, .long, .long, .long, .long, .long, .long, .long, .long, .long, .long]
  resolved := Array.replicate 61 none
  statics := none }

def pool3 : Array CpInfo := pool [(1, u "java/lang/Cloneable"), (0, .class_ 1), (0, u "java/lang/Object"), (0, .class_ 3)] 3

/-- java/lang/Cloneable -/
def k3 : Class := { plain "java/lang/Cloneable" (some 0) with
  accessFlags := 1537
  interfaces := #[]
  cf := some (fileOf pool3 2 #[] #[] 1537 4 #[] #[])
  fields := #[]
  methods := #[]
  instanceTypes := #[]
  staticTypes := #[]
  resolved := Array.replicate 8 none
  statics := none }

def pool4 : Array CpInfo := pool [(1, u "java/io/Serializable"), (0, .class_ 1), (0, u "java/lang/Object"), (0, .class_ 3)] 3

/-- java/io/Serializable -/
def k4 : Class := { plain "java/io/Serializable" (some 0) with
  accessFlags := 1537
  interfaces := #[]
  cf := some (fileOf pool4 2 #[] #[] 1537 4 #[] #[])
  fields := #[]
  methods := #[]
  instanceTypes := #[]
  staticTypes := #[]
  resolved := Array.replicate 8 none
  statics := none }

/-- the primitive byte -/
def k5 : Class := { plain "byte" none with kind := .primitive 'B', accessFlags := 0x411 }
/-- [B -/
def k6 : Class := { plain "[B" (some 0) with kind := .array 5 .byte, interfaces := #[3, 4], accessFlags := 1041 }

/-- the primitive int -/
def k7 : Class := { plain "int" none with kind := .primitive 'I', accessFlags := 0x411 }
/-- [I -/
def k8 : Class := { plain "[I" (some 0) with kind := .array 7 .int, interfaces := #[3, 4], accessFlags := 1041 }

def heap : Heap := #[]
def classes : Array Class := #[k0, k1, k2, k3, k4, k5, k6, k7, k8]
def interned : List (Array UInt16 × Addr) := []
def slotsUsed : Nat := 0
def theMethod : MethodId := ⟨1, 1⟩
def args0 : Array Value := #[.long 3005, .int 7]
def aboutOver (below : List Frame) : State where
  vm := { classes := classes, interned := interned.toArray }
  heap := heap
  slotsUsed := slotsUsed
  threads := #[{ frames := .invoking theMethod args0 :: below }]
def below0 : List Frame := [.native { method := ⟨0, 0⟩, args := #[] }]
def about1 : State := aboutOver below0
def p0 : Program := .bare "" "" ""
def e0 : Env := launch0.env 0 0 0
theorem w_frames : about1.frames = Frame.invoking theMethod args0 :: below0 := rfl
set_option maxRecDepth 65536 in
theorem w_args : argsFit about1.vm theMethod args0 = true := by decide +kernel
set_option maxRecDepth 65536 in
theorem w_heap : heapFits about1 = true := by decide +kernel
set_option maxRecDepth 65536 in
theorem w_runnable : about1.curStatus? = some .runnable := by decide +kernel
set_option maxRecDepth 65536 in
theorem w_alone : about1.alone = true := by decide +kernel
set_option maxRecDepth 65536 in
theorem w_named : about1.methodNamed? x = some theMethod := by decide +kernel
set_option maxRecDepth 65536 in
theorem w_hears : about1.hears theMethod below0 = true := by decide +kernel
set_option maxRecDepth 65536 in
theorem w_ripe : about1.ripe theMethod args0 below0 = true := by decide +kernel
theorem w_running : about1.status = .running := rfl
set_option maxRecDepth 65536 in
theorem w_room : about1.hasRoom e0.platform room_1 = true :=
  launch0.hasRoom_least _ room_1 (by decide +kernel) (by decide +kernel) (by decide +kernel) (by decide +kernel) (by decide +kernel) (by decide +kernel)
theorem allAtoms_all (ts : List Jvm.Cond) (a : Array Jvm.Value) (st : Jvm.State) : (allAtoms ts).before a st = ts.all (fun c => c.before a st) := by
  induction ts with
  | nil => rfl
  | cons c t ih =>
    show (Jvm.Cond.and c (allAtoms t)).before a st = _
    rw [Jvm.Cond.before_and, ih, List.all_cons]
def words1 : List Jvm.Cond := Jvm.Cond.code x code maxLocals ret :: tables_1
/-- a 'code' word, met by the world's own term for the bytes: nothing is compared byte by byte -/
theorem code_word {y : MethodName} {bytes : ByteArray} {mx : Nat} {rt : Option FieldType} {a : Array Value} {s : State} {m : MethodId} {meth : Method} {c : Code} (h1 : s.methodNamed? y = some m) (h2 : s.vm.method? m = some meth) (h3 : meth.code = some c) (h4 : c.code = bytes)
    (h5 : (c.maxLocals == mx && c.exceptionTable.isEmpty && decide (c.maxStack ≤ mostOperands) && decide (meth.sig.returnType = rt) && !meth.locks && decide (parseMethodDescriptor y.desc = some meth.sig)) = true) : (Jvm.Cond.code y bytes mx rt).before a s = true := by
  simp only [Bool.and_eq_true, beq_iff_eq, Bool.not_eq_true', decide_eq_true_eq] at h5
  obtain ⟨⟨⟨⟨⟨g1, g2⟩, g3⟩, g4⟩, g5⟩, g6⟩ := h5
  simp [Cond.before, Cond.holds, Cond.value, h1, h2, h3, h4, g1, g2, g3, g4, g5, g6]
def isCode : Jvm.Cond → Bool
  | .code _ _ _ _ => true
  | _ => false
theorem all_split {L : List Jvm.Cond} {P : Jvm.Cond → Bool} (h1 : L.all (fun c => isCode c || P c) = true) (h2 : ∀ c ∈ L.filter isCode, P c = true) : L.all P = true := by
  refine List.all_eq_true.mpr fun c hc => ?_
  have h := List.all_eq_true.mp h1 c hc
  rcases Bool.eq_false_or_eq_true (isCode c) with hi | hi
  · exact h2 c (List.mem_filter.mpr ⟨hc, hi⟩)
  · simpa [hi] using h
set_option maxRecDepth 65536 in
theorem w_c0 : (Jvm.Cond.code x code maxLocals ret).before args0 about1 = true := code_word (m := ⟨1, 1⟩) (meth := k1m1) (c := k1c1) (by decide +kernel) rfl rfl rfl (by decide +kernel)
set_option maxRecDepth 65536 in
theorem w_c1 : (Jvm.Cond.code ({ cls := "com/example/firm_ledger/firmledger/diameter/ResultCode", name := "isProtocolError", desc := "(J)Z" } : Jvm.MethodName) prog_21_method_2_code (2 : Nat) (Option.some Jvm.ClassFile.FieldType.boolean)).before args0 about1 = true := code_word (m := ⟨2, 1⟩) (meth := k2m1) (c := k2c1) (by decide +kernel) rfl rfl rfl (by decide +kernel)
def codes1 : List Jvm.Cond := [Jvm.Cond.code x code maxLocals ret, Jvm.Cond.code ({ cls := "com/example/firm_ledger/firmledger/diameter/ResultCode", name := "isProtocolError", desc := "(J)Z" } : Jvm.MethodName) prog_21_method_2_code (2 : Nat) (Option.some Jvm.ClassFile.FieldType.boolean)]
set_option maxRecDepth 65536 in
theorem codes_eq : words1.filter isCode = codes1 := rfl
theorem w_codes : ∀ c ∈ words1.filter isCode, c.before args0 about1 = true := by
  rw [codes_eq]
  intro c hc
  simp only [codes1, List.mem_cons, List.not_mem_nil, or_false] at hc
  rcases hc with rfl | rfl
  · exact w_c0
  · exact w_c1
set_option maxRecDepth 65536 in
theorem w_t1 : words1.all (fun c => isCode c || c.before args0 about1) = true := by decide +kernel
theorem w_tables : (allAtoms (Jvm.Cond.code x code maxLocals ret :: tables_1)).before args0 about1 = true := by
  rw [allAtoms_all]
  show words1.all (fun c => c.before args0 about1) = true
  refine all_split ?_ w_codes
  rw [w_t1]
set_option maxRecDepth 65536 in
theorem w_case : (Jvm.Cond.and given_1 narrow_1).before args0 about1 = true := by decide +kernel
theorem w_applies : (headSpec (Jvm.Cond.code x code maxLocals ret :: tables_1) room_1).applies x e0.platform about1 = true :=
  (Spec.applies_iff w_frames).mpr ⟨w_running, w_runnable, w_alone, w_named, w_hears, w_ripe, w_room, w_tables⟩
theorem atStart : AtStart classFile x code maxLocals ret World_1 tables_1 room_1 Calls_1 rest_1 Pre_1 launch0 p0 e0 about1 theMethod args0 below0 :=
  ⟨lists_1, trivial, launch0.admits_env _ _ _, launch0.least_env, fairChoices_fair.cas, fairChoices_fair.clock, w_frames, w_args, w_heap, w_applies, trivial, trivial, w_case⟩
end start1
theorem witness_1 : WitnessClaimed_1 := ⟨start1.p0, start1.e0, start1.about1, start1.theMethod, start1.args0, start1.below0, start1.atStart⟩
end Jvm.Pilot.@@N@@
