import JvmDerived
import JvmDerived.Pilot.@@N@@Statement
import JvmDerived.Pilot.@@N@@Code
set_option linter.unusedVariables false
set_option linter.unusedSimpArgs false
namespace Jvm.RoadKit
open Sem ClassFile Op Lib Jvm.Stand Jvm.Free Jvm.LawKit
section New
variable {p : Program} {l : Launch} {e : Env} {R : Room} {s : State} {m : MethodId} {args : Array Value} {below : List Frame} {meth : Method} {c : Code} {T : State} {locs : List Loc} {cells slots : Nat}
theorem retI (X : Stand p l e R s m args below meth c T locs cells slots) (hx : p.tables.exec = Jvm.exec) {pc : Nat} {Ls : Array Slot} {z : Int32} {rest : List Value} (hret : meth.sig.returnType = some .int) (hd : decode c.code pc = .ok (.ireturn, 1)) {fs : List Frame}
    (hl : ∀ (f : JFrame) (acts : List Action), f.method = m → f.locked = none → f.entered = [] → (doReturn e (T.setTop f) acts (some (.int z))).1 = T.setFrames fs) : Steps p.tables e below (T.setTop (mkF m pc Ls (.int z :: rest))) (T.setFrames fs) := by
  have hm' : T.vm.method? m = some meth := X.method'
  have hn : narrow .int (.int z) = .int z := rfl
  show Steps p.tables e below (T.setTop { method := m, pc := pc, locals := Ls, stack := _ :: rest, locked := none }) _
  jvm_step X.here [X.here.top, hx, hd, hm', hret, hn]
  first | (intro acts; rw [hl _ acts rfl rfl rfl]) | rw [hl _ _ rfl rfl rfl]
  exact Steps.refl _
end New
end Jvm.RoadKit
namespace Jvm.Pilot.@@N@@
open Jvm Jvm.ClassFile Sem Op Lib Jvm.Free Jvm.Stand Jvm.LawKit Jvm.RoadKit Bundle Jvm.Pilot.@@N@@.Jvm.D
abbrev own_Go (p : Program) (e : Env) (below : List Frame) (A B : State) : Prop := ∀ t, Steps p.tables e below B t → Steps p.tables e below A t
theorem own_from {p : Program} {e : Env} {below : List Frame} {A B t : State} (h : A = B) (k : Steps p.tables e below A t) : Steps p.tables e below B t := h ▸ k
theorem own_ite1 {P : Prop} [Decidable P] (h : P) : ¬ ((if P then (1 : Int32) else (0 : Int32)) = (0 : Int32)) := by rw [if_pos h]; decide
theorem own_ite0 {P : Prop} [Decidable P] (h : ¬ P) : (if P then (1 : Int32) else (0 : Int32)) = (0 : Int32) := if_neg h
def own_Pl (h : Heap) (a : Addr) : Prop := ∃ c : Cell, h[a]? = some c ∧ c.vm.isStatics = false
theorem own_plE {Z : State} {h : Heap} {a : Addr} {C : String} (F : Exa Z h a C) : own_Pl h a := by obtain ⟨cell, k, h1, _, _, h4, _⟩ := F; exact ⟨cell, h1, h4⟩
theorem own_plF {Z : State} {h : Heap} {a : Addr} {C n d : String} {v : Value} (F : Fld Z h a C n d v) : own_Pl h a := by obtain ⟨cell, cf, k, i, f, h1, _, _, _, h5, _⟩ := F; exact ⟨cell, h1, h5⟩
theorem own_plA {Z : State} {h : Heap} {a : Addr} {k : ClassId} {ty : FieldType} {n : Int32} {vs : List Value} {d : Value} (F : Arv Z h a k ty n vs d) : own_Pl h a := by obtain ⟨c, A, _⟩ := F; exact ⟨c, A.1, A.plain⟩
theorem own_staK {Z : State} {h h' : Heap} {C n d : String} {v : Value} {ws : List Addr} (F : Sta Z h C n d v) (K : Keep h h' ws) (q : ∀ x ∈ ws, own_Pl h x) : Sta Z h' C n d v := by
  obtain ⟨cf, i, k, f, st, cell, h1, h2, h3, h4, h5, h6, h7⟩ := F
  refine ⟨cf, i, k, f, st, cell, h1, h2, h3, h4, K.2.1 st cell h5 fun z => ?_, h6, h7⟩
  obtain ⟨c, q1, q2⟩ := q st z
  cases h5.symm.trans q1
  rw [h6] at q2; cases q2
theorem own_insK {Z : State} {h h' : Heap} {a : Addr} {C : String} {bo : Bool} {ws : List Addr} (F : Ins Z h a C bo) (K : Keep h h' ws) : Ins Z h' a C bo := by
  obtain ⟨cell, cT, h1, h2, h3⟩ := F
  obtain ⟨c', q1, q2, q3, q4⟩ := K.2.2 a cell h1
  exact ⟨c', cT, q1, h2, by rw [q2, q3]; exact h3⟩
theorem own_atI {c : Cell} {vs : List Value} {d : Value} {ty : FieldType} {j : Int32} (H : Has c vs d) (G : ∀ i, i < c.slots.size → fits ty (vs.getD i d) = true) (q : ¬ (j < 0 ∨ c.slots.size ≤ j.toNatClampNeg)) (ht : ty = .int ∨ ty = .boolean ∨ ty = .byte ∨ ty = .char ∨ ty = .short) : ∃ z, c.slots[j.toNatClampNeg]? = some (.int z) := by
  have hlt := Nat.lt_of_not_le fun y => q (Or.inr y)
  obtain ⟨z, hz⟩ := fit_I (G _ hlt) ht
  exact ⟨z, by rw [H _ hlt, hz]⟩
theorem own_cat {v : Value} (h : v.isRef = true) : v.category = 1 := by cases v <;> simp [Value.isRef, Value.category] at h ⊢
theorem pn_1 : plainName "com/example/splice/splice/XmlVersion" = true := by first | (simp [plainName, overriddenIn]; done) | decide +kernel
theorem d1_0 : decode prog_177_method_11_code 0 = .ok (.iload_n 0, 1) := by decide +kernel
theorem d1_1 : decode prog_177_method_11_code 1 = .ok (.bipush 32, 2) := by decide +kernel
theorem d1_3 : decode prog_177_method_11_code 3 = .ok (.if_icmp .ge 15, 3) := by decide +kernel
theorem d1_6 : decode prog_177_method_11_code 6 = .ok (.iload_n 0, 1) := by decide +kernel
theorem d1_7 : decode prog_177_method_11_code 7 = .ok (.bipush 9, 2) := by decide +kernel
theorem d1_9 : decode prog_177_method_11_code 9 = .ok (.if_icmp .eq 9, 3) := by decide +kernel
theorem d1_12 : decode prog_177_method_11_code 12 = .ok (.iload_n 0, 1) := by decide +kernel
theorem d1_13 : decode prog_177_method_11_code 13 = .ok (.bipush 10, 2) := by decide +kernel
theorem d1_15 : decode prog_177_method_11_code 15 = .ok (.if_icmp .ne 23, 3) := by decide +kernel
theorem d1_18 : decode prog_177_method_11_code 18 = .ok (.iload_n 0, 1) := by decide +kernel
theorem d1_19 : decode prog_177_method_11_code 19 = .ok (.bipush 127, 2) := by decide +kernel
theorem d1_21 : decode prog_177_method_11_code 21 = .ok (.if_icmp .lt 10, 3) := by decide +kernel
theorem d1_24 : decode prog_177_method_11_code 24 = .ok (.iload_n 0, 1) := by decide +kernel
theorem d1_25 : decode prog_177_method_11_code 25 = .ok (.sipush 159, 3) := by decide +kernel
theorem d1_28 : decode prog_177_method_11_code 28 = .ok (.if_icmp .le 10, 3) := by decide +kernel
theorem d1_31 : decode prog_177_method_11_code 31 = .ok (.iload_n 0, 1) := by decide +kernel
theorem d1_32 : decode prog_177_method_11_code 32 = .ok (.sipush 8232, 3) := by decide +kernel
theorem d1_35 : decode prog_177_method_11_code 35 = .ok (.if_icmp .ne 7, 3) := by decide +kernel
theorem d1_38 : decode prog_177_method_11_code 38 = .ok (.iconst 1, 1) := by decide +kernel
theorem d1_39 : decode prog_177_method_11_code 39 = .ok (.goto 4, 3) := by decide +kernel
theorem d1_42 : decode prog_177_method_11_code 42 = .ok (.iconst 0, 1) := by decide +kernel
theorem d1_43 : decode prog_177_method_11_code 43 = .ok (.ireturn, 1) := by decide +kernel
theorem ef_1 (m : MethodId) (q1_0 : Int32) : entryFrame m #[(.int q1_0)] 1 = mkF m 0 #[.val (.int q1_0)] [] := by first | (simp [entryFrame, mkF, argsToLocals, Value.category]; done) | rfl
def r1 (q1_0 : Int32) : Int32 := (if q1_0 < (32 : Int32) then (if q1_0 = (9 : Int32) then (if q1_0 < (127 : Int32) then (if q1_0 = (8232 : Int32) then (1 : Int32) else (0 : Int32)) else (if (159 : Int32) < q1_0 then (if q1_0 = (8232 : Int32) then (1 : Int32) else (0 : Int32)) else (1 : Int32))) else (if q1_0 = (10 : Int32) then (if q1_0 < (127 : Int32) then (if q1_0 = (8232 : Int32) then (1 : Int32) else (0 : Int32)) else (if (159 : Int32) < q1_0 then (if q1_0 = (8232 : Int32) then (1 : Int32) else (0 : Int32)) else (1 : Int32))) else (1 : Int32))) else (if q1_0 < (127 : Int32) then (if q1_0 = (8232 : Int32) then (1 : Int32) else (0 : Int32)) else (if (159 : Int32) < q1_0 then (if q1_0 = (8232 : Int32) then (1 : Int32) else (0 : Int32)) else (1 : Int32))))
def Q1 (Z : State) (q1_0 : Int32) (h0 : Heap) (n0 : Nat) (v : Option Value) (h : Heap) (L : List Loc) : Prop := v = some (.int (r1 q1_0)) ∧ Fr n0 L ∧ h = h0
set_option maxRecDepth 65536 in
set_option maxHeartbeats 40000000 in
theorem rm1 (l : Launch) (Z : State) (a0 : Array Value) (hw : ∀ d ∈ tables_1, d.before a0 Z = true) (ws : List Jvm.Cond) (q1_0 : Int32) (h0 : Heap) (n0 : Nat) (Z0 : n0 ≤ h0.size) :
    MetFree l (⟨"com/example/splice/splice/XmlVersion", "needsReference", "(I)Z"⟩ : MethodName) (head1 (Jvm.Cond.code (⟨"com/example/splice/splice/XmlVersion", "needsReference", "(I)Z"⟩ : MethodName) prog_177_method_11_code 1 (some .boolean) :: ws) ({ frames := 0, cells := 0, slots := 0, locals := 0 } : Room)) (fun a U => a = #[(.int q1_0)] ∧ Z.Warmed39 U.vm ∧ U.heap = h0) (fun _ _ _ _ _ => True) (fun _ U o U' => ∃ v L, o = .returned v ∧ Q1 Z q1_0 h0 n0 v U'.heap L ∧ FrameEnd U o U' L ({ frames := 0, cells := 0, slots := 0, locals := 0 } : Room).cells ({ frames := 0, cells := 0, slots := 0, locals := 0 } : Room).slots) := by
  refine MetFree.of_bodySF (plainFor_of_name pn_1) hisR ?_
  intro p e s m args below meth c s₁ Bd hml0 hP hK
  obtain ⟨rfl, hZ, hh⟩ := hP
  have hx := Bd.exec
  have hby := Bd.bytes
  have hml : c.maxLocals = 1 := hml0
  have hown : s.vm.findClass "com/example/splice/splice/XmlVersion" = some m.cls := findClass_of_methodNamed Bd.named
  have hnm := (name_of_methodNamed Bd.named Bd.method).1
  have X0 : Stand p l e ({ frames := 0, cells := 0, slots := 0, locals := 0 } : Room) s m #[(.int q1_0)] below meth c s₁ [] 0 0 := Stand.of_body Bd
  have e0 : s₁.heap = h0 := by rw [← hh, Bd.state]; rfl
  have N0 := Fr.nil n0
  obtain ⟨S0, hS0⟩ : ∃ z, z = s₁.setTop (entryFrame m #[(.int q1_0)] 1) := ⟨_, rfl⟩
  have P0 : own_Go p e below S0 (s₁.setTop (mkF m 0 #[.val (.int q1_0)] [])) := fun t k => by rw [hS0]; exact castTop (ef_1 m q1_0) k
  have P1 : own_Go p e below S0 (s₁.setTop (mkF m 3 #[.val (.int q1_0)] [(.int (32 : Int32)), (.int q1_0)])) := fun t k => P0 t (by
    show Steps p.tables e below (s₁.setTop (mkF m 0 #[.val (.int q1_0)] [])) t
    refine XS.iloadN X0.here hx rfl (hb hby d1_0) rfl ?_
    refine XS.bipush X0.here hx rfl (hb hby d1_1) ?_
    show Steps p.tables e below (s₁.setTop (mkF m 3 #[.val (.int q1_0)] [(.int (32 : Int32)), (.int q1_0)])) t
    exact k)
  by_cases c2 : q1_0 < (32 : Int32)
  · skip
    have P3 : own_Go p e below S0 (s₁.setTop (mkF m 9 #[.val (.int q1_0)] [(.int (9 : Int32)), (.int q1_0)])) := fun t k => P1 t (by
      show Steps p.tables e below (s₁.setTop (mkF m 3 #[.val (.int q1_0)] [(.int (32 : Int32)), (.int q1_0)])) t
      refine XS.icmpNo X0.here hx rfl (hb hby d1_3) rfl (tlt c2).2.1 ?_
      refine XS.iloadN X0.here hx rfl (hb hby d1_6) rfl ?_
      refine XS.bipush X0.here hx rfl (hb hby d1_7) ?_
      show Steps p.tables e below (s₁.setTop (mkF m 9 #[.val (.int q1_0)] [(.int (9 : Int32)), (.int q1_0)])) t
      exact k)
    by_cases c4 : q1_0 = (9 : Int32)
    · skip
      have P5 : own_Go p e below S0 (s₁.setTop (mkF m 21 #[.val (.int q1_0)] [(.int (127 : Int32)), (.int q1_0)])) := fun t k => P3 t (by
        show Steps p.tables e below (s₁.setTop (mkF m 9 #[.val (.int q1_0)] [(.int (9 : Int32)), (.int q1_0)])) t
        refine XS.icmpYes X0.here hx rfl (pc0 := 9) (pc' := 18) rfl (hb hby d1_9) rfl (teq c4).1 (by decide) (by decide) ?_
        refine XS.iloadN X0.here hx rfl (hb hby d1_18) rfl ?_
        refine XS.bipush X0.here hx rfl (hb hby d1_19) ?_
        show Steps p.tables e below (s₁.setTop (mkF m 21 #[.val (.int q1_0)] [(.int (127 : Int32)), (.int q1_0)])) t
        exact k)
      by_cases c6 : q1_0 < (127 : Int32)
      · skip
        have P7 : own_Go p e below S0 (s₁.setTop (mkF m 35 #[.val (.int q1_0)] [(.int (8232 : Int32)), (.int q1_0)])) := fun t k => P5 t (by
          show Steps p.tables e below (s₁.setTop (mkF m 21 #[.val (.int q1_0)] [(.int (127 : Int32)), (.int q1_0)])) t
          refine XS.icmpYes X0.here hx rfl (pc0 := 21) (pc' := 31) rfl (hb hby d1_21) rfl (tlt c6).1 (by decide) (by decide) ?_
          refine XS.iloadN X0.here hx rfl (hb hby d1_31) rfl ?_
          refine XS.sipush X0.here hx rfl (hb hby d1_32) ?_
          show Steps p.tables e below (s₁.setTop (mkF m 35 #[.val (.int q1_0)] [(.int (8232 : Int32)), (.int q1_0)])) t
          exact k)
        by_cases c8 : q1_0 = (8232 : Int32)
        · skip
          have P9 : own_Go p e below S0 (s₁.setTop (mkF m 43 #[.val (.int q1_0)] [(.int (1 : Int32))])) := fun t k => P7 t (by
            show Steps p.tables e below (s₁.setTop (mkF m 35 #[.val (.int q1_0)] [(.int (8232 : Int32)), (.int q1_0)])) t
            refine XS.icmpNo X0.here hx rfl (hb hby d1_35) rfl (teq c8).2 ?_
            refine XS.iconst X0.here hx rfl (hb hby d1_38) ?_
            refine XS.goto X0.here hx rfl (pc0 := 39) (pc' := 43) rfl (hb hby d1_39) (by decide) (by decide) ?_
            show Steps p.tables e below (s₁.setTop (mkF m 43 #[.val (.int q1_0)] [(.int (1 : Int32))])) t
            exact k)
          obtain ⟨fs, hr, hrun, hended, hW, hsame⟩ := X0.leave (v := some (.int (1 : Int32))) (fun h => by rw [Bd.returns] at h; cases h)
          refine ⟨_, _, own_from hS0 (P9 _ ?_), hrun, hended, _, _, rfl, ?_, ⟨_, rfl⟩, hW, hsame.mono (by decide) (by decide)⟩
          · show Steps p.tables e below (s₁.setTop (mkF m 43 #[.val (.int q1_0)] [(.int (1 : Int32))])) _
            exact retN X0 hx (t := .boolean) Bd.returns (by simp) (hb hby d1_43) hr
          · show Q1 Z q1_0 h0 n0 _ s₁.heap _
            rw [e0]
            exact ⟨(congrArg (fun z => some (Value.int z)) (Eq.symm (Eq.trans (if_pos c2) (Eq.trans (if_pos c4) (Eq.trans (if_pos c6) (if_pos c8)))))), N0, rfl⟩
        · skip
          have P10 : own_Go p e below S0 (s₁.setTop (mkF m 43 #[.val (.int q1_0)] [(.int (0 : Int32))])) := fun t k => P7 t (by
            show Steps p.tables e below (s₁.setTop (mkF m 35 #[.val (.int q1_0)] [(.int (8232 : Int32)), (.int q1_0)])) t
            refine XS.icmpYes X0.here hx rfl (pc0 := 35) (pc' := 42) rfl (hb hby d1_35) rfl (feq c8).2 (by decide) (by decide) ?_
            refine XS.iconst X0.here hx rfl (hb hby d1_42) ?_
            show Steps p.tables e below (s₁.setTop (mkF m 43 #[.val (.int q1_0)] [(.int (0 : Int32))])) t
            exact k)
          obtain ⟨fs, hr, hrun, hended, hW, hsame⟩ := X0.leave (v := some (.int (0 : Int32))) (fun h => by rw [Bd.returns] at h; cases h)
          refine ⟨_, _, own_from hS0 (P10 _ ?_), hrun, hended, _, _, rfl, ?_, ⟨_, rfl⟩, hW, hsame.mono (by decide) (by decide)⟩
          · show Steps p.tables e below (s₁.setTop (mkF m 43 #[.val (.int q1_0)] [(.int (0 : Int32))])) _
            exact retN X0 hx (t := .boolean) Bd.returns (by simp) (hb hby d1_43) hr
          · show Q1 Z q1_0 h0 n0 _ s₁.heap _
            rw [e0]
            exact ⟨(congrArg (fun z => some (Value.int z)) (Eq.symm (Eq.trans (if_pos c2) (Eq.trans (if_pos c4) (Eq.trans (if_pos c6) (if_neg c8)))))), N0, rfl⟩
      · skip
        have P11 : own_Go p e below S0 (s₁.setTop (mkF m 28 #[.val (.int q1_0)] [(.int (159 : Int32)), (.int q1_0)])) := fun t k => P5 t (by
          show Steps p.tables e below (s₁.setTop (mkF m 21 #[.val (.int q1_0)] [(.int (127 : Int32)), (.int q1_0)])) t
          refine XS.icmpNo X0.here hx rfl (hb hby d1_21) rfl (flt c6).1 ?_
          refine XS.iloadN X0.here hx rfl (hb hby d1_24) rfl ?_
          refine XS.sipush X0.here hx rfl (hb hby d1_25) ?_
          show Steps p.tables e below (s₁.setTop (mkF m 28 #[.val (.int q1_0)] [(.int (159 : Int32)), (.int q1_0)])) t
          exact k)
        by_cases c12 : (159 : Int32) < q1_0
        · skip
          have P13 : own_Go p e below S0 (s₁.setTop (mkF m 35 #[.val (.int q1_0)] [(.int (8232 : Int32)), (.int q1_0)])) := fun t k => P11 t (by
            show Steps p.tables e below (s₁.setTop (mkF m 28 #[.val (.int q1_0)] [(.int (159 : Int32)), (.int q1_0)])) t
            refine XS.icmpNo X0.here hx rfl (hb hby d1_28) rfl (tlt c12).2.2.2 ?_
            refine XS.iloadN X0.here hx rfl (hb hby d1_31) rfl ?_
            refine XS.sipush X0.here hx rfl (hb hby d1_32) ?_
            show Steps p.tables e below (s₁.setTop (mkF m 35 #[.val (.int q1_0)] [(.int (8232 : Int32)), (.int q1_0)])) t
            exact k)
          by_cases c14 : q1_0 = (8232 : Int32)
          · skip
            have P15 : own_Go p e below S0 (s₁.setTop (mkF m 43 #[.val (.int q1_0)] [(.int (1 : Int32))])) := fun t k => P13 t (by
              show Steps p.tables e below (s₁.setTop (mkF m 35 #[.val (.int q1_0)] [(.int (8232 : Int32)), (.int q1_0)])) t
              refine XS.icmpNo X0.here hx rfl (hb hby d1_35) rfl (teq c14).2 ?_
              refine XS.iconst X0.here hx rfl (hb hby d1_38) ?_
              refine XS.goto X0.here hx rfl (pc0 := 39) (pc' := 43) rfl (hb hby d1_39) (by decide) (by decide) ?_
              show Steps p.tables e below (s₁.setTop (mkF m 43 #[.val (.int q1_0)] [(.int (1 : Int32))])) t
              exact k)
            obtain ⟨fs, hr, hrun, hended, hW, hsame⟩ := X0.leave (v := some (.int (1 : Int32))) (fun h => by rw [Bd.returns] at h; cases h)
            refine ⟨_, _, own_from hS0 (P15 _ ?_), hrun, hended, _, _, rfl, ?_, ⟨_, rfl⟩, hW, hsame.mono (by decide) (by decide)⟩
            · show Steps p.tables e below (s₁.setTop (mkF m 43 #[.val (.int q1_0)] [(.int (1 : Int32))])) _
              exact retN X0 hx (t := .boolean) Bd.returns (by simp) (hb hby d1_43) hr
            · show Q1 Z q1_0 h0 n0 _ s₁.heap _
              rw [e0]
              exact ⟨(congrArg (fun z => some (Value.int z)) (Eq.symm (Eq.trans (if_pos c2) (Eq.trans (if_pos c4) (Eq.trans (if_neg c6) (Eq.trans (if_pos c12) (if_pos c14))))))), N0, rfl⟩
          · skip
            have P16 : own_Go p e below S0 (s₁.setTop (mkF m 43 #[.val (.int q1_0)] [(.int (0 : Int32))])) := fun t k => P13 t (by
              show Steps p.tables e below (s₁.setTop (mkF m 35 #[.val (.int q1_0)] [(.int (8232 : Int32)), (.int q1_0)])) t
              refine XS.icmpYes X0.here hx rfl (pc0 := 35) (pc' := 42) rfl (hb hby d1_35) rfl (feq c14).2 (by decide) (by decide) ?_
              refine XS.iconst X0.here hx rfl (hb hby d1_42) ?_
              show Steps p.tables e below (s₁.setTop (mkF m 43 #[.val (.int q1_0)] [(.int (0 : Int32))])) t
              exact k)
            obtain ⟨fs, hr, hrun, hended, hW, hsame⟩ := X0.leave (v := some (.int (0 : Int32))) (fun h => by rw [Bd.returns] at h; cases h)
            refine ⟨_, _, own_from hS0 (P16 _ ?_), hrun, hended, _, _, rfl, ?_, ⟨_, rfl⟩, hW, hsame.mono (by decide) (by decide)⟩
            · show Steps p.tables e below (s₁.setTop (mkF m 43 #[.val (.int q1_0)] [(.int (0 : Int32))])) _
              exact retN X0 hx (t := .boolean) Bd.returns (by simp) (hb hby d1_43) hr
            · show Q1 Z q1_0 h0 n0 _ s₁.heap _
              rw [e0]
              exact ⟨(congrArg (fun z => some (Value.int z)) (Eq.symm (Eq.trans (if_pos c2) (Eq.trans (if_pos c4) (Eq.trans (if_neg c6) (Eq.trans (if_pos c12) (if_neg c14))))))), N0, rfl⟩
        · skip
          have P17 : own_Go p e below S0 (s₁.setTop (mkF m 43 #[.val (.int q1_0)] [(.int (1 : Int32))])) := fun t k => P11 t (by
            show Steps p.tables e below (s₁.setTop (mkF m 28 #[.val (.int q1_0)] [(.int (159 : Int32)), (.int q1_0)])) t
            refine XS.icmpYes X0.here hx rfl (pc0 := 28) (pc' := 38) rfl (hb hby d1_28) rfl (flt c12).2.2.2 (by decide) (by decide) ?_
            refine XS.iconst X0.here hx rfl (hb hby d1_38) ?_
            refine XS.goto X0.here hx rfl (pc0 := 39) (pc' := 43) rfl (hb hby d1_39) (by decide) (by decide) ?_
            show Steps p.tables e below (s₁.setTop (mkF m 43 #[.val (.int q1_0)] [(.int (1 : Int32))])) t
            exact k)
          obtain ⟨fs, hr, hrun, hended, hW, hsame⟩ := X0.leave (v := some (.int (1 : Int32))) (fun h => by rw [Bd.returns] at h; cases h)
          refine ⟨_, _, own_from hS0 (P17 _ ?_), hrun, hended, _, _, rfl, ?_, ⟨_, rfl⟩, hW, hsame.mono (by decide) (by decide)⟩
          · show Steps p.tables e below (s₁.setTop (mkF m 43 #[.val (.int q1_0)] [(.int (1 : Int32))])) _
            exact retN X0 hx (t := .boolean) Bd.returns (by simp) (hb hby d1_43) hr
          · show Q1 Z q1_0 h0 n0 _ s₁.heap _
            rw [e0]
            exact ⟨(congrArg (fun z => some (Value.int z)) (Eq.symm (Eq.trans (if_pos c2) (Eq.trans (if_pos c4) (Eq.trans (if_neg c6) (if_neg c12)))))), N0, rfl⟩
    · skip
      have P18 : own_Go p e below S0 (s₁.setTop (mkF m 15 #[.val (.int q1_0)] [(.int (10 : Int32)), (.int q1_0)])) := fun t k => P3 t (by
        show Steps p.tables e below (s₁.setTop (mkF m 9 #[.val (.int q1_0)] [(.int (9 : Int32)), (.int q1_0)])) t
        refine XS.icmpNo X0.here hx rfl (hb hby d1_9) rfl (feq c4).1 ?_
        refine XS.iloadN X0.here hx rfl (hb hby d1_12) rfl ?_
        refine XS.bipush X0.here hx rfl (hb hby d1_13) ?_
        show Steps p.tables e below (s₁.setTop (mkF m 15 #[.val (.int q1_0)] [(.int (10 : Int32)), (.int q1_0)])) t
        exact k)
      by_cases c19 : q1_0 = (10 : Int32)
      · skip
        have P20 : own_Go p e below S0 (s₁.setTop (mkF m 21 #[.val (.int q1_0)] [(.int (127 : Int32)), (.int q1_0)])) := fun t k => P18 t (by
          show Steps p.tables e below (s₁.setTop (mkF m 15 #[.val (.int q1_0)] [(.int (10 : Int32)), (.int q1_0)])) t
          refine XS.icmpNo X0.here hx rfl (hb hby d1_15) rfl (teq c19).2 ?_
          refine XS.iloadN X0.here hx rfl (hb hby d1_18) rfl ?_
          refine XS.bipush X0.here hx rfl (hb hby d1_19) ?_
          show Steps p.tables e below (s₁.setTop (mkF m 21 #[.val (.int q1_0)] [(.int (127 : Int32)), (.int q1_0)])) t
          exact k)
        by_cases c21 : q1_0 < (127 : Int32)
        · skip
          have P22 : own_Go p e below S0 (s₁.setTop (mkF m 35 #[.val (.int q1_0)] [(.int (8232 : Int32)), (.int q1_0)])) := fun t k => P20 t (by
            show Steps p.tables e below (s₁.setTop (mkF m 21 #[.val (.int q1_0)] [(.int (127 : Int32)), (.int q1_0)])) t
            refine XS.icmpYes X0.here hx rfl (pc0 := 21) (pc' := 31) rfl (hb hby d1_21) rfl (tlt c21).1 (by decide) (by decide) ?_
            refine XS.iloadN X0.here hx rfl (hb hby d1_31) rfl ?_
            refine XS.sipush X0.here hx rfl (hb hby d1_32) ?_
            show Steps p.tables e below (s₁.setTop (mkF m 35 #[.val (.int q1_0)] [(.int (8232 : Int32)), (.int q1_0)])) t
            exact k)
          by_cases c23 : q1_0 = (8232 : Int32)
          · skip
            have P24 : own_Go p e below S0 (s₁.setTop (mkF m 43 #[.val (.int q1_0)] [(.int (1 : Int32))])) := fun t k => P22 t (by
              show Steps p.tables e below (s₁.setTop (mkF m 35 #[.val (.int q1_0)] [(.int (8232 : Int32)), (.int q1_0)])) t
              refine XS.icmpNo X0.here hx rfl (hb hby d1_35) rfl (teq c23).2 ?_
              refine XS.iconst X0.here hx rfl (hb hby d1_38) ?_
              refine XS.goto X0.here hx rfl (pc0 := 39) (pc' := 43) rfl (hb hby d1_39) (by decide) (by decide) ?_
              show Steps p.tables e below (s₁.setTop (mkF m 43 #[.val (.int q1_0)] [(.int (1 : Int32))])) t
              exact k)
            obtain ⟨fs, hr, hrun, hended, hW, hsame⟩ := X0.leave (v := some (.int (1 : Int32))) (fun h => by rw [Bd.returns] at h; cases h)
            refine ⟨_, _, own_from hS0 (P24 _ ?_), hrun, hended, _, _, rfl, ?_, ⟨_, rfl⟩, hW, hsame.mono (by decide) (by decide)⟩
            · show Steps p.tables e below (s₁.setTop (mkF m 43 #[.val (.int q1_0)] [(.int (1 : Int32))])) _
              exact retN X0 hx (t := .boolean) Bd.returns (by simp) (hb hby d1_43) hr
            · show Q1 Z q1_0 h0 n0 _ s₁.heap _
              rw [e0]
              exact ⟨(congrArg (fun z => some (Value.int z)) (Eq.symm (Eq.trans (if_pos c2) (Eq.trans (if_neg c4) (Eq.trans (if_pos c19) (Eq.trans (if_pos c21) (if_pos c23))))))), N0, rfl⟩
          · skip
            have P25 : own_Go p e below S0 (s₁.setTop (mkF m 43 #[.val (.int q1_0)] [(.int (0 : Int32))])) := fun t k => P22 t (by
              show Steps p.tables e below (s₁.setTop (mkF m 35 #[.val (.int q1_0)] [(.int (8232 : Int32)), (.int q1_0)])) t
              refine XS.icmpYes X0.here hx rfl (pc0 := 35) (pc' := 42) rfl (hb hby d1_35) rfl (feq c23).2 (by decide) (by decide) ?_
              refine XS.iconst X0.here hx rfl (hb hby d1_42) ?_
              show Steps p.tables e below (s₁.setTop (mkF m 43 #[.val (.int q1_0)] [(.int (0 : Int32))])) t
              exact k)
            obtain ⟨fs, hr, hrun, hended, hW, hsame⟩ := X0.leave (v := some (.int (0 : Int32))) (fun h => by rw [Bd.returns] at h; cases h)
            refine ⟨_, _, own_from hS0 (P25 _ ?_), hrun, hended, _, _, rfl, ?_, ⟨_, rfl⟩, hW, hsame.mono (by decide) (by decide)⟩
            · show Steps p.tables e below (s₁.setTop (mkF m 43 #[.val (.int q1_0)] [(.int (0 : Int32))])) _
              exact retN X0 hx (t := .boolean) Bd.returns (by simp) (hb hby d1_43) hr
            · show Q1 Z q1_0 h0 n0 _ s₁.heap _
              rw [e0]
              exact ⟨(congrArg (fun z => some (Value.int z)) (Eq.symm (Eq.trans (if_pos c2) (Eq.trans (if_neg c4) (Eq.trans (if_pos c19) (Eq.trans (if_pos c21) (if_neg c23))))))), N0, rfl⟩
        · skip
          have P26 : own_Go p e below S0 (s₁.setTop (mkF m 28 #[.val (.int q1_0)] [(.int (159 : Int32)), (.int q1_0)])) := fun t k => P20 t (by
            show Steps p.tables e below (s₁.setTop (mkF m 21 #[.val (.int q1_0)] [(.int (127 : Int32)), (.int q1_0)])) t
            refine XS.icmpNo X0.here hx rfl (hb hby d1_21) rfl (flt c21).1 ?_
            refine XS.iloadN X0.here hx rfl (hb hby d1_24) rfl ?_
            refine XS.sipush X0.here hx rfl (hb hby d1_25) ?_
            show Steps p.tables e below (s₁.setTop (mkF m 28 #[.val (.int q1_0)] [(.int (159 : Int32)), (.int q1_0)])) t
            exact k)
          by_cases c27 : (159 : Int32) < q1_0
          · skip
            have P28 : own_Go p e below S0 (s₁.setTop (mkF m 35 #[.val (.int q1_0)] [(.int (8232 : Int32)), (.int q1_0)])) := fun t k => P26 t (by
              show Steps p.tables e below (s₁.setTop (mkF m 28 #[.val (.int q1_0)] [(.int (159 : Int32)), (.int q1_0)])) t
              refine XS.icmpNo X0.here hx rfl (hb hby d1_28) rfl (tlt c27).2.2.2 ?_
              refine XS.iloadN X0.here hx rfl (hb hby d1_31) rfl ?_
              refine XS.sipush X0.here hx rfl (hb hby d1_32) ?_
              show Steps p.tables e below (s₁.setTop (mkF m 35 #[.val (.int q1_0)] [(.int (8232 : Int32)), (.int q1_0)])) t
              exact k)
            by_cases c29 : q1_0 = (8232 : Int32)
            · skip
              have P30 : own_Go p e below S0 (s₁.setTop (mkF m 43 #[.val (.int q1_0)] [(.int (1 : Int32))])) := fun t k => P28 t (by
                show Steps p.tables e below (s₁.setTop (mkF m 35 #[.val (.int q1_0)] [(.int (8232 : Int32)), (.int q1_0)])) t
                refine XS.icmpNo X0.here hx rfl (hb hby d1_35) rfl (teq c29).2 ?_
                refine XS.iconst X0.here hx rfl (hb hby d1_38) ?_
                refine XS.goto X0.here hx rfl (pc0 := 39) (pc' := 43) rfl (hb hby d1_39) (by decide) (by decide) ?_
                show Steps p.tables e below (s₁.setTop (mkF m 43 #[.val (.int q1_0)] [(.int (1 : Int32))])) t
                exact k)
              obtain ⟨fs, hr, hrun, hended, hW, hsame⟩ := X0.leave (v := some (.int (1 : Int32))) (fun h => by rw [Bd.returns] at h; cases h)
              refine ⟨_, _, own_from hS0 (P30 _ ?_), hrun, hended, _, _, rfl, ?_, ⟨_, rfl⟩, hW, hsame.mono (by decide) (by decide)⟩
              · show Steps p.tables e below (s₁.setTop (mkF m 43 #[.val (.int q1_0)] [(.int (1 : Int32))])) _
                exact retN X0 hx (t := .boolean) Bd.returns (by simp) (hb hby d1_43) hr
              · show Q1 Z q1_0 h0 n0 _ s₁.heap _
                rw [e0]
                exact ⟨(congrArg (fun z => some (Value.int z)) (Eq.symm (Eq.trans (if_pos c2) (Eq.trans (if_neg c4) (Eq.trans (if_pos c19) (Eq.trans (if_neg c21) (Eq.trans (if_pos c27) (if_pos c29)))))))), N0, rfl⟩
            · skip
              have P31 : own_Go p e below S0 (s₁.setTop (mkF m 43 #[.val (.int q1_0)] [(.int (0 : Int32))])) := fun t k => P28 t (by
                show Steps p.tables e below (s₁.setTop (mkF m 35 #[.val (.int q1_0)] [(.int (8232 : Int32)), (.int q1_0)])) t
                refine XS.icmpYes X0.here hx rfl (pc0 := 35) (pc' := 42) rfl (hb hby d1_35) rfl (feq c29).2 (by decide) (by decide) ?_
                refine XS.iconst X0.here hx rfl (hb hby d1_42) ?_
                show Steps p.tables e below (s₁.setTop (mkF m 43 #[.val (.int q1_0)] [(.int (0 : Int32))])) t
                exact k)
              obtain ⟨fs, hr, hrun, hended, hW, hsame⟩ := X0.leave (v := some (.int (0 : Int32))) (fun h => by rw [Bd.returns] at h; cases h)
              refine ⟨_, _, own_from hS0 (P31 _ ?_), hrun, hended, _, _, rfl, ?_, ⟨_, rfl⟩, hW, hsame.mono (by decide) (by decide)⟩
              · show Steps p.tables e below (s₁.setTop (mkF m 43 #[.val (.int q1_0)] [(.int (0 : Int32))])) _
                exact retN X0 hx (t := .boolean) Bd.returns (by simp) (hb hby d1_43) hr
              · show Q1 Z q1_0 h0 n0 _ s₁.heap _
                rw [e0]
                exact ⟨(congrArg (fun z => some (Value.int z)) (Eq.symm (Eq.trans (if_pos c2) (Eq.trans (if_neg c4) (Eq.trans (if_pos c19) (Eq.trans (if_neg c21) (Eq.trans (if_pos c27) (if_neg c29)))))))), N0, rfl⟩
          · skip
            have P32 : own_Go p e below S0 (s₁.setTop (mkF m 43 #[.val (.int q1_0)] [(.int (1 : Int32))])) := fun t k => P26 t (by
              show Steps p.tables e below (s₁.setTop (mkF m 28 #[.val (.int q1_0)] [(.int (159 : Int32)), (.int q1_0)])) t
              refine XS.icmpYes X0.here hx rfl (pc0 := 28) (pc' := 38) rfl (hb hby d1_28) rfl (flt c27).2.2.2 (by decide) (by decide) ?_
              refine XS.iconst X0.here hx rfl (hb hby d1_38) ?_
              refine XS.goto X0.here hx rfl (pc0 := 39) (pc' := 43) rfl (hb hby d1_39) (by decide) (by decide) ?_
              show Steps p.tables e below (s₁.setTop (mkF m 43 #[.val (.int q1_0)] [(.int (1 : Int32))])) t
              exact k)
            obtain ⟨fs, hr, hrun, hended, hW, hsame⟩ := X0.leave (v := some (.int (1 : Int32))) (fun h => by rw [Bd.returns] at h; cases h)
            refine ⟨_, _, own_from hS0 (P32 _ ?_), hrun, hended, _, _, rfl, ?_, ⟨_, rfl⟩, hW, hsame.mono (by decide) (by decide)⟩
            · show Steps p.tables e below (s₁.setTop (mkF m 43 #[.val (.int q1_0)] [(.int (1 : Int32))])) _
              exact retN X0 hx (t := .boolean) Bd.returns (by simp) (hb hby d1_43) hr
            · show Q1 Z q1_0 h0 n0 _ s₁.heap _
              rw [e0]
              exact ⟨(congrArg (fun z => some (Value.int z)) (Eq.symm (Eq.trans (if_pos c2) (Eq.trans (if_neg c4) (Eq.trans (if_pos c19) (Eq.trans (if_neg c21) (if_neg c27))))))), N0, rfl⟩
      · skip
        have P33 : own_Go p e below S0 (s₁.setTop (mkF m 43 #[.val (.int q1_0)] [(.int (1 : Int32))])) := fun t k => P18 t (by
          show Steps p.tables e below (s₁.setTop (mkF m 15 #[.val (.int q1_0)] [(.int (10 : Int32)), (.int q1_0)])) t
          refine XS.icmpYes X0.here hx rfl (pc0 := 15) (pc' := 38) rfl (hb hby d1_15) rfl (feq c19).2 (by decide) (by decide) ?_
          refine XS.iconst X0.here hx rfl (hb hby d1_38) ?_
          refine XS.goto X0.here hx rfl (pc0 := 39) (pc' := 43) rfl (hb hby d1_39) (by decide) (by decide) ?_
          show Steps p.tables e below (s₁.setTop (mkF m 43 #[.val (.int q1_0)] [(.int (1 : Int32))])) t
          exact k)
        obtain ⟨fs, hr, hrun, hended, hW, hsame⟩ := X0.leave (v := some (.int (1 : Int32))) (fun h => by rw [Bd.returns] at h; cases h)
        refine ⟨_, _, own_from hS0 (P33 _ ?_), hrun, hended, _, _, rfl, ?_, ⟨_, rfl⟩, hW, hsame.mono (by decide) (by decide)⟩
        · show Steps p.tables e below (s₁.setTop (mkF m 43 #[.val (.int q1_0)] [(.int (1 : Int32))])) _
          exact retN X0 hx (t := .boolean) Bd.returns (by simp) (hb hby d1_43) hr
        · show Q1 Z q1_0 h0 n0 _ s₁.heap _
          rw [e0]
          exact ⟨(congrArg (fun z => some (Value.int z)) (Eq.symm (Eq.trans (if_pos c2) (Eq.trans (if_neg c4) (if_neg c19))))), N0, rfl⟩
  · skip
    have P34 : own_Go p e below S0 (s₁.setTop (mkF m 21 #[.val (.int q1_0)] [(.int (127 : Int32)), (.int q1_0)])) := fun t k => P1 t (by
      show Steps p.tables e below (s₁.setTop (mkF m 3 #[.val (.int q1_0)] [(.int (32 : Int32)), (.int q1_0)])) t
      refine XS.icmpYes X0.here hx rfl (pc0 := 3) (pc' := 18) rfl (hb hby d1_3) rfl (flt c2).2.1 (by decide) (by decide) ?_
      refine XS.iloadN X0.here hx rfl (hb hby d1_18) rfl ?_
      refine XS.bipush X0.here hx rfl (hb hby d1_19) ?_
      show Steps p.tables e below (s₁.setTop (mkF m 21 #[.val (.int q1_0)] [(.int (127 : Int32)), (.int q1_0)])) t
      exact k)
    by_cases c35 : q1_0 < (127 : Int32)
    · skip
      have P36 : own_Go p e below S0 (s₁.setTop (mkF m 35 #[.val (.int q1_0)] [(.int (8232 : Int32)), (.int q1_0)])) := fun t k => P34 t (by
        show Steps p.tables e below (s₁.setTop (mkF m 21 #[.val (.int q1_0)] [(.int (127 : Int32)), (.int q1_0)])) t
        refine XS.icmpYes X0.here hx rfl (pc0 := 21) (pc' := 31) rfl (hb hby d1_21) rfl (tlt c35).1 (by decide) (by decide) ?_
        refine XS.iloadN X0.here hx rfl (hb hby d1_31) rfl ?_
        refine XS.sipush X0.here hx rfl (hb hby d1_32) ?_
        show Steps p.tables e below (s₁.setTop (mkF m 35 #[.val (.int q1_0)] [(.int (8232 : Int32)), (.int q1_0)])) t
        exact k)
      by_cases c37 : q1_0 = (8232 : Int32)
      · skip
        have P38 : own_Go p e below S0 (s₁.setTop (mkF m 43 #[.val (.int q1_0)] [(.int (1 : Int32))])) := fun t k => P36 t (by
          show Steps p.tables e below (s₁.setTop (mkF m 35 #[.val (.int q1_0)] [(.int (8232 : Int32)), (.int q1_0)])) t
          refine XS.icmpNo X0.here hx rfl (hb hby d1_35) rfl (teq c37).2 ?_
          refine XS.iconst X0.here hx rfl (hb hby d1_38) ?_
          refine XS.goto X0.here hx rfl (pc0 := 39) (pc' := 43) rfl (hb hby d1_39) (by decide) (by decide) ?_
          show Steps p.tables e below (s₁.setTop (mkF m 43 #[.val (.int q1_0)] [(.int (1 : Int32))])) t
          exact k)
        obtain ⟨fs, hr, hrun, hended, hW, hsame⟩ := X0.leave (v := some (.int (1 : Int32))) (fun h => by rw [Bd.returns] at h; cases h)
        refine ⟨_, _, own_from hS0 (P38 _ ?_), hrun, hended, _, _, rfl, ?_, ⟨_, rfl⟩, hW, hsame.mono (by decide) (by decide)⟩
        · show Steps p.tables e below (s₁.setTop (mkF m 43 #[.val (.int q1_0)] [(.int (1 : Int32))])) _
          exact retN X0 hx (t := .boolean) Bd.returns (by simp) (hb hby d1_43) hr
        · show Q1 Z q1_0 h0 n0 _ s₁.heap _
          rw [e0]
          exact ⟨(congrArg (fun z => some (Value.int z)) (Eq.symm (Eq.trans (if_neg c2) (Eq.trans (if_pos c35) (if_pos c37))))), N0, rfl⟩
      · skip
        have P39 : own_Go p e below S0 (s₁.setTop (mkF m 43 #[.val (.int q1_0)] [(.int (0 : Int32))])) := fun t k => P36 t (by
          show Steps p.tables e below (s₁.setTop (mkF m 35 #[.val (.int q1_0)] [(.int (8232 : Int32)), (.int q1_0)])) t
          refine XS.icmpYes X0.here hx rfl (pc0 := 35) (pc' := 42) rfl (hb hby d1_35) rfl (feq c37).2 (by decide) (by decide) ?_
          refine XS.iconst X0.here hx rfl (hb hby d1_42) ?_
          show Steps p.tables e below (s₁.setTop (mkF m 43 #[.val (.int q1_0)] [(.int (0 : Int32))])) t
          exact k)
        obtain ⟨fs, hr, hrun, hended, hW, hsame⟩ := X0.leave (v := some (.int (0 : Int32))) (fun h => by rw [Bd.returns] at h; cases h)
        refine ⟨_, _, own_from hS0 (P39 _ ?_), hrun, hended, _, _, rfl, ?_, ⟨_, rfl⟩, hW, hsame.mono (by decide) (by decide)⟩
        · show Steps p.tables e below (s₁.setTop (mkF m 43 #[.val (.int q1_0)] [(.int (0 : Int32))])) _
          exact retN X0 hx (t := .boolean) Bd.returns (by simp) (hb hby d1_43) hr
        · show Q1 Z q1_0 h0 n0 _ s₁.heap _
          rw [e0]
          exact ⟨(congrArg (fun z => some (Value.int z)) (Eq.symm (Eq.trans (if_neg c2) (Eq.trans (if_pos c35) (if_neg c37))))), N0, rfl⟩
    · skip
      have P40 : own_Go p e below S0 (s₁.setTop (mkF m 28 #[.val (.int q1_0)] [(.int (159 : Int32)), (.int q1_0)])) := fun t k => P34 t (by
        show Steps p.tables e below (s₁.setTop (mkF m 21 #[.val (.int q1_0)] [(.int (127 : Int32)), (.int q1_0)])) t
        refine XS.icmpNo X0.here hx rfl (hb hby d1_21) rfl (flt c35).1 ?_
        refine XS.iloadN X0.here hx rfl (hb hby d1_24) rfl ?_
        refine XS.sipush X0.here hx rfl (hb hby d1_25) ?_
        show Steps p.tables e below (s₁.setTop (mkF m 28 #[.val (.int q1_0)] [(.int (159 : Int32)), (.int q1_0)])) t
        exact k)
      by_cases c41 : (159 : Int32) < q1_0
      · skip
        have P42 : own_Go p e below S0 (s₁.setTop (mkF m 35 #[.val (.int q1_0)] [(.int (8232 : Int32)), (.int q1_0)])) := fun t k => P40 t (by
          show Steps p.tables e below (s₁.setTop (mkF m 28 #[.val (.int q1_0)] [(.int (159 : Int32)), (.int q1_0)])) t
          refine XS.icmpNo X0.here hx rfl (hb hby d1_28) rfl (tlt c41).2.2.2 ?_
          refine XS.iloadN X0.here hx rfl (hb hby d1_31) rfl ?_
          refine XS.sipush X0.here hx rfl (hb hby d1_32) ?_
          show Steps p.tables e below (s₁.setTop (mkF m 35 #[.val (.int q1_0)] [(.int (8232 : Int32)), (.int q1_0)])) t
          exact k)
        by_cases c43 : q1_0 = (8232 : Int32)
        · skip
          have P44 : own_Go p e below S0 (s₁.setTop (mkF m 43 #[.val (.int q1_0)] [(.int (1 : Int32))])) := fun t k => P42 t (by
            show Steps p.tables e below (s₁.setTop (mkF m 35 #[.val (.int q1_0)] [(.int (8232 : Int32)), (.int q1_0)])) t
            refine XS.icmpNo X0.here hx rfl (hb hby d1_35) rfl (teq c43).2 ?_
            refine XS.iconst X0.here hx rfl (hb hby d1_38) ?_
            refine XS.goto X0.here hx rfl (pc0 := 39) (pc' := 43) rfl (hb hby d1_39) (by decide) (by decide) ?_
            show Steps p.tables e below (s₁.setTop (mkF m 43 #[.val (.int q1_0)] [(.int (1 : Int32))])) t
            exact k)
          obtain ⟨fs, hr, hrun, hended, hW, hsame⟩ := X0.leave (v := some (.int (1 : Int32))) (fun h => by rw [Bd.returns] at h; cases h)
          refine ⟨_, _, own_from hS0 (P44 _ ?_), hrun, hended, _, _, rfl, ?_, ⟨_, rfl⟩, hW, hsame.mono (by decide) (by decide)⟩
          · show Steps p.tables e below (s₁.setTop (mkF m 43 #[.val (.int q1_0)] [(.int (1 : Int32))])) _
            exact retN X0 hx (t := .boolean) Bd.returns (by simp) (hb hby d1_43) hr
          · show Q1 Z q1_0 h0 n0 _ s₁.heap _
            rw [e0]
            exact ⟨(congrArg (fun z => some (Value.int z)) (Eq.symm (Eq.trans (if_neg c2) (Eq.trans (if_neg c35) (Eq.trans (if_pos c41) (if_pos c43)))))), N0, rfl⟩
        · skip
          have P45 : own_Go p e below S0 (s₁.setTop (mkF m 43 #[.val (.int q1_0)] [(.int (0 : Int32))])) := fun t k => P42 t (by
            show Steps p.tables e below (s₁.setTop (mkF m 35 #[.val (.int q1_0)] [(.int (8232 : Int32)), (.int q1_0)])) t
            refine XS.icmpYes X0.here hx rfl (pc0 := 35) (pc' := 42) rfl (hb hby d1_35) rfl (feq c43).2 (by decide) (by decide) ?_
            refine XS.iconst X0.here hx rfl (hb hby d1_42) ?_
            show Steps p.tables e below (s₁.setTop (mkF m 43 #[.val (.int q1_0)] [(.int (0 : Int32))])) t
            exact k)
          obtain ⟨fs, hr, hrun, hended, hW, hsame⟩ := X0.leave (v := some (.int (0 : Int32))) (fun h => by rw [Bd.returns] at h; cases h)
          refine ⟨_, _, own_from hS0 (P45 _ ?_), hrun, hended, _, _, rfl, ?_, ⟨_, rfl⟩, hW, hsame.mono (by decide) (by decide)⟩
          · show Steps p.tables e below (s₁.setTop (mkF m 43 #[.val (.int q1_0)] [(.int (0 : Int32))])) _
            exact retN X0 hx (t := .boolean) Bd.returns (by simp) (hb hby d1_43) hr
          · show Q1 Z q1_0 h0 n0 _ s₁.heap _
            rw [e0]
            exact ⟨(congrArg (fun z => some (Value.int z)) (Eq.symm (Eq.trans (if_neg c2) (Eq.trans (if_neg c35) (Eq.trans (if_pos c41) (if_neg c43)))))), N0, rfl⟩
      · skip
        have P46 : own_Go p e below S0 (s₁.setTop (mkF m 43 #[.val (.int q1_0)] [(.int (1 : Int32))])) := fun t k => P40 t (by
          show Steps p.tables e below (s₁.setTop (mkF m 28 #[.val (.int q1_0)] [(.int (159 : Int32)), (.int q1_0)])) t
          refine XS.icmpYes X0.here hx rfl (pc0 := 28) (pc' := 38) rfl (hb hby d1_28) rfl (flt c41).2.2.2 (by decide) (by decide) ?_
          refine XS.iconst X0.here hx rfl (hb hby d1_38) ?_
          refine XS.goto X0.here hx rfl (pc0 := 39) (pc' := 43) rfl (hb hby d1_39) (by decide) (by decide) ?_
          show Steps p.tables e below (s₁.setTop (mkF m 43 #[.val (.int q1_0)] [(.int (1 : Int32))])) t
          exact k)
        obtain ⟨fs, hr, hrun, hended, hW, hsame⟩ := X0.leave (v := some (.int (1 : Int32))) (fun h => by rw [Bd.returns] at h; cases h)
        refine ⟨_, _, own_from hS0 (P46 _ ?_), hrun, hended, _, _, rfl, ?_, ⟨_, rfl⟩, hW, hsame.mono (by decide) (by decide)⟩
        · show Steps p.tables e below (s₁.setTop (mkF m 43 #[.val (.int q1_0)] [(.int (1 : Int32))])) _
          exact retN X0 hx (t := .boolean) Bd.returns (by simp) (hb hby d1_43) hr
        · show Q1 Z q1_0 h0 n0 _ s₁.heap _
          rw [e0]
          exact ⟨(congrArg (fun z => some (Value.int z)) (Eq.symm (Eq.trans (if_neg c2) (Eq.trans (if_neg c35) (if_neg c41))))), N0, rfl⟩
theorem d2_0 : decode prog_177_method_7_code 0 = .ok (.iload_n 1, 1) := by decide +kernel
theorem d2_1 : decode prog_177_method_7_code 1 = .ok (.bipush 32, 2) := by decide +kernel
theorem d2_3 : decode prog_177_method_7_code 3 = .ok (.if_icmp .ge 49, 3) := by decide +kernel
theorem d2_6 : decode prog_177_method_7_code 6 = .ok (.aload_n 0, 1) := by decide +kernel
theorem d2_7 : decode prog_177_method_7_code 7 = .ok (.getstatic 7, 3) := by decide +kernel
theorem d2_10 : decode prog_177_method_7_code 10 = .ok (.if_acmp .ne 15, 3) := by decide +kernel
theorem d2_13 : decode prog_177_method_7_code 13 = .ok (.iload_n 1, 1) := by decide +kernel
theorem d2_14 : decode prog_177_method_7_code 14 = .ok (.ifCond .le 7, 3) := by decide +kernel
theorem d2_17 : decode prog_177_method_7_code 17 = .ok (.iconst 1, 1) := by decide +kernel
theorem d2_18 : decode prog_177_method_7_code 18 = .ok (.goto 30, 3) := by decide +kernel
theorem d2_21 : decode prog_177_method_7_code 21 = .ok (.iconst 0, 1) := by decide +kernel
theorem d2_22 : decode prog_177_method_7_code 22 = .ok (.goto 26, 3) := by decide +kernel
theorem d2_48 : decode prog_177_method_7_code 48 = .ok (.istore_n 2, 1) := by decide +kernel
theorem d2_49 : decode prog_177_method_7_code 49 = .ok (.goto 39, 3) := by decide +kernel
theorem d2_52 : decode prog_177_method_7_code 52 = .ok (.iload_n 1, 1) := by decide +kernel
theorem d2_53 : decode prog_177_method_7_code 53 = .ok (.ldc 43, 2) := by decide +kernel
theorem d2_55 : decode prog_177_method_7_code 55 = .ok (.if_icmp .le 27, 3) := by decide +kernel
theorem d2_58 : decode prog_177_method_7_code 58 = .ok (.iload_n 1, 1) := by decide +kernel
theorem d2_59 : decode prog_177_method_7_code 59 = .ok (.ldc 44, 2) := by decide +kernel
theorem d2_61 : decode prog_177_method_7_code 61 = .ok (.if_icmp .lt 9, 3) := by decide +kernel
theorem d2_64 : decode prog_177_method_7_code 64 = .ok (.iload_n 1, 1) := by decide +kernel
theorem d2_65 : decode prog_177_method_7_code 65 = .ok (.ldc 45, 2) := by decide +kernel
theorem d2_67 : decode prog_177_method_7_code 67 = .ok (.if_icmp .le 15, 3) := by decide +kernel
theorem d2_70 : decode prog_177_method_7_code 70 = .ok (.iload_n 1, 1) := by decide +kernel
theorem d2_71 : decode prog_177_method_7_code 71 = .ok (.ldc 46, 2) := by decide +kernel
theorem d2_73 : decode prog_177_method_7_code 73 = .ok (.if_icmp .lt 13, 3) := by decide +kernel
theorem d2_76 : decode prog_177_method_7_code 76 = .ok (.iload_n 1, 1) := by decide +kernel
theorem d2_77 : decode prog_177_method_7_code 77 = .ok (.ldc 47, 2) := by decide +kernel
theorem d2_79 : decode prog_177_method_7_code 79 = .ok (.if_icmp .gt 7, 3) := by decide +kernel
theorem d2_82 : decode prog_177_method_7_code 82 = .ok (.iconst 1, 1) := by decide +kernel
theorem d2_83 : decode prog_177_method_7_code 83 = .ok (.goto 4, 3) := by decide +kernel
theorem d2_86 : decode prog_177_method_7_code 86 = .ok (.iconst 0, 1) := by decide +kernel
theorem d2_87 : decode prog_177_method_7_code 87 = .ok (.istore_n 2, 1) := by decide +kernel
theorem d2_88 : decode prog_177_method_7_code 88 = .ok (.iload_n 2, 1) := by decide +kernel
theorem d2_89 : decode prog_177_method_7_code 89 = .ok (.ireturn, 1) := by decide +kernel
theorem ef_2 (m : MethodId) (z2_V1_1 : Addr) (q2_1 : Int32) : entryFrame m #[(.ref z2_V1_1), (.int q2_1)] 3 = mkF m 0 #[.val (.ref z2_V1_1), .val (.int q2_1), .unset] [] := by first | (simp [entryFrame, mkF, argsToLocals, Value.category]; done) | rfl
def r2 (q2_1 : Int32) : Int32 := (if q2_1 < (32 : Int32) then (if (0 : Int32) < q2_1 then (1 : Int32) else (0 : Int32)) else (if (55295 : Int32) < q2_1 then (if q2_1 < (57344 : Int32) then (if q2_1 < (65536 : Int32) then (0 : Int32) else (if (1114111 : Int32) < q2_1 then (0 : Int32) else (1 : Int32))) else (if (65533 : Int32) < q2_1 then (if q2_1 < (65536 : Int32) then (0 : Int32) else (if (1114111 : Int32) < q2_1 then (0 : Int32) else (1 : Int32))) else (1 : Int32))) else (1 : Int32)))
def Q2 (Z : State) (z2_V1_1 : Addr) (q2_1 : Int32) (h0 : Heap) (n0 : Nat) (v : Option Value) (h : Heap) (L : List Loc) : Prop := v = some (.int (r2 q2_1)) ∧ Fr n0 L ∧ h = h0
set_option maxRecDepth 65536 in
set_option maxHeartbeats 40000000 in
theorem rm2 (l : Launch) (Z : State) (a0 : Array Value) (hw : ∀ d ∈ tables_1, d.before a0 Z = true) (ws : List Jvm.Cond) (z2_V1_1 : Addr) (q2_1 : Int32) (h0 : Heap) (n0 : Nat) (Z0 : n0 ≤ h0.size) (S_V1_1 : Sta Z h0 "com/example/splice/splice/XmlVersion" "V1_1" "Lcom/example/splice/splice/XmlVersion;" (.ref z2_V1_1)) :
    MetFree l (⟨"com/example/splice/splice/XmlVersion", "allows", "(I)Z"⟩ : MethodName) (head1 (Jvm.Cond.code (⟨"com/example/splice/splice/XmlVersion", "allows", "(I)Z"⟩ : MethodName) prog_177_method_7_code 3 (some .boolean) :: ws) ({ frames := 0, cells := 0, slots := 0, locals := 0 } : Room)) (fun a U => a = #[(.ref z2_V1_1), (.int q2_1)] ∧ Z.Warmed39 U.vm ∧ U.heap = h0) (fun _ _ _ _ _ => True) (fun _ U o U' => ∃ v L, o = .returned v ∧ Q2 Z z2_V1_1 q2_1 h0 n0 v U'.heap L ∧ FrameEnd U o U' L ({ frames := 0, cells := 0, slots := 0, locals := 0 } : Room).cells ({ frames := 0, cells := 0, slots := 0, locals := 0 } : Room).slots) := by
  refine MetFree.of_bodySF (plainFor_of_name pn_1) hisR ?_
  intro p e s m args below meth c s₁ Bd hml0 hP hK
  obtain ⟨rfl, hZ, hh⟩ := hP
  have hx := Bd.exec
  have hby := Bd.bytes
  have hml : c.maxLocals = 3 := hml0
  have hown : s.vm.findClass "com/example/splice/splice/XmlVersion" = some m.cls := findClass_of_methodNamed Bd.named
  have hnm := (name_of_methodNamed Bd.named Bd.method).1
  have X0 : Stand p l e ({ frames := 0, cells := 0, slots := 0, locals := 0 } : Room) s m #[(.ref z2_V1_1), (.int q2_1)] below meth c s₁ [] 0 0 := Stand.of_body Bd
  have e0 : s₁.heap = h0 := by rw [← hh, Bd.state]; rfl
  have N0 := Fr.nil n0
  obtain ⟨S0, hS0⟩ : ∃ z, z = s₁.setTop (entryFrame m #[(.ref z2_V1_1), (.int q2_1)] 3) := ⟨_, rfl⟩
  have P0 : own_Go p e below S0 (s₁.setTop (mkF m 0 #[.val (.ref z2_V1_1), .val (.int q2_1), .unset] [])) := fun t k => by rw [hS0]; exact castTop (ef_2 m z2_V1_1 q2_1) k
  have P1 : own_Go p e below S0 (s₁.setTop (mkF m 3 #[.val (.ref z2_V1_1), .val (.int q2_1), .unset] [(.int (32 : Int32)), (.int q2_1)])) := fun t k => P0 t (by
    show Steps p.tables e below (s₁.setTop (mkF m 0 #[.val (.ref z2_V1_1), .val (.int q2_1), .unset] [])) t
    refine XS.iloadN X0.here hx rfl (hb hby d2_0) rfl ?_
    refine XS.bipush X0.here hx rfl (hb hby d2_1) ?_
    show Steps p.tables e below (s₁.setTop (mkF m 3 #[.val (.ref z2_V1_1), .val (.int q2_1), .unset] [(.int (32 : Int32)), (.int q2_1)])) t
    exact k)
  by_cases c2 : q2_1 < (32 : Int32)
  · skip
    have P3 : own_Go p e below S0 (s₁.setTop (mkF m 7 #[.val (.ref z2_V1_1), .val (.int q2_1), .unset] [(.ref z2_V1_1)])) := fun t k => P1 t (by
      show Steps p.tables e below (s₁.setTop (mkF m 3 #[.val (.ref z2_V1_1), .val (.int q2_1), .unset] [(.int (32 : Int32)), (.int q2_1)])) t
      refine XS.icmpNo X0.here hx rfl (hb hby d2_3) rfl (tlt c2).2.1 ?_
      refine XS.aloadN X0.here hx rfl (hb hby d2_6) rfl rfl ?_
      show Steps p.tables e below (s₁.setTop (mkF m 7 #[.val (.ref z2_V1_1), .val (.int q2_1), .unset] [(.ref z2_V1_1)])) t
      exact k)
    obtain ⟨T4, X4, e4, st4⟩ := getS2 X0 hx hZ hown (host := "") (Or.inl (hw _ (List.mem_of_getElem? (i := 12) rfl))) Via.refl e0 S_V1_1 (g := (mkF m 7 #[.val (.ref z2_V1_1), .val (.int q2_1), .unset] [(.ref z2_V1_1)])) rfl (hb hby d2_7)
    have P4 : own_Go p e below S0 (T4.setTop (mkF m 10 #[.val (.ref z2_V1_1), .val (.int q2_1), .unset] [(.ref z2_V1_1), (.ref z2_V1_1)])) := fun t k => P3 t (st4 _ k)
    have P5 : own_Go p e below S0 (T4.setTop (mkF m 14 #[.val (.ref z2_V1_1), .val (.int q2_1), .unset] [(.int q2_1)])) := fun t k => P4 t (by
      show Steps p.tables e below (T4.setTop (mkF m 10 #[.val (.ref z2_V1_1), .val (.int q2_1), .unset] [(.ref z2_V1_1), (.ref z2_V1_1)])) t
      refine Jvm.RoadKit.acmp (g := (mkF m 10 #[.val (.ref z2_V1_1), .val (.int q2_1), .unset] [(.ref z2_V1_1), (.ref z2_V1_1)])) X4 hx rfl rfl rfl (pc0 := 10) (pc' := 13) (same := true) rfl (hb hby d2_10) rfl (decide_eq_true rfl) (by decide) (by decide) ?_
      refine XS.iloadN X4.here hx rfl (hb hby d2_13) rfl ?_
      show Steps p.tables e below (T4.setTop (mkF m 14 #[.val (.ref z2_V1_1), .val (.int q2_1), .unset] [(.int q2_1)])) t
      exact k)
    by_cases c6 : (0 : Int32) < q2_1
    · skip
      have P7 : own_Go p e below S0 (T4.setTop (mkF m 89 #[.val (.ref z2_V1_1), .val (.int q2_1), .val (.int (1 : Int32))] [(.int (1 : Int32))])) := fun t k => P5 t (by
        show Steps p.tables e below (T4.setTop (mkF m 14 #[.val (.ref z2_V1_1), .val (.int q2_1), .unset] [(.int q2_1)])) t
        refine XS.ifNo X4.here hx rfl (hb hby d2_14) rfl ((if0 _ _).trans (tlt c6).2.2.2) ?_
        refine XS.iconst X4.here hx rfl (hb hby d2_17) ?_
        refine XS.goto X4.here hx rfl (pc0 := 18) (pc' := 48) rfl (hb hby d2_18) (by decide) (by decide) ?_
        refine XS.istoreN X4.here hx rfl (hb hby d2_48) rfl (l' := #[.val (.ref z2_V1_1), .val (.int q2_1), .val (.int (1 : Int32))]) rfl ?_
        refine XS.goto X4.here hx rfl (pc0 := 49) (pc' := 88) rfl (hb hby d2_49) (by decide) (by decide) ?_
        refine XS.iloadN X4.here hx rfl (hb hby d2_88) rfl ?_
        show Steps p.tables e below (T4.setTop (mkF m 89 #[.val (.ref z2_V1_1), .val (.int q2_1), .val (.int (1 : Int32))] [(.int (1 : Int32))])) t
        exact k)
      obtain ⟨fs, hr, hrun, hended, hW, hsame⟩ := X4.leave (v := some (.int (1 : Int32))) (fun h => by rw [Bd.returns] at h; cases h)
      refine ⟨_, _, own_from hS0 (P7 _ ?_), hrun, hended, _, _, rfl, ?_, ⟨_, rfl⟩, hW, hsame.mono (by decide) (by decide)⟩
      · show Steps p.tables e below (T4.setTop (mkF m 89 #[.val (.ref z2_V1_1), .val (.int q2_1), .val (.int (1 : Int32))] [(.int (1 : Int32))])) _
        exact retN X4 hx (t := .boolean) Bd.returns (by simp) (hb hby d2_89) hr
      · show Q2 Z z2_V1_1 q2_1 h0 n0 _ T4.heap _
        rw [e4]
        exact ⟨(congrArg (fun z => some (Value.int z)) (Eq.symm (Eq.trans (if_pos c2) (if_pos c6)))), N0, rfl⟩
    · skip
      have P8 : own_Go p e below S0 (T4.setTop (mkF m 89 #[.val (.ref z2_V1_1), .val (.int q2_1), .val (.int (0 : Int32))] [(.int (0 : Int32))])) := fun t k => P5 t (by
        show Steps p.tables e below (T4.setTop (mkF m 14 #[.val (.ref z2_V1_1), .val (.int q2_1), .unset] [(.int q2_1)])) t
        refine XS.ifYes X4.here hx rfl (pc0 := 14) (pc' := 21) rfl (hb hby d2_14) rfl ((if0 _ _).trans (flt c6).2.2.2) (by decide) (by decide) ?_
        refine XS.iconst X4.here hx rfl (hb hby d2_21) ?_
        refine XS.goto X4.here hx rfl (pc0 := 22) (pc' := 48) rfl (hb hby d2_22) (by decide) (by decide) ?_
        refine XS.istoreN X4.here hx rfl (hb hby d2_48) rfl (l' := #[.val (.ref z2_V1_1), .val (.int q2_1), .val (.int (0 : Int32))]) rfl ?_
        refine XS.goto X4.here hx rfl (pc0 := 49) (pc' := 88) rfl (hb hby d2_49) (by decide) (by decide) ?_
        refine XS.iloadN X4.here hx rfl (hb hby d2_88) rfl ?_
        show Steps p.tables e below (T4.setTop (mkF m 89 #[.val (.ref z2_V1_1), .val (.int q2_1), .val (.int (0 : Int32))] [(.int (0 : Int32))])) t
        exact k)
      obtain ⟨fs, hr, hrun, hended, hW, hsame⟩ := X4.leave (v := some (.int (0 : Int32))) (fun h => by rw [Bd.returns] at h; cases h)
      refine ⟨_, _, own_from hS0 (P8 _ ?_), hrun, hended, _, _, rfl, ?_, ⟨_, rfl⟩, hW, hsame.mono (by decide) (by decide)⟩
      · show Steps p.tables e below (T4.setTop (mkF m 89 #[.val (.ref z2_V1_1), .val (.int q2_1), .val (.int (0 : Int32))] [(.int (0 : Int32))])) _
        exact retN X4 hx (t := .boolean) Bd.returns (by simp) (hb hby d2_89) hr
      · show Q2 Z z2_V1_1 q2_1 h0 n0 _ T4.heap _
        rw [e4]
        exact ⟨(congrArg (fun z => some (Value.int z)) (Eq.symm (Eq.trans (if_pos c2) (if_neg c6)))), N0, rfl⟩
  · skip
    have P9 : own_Go p e below S0 (s₁.setTop (mkF m 55 #[.val (.ref z2_V1_1), .val (.int q2_1), .unset] [(.int (55295 : Int32)), (.int q2_1)])) := fun t k => P1 t (by
      show Steps p.tables e below (s₁.setTop (mkF m 3 #[.val (.ref z2_V1_1), .val (.int q2_1), .unset] [(.int (32 : Int32)), (.int q2_1)])) t
      refine XS.icmpYes X0.here hx rfl (pc0 := 3) (pc' := 52) rfl (hb hby d2_3) rfl (flt c2).2.1 (by decide) (by decide) ?_
      refine XS.iloadN X0.here hx rfl (hb hby d2_52) rfl ?_
      show Steps p.tables e below (s₁.setTop (mkF m 53 #[.val (.ref z2_V1_1), .val (.int q2_1), .unset] [(.int q2_1)])) t
      refine X0.ldcInt hx hown (mvT hZ (hw _ (List.mem_of_getElem? (i := 19) rfl))) (g := (mkF m 53 #[.val (.ref z2_V1_1), .val (.int q2_1), .unset] [(.int q2_1)])) rfl (hb hby d2_53) _ ?_
      show Steps p.tables e below (s₁.setTop (mkF m 55 #[.val (.ref z2_V1_1), .val (.int q2_1), .unset] [(.int (55295 : Int32)), (.int q2_1)])) t
      exact k)
    by_cases c10 : (55295 : Int32) < q2_1
    · skip
      have P11 : own_Go p e below S0 (s₁.setTop (mkF m 61 #[.val (.ref z2_V1_1), .val (.int q2_1), .unset] [(.int (57344 : Int32)), (.int q2_1)])) := fun t k => P9 t (by
        show Steps p.tables e below (s₁.setTop (mkF m 55 #[.val (.ref z2_V1_1), .val (.int q2_1), .unset] [(.int (55295 : Int32)), (.int q2_1)])) t
        refine XS.icmpNo X0.here hx rfl (hb hby d2_55) rfl (tlt c10).2.2.2 ?_
        refine XS.iloadN X0.here hx rfl (hb hby d2_58) rfl ?_
        show Steps p.tables e below (s₁.setTop (mkF m 59 #[.val (.ref z2_V1_1), .val (.int q2_1), .unset] [(.int q2_1)])) t
        refine X0.ldcInt hx hown (mvT hZ (hw _ (List.mem_of_getElem? (i := 25) rfl))) (g := (mkF m 59 #[.val (.ref z2_V1_1), .val (.int q2_1), .unset] [(.int q2_1)])) rfl (hb hby d2_59) _ ?_
        show Steps p.tables e below (s₁.setTop (mkF m 61 #[.val (.ref z2_V1_1), .val (.int q2_1), .unset] [(.int (57344 : Int32)), (.int q2_1)])) t
        exact k)
      by_cases c12 : q2_1 < (57344 : Int32)
      · skip
        have P13 : own_Go p e below S0 (s₁.setTop (mkF m 73 #[.val (.ref z2_V1_1), .val (.int q2_1), .unset] [(.int (65536 : Int32)), (.int q2_1)])) := fun t k => P11 t (by
          show Steps p.tables e below (s₁.setTop (mkF m 61 #[.val (.ref z2_V1_1), .val (.int q2_1), .unset] [(.int (57344 : Int32)), (.int q2_1)])) t
          refine XS.icmpYes X0.here hx rfl (pc0 := 61) (pc' := 70) rfl (hb hby d2_61) rfl (tlt c12).1 (by decide) (by decide) ?_
          refine XS.iloadN X0.here hx rfl (hb hby d2_70) rfl ?_
          show Steps p.tables e below (s₁.setTop (mkF m 71 #[.val (.ref z2_V1_1), .val (.int q2_1), .unset] [(.int q2_1)])) t
          refine X0.ldcInt hx hown (mvT hZ (hw _ (List.mem_of_getElem? (i := 27) rfl))) (g := (mkF m 71 #[.val (.ref z2_V1_1), .val (.int q2_1), .unset] [(.int q2_1)])) rfl (hb hby d2_71) _ ?_
          show Steps p.tables e below (s₁.setTop (mkF m 73 #[.val (.ref z2_V1_1), .val (.int q2_1), .unset] [(.int (65536 : Int32)), (.int q2_1)])) t
          exact k)
        by_cases c14 : q2_1 < (65536 : Int32)
        · skip
          have P15 : own_Go p e below S0 (s₁.setTop (mkF m 89 #[.val (.ref z2_V1_1), .val (.int q2_1), .val (.int (0 : Int32))] [(.int (0 : Int32))])) := fun t k => P13 t (by
            show Steps p.tables e below (s₁.setTop (mkF m 73 #[.val (.ref z2_V1_1), .val (.int q2_1), .unset] [(.int (65536 : Int32)), (.int q2_1)])) t
            refine XS.icmpYes X0.here hx rfl (pc0 := 73) (pc' := 86) rfl (hb hby d2_73) rfl (tlt c14).1 (by decide) (by decide) ?_
            refine XS.iconst X0.here hx rfl (hb hby d2_86) ?_
            refine XS.istoreN X0.here hx rfl (hb hby d2_87) rfl (l' := #[.val (.ref z2_V1_1), .val (.int q2_1), .val (.int (0 : Int32))]) rfl ?_
            refine XS.iloadN X0.here hx rfl (hb hby d2_88) rfl ?_
            show Steps p.tables e below (s₁.setTop (mkF m 89 #[.val (.ref z2_V1_1), .val (.int q2_1), .val (.int (0 : Int32))] [(.int (0 : Int32))])) t
            exact k)
          obtain ⟨fs, hr, hrun, hended, hW, hsame⟩ := X0.leave (v := some (.int (0 : Int32))) (fun h => by rw [Bd.returns] at h; cases h)
          refine ⟨_, _, own_from hS0 (P15 _ ?_), hrun, hended, _, _, rfl, ?_, ⟨_, rfl⟩, hW, hsame.mono (by decide) (by decide)⟩
          · show Steps p.tables e below (s₁.setTop (mkF m 89 #[.val (.ref z2_V1_1), .val (.int q2_1), .val (.int (0 : Int32))] [(.int (0 : Int32))])) _
            exact retN X0 hx (t := .boolean) Bd.returns (by simp) (hb hby d2_89) hr
          · show Q2 Z z2_V1_1 q2_1 h0 n0 _ s₁.heap _
            rw [e0]
            exact ⟨(congrArg (fun z => some (Value.int z)) (Eq.symm (Eq.trans (if_neg c2) (Eq.trans (if_pos c10) (Eq.trans (if_pos c12) (if_pos c14)))))), N0, rfl⟩
        · skip
          have P16 : own_Go p e below S0 (s₁.setTop (mkF m 79 #[.val (.ref z2_V1_1), .val (.int q2_1), .unset] [(.int (1114111 : Int32)), (.int q2_1)])) := fun t k => P13 t (by
            show Steps p.tables e below (s₁.setTop (mkF m 73 #[.val (.ref z2_V1_1), .val (.int q2_1), .unset] [(.int (65536 : Int32)), (.int q2_1)])) t
            refine XS.icmpNo X0.here hx rfl (hb hby d2_73) rfl (flt c14).1 ?_
            refine XS.iloadN X0.here hx rfl (hb hby d2_76) rfl ?_
            show Steps p.tables e below (s₁.setTop (mkF m 77 #[.val (.ref z2_V1_1), .val (.int q2_1), .unset] [(.int q2_1)])) t
            refine X0.ldcInt hx hown (mvT hZ (hw _ (List.mem_of_getElem? (i := 28) rfl))) (g := (mkF m 77 #[.val (.ref z2_V1_1), .val (.int q2_1), .unset] [(.int q2_1)])) rfl (hb hby d2_77) _ ?_
            show Steps p.tables e below (s₁.setTop (mkF m 79 #[.val (.ref z2_V1_1), .val (.int q2_1), .unset] [(.int (1114111 : Int32)), (.int q2_1)])) t
            exact k)
          by_cases c17 : (1114111 : Int32) < q2_1
          · skip
            have P18 : own_Go p e below S0 (s₁.setTop (mkF m 89 #[.val (.ref z2_V1_1), .val (.int q2_1), .val (.int (0 : Int32))] [(.int (0 : Int32))])) := fun t k => P16 t (by
              show Steps p.tables e below (s₁.setTop (mkF m 79 #[.val (.ref z2_V1_1), .val (.int q2_1), .unset] [(.int (1114111 : Int32)), (.int q2_1)])) t
              refine XS.icmpYes X0.here hx rfl (pc0 := 79) (pc' := 86) rfl (hb hby d2_79) rfl (tlt c17).2.2.1 (by decide) (by decide) ?_
              refine XS.iconst X0.here hx rfl (hb hby d2_86) ?_
              refine XS.istoreN X0.here hx rfl (hb hby d2_87) rfl (l' := #[.val (.ref z2_V1_1), .val (.int q2_1), .val (.int (0 : Int32))]) rfl ?_
              refine XS.iloadN X0.here hx rfl (hb hby d2_88) rfl ?_
              show Steps p.tables e below (s₁.setTop (mkF m 89 #[.val (.ref z2_V1_1), .val (.int q2_1), .val (.int (0 : Int32))] [(.int (0 : Int32))])) t
              exact k)
            obtain ⟨fs, hr, hrun, hended, hW, hsame⟩ := X0.leave (v := some (.int (0 : Int32))) (fun h => by rw [Bd.returns] at h; cases h)
            refine ⟨_, _, own_from hS0 (P18 _ ?_), hrun, hended, _, _, rfl, ?_, ⟨_, rfl⟩, hW, hsame.mono (by decide) (by decide)⟩
            · show Steps p.tables e below (s₁.setTop (mkF m 89 #[.val (.ref z2_V1_1), .val (.int q2_1), .val (.int (0 : Int32))] [(.int (0 : Int32))])) _
              exact retN X0 hx (t := .boolean) Bd.returns (by simp) (hb hby d2_89) hr
            · show Q2 Z z2_V1_1 q2_1 h0 n0 _ s₁.heap _
              rw [e0]
              exact ⟨(congrArg (fun z => some (Value.int z)) (Eq.symm (Eq.trans (if_neg c2) (Eq.trans (if_pos c10) (Eq.trans (if_pos c12) (Eq.trans (if_neg c14) (if_pos c17))))))), N0, rfl⟩
          · skip
            have P19 : own_Go p e below S0 (s₁.setTop (mkF m 89 #[.val (.ref z2_V1_1), .val (.int q2_1), .val (.int (1 : Int32))] [(.int (1 : Int32))])) := fun t k => P16 t (by
              show Steps p.tables e below (s₁.setTop (mkF m 79 #[.val (.ref z2_V1_1), .val (.int q2_1), .unset] [(.int (1114111 : Int32)), (.int q2_1)])) t
              refine XS.icmpNo X0.here hx rfl (hb hby d2_79) rfl (flt c17).2.2.1 ?_
              refine XS.iconst X0.here hx rfl (hb hby d2_82) ?_
              refine XS.goto X0.here hx rfl (pc0 := 83) (pc' := 87) rfl (hb hby d2_83) (by decide) (by decide) ?_
              refine XS.istoreN X0.here hx rfl (hb hby d2_87) rfl (l' := #[.val (.ref z2_V1_1), .val (.int q2_1), .val (.int (1 : Int32))]) rfl ?_
              refine XS.iloadN X0.here hx rfl (hb hby d2_88) rfl ?_
              show Steps p.tables e below (s₁.setTop (mkF m 89 #[.val (.ref z2_V1_1), .val (.int q2_1), .val (.int (1 : Int32))] [(.int (1 : Int32))])) t
              exact k)
            obtain ⟨fs, hr, hrun, hended, hW, hsame⟩ := X0.leave (v := some (.int (1 : Int32))) (fun h => by rw [Bd.returns] at h; cases h)
            refine ⟨_, _, own_from hS0 (P19 _ ?_), hrun, hended, _, _, rfl, ?_, ⟨_, rfl⟩, hW, hsame.mono (by decide) (by decide)⟩
            · show Steps p.tables e below (s₁.setTop (mkF m 89 #[.val (.ref z2_V1_1), .val (.int q2_1), .val (.int (1 : Int32))] [(.int (1 : Int32))])) _
              exact retN X0 hx (t := .boolean) Bd.returns (by simp) (hb hby d2_89) hr
            · show Q2 Z z2_V1_1 q2_1 h0 n0 _ s₁.heap _
              rw [e0]
              exact ⟨(congrArg (fun z => some (Value.int z)) (Eq.symm (Eq.trans (if_neg c2) (Eq.trans (if_pos c10) (Eq.trans (if_pos c12) (Eq.trans (if_neg c14) (if_neg c17))))))), N0, rfl⟩
      · skip
        have P20 : own_Go p e below S0 (s₁.setTop (mkF m 67 #[.val (.ref z2_V1_1), .val (.int q2_1), .unset] [(.int (65533 : Int32)), (.int q2_1)])) := fun t k => P11 t (by
          show Steps p.tables e below (s₁.setTop (mkF m 61 #[.val (.ref z2_V1_1), .val (.int q2_1), .unset] [(.int (57344 : Int32)), (.int q2_1)])) t
          refine XS.icmpNo X0.here hx rfl (hb hby d2_61) rfl (flt c12).1 ?_
          refine XS.iloadN X0.here hx rfl (hb hby d2_64) rfl ?_
          show Steps p.tables e below (s₁.setTop (mkF m 65 #[.val (.ref z2_V1_1), .val (.int q2_1), .unset] [(.int q2_1)])) t
          refine X0.ldcInt hx hown (mvT hZ (hw _ (List.mem_of_getElem? (i := 26) rfl))) (g := (mkF m 65 #[.val (.ref z2_V1_1), .val (.int q2_1), .unset] [(.int q2_1)])) rfl (hb hby d2_65) _ ?_
          show Steps p.tables e below (s₁.setTop (mkF m 67 #[.val (.ref z2_V1_1), .val (.int q2_1), .unset] [(.int (65533 : Int32)), (.int q2_1)])) t
          exact k)
        by_cases c21 : (65533 : Int32) < q2_1
        · skip
          have P22 : own_Go p e below S0 (s₁.setTop (mkF m 73 #[.val (.ref z2_V1_1), .val (.int q2_1), .unset] [(.int (65536 : Int32)), (.int q2_1)])) := fun t k => P20 t (by
            show Steps p.tables e below (s₁.setTop (mkF m 67 #[.val (.ref z2_V1_1), .val (.int q2_1), .unset] [(.int (65533 : Int32)), (.int q2_1)])) t
            refine XS.icmpNo X0.here hx rfl (hb hby d2_67) rfl (tlt c21).2.2.2 ?_
            refine XS.iloadN X0.here hx rfl (hb hby d2_70) rfl ?_
            show Steps p.tables e below (s₁.setTop (mkF m 71 #[.val (.ref z2_V1_1), .val (.int q2_1), .unset] [(.int q2_1)])) t
            refine X0.ldcInt hx hown (mvT hZ (hw _ (List.mem_of_getElem? (i := 27) rfl))) (g := (mkF m 71 #[.val (.ref z2_V1_1), .val (.int q2_1), .unset] [(.int q2_1)])) rfl (hb hby d2_71) _ ?_
            show Steps p.tables e below (s₁.setTop (mkF m 73 #[.val (.ref z2_V1_1), .val (.int q2_1), .unset] [(.int (65536 : Int32)), (.int q2_1)])) t
            exact k)
          by_cases c23 : q2_1 < (65536 : Int32)
          · skip
            have P24 : own_Go p e below S0 (s₁.setTop (mkF m 89 #[.val (.ref z2_V1_1), .val (.int q2_1), .val (.int (0 : Int32))] [(.int (0 : Int32))])) := fun t k => P22 t (by
              show Steps p.tables e below (s₁.setTop (mkF m 73 #[.val (.ref z2_V1_1), .val (.int q2_1), .unset] [(.int (65536 : Int32)), (.int q2_1)])) t
              refine XS.icmpYes X0.here hx rfl (pc0 := 73) (pc' := 86) rfl (hb hby d2_73) rfl (tlt c23).1 (by decide) (by decide) ?_
              refine XS.iconst X0.here hx rfl (hb hby d2_86) ?_
              refine XS.istoreN X0.here hx rfl (hb hby d2_87) rfl (l' := #[.val (.ref z2_V1_1), .val (.int q2_1), .val (.int (0 : Int32))]) rfl ?_
              refine XS.iloadN X0.here hx rfl (hb hby d2_88) rfl ?_
              show Steps p.tables e below (s₁.setTop (mkF m 89 #[.val (.ref z2_V1_1), .val (.int q2_1), .val (.int (0 : Int32))] [(.int (0 : Int32))])) t
              exact k)
            obtain ⟨fs, hr, hrun, hended, hW, hsame⟩ := X0.leave (v := some (.int (0 : Int32))) (fun h => by rw [Bd.returns] at h; cases h)
            refine ⟨_, _, own_from hS0 (P24 _ ?_), hrun, hended, _, _, rfl, ?_, ⟨_, rfl⟩, hW, hsame.mono (by decide) (by decide)⟩
            · show Steps p.tables e below (s₁.setTop (mkF m 89 #[.val (.ref z2_V1_1), .val (.int q2_1), .val (.int (0 : Int32))] [(.int (0 : Int32))])) _
              exact retN X0 hx (t := .boolean) Bd.returns (by simp) (hb hby d2_89) hr
            · show Q2 Z z2_V1_1 q2_1 h0 n0 _ s₁.heap _
              rw [e0]
              exact ⟨(congrArg (fun z => some (Value.int z)) (Eq.symm (Eq.trans (if_neg c2) (Eq.trans (if_pos c10) (Eq.trans (if_neg c12) (Eq.trans (if_pos c21) (if_pos c23))))))), N0, rfl⟩
          · skip
            have P25 : own_Go p e below S0 (s₁.setTop (mkF m 79 #[.val (.ref z2_V1_1), .val (.int q2_1), .unset] [(.int (1114111 : Int32)), (.int q2_1)])) := fun t k => P22 t (by
              show Steps p.tables e below (s₁.setTop (mkF m 73 #[.val (.ref z2_V1_1), .val (.int q2_1), .unset] [(.int (65536 : Int32)), (.int q2_1)])) t
              refine XS.icmpNo X0.here hx rfl (hb hby d2_73) rfl (flt c23).1 ?_
              refine XS.iloadN X0.here hx rfl (hb hby d2_76) rfl ?_
              show Steps p.tables e below (s₁.setTop (mkF m 77 #[.val (.ref z2_V1_1), .val (.int q2_1), .unset] [(.int q2_1)])) t
              refine X0.ldcInt hx hown (mvT hZ (hw _ (List.mem_of_getElem? (i := 28) rfl))) (g := (mkF m 77 #[.val (.ref z2_V1_1), .val (.int q2_1), .unset] [(.int q2_1)])) rfl (hb hby d2_77) _ ?_
              show Steps p.tables e below (s₁.setTop (mkF m 79 #[.val (.ref z2_V1_1), .val (.int q2_1), .unset] [(.int (1114111 : Int32)), (.int q2_1)])) t
              exact k)
            by_cases c26 : (1114111 : Int32) < q2_1
            · skip
              have P27 : own_Go p e below S0 (s₁.setTop (mkF m 89 #[.val (.ref z2_V1_1), .val (.int q2_1), .val (.int (0 : Int32))] [(.int (0 : Int32))])) := fun t k => P25 t (by
                show Steps p.tables e below (s₁.setTop (mkF m 79 #[.val (.ref z2_V1_1), .val (.int q2_1), .unset] [(.int (1114111 : Int32)), (.int q2_1)])) t
                refine XS.icmpYes X0.here hx rfl (pc0 := 79) (pc' := 86) rfl (hb hby d2_79) rfl (tlt c26).2.2.1 (by decide) (by decide) ?_
                refine XS.iconst X0.here hx rfl (hb hby d2_86) ?_
                refine XS.istoreN X0.here hx rfl (hb hby d2_87) rfl (l' := #[.val (.ref z2_V1_1), .val (.int q2_1), .val (.int (0 : Int32))]) rfl ?_
                refine XS.iloadN X0.here hx rfl (hb hby d2_88) rfl ?_
                show Steps p.tables e below (s₁.setTop (mkF m 89 #[.val (.ref z2_V1_1), .val (.int q2_1), .val (.int (0 : Int32))] [(.int (0 : Int32))])) t
                exact k)
              obtain ⟨fs, hr, hrun, hended, hW, hsame⟩ := X0.leave (v := some (.int (0 : Int32))) (fun h => by rw [Bd.returns] at h; cases h)
              refine ⟨_, _, own_from hS0 (P27 _ ?_), hrun, hended, _, _, rfl, ?_, ⟨_, rfl⟩, hW, hsame.mono (by decide) (by decide)⟩
              · show Steps p.tables e below (s₁.setTop (mkF m 89 #[.val (.ref z2_V1_1), .val (.int q2_1), .val (.int (0 : Int32))] [(.int (0 : Int32))])) _
                exact retN X0 hx (t := .boolean) Bd.returns (by simp) (hb hby d2_89) hr
              · show Q2 Z z2_V1_1 q2_1 h0 n0 _ s₁.heap _
                rw [e0]
                exact ⟨(congrArg (fun z => some (Value.int z)) (Eq.symm (Eq.trans (if_neg c2) (Eq.trans (if_pos c10) (Eq.trans (if_neg c12) (Eq.trans (if_pos c21) (Eq.trans (if_neg c23) (if_pos c26)))))))), N0, rfl⟩
            · skip
              have P28 : own_Go p e below S0 (s₁.setTop (mkF m 89 #[.val (.ref z2_V1_1), .val (.int q2_1), .val (.int (1 : Int32))] [(.int (1 : Int32))])) := fun t k => P25 t (by
                show Steps p.tables e below (s₁.setTop (mkF m 79 #[.val (.ref z2_V1_1), .val (.int q2_1), .unset] [(.int (1114111 : Int32)), (.int q2_1)])) t
                refine XS.icmpNo X0.here hx rfl (hb hby d2_79) rfl (flt c26).2.2.1 ?_
                refine XS.iconst X0.here hx rfl (hb hby d2_82) ?_
                refine XS.goto X0.here hx rfl (pc0 := 83) (pc' := 87) rfl (hb hby d2_83) (by decide) (by decide) ?_
                refine XS.istoreN X0.here hx rfl (hb hby d2_87) rfl (l' := #[.val (.ref z2_V1_1), .val (.int q2_1), .val (.int (1 : Int32))]) rfl ?_
                refine XS.iloadN X0.here hx rfl (hb hby d2_88) rfl ?_
                show Steps p.tables e below (s₁.setTop (mkF m 89 #[.val (.ref z2_V1_1), .val (.int q2_1), .val (.int (1 : Int32))] [(.int (1 : Int32))])) t
                exact k)
              obtain ⟨fs, hr, hrun, hended, hW, hsame⟩ := X0.leave (v := some (.int (1 : Int32))) (fun h => by rw [Bd.returns] at h; cases h)
              refine ⟨_, _, own_from hS0 (P28 _ ?_), hrun, hended, _, _, rfl, ?_, ⟨_, rfl⟩, hW, hsame.mono (by decide) (by decide)⟩
              · show Steps p.tables e below (s₁.setTop (mkF m 89 #[.val (.ref z2_V1_1), .val (.int q2_1), .val (.int (1 : Int32))] [(.int (1 : Int32))])) _
                exact retN X0 hx (t := .boolean) Bd.returns (by simp) (hb hby d2_89) hr
              · show Q2 Z z2_V1_1 q2_1 h0 n0 _ s₁.heap _
                rw [e0]
                exact ⟨(congrArg (fun z => some (Value.int z)) (Eq.symm (Eq.trans (if_neg c2) (Eq.trans (if_pos c10) (Eq.trans (if_neg c12) (Eq.trans (if_pos c21) (Eq.trans (if_neg c23) (if_neg c26)))))))), N0, rfl⟩
        · skip
          have P29 : own_Go p e below S0 (s₁.setTop (mkF m 89 #[.val (.ref z2_V1_1), .val (.int q2_1), .val (.int (1 : Int32))] [(.int (1 : Int32))])) := fun t k => P20 t (by
            show Steps p.tables e below (s₁.setTop (mkF m 67 #[.val (.ref z2_V1_1), .val (.int q2_1), .unset] [(.int (65533 : Int32)), (.int q2_1)])) t
            refine XS.icmpYes X0.here hx rfl (pc0 := 67) (pc' := 82) rfl (hb hby d2_67) rfl (flt c21).2.2.2 (by decide) (by decide) ?_
            refine XS.iconst X0.here hx rfl (hb hby d2_82) ?_
            refine XS.goto X0.here hx rfl (pc0 := 83) (pc' := 87) rfl (hb hby d2_83) (by decide) (by decide) ?_
            refine XS.istoreN X0.here hx rfl (hb hby d2_87) rfl (l' := #[.val (.ref z2_V1_1), .val (.int q2_1), .val (.int (1 : Int32))]) rfl ?_
            refine XS.iloadN X0.here hx rfl (hb hby d2_88) rfl ?_
            show Steps p.tables e below (s₁.setTop (mkF m 89 #[.val (.ref z2_V1_1), .val (.int q2_1), .val (.int (1 : Int32))] [(.int (1 : Int32))])) t
            exact k)
          obtain ⟨fs, hr, hrun, hended, hW, hsame⟩ := X0.leave (v := some (.int (1 : Int32))) (fun h => by rw [Bd.returns] at h; cases h)
          refine ⟨_, _, own_from hS0 (P29 _ ?_), hrun, hended, _, _, rfl, ?_, ⟨_, rfl⟩, hW, hsame.mono (by decide) (by decide)⟩
          · show Steps p.tables e below (s₁.setTop (mkF m 89 #[.val (.ref z2_V1_1), .val (.int q2_1), .val (.int (1 : Int32))] [(.int (1 : Int32))])) _
            exact retN X0 hx (t := .boolean) Bd.returns (by simp) (hb hby d2_89) hr
          · show Q2 Z z2_V1_1 q2_1 h0 n0 _ s₁.heap _
            rw [e0]
            exact ⟨(congrArg (fun z => some (Value.int z)) (Eq.symm (Eq.trans (if_neg c2) (Eq.trans (if_pos c10) (Eq.trans (if_neg c12) (if_neg c21)))))), N0, rfl⟩
    · skip
      have P30 : own_Go p e below S0 (s₁.setTop (mkF m 89 #[.val (.ref z2_V1_1), .val (.int q2_1), .val (.int (1 : Int32))] [(.int (1 : Int32))])) := fun t k => P9 t (by
        show Steps p.tables e below (s₁.setTop (mkF m 55 #[.val (.ref z2_V1_1), .val (.int q2_1), .unset] [(.int (55295 : Int32)), (.int q2_1)])) t
        refine XS.icmpYes X0.here hx rfl (pc0 := 55) (pc' := 82) rfl (hb hby d2_55) rfl (flt c10).2.2.2 (by decide) (by decide) ?_
        refine XS.iconst X0.here hx rfl (hb hby d2_82) ?_
        refine XS.goto X0.here hx rfl (pc0 := 83) (pc' := 87) rfl (hb hby d2_83) (by decide) (by decide) ?_
        refine XS.istoreN X0.here hx rfl (hb hby d2_87) rfl (l' := #[.val (.ref z2_V1_1), .val (.int q2_1), .val (.int (1 : Int32))]) rfl ?_
        refine XS.iloadN X0.here hx rfl (hb hby d2_88) rfl ?_
        show Steps p.tables e below (s₁.setTop (mkF m 89 #[.val (.ref z2_V1_1), .val (.int q2_1), .val (.int (1 : Int32))] [(.int (1 : Int32))])) t
        exact k)
      obtain ⟨fs, hr, hrun, hended, hW, hsame⟩ := X0.leave (v := some (.int (1 : Int32))) (fun h => by rw [Bd.returns] at h; cases h)
      refine ⟨_, _, own_from hS0 (P30 _ ?_), hrun, hended, _, _, rfl, ?_, ⟨_, rfl⟩, hW, hsame.mono (by decide) (by decide)⟩
      · show Steps p.tables e below (s₁.setTop (mkF m 89 #[.val (.ref z2_V1_1), .val (.int q2_1), .val (.int (1 : Int32))] [(.int (1 : Int32))])) _
        exact retN X0 hx (t := .boolean) Bd.returns (by simp) (hb hby d2_89) hr
      · show Q2 Z z2_V1_1 q2_1 h0 n0 _ s₁.heap _
        rw [e0]
        exact ⟨(congrArg (fun z => some (Value.int z)) (Eq.symm (Eq.trans (if_neg c2) (if_neg c10)))), N0, rfl⟩
theorem pd_0 : parseMethodDescriptor "(I)Z" = some ⟨[.int], some .boolean⟩ := by decide +kernel
theorem d3_0 : decode prog_177_method_8_code 0 = .ok (.aload_n 0, 1) := by decide +kernel
theorem d3_1 : decode prog_177_method_8_code 1 = .ok (.getstatic 7, 3) := by decide +kernel
theorem d3_4 : decode prog_177_method_8_code 4 = .ok (.if_acmp .ne 51, 3) := by decide +kernel
theorem d3_7 : decode prog_177_method_8_code 7 = .ok (.iload_n 1, 1) := by decide +kernel
theorem d3_8 : decode prog_177_method_8_code 8 = .ok (.bipush 32, 2) := by decide +kernel
theorem d3_10 : decode prog_177_method_8_code 10 = .ok (.if_icmp .ge 21, 3) := by decide +kernel
theorem d3_13 : decode prog_177_method_8_code 13 = .ok (.iload_n 1, 1) := by decide +kernel
theorem d3_14 : decode prog_177_method_8_code 14 = .ok (.bipush 9, 2) := by decide +kernel
theorem d3_16 : decode prog_177_method_8_code 16 = .ok (.if_icmp .eq 15, 3) := by decide +kernel
theorem d3_19 : decode prog_177_method_8_code 19 = .ok (.iload_n 1, 1) := by decide +kernel
theorem d3_20 : decode prog_177_method_8_code 20 = .ok (.bipush 10, 2) := by decide +kernel
theorem d3_22 : decode prog_177_method_8_code 22 = .ok (.if_icmp .eq 9, 3) := by decide +kernel
theorem d3_25 : decode prog_177_method_8_code 25 = .ok (.iload_n 1, 1) := by decide +kernel
theorem d3_26 : decode prog_177_method_8_code 26 = .ok (.bipush 13, 2) := by decide +kernel
theorem d3_28 : decode prog_177_method_8_code 28 = .ok (.if_icmp .ne 23, 3) := by decide +kernel
theorem d3_31 : decode prog_177_method_8_code 31 = .ok (.iload_n 1, 1) := by decide +kernel
theorem d3_32 : decode prog_177_method_8_code 32 = .ok (.bipush 127, 2) := by decide +kernel
theorem d3_34 : decode prog_177_method_8_code 34 = .ok (.if_icmp .lt 21, 3) := by decide +kernel
theorem d3_37 : decode prog_177_method_8_code 37 = .ok (.iload_n 1, 1) := by decide +kernel
theorem d3_38 : decode prog_177_method_8_code 38 = .ok (.sipush 159, 3) := by decide +kernel
theorem d3_41 : decode prog_177_method_8_code 41 = .ok (.if_icmp .gt 14, 3) := by decide +kernel
theorem d3_44 : decode prog_177_method_8_code 44 = .ok (.iload_n 1, 1) := by decide +kernel
theorem d3_45 : decode prog_177_method_8_code 45 = .ok (.sipush 133, 3) := by decide +kernel
theorem d3_48 : decode prog_177_method_8_code 48 = .ok (.if_icmp .eq 7, 3) := by decide +kernel
theorem d3_51 : decode prog_177_method_8_code 51 = .ok (.iconst 1, 1) := by decide +kernel
theorem d3_52 : decode prog_177_method_8_code 52 = .ok (.goto 4, 3) := by decide +kernel
theorem d3_55 : decode prog_177_method_8_code 55 = .ok (.iconst 0, 1) := by decide +kernel
theorem d3_56 : decode prog_177_method_8_code 56 = .ok (.istore_n 2, 1) := by decide +kernel
theorem d3_57 : decode prog_177_method_8_code 57 = .ok (.aload_n 0, 1) := by decide +kernel
theorem d3_58 : decode prog_177_method_8_code 58 = .ok (.iload_n 1, 1) := by decide +kernel
theorem d3_59 : decode prog_177_method_8_code 59 = .ok (.invokevirtual 48, 3) := by decide +kernel
theorem d3_62 : decode prog_177_method_8_code 62 = .ok (.ifCond .eq 11, 3) := by decide +kernel
theorem d3_65 : decode prog_177_method_8_code 65 = .ok (.iload_n 2, 1) := by decide +kernel
theorem d3_66 : decode prog_177_method_8_code 66 = .ok (.ifCond .ne 7, 3) := by decide +kernel
theorem d3_69 : decode prog_177_method_8_code 69 = .ok (.iconst 1, 1) := by decide +kernel
theorem d3_70 : decode prog_177_method_8_code 70 = .ok (.goto 4, 3) := by decide +kernel
theorem d3_73 : decode prog_177_method_8_code 73 = .ok (.iconst 0, 1) := by decide +kernel
theorem d3_74 : decode prog_177_method_8_code 74 = .ok (.ireturn, 1) := by decide +kernel
theorem ef_3 (m : MethodId) (z3_V1_1 : Addr) (q3_1 : Int32) : entryFrame m #[(.ref z3_V1_1), (.int q3_1)] 3 = mkF m 0 #[.val (.ref z3_V1_1), .val (.int q3_1), .unset] [] := by first | (simp [entryFrame, mkF, argsToLocals, Value.category]; done) | rfl
def r3 (q3_1 : Int32) : Int32 := (if q3_1 < (32 : Int32) then (if q3_1 = (9 : Int32) then (if q3_1 < (127 : Int32) then (if (r2 q3_1) = (0 : Int32) then (0 : Int32) else (1 : Int32)) else (if (159 : Int32) < q3_1 then (if (r2 q3_1) = (0 : Int32) then (0 : Int32) else (1 : Int32)) else (if q3_1 = (133 : Int32) then (if (r2 q3_1) = (0 : Int32) then (0 : Int32) else (1 : Int32)) else (0 : Int32)))) else (if q3_1 = (10 : Int32) then (if q3_1 < (127 : Int32) then (if (r2 q3_1) = (0 : Int32) then (0 : Int32) else (1 : Int32)) else (if (159 : Int32) < q3_1 then (if (r2 q3_1) = (0 : Int32) then (0 : Int32) else (1 : Int32)) else (if q3_1 = (133 : Int32) then (if (r2 q3_1) = (0 : Int32) then (0 : Int32) else (1 : Int32)) else (0 : Int32)))) else (if q3_1 = (13 : Int32) then (if q3_1 < (127 : Int32) then (if (r2 q3_1) = (0 : Int32) then (0 : Int32) else (1 : Int32)) else (if (159 : Int32) < q3_1 then (if (r2 q3_1) = (0 : Int32) then (0 : Int32) else (1 : Int32)) else (if q3_1 = (133 : Int32) then (if (r2 q3_1) = (0 : Int32) then (0 : Int32) else (1 : Int32)) else (0 : Int32)))) else (0 : Int32)))) else (if q3_1 < (127 : Int32) then (if (r2 q3_1) = (0 : Int32) then (0 : Int32) else (1 : Int32)) else (if (159 : Int32) < q3_1 then (if (r2 q3_1) = (0 : Int32) then (0 : Int32) else (1 : Int32)) else (if q3_1 = (133 : Int32) then (if (r2 q3_1) = (0 : Int32) then (0 : Int32) else (1 : Int32)) else (0 : Int32)))))
def Q3 (Z : State) (z3_V1_1 : Addr) (q3_1 : Int32) (h0 : Heap) (n0 : Nat) (v : Option Value) (h : Heap) (L : List Loc) : Prop := v = some (.int (r3 q3_1)) ∧ Fr n0 L ∧ h = h0
set_option maxRecDepth 65536 in
set_option maxHeartbeats 40000000 in
theorem rm3 (l : Launch) (Z : State) (a0 : Array Value) (hw : ∀ d ∈ tables_1, d.before a0 Z = true) (ws : List Jvm.Cond) (z3_V1_1 : Addr) (q3_1 : Int32) (h0 : Heap) (n0 : Nat) (Z0 : n0 ≤ h0.size) (S_V1_1 : Sta Z h0 "com/example/splice/splice/XmlVersion" "V1_1" "Lcom/example/splice/splice/XmlVersion;" (.ref z3_V1_1)) (E_z3_V1_1 : Exa Z h0 z3_V1_1 "com/example/splice/splice/XmlVersion") :
    MetFree l (⟨"com/example/splice/splice/XmlVersion", "allowsLiterally", "(I)Z"⟩ : MethodName) (head1 (Jvm.Cond.code (⟨"com/example/splice/splice/XmlVersion", "allowsLiterally", "(I)Z"⟩ : MethodName) prog_177_method_8_code 3 (some .boolean) :: ws) ({ frames := 1, cells := 0, slots := 0, locals := 14 } : Room)) (fun a U => a = #[(.ref z3_V1_1), (.int q3_1)] ∧ Z.Warmed39 U.vm ∧ U.heap = h0) (fun _ _ _ _ _ => True) (fun _ U o U' => ∃ v L, o = .returned v ∧ Q3 Z z3_V1_1 q3_1 h0 n0 v U'.heap L ∧ FrameEnd U o U' L ({ frames := 1, cells := 0, slots := 0, locals := 14 } : Room).cells ({ frames := 1, cells := 0, slots := 0, locals := 14 } : Room).slots) := by
  refine MetFree.of_bodySF (plainFor_of_name pn_1) hisR ?_
  intro p e s m args below meth c s₁ Bd hml0 hP hK
  obtain ⟨rfl, hZ, hh⟩ := hP
  have hx := Bd.exec
  have hby := Bd.bytes
  have hml : c.maxLocals = 3 := hml0
  have hown : s.vm.findClass "com/example/splice/splice/XmlVersion" = some m.cls := findClass_of_methodNamed Bd.named
  have hnm := (name_of_methodNamed Bd.named Bd.method).1
  have X0 : Stand p l e ({ frames := 1, cells := 0, slots := 0, locals := 14 } : Room) s m #[(.ref z3_V1_1), (.int q3_1)] below meth c s₁ [] 0 0 := Stand.of_body Bd
  have e0 : s₁.heap = h0 := by rw [← hh, Bd.state]; rfl
  have N0 := Fr.nil n0
  obtain ⟨S0, hS0⟩ : ∃ z, z = s₁.setTop (entryFrame m #[(.ref z3_V1_1), (.int q3_1)] 3) := ⟨_, rfl⟩
  have P0 : own_Go p e below S0 (s₁.setTop (mkF m 0 #[.val (.ref z3_V1_1), .val (.int q3_1), .unset] [])) := fun t k => by rw [hS0]; exact castTop (ef_3 m z3_V1_1 q3_1) k
  have P1 : own_Go p e below S0 (s₁.setTop (mkF m 1 #[.val (.ref z3_V1_1), .val (.int q3_1), .unset] [(.ref z3_V1_1)])) := fun t k => P0 t (by
    show Steps p.tables e below (s₁.setTop (mkF m 0 #[.val (.ref z3_V1_1), .val (.int q3_1), .unset] [])) t
    refine XS.aloadN X0.here hx rfl (hb hby d3_0) rfl rfl ?_
    show Steps p.tables e below (s₁.setTop (mkF m 1 #[.val (.ref z3_V1_1), .val (.int q3_1), .unset] [(.ref z3_V1_1)])) t
    exact k)
  obtain ⟨T2, X2, e2, st2⟩ := getS2 X0 hx hZ hown (host := "") (Or.inl (hw _ (List.mem_of_getElem? (i := 12) rfl))) Via.refl e0 S_V1_1 (g := (mkF m 1 #[.val (.ref z3_V1_1), .val (.int q3_1), .unset] [(.ref z3_V1_1)])) rfl (hb hby d3_1)
  have P2 : own_Go p e below S0 (T2.setTop (mkF m 4 #[.val (.ref z3_V1_1), .val (.int q3_1), .unset] [(.ref z3_V1_1), (.ref z3_V1_1)])) := fun t k => P1 t (st2 _ k)
  have P3 : own_Go p e below S0 (T2.setTop (mkF m 10 #[.val (.ref z3_V1_1), .val (.int q3_1), .unset] [(.int (32 : Int32)), (.int q3_1)])) := fun t k => P2 t (by
    show Steps p.tables e below (T2.setTop (mkF m 4 #[.val (.ref z3_V1_1), .val (.int q3_1), .unset] [(.ref z3_V1_1), (.ref z3_V1_1)])) t
    refine Jvm.RoadKit.acmp (g := (mkF m 4 #[.val (.ref z3_V1_1), .val (.int q3_1), .unset] [(.ref z3_V1_1), (.ref z3_V1_1)])) X2 hx rfl rfl rfl (pc0 := 4) (pc' := 7) (same := true) rfl (hb hby d3_4) rfl (decide_eq_true rfl) (by decide) (by decide) ?_
    refine XS.iloadN X2.here hx rfl (hb hby d3_7) rfl ?_
    refine XS.bipush X2.here hx rfl (hb hby d3_8) ?_
    show Steps p.tables e below (T2.setTop (mkF m 10 #[.val (.ref z3_V1_1), .val (.int q3_1), .unset] [(.int (32 : Int32)), (.int q3_1)])) t
    exact k)
  by_cases c4 : q3_1 < (32 : Int32)
  · skip
    have P5 : own_Go p e below S0 (T2.setTop (mkF m 16 #[.val (.ref z3_V1_1), .val (.int q3_1), .unset] [(.int (9 : Int32)), (.int q3_1)])) := fun t k => P3 t (by
      show Steps p.tables e below (T2.setTop (mkF m 10 #[.val (.ref z3_V1_1), .val (.int q3_1), .unset] [(.int (32 : Int32)), (.int q3_1)])) t
      refine XS.icmpNo X2.here hx rfl (hb hby d3_10) rfl (tlt c4).2.1 ?_
      refine XS.iloadN X2.here hx rfl (hb hby d3_13) rfl ?_
      refine XS.bipush X2.here hx rfl (hb hby d3_14) ?_
      show Steps p.tables e below (T2.setTop (mkF m 16 #[.val (.ref z3_V1_1), .val (.int q3_1), .unset] [(.int (9 : Int32)), (.int q3_1)])) t
      exact k)
    by_cases c6 : q3_1 = (9 : Int32)
    · skip
      have P7 : own_Go p e below S0 (T2.setTop (mkF m 34 #[.val (.ref z3_V1_1), .val (.int q3_1), .unset] [(.int (127 : Int32)), (.int q3_1)])) := fun t k => P5 t (by
        show Steps p.tables e below (T2.setTop (mkF m 16 #[.val (.ref z3_V1_1), .val (.int q3_1), .unset] [(.int (9 : Int32)), (.int q3_1)])) t
        refine XS.icmpYes X2.here hx rfl (pc0 := 16) (pc' := 31) rfl (hb hby d3_16) rfl (teq c6).1 (by decide) (by decide) ?_
        refine XS.iloadN X2.here hx rfl (hb hby d3_31) rfl ?_
        refine XS.bipush X2.here hx rfl (hb hby d3_32) ?_
        show Steps p.tables e below (T2.setTop (mkF m 34 #[.val (.ref z3_V1_1), .val (.int q3_1), .unset] [(.int (127 : Int32)), (.int q3_1)])) t
        exact k)
      by_cases c8 : q3_1 < (127 : Int32)
      · skip
        have P9 : own_Go p e below S0 (T2.setTop (mkF m 59 #[.val (.ref z3_V1_1), .val (.int q3_1), .val (.int (0 : Int32))] [(.int q3_1), (.ref z3_V1_1)])) := fun t k => P7 t (by
          show Steps p.tables e below (T2.setTop (mkF m 34 #[.val (.ref z3_V1_1), .val (.int q3_1), .unset] [(.int (127 : Int32)), (.int q3_1)])) t
          refine XS.icmpYes X2.here hx rfl (pc0 := 34) (pc' := 55) rfl (hb hby d3_34) rfl (tlt c8).1 (by decide) (by decide) ?_
          refine XS.iconst X2.here hx rfl (hb hby d3_55) ?_
          refine XS.istoreN X2.here hx rfl (hb hby d3_56) rfl (l' := #[.val (.ref z3_V1_1), .val (.int q3_1), .val (.int (0 : Int32))]) rfl ?_
          refine XS.aloadN X2.here hx rfl (hb hby d3_57) rfl rfl ?_
          refine XS.iloadN X2.here hx rfl (hb hby d3_58) rfl ?_
          show Steps p.tables e below (T2.setTop (mkF m 59 #[.val (.ref z3_V1_1), .val (.int q3_1), .val (.int (0 : Int32))] [(.int q3_1), (.ref z3_V1_1)])) t
          exact k)
        obtain ⟨cq10, kq10, q10a, q10b, q10c⟩ := isOf hZ e2 E_z3_V1_1
        obtain ⟨_, _, ⟨T10, L10, k10, n10⟩, -, X10, ⟨Lc10, hQ10, l10, y10, z10⟩, st10⟩ := X2.virtualBack hx (y := (⟨"com/example/splice/splice/XmlVersion", "allows", "(I)Z"⟩ : MethodName)) (z := (⟨"com/example/splice/splice/XmlVersion", "allows", "(I)Z"⟩ : MethodName)) hown (mvT hZ (hw _ (List.mem_of_getElem? (i := 18) rfl))) (mvT hZ (hw _ (List.mem_of_getElem? (i := 8) rfl))) (notFace_of_selects (args := #[]) (mvT hZ (hw _ (List.mem_of_getElem? (i := 10) rfl)))) (mvT hZ (hw _ (List.mem_of_getElem? (i := 10) rfl))) (mvT hZ (hw _ (List.mem_of_getElem? (i := 9) rfl))) (by decide) (backOf (W := 0) (rm2 l Z a0 hw [] z3_V1_1 q3_1 h0 n0 Z0 S_V1_1) hZ (hw _ (List.mem_of_getElem? (i := 11) rfl)) (hw _ (List.mem_of_getElem? (i := 3) rfl)) (by decide) (by decide)) q10a q10c (g := (mkF m 59 #[.val (.ref z3_V1_1), .val (.int q3_1), .val (.int (0 : Int32))] [(.int q3_1), (.ref z3_V1_1)])) rfl (by rw [hml]; rfl) (Steps.refl _) (argsL := [(.int q3_1)]) (rest := []) (lenOf pd_0 rfl) rfl (by show 2 * 0 + _ ≤ _; exact Nat.le_of_eq rfl) (hb hby d3_59) (fun _ _ => ⟨rfl, e2, (by decide : 0 + 0 ≤ _), (by decide : 0 + 0 ≤ _)⟩)
        dsimp only [Pt.U, Pt.locs, Pt.cells, Pt.slots] at X10 l10 y10 z10 st10 hQ10
        subst l10 y10 z10
        obtain ⟨rfl, N10q, e10⟩ := hQ10
        have N10 := Fr.app N0 N10q
        have P10 : own_Go p e below S0 (T10.setTop (mkF m 62 #[.val (.ref z3_V1_1), .val (.int q3_1), .val (.int (0 : Int32))] [(.int (r2 q3_1))])) := fun t k => P9 t (st10.trans k)
        by_cases c11 : (r2 q3_1) = (0 : Int32)
        · skip
          have P12 : own_Go p e below S0 (T10.setTop (mkF m 74 #[.val (.ref z3_V1_1), .val (.int q3_1), .val (.int (0 : Int32))] [(.int (0 : Int32))])) := fun t k => P10 t (by
            show Steps p.tables e below (T10.setTop (mkF m 62 #[.val (.ref z3_V1_1), .val (.int q3_1), .val (.int (0 : Int32))] [(.int (r2 q3_1))])) t
            refine XS.ifYes X10.here hx rfl (pc0 := 62) (pc' := 73) rfl (hb hby d3_62) rfl ((if0 _ _).trans (teq c11).1) (by decide) (by decide) ?_
            refine XS.iconst X10.here hx rfl (hb hby d3_73) ?_
            show Steps p.tables e below (T10.setTop (mkF m 74 #[.val (.ref z3_V1_1), .val (.int q3_1), .val (.int (0 : Int32))] [(.int (0 : Int32))])) t
            exact k)
          obtain ⟨fs, hr, hrun, hended, hW, hsame⟩ := X10.leave (v := some (.int (0 : Int32))) (fun h => by rw [Bd.returns] at h; cases h)
          refine ⟨_, _, own_from hS0 (P12 _ ?_), hrun, hended, _, _, rfl, ?_, ⟨_, rfl⟩, hW, hsame.mono (by decide) (by decide)⟩
          · show Steps p.tables e below (T10.setTop (mkF m 74 #[.val (.ref z3_V1_1), .val (.int q3_1), .val (.int (0 : Int32))] [(.int (0 : Int32))])) _
            exact retN X10 hx (t := .boolean) Bd.returns (by simp) (hb hby d3_74) hr
          · show Q3 Z z3_V1_1 q3_1 h0 n0 _ T10.heap _
            rw [e10]
            exact ⟨(congrArg (fun z => some (Value.int z)) (Eq.symm (Eq.trans (if_pos c4) (Eq.trans (if_pos c6) (Eq.trans (if_pos c8) (if_pos c11)))))), N10, rfl⟩
        · skip
          have P13 : own_Go p e below S0 (T10.setTop (mkF m 74 #[.val (.ref z3_V1_1), .val (.int q3_1), .val (.int (0 : Int32))] [(.int (1 : Int32))])) := fun t k => P10 t (by
            show Steps p.tables e below (T10.setTop (mkF m 62 #[.val (.ref z3_V1_1), .val (.int q3_1), .val (.int (0 : Int32))] [(.int (r2 q3_1))])) t
            refine XS.ifNo X10.here hx rfl (hb hby d3_62) rfl ((if0 _ _).trans (feq c11).1) ?_
            refine XS.iloadN X10.here hx rfl (hb hby d3_65) rfl ?_
            refine XS.ifNo X10.here hx rfl (hb hby d3_66) rfl ((if0 _ _).trans (teq (by decide)).2) ?_
            refine XS.iconst X10.here hx rfl (hb hby d3_69) ?_
            refine XS.goto X10.here hx rfl (pc0 := 70) (pc' := 74) rfl (hb hby d3_70) (by decide) (by decide) ?_
            show Steps p.tables e below (T10.setTop (mkF m 74 #[.val (.ref z3_V1_1), .val (.int q3_1), .val (.int (0 : Int32))] [(.int (1 : Int32))])) t
            exact k)
          obtain ⟨fs, hr, hrun, hended, hW, hsame⟩ := X10.leave (v := some (.int (1 : Int32))) (fun h => by rw [Bd.returns] at h; cases h)
          refine ⟨_, _, own_from hS0 (P13 _ ?_), hrun, hended, _, _, rfl, ?_, ⟨_, rfl⟩, hW, hsame.mono (by decide) (by decide)⟩
          · show Steps p.tables e below (T10.setTop (mkF m 74 #[.val (.ref z3_V1_1), .val (.int q3_1), .val (.int (0 : Int32))] [(.int (1 : Int32))])) _
            exact retN X10 hx (t := .boolean) Bd.returns (by simp) (hb hby d3_74) hr
          · show Q3 Z z3_V1_1 q3_1 h0 n0 _ T10.heap _
            rw [e10]
            exact ⟨(congrArg (fun z => some (Value.int z)) (Eq.symm (Eq.trans (if_pos c4) (Eq.trans (if_pos c6) (Eq.trans (if_pos c8) (if_neg c11)))))), N10, rfl⟩
      · skip
        have P14 : own_Go p e below S0 (T2.setTop (mkF m 41 #[.val (.ref z3_V1_1), .val (.int q3_1), .unset] [(.int (159 : Int32)), (.int q3_1)])) := fun t k => P7 t (by
          show Steps p.tables e below (T2.setTop (mkF m 34 #[.val (.ref z3_V1_1), .val (.int q3_1), .unset] [(.int (127 : Int32)), (.int q3_1)])) t
          refine XS.icmpNo X2.here hx rfl (hb hby d3_34) rfl (flt c8).1 ?_
          refine XS.iloadN X2.here hx rfl (hb hby d3_37) rfl ?_
          refine XS.sipush X2.here hx rfl (hb hby d3_38) ?_
          show Steps p.tables e below (T2.setTop (mkF m 41 #[.val (.ref z3_V1_1), .val (.int q3_1), .unset] [(.int (159 : Int32)), (.int q3_1)])) t
          exact k)
        by_cases c15 : (159 : Int32) < q3_1
        · skip
          have P16 : own_Go p e below S0 (T2.setTop (mkF m 59 #[.val (.ref z3_V1_1), .val (.int q3_1), .val (.int (0 : Int32))] [(.int q3_1), (.ref z3_V1_1)])) := fun t k => P14 t (by
            show Steps p.tables e below (T2.setTop (mkF m 41 #[.val (.ref z3_V1_1), .val (.int q3_1), .unset] [(.int (159 : Int32)), (.int q3_1)])) t
            refine XS.icmpYes X2.here hx rfl (pc0 := 41) (pc' := 55) rfl (hb hby d3_41) rfl (tlt c15).2.2.1 (by decide) (by decide) ?_
            refine XS.iconst X2.here hx rfl (hb hby d3_55) ?_
            refine XS.istoreN X2.here hx rfl (hb hby d3_56) rfl (l' := #[.val (.ref z3_V1_1), .val (.int q3_1), .val (.int (0 : Int32))]) rfl ?_
            refine XS.aloadN X2.here hx rfl (hb hby d3_57) rfl rfl ?_
            refine XS.iloadN X2.here hx rfl (hb hby d3_58) rfl ?_
            show Steps p.tables e below (T2.setTop (mkF m 59 #[.val (.ref z3_V1_1), .val (.int q3_1), .val (.int (0 : Int32))] [(.int q3_1), (.ref z3_V1_1)])) t
            exact k)
          obtain ⟨cq17, kq17, q17a, q17b, q17c⟩ := isOf hZ e2 E_z3_V1_1
          obtain ⟨_, _, ⟨T17, L17, k17, n17⟩, -, X17, ⟨Lc17, hQ17, l17, y17, z17⟩, st17⟩ := X2.virtualBack hx (y := (⟨"com/example/splice/splice/XmlVersion", "allows", "(I)Z"⟩ : MethodName)) (z := (⟨"com/example/splice/splice/XmlVersion", "allows", "(I)Z"⟩ : MethodName)) hown (mvT hZ (hw _ (List.mem_of_getElem? (i := 18) rfl))) (mvT hZ (hw _ (List.mem_of_getElem? (i := 8) rfl))) (notFace_of_selects (args := #[]) (mvT hZ (hw _ (List.mem_of_getElem? (i := 10) rfl)))) (mvT hZ (hw _ (List.mem_of_getElem? (i := 10) rfl))) (mvT hZ (hw _ (List.mem_of_getElem? (i := 9) rfl))) (by decide) (backOf (W := 0) (rm2 l Z a0 hw [] z3_V1_1 q3_1 h0 n0 Z0 S_V1_1) hZ (hw _ (List.mem_of_getElem? (i := 11) rfl)) (hw _ (List.mem_of_getElem? (i := 3) rfl)) (by decide) (by decide)) q17a q17c (g := (mkF m 59 #[.val (.ref z3_V1_1), .val (.int q3_1), .val (.int (0 : Int32))] [(.int q3_1), (.ref z3_V1_1)])) rfl (by rw [hml]; rfl) (Steps.refl _) (argsL := [(.int q3_1)]) (rest := []) (lenOf pd_0 rfl) rfl (by show 2 * 0 + _ ≤ _; exact Nat.le_of_eq rfl) (hb hby d3_59) (fun _ _ => ⟨rfl, e2, (by decide : 0 + 0 ≤ _), (by decide : 0 + 0 ≤ _)⟩)
          dsimp only [Pt.U, Pt.locs, Pt.cells, Pt.slots] at X17 l17 y17 z17 st17 hQ17
          subst l17 y17 z17
          obtain ⟨rfl, N17q, e17⟩ := hQ17
          have N17 := Fr.app N0 N17q
          have P17 : own_Go p e below S0 (T17.setTop (mkF m 62 #[.val (.ref z3_V1_1), .val (.int q3_1), .val (.int (0 : Int32))] [(.int (r2 q3_1))])) := fun t k => P16 t (st17.trans k)
          by_cases c18 : (r2 q3_1) = (0 : Int32)
          · skip
            have P19 : own_Go p e below S0 (T17.setTop (mkF m 74 #[.val (.ref z3_V1_1), .val (.int q3_1), .val (.int (0 : Int32))] [(.int (0 : Int32))])) := fun t k => P17 t (by
              show Steps p.tables e below (T17.setTop (mkF m 62 #[.val (.ref z3_V1_1), .val (.int q3_1), .val (.int (0 : Int32))] [(.int (r2 q3_1))])) t
              refine XS.ifYes X17.here hx rfl (pc0 := 62) (pc' := 73) rfl (hb hby d3_62) rfl ((if0 _ _).trans (teq c18).1) (by decide) (by decide) ?_
              refine XS.iconst X17.here hx rfl (hb hby d3_73) ?_
              show Steps p.tables e below (T17.setTop (mkF m 74 #[.val (.ref z3_V1_1), .val (.int q3_1), .val (.int (0 : Int32))] [(.int (0 : Int32))])) t
              exact k)
            obtain ⟨fs, hr, hrun, hended, hW, hsame⟩ := X17.leave (v := some (.int (0 : Int32))) (fun h => by rw [Bd.returns] at h; cases h)
            refine ⟨_, _, own_from hS0 (P19 _ ?_), hrun, hended, _, _, rfl, ?_, ⟨_, rfl⟩, hW, hsame.mono (by decide) (by decide)⟩
            · show Steps p.tables e below (T17.setTop (mkF m 74 #[.val (.ref z3_V1_1), .val (.int q3_1), .val (.int (0 : Int32))] [(.int (0 : Int32))])) _
              exact retN X17 hx (t := .boolean) Bd.returns (by simp) (hb hby d3_74) hr
            · show Q3 Z z3_V1_1 q3_1 h0 n0 _ T17.heap _
              rw [e17]
              exact ⟨(congrArg (fun z => some (Value.int z)) (Eq.symm (Eq.trans (if_pos c4) (Eq.trans (if_pos c6) (Eq.trans (if_neg c8) (Eq.trans (if_pos c15) (if_pos c18))))))), N17, rfl⟩
          · skip
            have P20 : own_Go p e below S0 (T17.setTop (mkF m 74 #[.val (.ref z3_V1_1), .val (.int q3_1), .val (.int (0 : Int32))] [(.int (1 : Int32))])) := fun t k => P17 t (by
              show Steps p.tables e below (T17.setTop (mkF m 62 #[.val (.ref z3_V1_1), .val (.int q3_1), .val (.int (0 : Int32))] [(.int (r2 q3_1))])) t
              refine XS.ifNo X17.here hx rfl (hb hby d3_62) rfl ((if0 _ _).trans (feq c18).1) ?_
              refine XS.iloadN X17.here hx rfl (hb hby d3_65) rfl ?_
              refine XS.ifNo X17.here hx rfl (hb hby d3_66) rfl ((if0 _ _).trans (teq (by decide)).2) ?_
              refine XS.iconst X17.here hx rfl (hb hby d3_69) ?_
              refine XS.goto X17.here hx rfl (pc0 := 70) (pc' := 74) rfl (hb hby d3_70) (by decide) (by decide) ?_
              show Steps p.tables e below (T17.setTop (mkF m 74 #[.val (.ref z3_V1_1), .val (.int q3_1), .val (.int (0 : Int32))] [(.int (1 : Int32))])) t
              exact k)
            obtain ⟨fs, hr, hrun, hended, hW, hsame⟩ := X17.leave (v := some (.int (1 : Int32))) (fun h => by rw [Bd.returns] at h; cases h)
            refine ⟨_, _, own_from hS0 (P20 _ ?_), hrun, hended, _, _, rfl, ?_, ⟨_, rfl⟩, hW, hsame.mono (by decide) (by decide)⟩
            · show Steps p.tables e below (T17.setTop (mkF m 74 #[.val (.ref z3_V1_1), .val (.int q3_1), .val (.int (0 : Int32))] [(.int (1 : Int32))])) _
              exact retN X17 hx (t := .boolean) Bd.returns (by simp) (hb hby d3_74) hr
            · show Q3 Z z3_V1_1 q3_1 h0 n0 _ T17.heap _
              rw [e17]
              exact ⟨(congrArg (fun z => some (Value.int z)) (Eq.symm (Eq.trans (if_pos c4) (Eq.trans (if_pos c6) (Eq.trans (if_neg c8) (Eq.trans (if_pos c15) (if_neg c18))))))), N17, rfl⟩
        · skip
          have P21 : own_Go p e below S0 (T2.setTop (mkF m 48 #[.val (.ref z3_V1_1), .val (.int q3_1), .unset] [(.int (133 : Int32)), (.int q3_1)])) := fun t k => P14 t (by
            show Steps p.tables e below (T2.setTop (mkF m 41 #[.val (.ref z3_V1_1), .val (.int q3_1), .unset] [(.int (159 : Int32)), (.int q3_1)])) t
            refine XS.icmpNo X2.here hx rfl (hb hby d3_41) rfl (flt c15).2.2.1 ?_
            refine XS.iloadN X2.here hx rfl (hb hby d3_44) rfl ?_
            refine XS.sipush X2.here hx rfl (hb hby d3_45) ?_
            show Steps p.tables e below (T2.setTop (mkF m 48 #[.val (.ref z3_V1_1), .val (.int q3_1), .unset] [(.int (133 : Int32)), (.int q3_1)])) t
            exact k)
          by_cases c22 : q3_1 = (133 : Int32)
          · skip
            have P23 : own_Go p e below S0 (T2.setTop (mkF m 59 #[.val (.ref z3_V1_1), .val (.int q3_1), .val (.int (0 : Int32))] [(.int q3_1), (.ref z3_V1_1)])) := fun t k => P21 t (by
              show Steps p.tables e below (T2.setTop (mkF m 48 #[.val (.ref z3_V1_1), .val (.int q3_1), .unset] [(.int (133 : Int32)), (.int q3_1)])) t
              refine XS.icmpYes X2.here hx rfl (pc0 := 48) (pc' := 55) rfl (hb hby d3_48) rfl (teq c22).1 (by decide) (by decide) ?_
              refine XS.iconst X2.here hx rfl (hb hby d3_55) ?_
              refine XS.istoreN X2.here hx rfl (hb hby d3_56) rfl (l' := #[.val (.ref z3_V1_1), .val (.int q3_1), .val (.int (0 : Int32))]) rfl ?_
              refine XS.aloadN X2.here hx rfl (hb hby d3_57) rfl rfl ?_
              refine XS.iloadN X2.here hx rfl (hb hby d3_58) rfl ?_
              show Steps p.tables e below (T2.setTop (mkF m 59 #[.val (.ref z3_V1_1), .val (.int q3_1), .val (.int (0 : Int32))] [(.int q3_1), (.ref z3_V1_1)])) t
              exact k)
            obtain ⟨cq24, kq24, q24a, q24b, q24c⟩ := isOf hZ e2 E_z3_V1_1
            obtain ⟨_, _, ⟨T24, L24, k24, n24⟩, -, X24, ⟨Lc24, hQ24, l24, y24, z24⟩, st24⟩ := X2.virtualBack hx (y := (⟨"com/example/splice/splice/XmlVersion", "allows", "(I)Z"⟩ : MethodName)) (z := (⟨"com/example/splice/splice/XmlVersion", "allows", "(I)Z"⟩ : MethodName)) hown (mvT hZ (hw _ (List.mem_of_getElem? (i := 18) rfl))) (mvT hZ (hw _ (List.mem_of_getElem? (i := 8) rfl))) (notFace_of_selects (args := #[]) (mvT hZ (hw _ (List.mem_of_getElem? (i := 10) rfl)))) (mvT hZ (hw _ (List.mem_of_getElem? (i := 10) rfl))) (mvT hZ (hw _ (List.mem_of_getElem? (i := 9) rfl))) (by decide) (backOf (W := 0) (rm2 l Z a0 hw [] z3_V1_1 q3_1 h0 n0 Z0 S_V1_1) hZ (hw _ (List.mem_of_getElem? (i := 11) rfl)) (hw _ (List.mem_of_getElem? (i := 3) rfl)) (by decide) (by decide)) q24a q24c (g := (mkF m 59 #[.val (.ref z3_V1_1), .val (.int q3_1), .val (.int (0 : Int32))] [(.int q3_1), (.ref z3_V1_1)])) rfl (by rw [hml]; rfl) (Steps.refl _) (argsL := [(.int q3_1)]) (rest := []) (lenOf pd_0 rfl) rfl (by show 2 * 0 + _ ≤ _; exact Nat.le_of_eq rfl) (hb hby d3_59) (fun _ _ => ⟨rfl, e2, (by decide : 0 + 0 ≤ _), (by decide : 0 + 0 ≤ _)⟩)
            dsimp only [Pt.U, Pt.locs, Pt.cells, Pt.slots] at X24 l24 y24 z24 st24 hQ24
            subst l24 y24 z24
            obtain ⟨rfl, N24q, e24⟩ := hQ24
            have N24 := Fr.app N0 N24q
            have P24 : own_Go p e below S0 (T24.setTop (mkF m 62 #[.val (.ref z3_V1_1), .val (.int q3_1), .val (.int (0 : Int32))] [(.int (r2 q3_1))])) := fun t k => P23 t (st24.trans k)
            by_cases c25 : (r2 q3_1) = (0 : Int32)
            · skip
              have P26 : own_Go p e below S0 (T24.setTop (mkF m 74 #[.val (.ref z3_V1_1), .val (.int q3_1), .val (.int (0 : Int32))] [(.int (0 : Int32))])) := fun t k => P24 t (by
                show Steps p.tables e below (T24.setTop (mkF m 62 #[.val (.ref z3_V1_1), .val (.int q3_1), .val (.int (0 : Int32))] [(.int (r2 q3_1))])) t
                refine XS.ifYes X24.here hx rfl (pc0 := 62) (pc' := 73) rfl (hb hby d3_62) rfl ((if0 _ _).trans (teq c25).1) (by decide) (by decide) ?_
                refine XS.iconst X24.here hx rfl (hb hby d3_73) ?_
                show Steps p.tables e below (T24.setTop (mkF m 74 #[.val (.ref z3_V1_1), .val (.int q3_1), .val (.int (0 : Int32))] [(.int (0 : Int32))])) t
                exact k)
              obtain ⟨fs, hr, hrun, hended, hW, hsame⟩ := X24.leave (v := some (.int (0 : Int32))) (fun h => by rw [Bd.returns] at h; cases h)
              refine ⟨_, _, own_from hS0 (P26 _ ?_), hrun, hended, _, _, rfl, ?_, ⟨_, rfl⟩, hW, hsame.mono (by decide) (by decide)⟩
              · show Steps p.tables e below (T24.setTop (mkF m 74 #[.val (.ref z3_V1_1), .val (.int q3_1), .val (.int (0 : Int32))] [(.int (0 : Int32))])) _
                exact retN X24 hx (t := .boolean) Bd.returns (by simp) (hb hby d3_74) hr
              · show Q3 Z z3_V1_1 q3_1 h0 n0 _ T24.heap _
                rw [e24]
                exact ⟨(congrArg (fun z => some (Value.int z)) (Eq.symm (Eq.trans (if_pos c4) (Eq.trans (if_pos c6) (Eq.trans (if_neg c8) (Eq.trans (if_neg c15) (Eq.trans (if_pos c22) (if_pos c25)))))))), N24, rfl⟩
            · skip
              have P27 : own_Go p e below S0 (T24.setTop (mkF m 74 #[.val (.ref z3_V1_1), .val (.int q3_1), .val (.int (0 : Int32))] [(.int (1 : Int32))])) := fun t k => P24 t (by
                show Steps p.tables e below (T24.setTop (mkF m 62 #[.val (.ref z3_V1_1), .val (.int q3_1), .val (.int (0 : Int32))] [(.int (r2 q3_1))])) t
                refine XS.ifNo X24.here hx rfl (hb hby d3_62) rfl ((if0 _ _).trans (feq c25).1) ?_
                refine XS.iloadN X24.here hx rfl (hb hby d3_65) rfl ?_
                refine XS.ifNo X24.here hx rfl (hb hby d3_66) rfl ((if0 _ _).trans (teq (by decide)).2) ?_
                refine XS.iconst X24.here hx rfl (hb hby d3_69) ?_
                refine XS.goto X24.here hx rfl (pc0 := 70) (pc' := 74) rfl (hb hby d3_70) (by decide) (by decide) ?_
                show Steps p.tables e below (T24.setTop (mkF m 74 #[.val (.ref z3_V1_1), .val (.int q3_1), .val (.int (0 : Int32))] [(.int (1 : Int32))])) t
                exact k)
              obtain ⟨fs, hr, hrun, hended, hW, hsame⟩ := X24.leave (v := some (.int (1 : Int32))) (fun h => by rw [Bd.returns] at h; cases h)
              refine ⟨_, _, own_from hS0 (P27 _ ?_), hrun, hended, _, _, rfl, ?_, ⟨_, rfl⟩, hW, hsame.mono (by decide) (by decide)⟩
              · show Steps p.tables e below (T24.setTop (mkF m 74 #[.val (.ref z3_V1_1), .val (.int q3_1), .val (.int (0 : Int32))] [(.int (1 : Int32))])) _
                exact retN X24 hx (t := .boolean) Bd.returns (by simp) (hb hby d3_74) hr
              · show Q3 Z z3_V1_1 q3_1 h0 n0 _ T24.heap _
                rw [e24]
                exact ⟨(congrArg (fun z => some (Value.int z)) (Eq.symm (Eq.trans (if_pos c4) (Eq.trans (if_pos c6) (Eq.trans (if_neg c8) (Eq.trans (if_neg c15) (Eq.trans (if_pos c22) (if_neg c25)))))))), N24, rfl⟩
          · skip
            have P28 : own_Go p e below S0 (T2.setTop (mkF m 59 #[.val (.ref z3_V1_1), .val (.int q3_1), .val (.int (1 : Int32))] [(.int q3_1), (.ref z3_V1_1)])) := fun t k => P21 t (by
              show Steps p.tables e below (T2.setTop (mkF m 48 #[.val (.ref z3_V1_1), .val (.int q3_1), .unset] [(.int (133 : Int32)), (.int q3_1)])) t
              refine XS.icmpNo X2.here hx rfl (hb hby d3_48) rfl (feq c22).1 ?_
              refine XS.iconst X2.here hx rfl (hb hby d3_51) ?_
              refine XS.goto X2.here hx rfl (pc0 := 52) (pc' := 56) rfl (hb hby d3_52) (by decide) (by decide) ?_
              refine XS.istoreN X2.here hx rfl (hb hby d3_56) rfl (l' := #[.val (.ref z3_V1_1), .val (.int q3_1), .val (.int (1 : Int32))]) rfl ?_
              refine XS.aloadN X2.here hx rfl (hb hby d3_57) rfl rfl ?_
              refine XS.iloadN X2.here hx rfl (hb hby d3_58) rfl ?_
              show Steps p.tables e below (T2.setTop (mkF m 59 #[.val (.ref z3_V1_1), .val (.int q3_1), .val (.int (1 : Int32))] [(.int q3_1), (.ref z3_V1_1)])) t
              exact k)
            obtain ⟨cq29, kq29, q29a, q29b, q29c⟩ := isOf hZ e2 E_z3_V1_1
            obtain ⟨_, _, ⟨T29, L29, k29, n29⟩, -, X29, ⟨Lc29, hQ29, l29, y29, z29⟩, st29⟩ := X2.virtualBack hx (y := (⟨"com/example/splice/splice/XmlVersion", "allows", "(I)Z"⟩ : MethodName)) (z := (⟨"com/example/splice/splice/XmlVersion", "allows", "(I)Z"⟩ : MethodName)) hown (mvT hZ (hw _ (List.mem_of_getElem? (i := 18) rfl))) (mvT hZ (hw _ (List.mem_of_getElem? (i := 8) rfl))) (notFace_of_selects (args := #[]) (mvT hZ (hw _ (List.mem_of_getElem? (i := 10) rfl)))) (mvT hZ (hw _ (List.mem_of_getElem? (i := 10) rfl))) (mvT hZ (hw _ (List.mem_of_getElem? (i := 9) rfl))) (by decide) (backOf (W := 0) (rm2 l Z a0 hw [] z3_V1_1 q3_1 h0 n0 Z0 S_V1_1) hZ (hw _ (List.mem_of_getElem? (i := 11) rfl)) (hw _ (List.mem_of_getElem? (i := 3) rfl)) (by decide) (by decide)) q29a q29c (g := (mkF m 59 #[.val (.ref z3_V1_1), .val (.int q3_1), .val (.int (1 : Int32))] [(.int q3_1), (.ref z3_V1_1)])) rfl (by rw [hml]; rfl) (Steps.refl _) (argsL := [(.int q3_1)]) (rest := []) (lenOf pd_0 rfl) rfl (by show 2 * 0 + _ ≤ _; exact Nat.le_of_eq rfl) (hb hby d3_59) (fun _ _ => ⟨rfl, e2, (by decide : 0 + 0 ≤ _), (by decide : 0 + 0 ≤ _)⟩)
            dsimp only [Pt.U, Pt.locs, Pt.cells, Pt.slots] at X29 l29 y29 z29 st29 hQ29
            subst l29 y29 z29
            obtain ⟨rfl, N29q, e29⟩ := hQ29
            have N29 := Fr.app N0 N29q
            have P29 : own_Go p e below S0 (T29.setTop (mkF m 62 #[.val (.ref z3_V1_1), .val (.int q3_1), .val (.int (1 : Int32))] [(.int (r2 q3_1))])) := fun t k => P28 t (st29.trans k)
            by_cases c30 : (r2 q3_1) = (0 : Int32)
            · skip
              have P31 : own_Go p e below S0 (T29.setTop (mkF m 74 #[.val (.ref z3_V1_1), .val (.int q3_1), .val (.int (1 : Int32))] [(.int (0 : Int32))])) := fun t k => P29 t (by
                show Steps p.tables e below (T29.setTop (mkF m 62 #[.val (.ref z3_V1_1), .val (.int q3_1), .val (.int (1 : Int32))] [(.int (r2 q3_1))])) t
                refine XS.ifYes X29.here hx rfl (pc0 := 62) (pc' := 73) rfl (hb hby d3_62) rfl ((if0 _ _).trans (teq c30).1) (by decide) (by decide) ?_
                refine XS.iconst X29.here hx rfl (hb hby d3_73) ?_
                show Steps p.tables e below (T29.setTop (mkF m 74 #[.val (.ref z3_V1_1), .val (.int q3_1), .val (.int (1 : Int32))] [(.int (0 : Int32))])) t
                exact k)
              obtain ⟨fs, hr, hrun, hended, hW, hsame⟩ := X29.leave (v := some (.int (0 : Int32))) (fun h => by rw [Bd.returns] at h; cases h)
              refine ⟨_, _, own_from hS0 (P31 _ ?_), hrun, hended, _, _, rfl, ?_, ⟨_, rfl⟩, hW, hsame.mono (by decide) (by decide)⟩
              · show Steps p.tables e below (T29.setTop (mkF m 74 #[.val (.ref z3_V1_1), .val (.int q3_1), .val (.int (1 : Int32))] [(.int (0 : Int32))])) _
                exact retN X29 hx (t := .boolean) Bd.returns (by simp) (hb hby d3_74) hr
              · show Q3 Z z3_V1_1 q3_1 h0 n0 _ T29.heap _
                rw [e29]
                exact ⟨(congrArg (fun z => some (Value.int z)) (Eq.symm (Eq.trans (if_pos c4) (Eq.trans (if_pos c6) (Eq.trans (if_neg c8) (Eq.trans (if_neg c15) (if_neg c22))))))), N29, rfl⟩
            · skip
              have P32 : own_Go p e below S0 (T29.setTop (mkF m 74 #[.val (.ref z3_V1_1), .val (.int q3_1), .val (.int (1 : Int32))] [(.int (0 : Int32))])) := fun t k => P29 t (by
                show Steps p.tables e below (T29.setTop (mkF m 62 #[.val (.ref z3_V1_1), .val (.int q3_1), .val (.int (1 : Int32))] [(.int (r2 q3_1))])) t
                refine XS.ifNo X29.here hx rfl (hb hby d3_62) rfl ((if0 _ _).trans (feq c30).1) ?_
                refine XS.iloadN X29.here hx rfl (hb hby d3_65) rfl ?_
                refine XS.ifYes X29.here hx rfl (pc0 := 66) (pc' := 73) rfl (hb hby d3_66) rfl ((if0 _ _).trans (feq (by decide)).2) (by decide) (by decide) ?_
                refine XS.iconst X29.here hx rfl (hb hby d3_73) ?_
                show Steps p.tables e below (T29.setTop (mkF m 74 #[.val (.ref z3_V1_1), .val (.int q3_1), .val (.int (1 : Int32))] [(.int (0 : Int32))])) t
                exact k)
              obtain ⟨fs, hr, hrun, hended, hW, hsame⟩ := X29.leave (v := some (.int (0 : Int32))) (fun h => by rw [Bd.returns] at h; cases h)
              refine ⟨_, _, own_from hS0 (P32 _ ?_), hrun, hended, _, _, rfl, ?_, ⟨_, rfl⟩, hW, hsame.mono (by decide) (by decide)⟩
              · show Steps p.tables e below (T29.setTop (mkF m 74 #[.val (.ref z3_V1_1), .val (.int q3_1), .val (.int (1 : Int32))] [(.int (0 : Int32))])) _
                exact retN X29 hx (t := .boolean) Bd.returns (by simp) (hb hby d3_74) hr
              · show Q3 Z z3_V1_1 q3_1 h0 n0 _ T29.heap _
                rw [e29]
                exact ⟨(congrArg (fun z => some (Value.int z)) (Eq.symm (Eq.trans (if_pos c4) (Eq.trans (if_pos c6) (Eq.trans (if_neg c8) (Eq.trans (if_neg c15) (if_neg c22))))))), N29, rfl⟩
    · skip
      have P33 : own_Go p e below S0 (T2.setTop (mkF m 22 #[.val (.ref z3_V1_1), .val (.int q3_1), .unset] [(.int (10 : Int32)), (.int q3_1)])) := fun t k => P5 t (by
        show Steps p.tables e below (T2.setTop (mkF m 16 #[.val (.ref z3_V1_1), .val (.int q3_1), .unset] [(.int (9 : Int32)), (.int q3_1)])) t
        refine XS.icmpNo X2.here hx rfl (hb hby d3_16) rfl (feq c6).1 ?_
        refine XS.iloadN X2.here hx rfl (hb hby d3_19) rfl ?_
        refine XS.bipush X2.here hx rfl (hb hby d3_20) ?_
        show Steps p.tables e below (T2.setTop (mkF m 22 #[.val (.ref z3_V1_1), .val (.int q3_1), .unset] [(.int (10 : Int32)), (.int q3_1)])) t
        exact k)
      by_cases c34 : q3_1 = (10 : Int32)
      · skip
        have P35 : own_Go p e below S0 (T2.setTop (mkF m 34 #[.val (.ref z3_V1_1), .val (.int q3_1), .unset] [(.int (127 : Int32)), (.int q3_1)])) := fun t k => P33 t (by
          show Steps p.tables e below (T2.setTop (mkF m 22 #[.val (.ref z3_V1_1), .val (.int q3_1), .unset] [(.int (10 : Int32)), (.int q3_1)])) t
          refine XS.icmpYes X2.here hx rfl (pc0 := 22) (pc' := 31) rfl (hb hby d3_22) rfl (teq c34).1 (by decide) (by decide) ?_
          refine XS.iloadN X2.here hx rfl (hb hby d3_31) rfl ?_
          refine XS.bipush X2.here hx rfl (hb hby d3_32) ?_
          show Steps p.tables e below (T2.setTop (mkF m 34 #[.val (.ref z3_V1_1), .val (.int q3_1), .unset] [(.int (127 : Int32)), (.int q3_1)])) t
          exact k)
        by_cases c36 : q3_1 < (127 : Int32)
        · skip
          have P37 : own_Go p e below S0 (T2.setTop (mkF m 59 #[.val (.ref z3_V1_1), .val (.int q3_1), .val (.int (0 : Int32))] [(.int q3_1), (.ref z3_V1_1)])) := fun t k => P35 t (by
            show Steps p.tables e below (T2.setTop (mkF m 34 #[.val (.ref z3_V1_1), .val (.int q3_1), .unset] [(.int (127 : Int32)), (.int q3_1)])) t
            refine XS.icmpYes X2.here hx rfl (pc0 := 34) (pc' := 55) rfl (hb hby d3_34) rfl (tlt c36).1 (by decide) (by decide) ?_
            refine XS.iconst X2.here hx rfl (hb hby d3_55) ?_
            refine XS.istoreN X2.here hx rfl (hb hby d3_56) rfl (l' := #[.val (.ref z3_V1_1), .val (.int q3_1), .val (.int (0 : Int32))]) rfl ?_
            refine XS.aloadN X2.here hx rfl (hb hby d3_57) rfl rfl ?_
            refine XS.iloadN X2.here hx rfl (hb hby d3_58) rfl ?_
            show Steps p.tables e below (T2.setTop (mkF m 59 #[.val (.ref z3_V1_1), .val (.int q3_1), .val (.int (0 : Int32))] [(.int q3_1), (.ref z3_V1_1)])) t
            exact k)
          obtain ⟨cq38, kq38, q38a, q38b, q38c⟩ := isOf hZ e2 E_z3_V1_1
          obtain ⟨_, _, ⟨T38, L38, k38, n38⟩, -, X38, ⟨Lc38, hQ38, l38, y38, z38⟩, st38⟩ := X2.virtualBack hx (y := (⟨"com/example/splice/splice/XmlVersion", "allows", "(I)Z"⟩ : MethodName)) (z := (⟨"com/example/splice/splice/XmlVersion", "allows", "(I)Z"⟩ : MethodName)) hown (mvT hZ (hw _ (List.mem_of_getElem? (i := 18) rfl))) (mvT hZ (hw _ (List.mem_of_getElem? (i := 8) rfl))) (notFace_of_selects (args := #[]) (mvT hZ (hw _ (List.mem_of_getElem? (i := 10) rfl)))) (mvT hZ (hw _ (List.mem_of_getElem? (i := 10) rfl))) (mvT hZ (hw _ (List.mem_of_getElem? (i := 9) rfl))) (by decide) (backOf (W := 0) (rm2 l Z a0 hw [] z3_V1_1 q3_1 h0 n0 Z0 S_V1_1) hZ (hw _ (List.mem_of_getElem? (i := 11) rfl)) (hw _ (List.mem_of_getElem? (i := 3) rfl)) (by decide) (by decide)) q38a q38c (g := (mkF m 59 #[.val (.ref z3_V1_1), .val (.int q3_1), .val (.int (0 : Int32))] [(.int q3_1), (.ref z3_V1_1)])) rfl (by rw [hml]; rfl) (Steps.refl _) (argsL := [(.int q3_1)]) (rest := []) (lenOf pd_0 rfl) rfl (by show 2 * 0 + _ ≤ _; exact Nat.le_of_eq rfl) (hb hby d3_59) (fun _ _ => ⟨rfl, e2, (by decide : 0 + 0 ≤ _), (by decide : 0 + 0 ≤ _)⟩)
          dsimp only [Pt.U, Pt.locs, Pt.cells, Pt.slots] at X38 l38 y38 z38 st38 hQ38
          subst l38 y38 z38
          obtain ⟨rfl, N38q, e38⟩ := hQ38
          have N38 := Fr.app N0 N38q
          have P38 : own_Go p e below S0 (T38.setTop (mkF m 62 #[.val (.ref z3_V1_1), .val (.int q3_1), .val (.int (0 : Int32))] [(.int (r2 q3_1))])) := fun t k => P37 t (st38.trans k)
          by_cases c39 : (r2 q3_1) = (0 : Int32)
          · skip
            have P40 : own_Go p e below S0 (T38.setTop (mkF m 74 #[.val (.ref z3_V1_1), .val (.int q3_1), .val (.int (0 : Int32))] [(.int (0 : Int32))])) := fun t k => P38 t (by
              show Steps p.tables e below (T38.setTop (mkF m 62 #[.val (.ref z3_V1_1), .val (.int q3_1), .val (.int (0 : Int32))] [(.int (r2 q3_1))])) t
              refine XS.ifYes X38.here hx rfl (pc0 := 62) (pc' := 73) rfl (hb hby d3_62) rfl ((if0 _ _).trans (teq c39).1) (by decide) (by decide) ?_
              refine XS.iconst X38.here hx rfl (hb hby d3_73) ?_
              show Steps p.tables e below (T38.setTop (mkF m 74 #[.val (.ref z3_V1_1), .val (.int q3_1), .val (.int (0 : Int32))] [(.int (0 : Int32))])) t
              exact k)
            obtain ⟨fs, hr, hrun, hended, hW, hsame⟩ := X38.leave (v := some (.int (0 : Int32))) (fun h => by rw [Bd.returns] at h; cases h)
            refine ⟨_, _, own_from hS0 (P40 _ ?_), hrun, hended, _, _, rfl, ?_, ⟨_, rfl⟩, hW, hsame.mono (by decide) (by decide)⟩
            · show Steps p.tables e below (T38.setTop (mkF m 74 #[.val (.ref z3_V1_1), .val (.int q3_1), .val (.int (0 : Int32))] [(.int (0 : Int32))])) _
              exact retN X38 hx (t := .boolean) Bd.returns (by simp) (hb hby d3_74) hr
            · show Q3 Z z3_V1_1 q3_1 h0 n0 _ T38.heap _
              rw [e38]
              exact ⟨(congrArg (fun z => some (Value.int z)) (Eq.symm (Eq.trans (if_pos c4) (Eq.trans (if_neg c6) (Eq.trans (if_pos c34) (Eq.trans (if_pos c36) (if_pos c39))))))), N38, rfl⟩
          · skip
            have P41 : own_Go p e below S0 (T38.setTop (mkF m 74 #[.val (.ref z3_V1_1), .val (.int q3_1), .val (.int (0 : Int32))] [(.int (1 : Int32))])) := fun t k => P38 t (by
              show Steps p.tables e below (T38.setTop (mkF m 62 #[.val (.ref z3_V1_1), .val (.int q3_1), .val (.int (0 : Int32))] [(.int (r2 q3_1))])) t
              refine XS.ifNo X38.here hx rfl (hb hby d3_62) rfl ((if0 _ _).trans (feq c39).1) ?_
              refine XS.iloadN X38.here hx rfl (hb hby d3_65) rfl ?_
              refine XS.ifNo X38.here hx rfl (hb hby d3_66) rfl ((if0 _ _).trans (teq (by decide)).2) ?_
              refine XS.iconst X38.here hx rfl (hb hby d3_69) ?_
              refine XS.goto X38.here hx rfl (pc0 := 70) (pc' := 74) rfl (hb hby d3_70) (by decide) (by decide) ?_
              show Steps p.tables e below (T38.setTop (mkF m 74 #[.val (.ref z3_V1_1), .val (.int q3_1), .val (.int (0 : Int32))] [(.int (1 : Int32))])) t
              exact k)
            obtain ⟨fs, hr, hrun, hended, hW, hsame⟩ := X38.leave (v := some (.int (1 : Int32))) (fun h => by rw [Bd.returns] at h; cases h)
            refine ⟨_, _, own_from hS0 (P41 _ ?_), hrun, hended, _, _, rfl, ?_, ⟨_, rfl⟩, hW, hsame.mono (by decide) (by decide)⟩
            · show Steps p.tables e below (T38.setTop (mkF m 74 #[.val (.ref z3_V1_1), .val (.int q3_1), .val (.int (0 : Int32))] [(.int (1 : Int32))])) _
              exact retN X38 hx (t := .boolean) Bd.returns (by simp) (hb hby d3_74) hr
            · show Q3 Z z3_V1_1 q3_1 h0 n0 _ T38.heap _
              rw [e38]
              exact ⟨(congrArg (fun z => some (Value.int z)) (Eq.symm (Eq.trans (if_pos c4) (Eq.trans (if_neg c6) (Eq.trans (if_pos c34) (Eq.trans (if_pos c36) (if_neg c39))))))), N38, rfl⟩
        · skip
          have P42 : own_Go p e below S0 (T2.setTop (mkF m 41 #[.val (.ref z3_V1_1), .val (.int q3_1), .unset] [(.int (159 : Int32)), (.int q3_1)])) := fun t k => P35 t (by
            show Steps p.tables e below (T2.setTop (mkF m 34 #[.val (.ref z3_V1_1), .val (.int q3_1), .unset] [(.int (127 : Int32)), (.int q3_1)])) t
            refine XS.icmpNo X2.here hx rfl (hb hby d3_34) rfl (flt c36).1 ?_
            refine XS.iloadN X2.here hx rfl (hb hby d3_37) rfl ?_
            refine XS.sipush X2.here hx rfl (hb hby d3_38) ?_
            show Steps p.tables e below (T2.setTop (mkF m 41 #[.val (.ref z3_V1_1), .val (.int q3_1), .unset] [(.int (159 : Int32)), (.int q3_1)])) t
            exact k)
          by_cases c43 : (159 : Int32) < q3_1
          · skip
            have P44 : own_Go p e below S0 (T2.setTop (mkF m 59 #[.val (.ref z3_V1_1), .val (.int q3_1), .val (.int (0 : Int32))] [(.int q3_1), (.ref z3_V1_1)])) := fun t k => P42 t (by
              show Steps p.tables e below (T2.setTop (mkF m 41 #[.val (.ref z3_V1_1), .val (.int q3_1), .unset] [(.int (159 : Int32)), (.int q3_1)])) t
              refine XS.icmpYes X2.here hx rfl (pc0 := 41) (pc' := 55) rfl (hb hby d3_41) rfl (tlt c43).2.2.1 (by decide) (by decide) ?_
              refine XS.iconst X2.here hx rfl (hb hby d3_55) ?_
              refine XS.istoreN X2.here hx rfl (hb hby d3_56) rfl (l' := #[.val (.ref z3_V1_1), .val (.int q3_1), .val (.int (0 : Int32))]) rfl ?_
              refine XS.aloadN X2.here hx rfl (hb hby d3_57) rfl rfl ?_
              refine XS.iloadN X2.here hx rfl (hb hby d3_58) rfl ?_
              show Steps p.tables e below (T2.setTop (mkF m 59 #[.val (.ref z3_V1_1), .val (.int q3_1), .val (.int (0 : Int32))] [(.int q3_1), (.ref z3_V1_1)])) t
              exact k)
            obtain ⟨cq45, kq45, q45a, q45b, q45c⟩ := isOf hZ e2 E_z3_V1_1
            obtain ⟨_, _, ⟨T45, L45, k45, n45⟩, -, X45, ⟨Lc45, hQ45, l45, y45, z45⟩, st45⟩ := X2.virtualBack hx (y := (⟨"com/example/splice/splice/XmlVersion", "allows", "(I)Z"⟩ : MethodName)) (z := (⟨"com/example/splice/splice/XmlVersion", "allows", "(I)Z"⟩ : MethodName)) hown (mvT hZ (hw _ (List.mem_of_getElem? (i := 18) rfl))) (mvT hZ (hw _ (List.mem_of_getElem? (i := 8) rfl))) (notFace_of_selects (args := #[]) (mvT hZ (hw _ (List.mem_of_getElem? (i := 10) rfl)))) (mvT hZ (hw _ (List.mem_of_getElem? (i := 10) rfl))) (mvT hZ (hw _ (List.mem_of_getElem? (i := 9) rfl))) (by decide) (backOf (W := 0) (rm2 l Z a0 hw [] z3_V1_1 q3_1 h0 n0 Z0 S_V1_1) hZ (hw _ (List.mem_of_getElem? (i := 11) rfl)) (hw _ (List.mem_of_getElem? (i := 3) rfl)) (by decide) (by decide)) q45a q45c (g := (mkF m 59 #[.val (.ref z3_V1_1), .val (.int q3_1), .val (.int (0 : Int32))] [(.int q3_1), (.ref z3_V1_1)])) rfl (by rw [hml]; rfl) (Steps.refl _) (argsL := [(.int q3_1)]) (rest := []) (lenOf pd_0 rfl) rfl (by show 2 * 0 + _ ≤ _; exact Nat.le_of_eq rfl) (hb hby d3_59) (fun _ _ => ⟨rfl, e2, (by decide : 0 + 0 ≤ _), (by decide : 0 + 0 ≤ _)⟩)
            dsimp only [Pt.U, Pt.locs, Pt.cells, Pt.slots] at X45 l45 y45 z45 st45 hQ45
            subst l45 y45 z45
            obtain ⟨rfl, N45q, e45⟩ := hQ45
            have N45 := Fr.app N0 N45q
            have P45 : own_Go p e below S0 (T45.setTop (mkF m 62 #[.val (.ref z3_V1_1), .val (.int q3_1), .val (.int (0 : Int32))] [(.int (r2 q3_1))])) := fun t k => P44 t (st45.trans k)
            by_cases c46 : (r2 q3_1) = (0 : Int32)
            · skip
              have P47 : own_Go p e below S0 (T45.setTop (mkF m 74 #[.val (.ref z3_V1_1), .val (.int q3_1), .val (.int (0 : Int32))] [(.int (0 : Int32))])) := fun t k => P45 t (by
                show Steps p.tables e below (T45.setTop (mkF m 62 #[.val (.ref z3_V1_1), .val (.int q3_1), .val (.int (0 : Int32))] [(.int (r2 q3_1))])) t
                refine XS.ifYes X45.here hx rfl (pc0 := 62) (pc' := 73) rfl (hb hby d3_62) rfl ((if0 _ _).trans (teq c46).1) (by decide) (by decide) ?_
                refine XS.iconst X45.here hx rfl (hb hby d3_73) ?_
                show Steps p.tables e below (T45.setTop (mkF m 74 #[.val (.ref z3_V1_1), .val (.int q3_1), .val (.int (0 : Int32))] [(.int (0 : Int32))])) t
                exact k)
              obtain ⟨fs, hr, hrun, hended, hW, hsame⟩ := X45.leave (v := some (.int (0 : Int32))) (fun h => by rw [Bd.returns] at h; cases h)
              refine ⟨_, _, own_from hS0 (P47 _ ?_), hrun, hended, _, _, rfl, ?_, ⟨_, rfl⟩, hW, hsame.mono (by decide) (by decide)⟩
              · show Steps p.tables e below (T45.setTop (mkF m 74 #[.val (.ref z3_V1_1), .val (.int q3_1), .val (.int (0 : Int32))] [(.int (0 : Int32))])) _
                exact retN X45 hx (t := .boolean) Bd.returns (by simp) (hb hby d3_74) hr
              · show Q3 Z z3_V1_1 q3_1 h0 n0 _ T45.heap _
                rw [e45]
                exact ⟨(congrArg (fun z => some (Value.int z)) (Eq.symm (Eq.trans (if_pos c4) (Eq.trans (if_neg c6) (Eq.trans (if_pos c34) (Eq.trans (if_neg c36) (Eq.trans (if_pos c43) (if_pos c46)))))))), N45, rfl⟩
            · skip
              have P48 : own_Go p e below S0 (T45.setTop (mkF m 74 #[.val (.ref z3_V1_1), .val (.int q3_1), .val (.int (0 : Int32))] [(.int (1 : Int32))])) := fun t k => P45 t (by
                show Steps p.tables e below (T45.setTop (mkF m 62 #[.val (.ref z3_V1_1), .val (.int q3_1), .val (.int (0 : Int32))] [(.int (r2 q3_1))])) t
                refine XS.ifNo X45.here hx rfl (hb hby d3_62) rfl ((if0 _ _).trans (feq c46).1) ?_
                refine XS.iloadN X45.here hx rfl (hb hby d3_65) rfl ?_
                refine XS.ifNo X45.here hx rfl (hb hby d3_66) rfl ((if0 _ _).trans (teq (by decide)).2) ?_
                refine XS.iconst X45.here hx rfl (hb hby d3_69) ?_
                refine XS.goto X45.here hx rfl (pc0 := 70) (pc' := 74) rfl (hb hby d3_70) (by decide) (by decide) ?_
                show Steps p.tables e below (T45.setTop (mkF m 74 #[.val (.ref z3_V1_1), .val (.int q3_1), .val (.int (0 : Int32))] [(.int (1 : Int32))])) t
                exact k)
              obtain ⟨fs, hr, hrun, hended, hW, hsame⟩ := X45.leave (v := some (.int (1 : Int32))) (fun h => by rw [Bd.returns] at h; cases h)
              refine ⟨_, _, own_from hS0 (P48 _ ?_), hrun, hended, _, _, rfl, ?_, ⟨_, rfl⟩, hW, hsame.mono (by decide) (by decide)⟩
              · show Steps p.tables e below (T45.setTop (mkF m 74 #[.val (.ref z3_V1_1), .val (.int q3_1), .val (.int (0 : Int32))] [(.int (1 : Int32))])) _
                exact retN X45 hx (t := .boolean) Bd.returns (by simp) (hb hby d3_74) hr
              · show Q3 Z z3_V1_1 q3_1 h0 n0 _ T45.heap _
                rw [e45]
                exact ⟨(congrArg (fun z => some (Value.int z)) (Eq.symm (Eq.trans (if_pos c4) (Eq.trans (if_neg c6) (Eq.trans (if_pos c34) (Eq.trans (if_neg c36) (Eq.trans (if_pos c43) (if_neg c46)))))))), N45, rfl⟩
          · skip
            have P49 : own_Go p e below S0 (T2.setTop (mkF m 48 #[.val (.ref z3_V1_1), .val (.int q3_1), .unset] [(.int (133 : Int32)), (.int q3_1)])) := fun t k => P42 t (by
              show Steps p.tables e below (T2.setTop (mkF m 41 #[.val (.ref z3_V1_1), .val (.int q3_1), .unset] [(.int (159 : Int32)), (.int q3_1)])) t
              refine XS.icmpNo X2.here hx rfl (hb hby d3_41) rfl (flt c43).2.2.1 ?_
              refine XS.iloadN X2.here hx rfl (hb hby d3_44) rfl ?_
              refine XS.sipush X2.here hx rfl (hb hby d3_45) ?_
              show Steps p.tables e below (T2.setTop (mkF m 48 #[.val (.ref z3_V1_1), .val (.int q3_1), .unset] [(.int (133 : Int32)), (.int q3_1)])) t
              exact k)
            by_cases c50 : q3_1 = (133 : Int32)
            · skip
              have P51 : own_Go p e below S0 (T2.setTop (mkF m 59 #[.val (.ref z3_V1_1), .val (.int q3_1), .val (.int (0 : Int32))] [(.int q3_1), (.ref z3_V1_1)])) := fun t k => P49 t (by
                show Steps p.tables e below (T2.setTop (mkF m 48 #[.val (.ref z3_V1_1), .val (.int q3_1), .unset] [(.int (133 : Int32)), (.int q3_1)])) t
                refine XS.icmpYes X2.here hx rfl (pc0 := 48) (pc' := 55) rfl (hb hby d3_48) rfl (teq c50).1 (by decide) (by decide) ?_
                refine XS.iconst X2.here hx rfl (hb hby d3_55) ?_
                refine XS.istoreN X2.here hx rfl (hb hby d3_56) rfl (l' := #[.val (.ref z3_V1_1), .val (.int q3_1), .val (.int (0 : Int32))]) rfl ?_
                refine XS.aloadN X2.here hx rfl (hb hby d3_57) rfl rfl ?_
                refine XS.iloadN X2.here hx rfl (hb hby d3_58) rfl ?_
                show Steps p.tables e below (T2.setTop (mkF m 59 #[.val (.ref z3_V1_1), .val (.int q3_1), .val (.int (0 : Int32))] [(.int q3_1), (.ref z3_V1_1)])) t
                exact k)
              obtain ⟨cq52, kq52, q52a, q52b, q52c⟩ := isOf hZ e2 E_z3_V1_1
              obtain ⟨_, _, ⟨T52, L52, k52, n52⟩, -, X52, ⟨Lc52, hQ52, l52, y52, z52⟩, st52⟩ := X2.virtualBack hx (y := (⟨"com/example/splice/splice/XmlVersion", "allows", "(I)Z"⟩ : MethodName)) (z := (⟨"com/example/splice/splice/XmlVersion", "allows", "(I)Z"⟩ : MethodName)) hown (mvT hZ (hw _ (List.mem_of_getElem? (i := 18) rfl))) (mvT hZ (hw _ (List.mem_of_getElem? (i := 8) rfl))) (notFace_of_selects (args := #[]) (mvT hZ (hw _ (List.mem_of_getElem? (i := 10) rfl)))) (mvT hZ (hw _ (List.mem_of_getElem? (i := 10) rfl))) (mvT hZ (hw _ (List.mem_of_getElem? (i := 9) rfl))) (by decide) (backOf (W := 0) (rm2 l Z a0 hw [] z3_V1_1 q3_1 h0 n0 Z0 S_V1_1) hZ (hw _ (List.mem_of_getElem? (i := 11) rfl)) (hw _ (List.mem_of_getElem? (i := 3) rfl)) (by decide) (by decide)) q52a q52c (g := (mkF m 59 #[.val (.ref z3_V1_1), .val (.int q3_1), .val (.int (0 : Int32))] [(.int q3_1), (.ref z3_V1_1)])) rfl (by rw [hml]; rfl) (Steps.refl _) (argsL := [(.int q3_1)]) (rest := []) (lenOf pd_0 rfl) rfl (by show 2 * 0 + _ ≤ _; exact Nat.le_of_eq rfl) (hb hby d3_59) (fun _ _ => ⟨rfl, e2, (by decide : 0 + 0 ≤ _), (by decide : 0 + 0 ≤ _)⟩)
              dsimp only [Pt.U, Pt.locs, Pt.cells, Pt.slots] at X52 l52 y52 z52 st52 hQ52
              subst l52 y52 z52
              obtain ⟨rfl, N52q, e52⟩ := hQ52
              have N52 := Fr.app N0 N52q
              have P52 : own_Go p e below S0 (T52.setTop (mkF m 62 #[.val (.ref z3_V1_1), .val (.int q3_1), .val (.int (0 : Int32))] [(.int (r2 q3_1))])) := fun t k => P51 t (st52.trans k)
              by_cases c53 : (r2 q3_1) = (0 : Int32)
              · skip
                have P54 : own_Go p e below S0 (T52.setTop (mkF m 74 #[.val (.ref z3_V1_1), .val (.int q3_1), .val (.int (0 : Int32))] [(.int (0 : Int32))])) := fun t k => P52 t (by
                  show Steps p.tables e below (T52.setTop (mkF m 62 #[.val (.ref z3_V1_1), .val (.int q3_1), .val (.int (0 : Int32))] [(.int (r2 q3_1))])) t
                  refine XS.ifYes X52.here hx rfl (pc0 := 62) (pc' := 73) rfl (hb hby d3_62) rfl ((if0 _ _).trans (teq c53).1) (by decide) (by decide) ?_
                  refine XS.iconst X52.here hx rfl (hb hby d3_73) ?_
                  show Steps p.tables e below (T52.setTop (mkF m 74 #[.val (.ref z3_V1_1), .val (.int q3_1), .val (.int (0 : Int32))] [(.int (0 : Int32))])) t
                  exact k)
                obtain ⟨fs, hr, hrun, hended, hW, hsame⟩ := X52.leave (v := some (.int (0 : Int32))) (fun h => by rw [Bd.returns] at h; cases h)
                refine ⟨_, _, own_from hS0 (P54 _ ?_), hrun, hended, _, _, rfl, ?_, ⟨_, rfl⟩, hW, hsame.mono (by decide) (by decide)⟩
                · show Steps p.tables e below (T52.setTop (mkF m 74 #[.val (.ref z3_V1_1), .val (.int q3_1), .val (.int (0 : Int32))] [(.int (0 : Int32))])) _
                  exact retN X52 hx (t := .boolean) Bd.returns (by simp) (hb hby d3_74) hr
                · show Q3 Z z3_V1_1 q3_1 h0 n0 _ T52.heap _
                  rw [e52]
                  exact ⟨(congrArg (fun z => some (Value.int z)) (Eq.symm (Eq.trans (if_pos c4) (Eq.trans (if_neg c6) (Eq.trans (if_pos c34) (Eq.trans (if_neg c36) (Eq.trans (if_neg c43) (Eq.trans (if_pos c50) (if_pos c53))))))))), N52, rfl⟩
              · skip
                have P55 : own_Go p e below S0 (T52.setTop (mkF m 74 #[.val (.ref z3_V1_1), .val (.int q3_1), .val (.int (0 : Int32))] [(.int (1 : Int32))])) := fun t k => P52 t (by
                  show Steps p.tables e below (T52.setTop (mkF m 62 #[.val (.ref z3_V1_1), .val (.int q3_1), .val (.int (0 : Int32))] [(.int (r2 q3_1))])) t
                  refine XS.ifNo X52.here hx rfl (hb hby d3_62) rfl ((if0 _ _).trans (feq c53).1) ?_
                  refine XS.iloadN X52.here hx rfl (hb hby d3_65) rfl ?_
                  refine XS.ifNo X52.here hx rfl (hb hby d3_66) rfl ((if0 _ _).trans (teq (by decide)).2) ?_
                  refine XS.iconst X52.here hx rfl (hb hby d3_69) ?_
                  refine XS.goto X52.here hx rfl (pc0 := 70) (pc' := 74) rfl (hb hby d3_70) (by decide) (by decide) ?_
                  show Steps p.tables e below (T52.setTop (mkF m 74 #[.val (.ref z3_V1_1), .val (.int q3_1), .val (.int (0 : Int32))] [(.int (1 : Int32))])) t
                  exact k)
                obtain ⟨fs, hr, hrun, hended, hW, hsame⟩ := X52.leave (v := some (.int (1 : Int32))) (fun h => by rw [Bd.returns] at h; cases h)
                refine ⟨_, _, own_from hS0 (P55 _ ?_), hrun, hended, _, _, rfl, ?_, ⟨_, rfl⟩, hW, hsame.mono (by decide) (by decide)⟩
                · show Steps p.tables e below (T52.setTop (mkF m 74 #[.val (.ref z3_V1_1), .val (.int q3_1), .val (.int (0 : Int32))] [(.int (1 : Int32))])) _
                  exact retN X52 hx (t := .boolean) Bd.returns (by simp) (hb hby d3_74) hr
                · show Q3 Z z3_V1_1 q3_1 h0 n0 _ T52.heap _
                  rw [e52]
                  exact ⟨(congrArg (fun z => some (Value.int z)) (Eq.symm (Eq.trans (if_pos c4) (Eq.trans (if_neg c6) (Eq.trans (if_pos c34) (Eq.trans (if_neg c36) (Eq.trans (if_neg c43) (Eq.trans (if_pos c50) (if_neg c53))))))))), N52, rfl⟩
            · skip
              have P56 : own_Go p e below S0 (T2.setTop (mkF m 59 #[.val (.ref z3_V1_1), .val (.int q3_1), .val (.int (1 : Int32))] [(.int q3_1), (.ref z3_V1_1)])) := fun t k => P49 t (by
                show Steps p.tables e below (T2.setTop (mkF m 48 #[.val (.ref z3_V1_1), .val (.int q3_1), .unset] [(.int (133 : Int32)), (.int q3_1)])) t
                refine XS.icmpNo X2.here hx rfl (hb hby d3_48) rfl (feq c50).1 ?_
                refine XS.iconst X2.here hx rfl (hb hby d3_51) ?_
                refine XS.goto X2.here hx rfl (pc0 := 52) (pc' := 56) rfl (hb hby d3_52) (by decide) (by decide) ?_
                refine XS.istoreN X2.here hx rfl (hb hby d3_56) rfl (l' := #[.val (.ref z3_V1_1), .val (.int q3_1), .val (.int (1 : Int32))]) rfl ?_
                refine XS.aloadN X2.here hx rfl (hb hby d3_57) rfl rfl ?_
                refine XS.iloadN X2.here hx rfl (hb hby d3_58) rfl ?_
                show Steps p.tables e below (T2.setTop (mkF m 59 #[.val (.ref z3_V1_1), .val (.int q3_1), .val (.int (1 : Int32))] [(.int q3_1), (.ref z3_V1_1)])) t
                exact k)
              obtain ⟨cq57, kq57, q57a, q57b, q57c⟩ := isOf hZ e2 E_z3_V1_1
              obtain ⟨_, _, ⟨T57, L57, k57, n57⟩, -, X57, ⟨Lc57, hQ57, l57, y57, z57⟩, st57⟩ := X2.virtualBack hx (y := (⟨"com/example/splice/splice/XmlVersion", "allows", "(I)Z"⟩ : MethodName)) (z := (⟨"com/example/splice/splice/XmlVersion", "allows", "(I)Z"⟩ : MethodName)) hown (mvT hZ (hw _ (List.mem_of_getElem? (i := 18) rfl))) (mvT hZ (hw _ (List.mem_of_getElem? (i := 8) rfl))) (notFace_of_selects (args := #[]) (mvT hZ (hw _ (List.mem_of_getElem? (i := 10) rfl)))) (mvT hZ (hw _ (List.mem_of_getElem? (i := 10) rfl))) (mvT hZ (hw _ (List.mem_of_getElem? (i := 9) rfl))) (by decide) (backOf (W := 0) (rm2 l Z a0 hw [] z3_V1_1 q3_1 h0 n0 Z0 S_V1_1) hZ (hw _ (List.mem_of_getElem? (i := 11) rfl)) (hw _ (List.mem_of_getElem? (i := 3) rfl)) (by decide) (by decide)) q57a q57c (g := (mkF m 59 #[.val (.ref z3_V1_1), .val (.int q3_1), .val (.int (1 : Int32))] [(.int q3_1), (.ref z3_V1_1)])) rfl (by rw [hml]; rfl) (Steps.refl _) (argsL := [(.int q3_1)]) (rest := []) (lenOf pd_0 rfl) rfl (by show 2 * 0 + _ ≤ _; exact Nat.le_of_eq rfl) (hb hby d3_59) (fun _ _ => ⟨rfl, e2, (by decide : 0 + 0 ≤ _), (by decide : 0 + 0 ≤ _)⟩)
              dsimp only [Pt.U, Pt.locs, Pt.cells, Pt.slots] at X57 l57 y57 z57 st57 hQ57
              subst l57 y57 z57
              obtain ⟨rfl, N57q, e57⟩ := hQ57
              have N57 := Fr.app N0 N57q
              have P57 : own_Go p e below S0 (T57.setTop (mkF m 62 #[.val (.ref z3_V1_1), .val (.int q3_1), .val (.int (1 : Int32))] [(.int (r2 q3_1))])) := fun t k => P56 t (st57.trans k)
              by_cases c58 : (r2 q3_1) = (0 : Int32)
              · skip
                have P59 : own_Go p e below S0 (T57.setTop (mkF m 74 #[.val (.ref z3_V1_1), .val (.int q3_1), .val (.int (1 : Int32))] [(.int (0 : Int32))])) := fun t k => P57 t (by
                  show Steps p.tables e below (T57.setTop (mkF m 62 #[.val (.ref z3_V1_1), .val (.int q3_1), .val (.int (1 : Int32))] [(.int (r2 q3_1))])) t
                  refine XS.ifYes X57.here hx rfl (pc0 := 62) (pc' := 73) rfl (hb hby d3_62) rfl ((if0 _ _).trans (teq c58).1) (by decide) (by decide) ?_
                  refine XS.iconst X57.here hx rfl (hb hby d3_73) ?_
                  show Steps p.tables e below (T57.setTop (mkF m 74 #[.val (.ref z3_V1_1), .val (.int q3_1), .val (.int (1 : Int32))] [(.int (0 : Int32))])) t
                  exact k)
                obtain ⟨fs, hr, hrun, hended, hW, hsame⟩ := X57.leave (v := some (.int (0 : Int32))) (fun h => by rw [Bd.returns] at h; cases h)
                refine ⟨_, _, own_from hS0 (P59 _ ?_), hrun, hended, _, _, rfl, ?_, ⟨_, rfl⟩, hW, hsame.mono (by decide) (by decide)⟩
                · show Steps p.tables e below (T57.setTop (mkF m 74 #[.val (.ref z3_V1_1), .val (.int q3_1), .val (.int (1 : Int32))] [(.int (0 : Int32))])) _
                  exact retN X57 hx (t := .boolean) Bd.returns (by simp) (hb hby d3_74) hr
                · show Q3 Z z3_V1_1 q3_1 h0 n0 _ T57.heap _
                  rw [e57]
                  exact ⟨(congrArg (fun z => some (Value.int z)) (Eq.symm (Eq.trans (if_pos c4) (Eq.trans (if_neg c6) (Eq.trans (if_pos c34) (Eq.trans (if_neg c36) (Eq.trans (if_neg c43) (if_neg c50)))))))), N57, rfl⟩
              · skip
                have P60 : own_Go p e below S0 (T57.setTop (mkF m 74 #[.val (.ref z3_V1_1), .val (.int q3_1), .val (.int (1 : Int32))] [(.int (0 : Int32))])) := fun t k => P57 t (by
                  show Steps p.tables e below (T57.setTop (mkF m 62 #[.val (.ref z3_V1_1), .val (.int q3_1), .val (.int (1 : Int32))] [(.int (r2 q3_1))])) t
                  refine XS.ifNo X57.here hx rfl (hb hby d3_62) rfl ((if0 _ _).trans (feq c58).1) ?_
                  refine XS.iloadN X57.here hx rfl (hb hby d3_65) rfl ?_
                  refine XS.ifYes X57.here hx rfl (pc0 := 66) (pc' := 73) rfl (hb hby d3_66) rfl ((if0 _ _).trans (feq (by decide)).2) (by decide) (by decide) ?_
                  refine XS.iconst X57.here hx rfl (hb hby d3_73) ?_
                  show Steps p.tables e below (T57.setTop (mkF m 74 #[.val (.ref z3_V1_1), .val (.int q3_1), .val (.int (1 : Int32))] [(.int (0 : Int32))])) t
                  exact k)
                obtain ⟨fs, hr, hrun, hended, hW, hsame⟩ := X57.leave (v := some (.int (0 : Int32))) (fun h => by rw [Bd.returns] at h; cases h)
                refine ⟨_, _, own_from hS0 (P60 _ ?_), hrun, hended, _, _, rfl, ?_, ⟨_, rfl⟩, hW, hsame.mono (by decide) (by decide)⟩
                · show Steps p.tables e below (T57.setTop (mkF m 74 #[.val (.ref z3_V1_1), .val (.int q3_1), .val (.int (1 : Int32))] [(.int (0 : Int32))])) _
                  exact retN X57 hx (t := .boolean) Bd.returns (by simp) (hb hby d3_74) hr
                · show Q3 Z z3_V1_1 q3_1 h0 n0 _ T57.heap _
                  rw [e57]
                  exact ⟨(congrArg (fun z => some (Value.int z)) (Eq.symm (Eq.trans (if_pos c4) (Eq.trans (if_neg c6) (Eq.trans (if_pos c34) (Eq.trans (if_neg c36) (Eq.trans (if_neg c43) (if_neg c50)))))))), N57, rfl⟩
      · skip
        have P61 : own_Go p e below S0 (T2.setTop (mkF m 28 #[.val (.ref z3_V1_1), .val (.int q3_1), .unset] [(.int (13 : Int32)), (.int q3_1)])) := fun t k => P33 t (by
          show Steps p.tables e below (T2.setTop (mkF m 22 #[.val (.ref z3_V1_1), .val (.int q3_1), .unset] [(.int (10 : Int32)), (.int q3_1)])) t
          refine XS.icmpNo X2.here hx rfl (hb hby d3_22) rfl (feq c34).1 ?_
          refine XS.iloadN X2.here hx rfl (hb hby d3_25) rfl ?_
          refine XS.bipush X2.here hx rfl (hb hby d3_26) ?_
          show Steps p.tables e below (T2.setTop (mkF m 28 #[.val (.ref z3_V1_1), .val (.int q3_1), .unset] [(.int (13 : Int32)), (.int q3_1)])) t
          exact k)
        by_cases c62 : q3_1 = (13 : Int32)
        · skip
          have P63 : own_Go p e below S0 (T2.setTop (mkF m 34 #[.val (.ref z3_V1_1), .val (.int q3_1), .unset] [(.int (127 : Int32)), (.int q3_1)])) := fun t k => P61 t (by
            show Steps p.tables e below (T2.setTop (mkF m 28 #[.val (.ref z3_V1_1), .val (.int q3_1), .unset] [(.int (13 : Int32)), (.int q3_1)])) t
            refine XS.icmpNo X2.here hx rfl (hb hby d3_28) rfl (teq c62).2 ?_
            refine XS.iloadN X2.here hx rfl (hb hby d3_31) rfl ?_
            refine XS.bipush X2.here hx rfl (hb hby d3_32) ?_
            show Steps p.tables e below (T2.setTop (mkF m 34 #[.val (.ref z3_V1_1), .val (.int q3_1), .unset] [(.int (127 : Int32)), (.int q3_1)])) t
            exact k)
          by_cases c64 : q3_1 < (127 : Int32)
          · skip
            have P65 : own_Go p e below S0 (T2.setTop (mkF m 59 #[.val (.ref z3_V1_1), .val (.int q3_1), .val (.int (0 : Int32))] [(.int q3_1), (.ref z3_V1_1)])) := fun t k => P63 t (by
              show Steps p.tables e below (T2.setTop (mkF m 34 #[.val (.ref z3_V1_1), .val (.int q3_1), .unset] [(.int (127 : Int32)), (.int q3_1)])) t
              refine XS.icmpYes X2.here hx rfl (pc0 := 34) (pc' := 55) rfl (hb hby d3_34) rfl (tlt c64).1 (by decide) (by decide) ?_
              refine XS.iconst X2.here hx rfl (hb hby d3_55) ?_
              refine XS.istoreN X2.here hx rfl (hb hby d3_56) rfl (l' := #[.val (.ref z3_V1_1), .val (.int q3_1), .val (.int (0 : Int32))]) rfl ?_
              refine XS.aloadN X2.here hx rfl (hb hby d3_57) rfl rfl ?_
              refine XS.iloadN X2.here hx rfl (hb hby d3_58) rfl ?_
              show Steps p.tables e below (T2.setTop (mkF m 59 #[.val (.ref z3_V1_1), .val (.int q3_1), .val (.int (0 : Int32))] [(.int q3_1), (.ref z3_V1_1)])) t
              exact k)
            obtain ⟨cq66, kq66, q66a, q66b, q66c⟩ := isOf hZ e2 E_z3_V1_1
            obtain ⟨_, _, ⟨T66, L66, k66, n66⟩, -, X66, ⟨Lc66, hQ66, l66, y66, z66⟩, st66⟩ := X2.virtualBack hx (y := (⟨"com/example/splice/splice/XmlVersion", "allows", "(I)Z"⟩ : MethodName)) (z := (⟨"com/example/splice/splice/XmlVersion", "allows", "(I)Z"⟩ : MethodName)) hown (mvT hZ (hw _ (List.mem_of_getElem? (i := 18) rfl))) (mvT hZ (hw _ (List.mem_of_getElem? (i := 8) rfl))) (notFace_of_selects (args := #[]) (mvT hZ (hw _ (List.mem_of_getElem? (i := 10) rfl)))) (mvT hZ (hw _ (List.mem_of_getElem? (i := 10) rfl))) (mvT hZ (hw _ (List.mem_of_getElem? (i := 9) rfl))) (by decide) (backOf (W := 0) (rm2 l Z a0 hw [] z3_V1_1 q3_1 h0 n0 Z0 S_V1_1) hZ (hw _ (List.mem_of_getElem? (i := 11) rfl)) (hw _ (List.mem_of_getElem? (i := 3) rfl)) (by decide) (by decide)) q66a q66c (g := (mkF m 59 #[.val (.ref z3_V1_1), .val (.int q3_1), .val (.int (0 : Int32))] [(.int q3_1), (.ref z3_V1_1)])) rfl (by rw [hml]; rfl) (Steps.refl _) (argsL := [(.int q3_1)]) (rest := []) (lenOf pd_0 rfl) rfl (by show 2 * 0 + _ ≤ _; exact Nat.le_of_eq rfl) (hb hby d3_59) (fun _ _ => ⟨rfl, e2, (by decide : 0 + 0 ≤ _), (by decide : 0 + 0 ≤ _)⟩)
            dsimp only [Pt.U, Pt.locs, Pt.cells, Pt.slots] at X66 l66 y66 z66 st66 hQ66
            subst l66 y66 z66
            obtain ⟨rfl, N66q, e66⟩ := hQ66
            have N66 := Fr.app N0 N66q
            have P66 : own_Go p e below S0 (T66.setTop (mkF m 62 #[.val (.ref z3_V1_1), .val (.int q3_1), .val (.int (0 : Int32))] [(.int (r2 q3_1))])) := fun t k => P65 t (st66.trans k)
            by_cases c67 : (r2 q3_1) = (0 : Int32)
            · skip
              have P68 : own_Go p e below S0 (T66.setTop (mkF m 74 #[.val (.ref z3_V1_1), .val (.int q3_1), .val (.int (0 : Int32))] [(.int (0 : Int32))])) := fun t k => P66 t (by
                show Steps p.tables e below (T66.setTop (mkF m 62 #[.val (.ref z3_V1_1), .val (.int q3_1), .val (.int (0 : Int32))] [(.int (r2 q3_1))])) t
                refine XS.ifYes X66.here hx rfl (pc0 := 62) (pc' := 73) rfl (hb hby d3_62) rfl ((if0 _ _).trans (teq c67).1) (by decide) (by decide) ?_
                refine XS.iconst X66.here hx rfl (hb hby d3_73) ?_
                show Steps p.tables e below (T66.setTop (mkF m 74 #[.val (.ref z3_V1_1), .val (.int q3_1), .val (.int (0 : Int32))] [(.int (0 : Int32))])) t
                exact k)
              obtain ⟨fs, hr, hrun, hended, hW, hsame⟩ := X66.leave (v := some (.int (0 : Int32))) (fun h => by rw [Bd.returns] at h; cases h)
              refine ⟨_, _, own_from hS0 (P68 _ ?_), hrun, hended, _, _, rfl, ?_, ⟨_, rfl⟩, hW, hsame.mono (by decide) (by decide)⟩
              · show Steps p.tables e below (T66.setTop (mkF m 74 #[.val (.ref z3_V1_1), .val (.int q3_1), .val (.int (0 : Int32))] [(.int (0 : Int32))])) _
                exact retN X66 hx (t := .boolean) Bd.returns (by simp) (hb hby d3_74) hr
              · show Q3 Z z3_V1_1 q3_1 h0 n0 _ T66.heap _
                rw [e66]
                exact ⟨(congrArg (fun z => some (Value.int z)) (Eq.symm (Eq.trans (if_pos c4) (Eq.trans (if_neg c6) (Eq.trans (if_neg c34) (Eq.trans (if_pos c62) (Eq.trans (if_pos c64) (if_pos c67)))))))), N66, rfl⟩
            · skip
              have P69 : own_Go p e below S0 (T66.setTop (mkF m 74 #[.val (.ref z3_V1_1), .val (.int q3_1), .val (.int (0 : Int32))] [(.int (1 : Int32))])) := fun t k => P66 t (by
                show Steps p.tables e below (T66.setTop (mkF m 62 #[.val (.ref z3_V1_1), .val (.int q3_1), .val (.int (0 : Int32))] [(.int (r2 q3_1))])) t
                refine XS.ifNo X66.here hx rfl (hb hby d3_62) rfl ((if0 _ _).trans (feq c67).1) ?_
                refine XS.iloadN X66.here hx rfl (hb hby d3_65) rfl ?_
                refine XS.ifNo X66.here hx rfl (hb hby d3_66) rfl ((if0 _ _).trans (teq (by decide)).2) ?_
                refine XS.iconst X66.here hx rfl (hb hby d3_69) ?_
                refine XS.goto X66.here hx rfl (pc0 := 70) (pc' := 74) rfl (hb hby d3_70) (by decide) (by decide) ?_
                show Steps p.tables e below (T66.setTop (mkF m 74 #[.val (.ref z3_V1_1), .val (.int q3_1), .val (.int (0 : Int32))] [(.int (1 : Int32))])) t
                exact k)
              obtain ⟨fs, hr, hrun, hended, hW, hsame⟩ := X66.leave (v := some (.int (1 : Int32))) (fun h => by rw [Bd.returns] at h; cases h)
              refine ⟨_, _, own_from hS0 (P69 _ ?_), hrun, hended, _, _, rfl, ?_, ⟨_, rfl⟩, hW, hsame.mono (by decide) (by decide)⟩
              · show Steps p.tables e below (T66.setTop (mkF m 74 #[.val (.ref z3_V1_1), .val (.int q3_1), .val (.int (0 : Int32))] [(.int (1 : Int32))])) _
                exact retN X66 hx (t := .boolean) Bd.returns (by simp) (hb hby d3_74) hr
              · show Q3 Z z3_V1_1 q3_1 h0 n0 _ T66.heap _
                rw [e66]
                exact ⟨(congrArg (fun z => some (Value.int z)) (Eq.symm (Eq.trans (if_pos c4) (Eq.trans (if_neg c6) (Eq.trans (if_neg c34) (Eq.trans (if_pos c62) (Eq.trans (if_pos c64) (if_neg c67)))))))), N66, rfl⟩
          · skip
            have P70 : own_Go p e below S0 (T2.setTop (mkF m 41 #[.val (.ref z3_V1_1), .val (.int q3_1), .unset] [(.int (159 : Int32)), (.int q3_1)])) := fun t k => P63 t (by
              show Steps p.tables e below (T2.setTop (mkF m 34 #[.val (.ref z3_V1_1), .val (.int q3_1), .unset] [(.int (127 : Int32)), (.int q3_1)])) t
              refine XS.icmpNo X2.here hx rfl (hb hby d3_34) rfl (flt c64).1 ?_
              refine XS.iloadN X2.here hx rfl (hb hby d3_37) rfl ?_
              refine XS.sipush X2.here hx rfl (hb hby d3_38) ?_
              show Steps p.tables e below (T2.setTop (mkF m 41 #[.val (.ref z3_V1_1), .val (.int q3_1), .unset] [(.int (159 : Int32)), (.int q3_1)])) t
              exact k)
            by_cases c71 : (159 : Int32) < q3_1
            · skip
              have P72 : own_Go p e below S0 (T2.setTop (mkF m 59 #[.val (.ref z3_V1_1), .val (.int q3_1), .val (.int (0 : Int32))] [(.int q3_1), (.ref z3_V1_1)])) := fun t k => P70 t (by
                show Steps p.tables e below (T2.setTop (mkF m 41 #[.val (.ref z3_V1_1), .val (.int q3_1), .unset] [(.int (159 : Int32)), (.int q3_1)])) t
                refine XS.icmpYes X2.here hx rfl (pc0 := 41) (pc' := 55) rfl (hb hby d3_41) rfl (tlt c71).2.2.1 (by decide) (by decide) ?_
                refine XS.iconst X2.here hx rfl (hb hby d3_55) ?_
                refine XS.istoreN X2.here hx rfl (hb hby d3_56) rfl (l' := #[.val (.ref z3_V1_1), .val (.int q3_1), .val (.int (0 : Int32))]) rfl ?_
                refine XS.aloadN X2.here hx rfl (hb hby d3_57) rfl rfl ?_
                refine XS.iloadN X2.here hx rfl (hb hby d3_58) rfl ?_
                show Steps p.tables e below (T2.setTop (mkF m 59 #[.val (.ref z3_V1_1), .val (.int q3_1), .val (.int (0 : Int32))] [(.int q3_1), (.ref z3_V1_1)])) t
                exact k)
              obtain ⟨cq73, kq73, q73a, q73b, q73c⟩ := isOf hZ e2 E_z3_V1_1
              obtain ⟨_, _, ⟨T73, L73, k73, n73⟩, -, X73, ⟨Lc73, hQ73, l73, y73, z73⟩, st73⟩ := X2.virtualBack hx (y := (⟨"com/example/splice/splice/XmlVersion", "allows", "(I)Z"⟩ : MethodName)) (z := (⟨"com/example/splice/splice/XmlVersion", "allows", "(I)Z"⟩ : MethodName)) hown (mvT hZ (hw _ (List.mem_of_getElem? (i := 18) rfl))) (mvT hZ (hw _ (List.mem_of_getElem? (i := 8) rfl))) (notFace_of_selects (args := #[]) (mvT hZ (hw _ (List.mem_of_getElem? (i := 10) rfl)))) (mvT hZ (hw _ (List.mem_of_getElem? (i := 10) rfl))) (mvT hZ (hw _ (List.mem_of_getElem? (i := 9) rfl))) (by decide) (backOf (W := 0) (rm2 l Z a0 hw [] z3_V1_1 q3_1 h0 n0 Z0 S_V1_1) hZ (hw _ (List.mem_of_getElem? (i := 11) rfl)) (hw _ (List.mem_of_getElem? (i := 3) rfl)) (by decide) (by decide)) q73a q73c (g := (mkF m 59 #[.val (.ref z3_V1_1), .val (.int q3_1), .val (.int (0 : Int32))] [(.int q3_1), (.ref z3_V1_1)])) rfl (by rw [hml]; rfl) (Steps.refl _) (argsL := [(.int q3_1)]) (rest := []) (lenOf pd_0 rfl) rfl (by show 2 * 0 + _ ≤ _; exact Nat.le_of_eq rfl) (hb hby d3_59) (fun _ _ => ⟨rfl, e2, (by decide : 0 + 0 ≤ _), (by decide : 0 + 0 ≤ _)⟩)
              dsimp only [Pt.U, Pt.locs, Pt.cells, Pt.slots] at X73 l73 y73 z73 st73 hQ73
              subst l73 y73 z73
              obtain ⟨rfl, N73q, e73⟩ := hQ73
              have N73 := Fr.app N0 N73q
              have P73 : own_Go p e below S0 (T73.setTop (mkF m 62 #[.val (.ref z3_V1_1), .val (.int q3_1), .val (.int (0 : Int32))] [(.int (r2 q3_1))])) := fun t k => P72 t (st73.trans k)
              by_cases c74 : (r2 q3_1) = (0 : Int32)
              · skip
                have P75 : own_Go p e below S0 (T73.setTop (mkF m 74 #[.val (.ref z3_V1_1), .val (.int q3_1), .val (.int (0 : Int32))] [(.int (0 : Int32))])) := fun t k => P73 t (by
                  show Steps p.tables e below (T73.setTop (mkF m 62 #[.val (.ref z3_V1_1), .val (.int q3_1), .val (.int (0 : Int32))] [(.int (r2 q3_1))])) t
                  refine XS.ifYes X73.here hx rfl (pc0 := 62) (pc' := 73) rfl (hb hby d3_62) rfl ((if0 _ _).trans (teq c74).1) (by decide) (by decide) ?_
                  refine XS.iconst X73.here hx rfl (hb hby d3_73) ?_
                  show Steps p.tables e below (T73.setTop (mkF m 74 #[.val (.ref z3_V1_1), .val (.int q3_1), .val (.int (0 : Int32))] [(.int (0 : Int32))])) t
                  exact k)
                obtain ⟨fs, hr, hrun, hended, hW, hsame⟩ := X73.leave (v := some (.int (0 : Int32))) (fun h => by rw [Bd.returns] at h; cases h)
                refine ⟨_, _, own_from hS0 (P75 _ ?_), hrun, hended, _, _, rfl, ?_, ⟨_, rfl⟩, hW, hsame.mono (by decide) (by decide)⟩
                · show Steps p.tables e below (T73.setTop (mkF m 74 #[.val (.ref z3_V1_1), .val (.int q3_1), .val (.int (0 : Int32))] [(.int (0 : Int32))])) _
                  exact retN X73 hx (t := .boolean) Bd.returns (by simp) (hb hby d3_74) hr
                · show Q3 Z z3_V1_1 q3_1 h0 n0 _ T73.heap _
                  rw [e73]
                  exact ⟨(congrArg (fun z => some (Value.int z)) (Eq.symm (Eq.trans (if_pos c4) (Eq.trans (if_neg c6) (Eq.trans (if_neg c34) (Eq.trans (if_pos c62) (Eq.trans (if_neg c64) (Eq.trans (if_pos c71) (if_pos c74))))))))), N73, rfl⟩
              · skip
                have P76 : own_Go p e below S0 (T73.setTop (mkF m 74 #[.val (.ref z3_V1_1), .val (.int q3_1), .val (.int (0 : Int32))] [(.int (1 : Int32))])) := fun t k => P73 t (by
                  show Steps p.tables e below (T73.setTop (mkF m 62 #[.val (.ref z3_V1_1), .val (.int q3_1), .val (.int (0 : Int32))] [(.int (r2 q3_1))])) t
                  refine XS.ifNo X73.here hx rfl (hb hby d3_62) rfl ((if0 _ _).trans (feq c74).1) ?_
                  refine XS.iloadN X73.here hx rfl (hb hby d3_65) rfl ?_
                  refine XS.ifNo X73.here hx rfl (hb hby d3_66) rfl ((if0 _ _).trans (teq (by decide)).2) ?_
                  refine XS.iconst X73.here hx rfl (hb hby d3_69) ?_
                  refine XS.goto X73.here hx rfl (pc0 := 70) (pc' := 74) rfl (hb hby d3_70) (by decide) (by decide) ?_
                  show Steps p.tables e below (T73.setTop (mkF m 74 #[.val (.ref z3_V1_1), .val (.int q3_1), .val (.int (0 : Int32))] [(.int (1 : Int32))])) t
                  exact k)
                obtain ⟨fs, hr, hrun, hended, hW, hsame⟩ := X73.leave (v := some (.int (1 : Int32))) (fun h => by rw [Bd.returns] at h; cases h)
                refine ⟨_, _, own_from hS0 (P76 _ ?_), hrun, hended, _, _, rfl, ?_, ⟨_, rfl⟩, hW, hsame.mono (by decide) (by decide)⟩
                · show Steps p.tables e below (T73.setTop (mkF m 74 #[.val (.ref z3_V1_1), .val (.int q3_1), .val (.int (0 : Int32))] [(.int (1 : Int32))])) _
                  exact retN X73 hx (t := .boolean) Bd.returns (by simp) (hb hby d3_74) hr
                · show Q3 Z z3_V1_1 q3_1 h0 n0 _ T73.heap _
                  rw [e73]
                  exact ⟨(congrArg (fun z => some (Value.int z)) (Eq.symm (Eq.trans (if_pos c4) (Eq.trans (if_neg c6) (Eq.trans (if_neg c34) (Eq.trans (if_pos c62) (Eq.trans (if_neg c64) (Eq.trans (if_pos c71) (if_neg c74))))))))), N73, rfl⟩
            · skip
              have P77 : own_Go p e below S0 (T2.setTop (mkF m 48 #[.val (.ref z3_V1_1), .val (.int q3_1), .unset] [(.int (133 : Int32)), (.int q3_1)])) := fun t k => P70 t (by
                show Steps p.tables e below (T2.setTop (mkF m 41 #[.val (.ref z3_V1_1), .val (.int q3_1), .unset] [(.int (159 : Int32)), (.int q3_1)])) t
                refine XS.icmpNo X2.here hx rfl (hb hby d3_41) rfl (flt c71).2.2.1 ?_
                refine XS.iloadN X2.here hx rfl (hb hby d3_44) rfl ?_
                refine XS.sipush X2.here hx rfl (hb hby d3_45) ?_
                show Steps p.tables e below (T2.setTop (mkF m 48 #[.val (.ref z3_V1_1), .val (.int q3_1), .unset] [(.int (133 : Int32)), (.int q3_1)])) t
                exact k)
              by_cases c78 : q3_1 = (133 : Int32)
              · skip
                have P79 : own_Go p e below S0 (T2.setTop (mkF m 59 #[.val (.ref z3_V1_1), .val (.int q3_1), .val (.int (0 : Int32))] [(.int q3_1), (.ref z3_V1_1)])) := fun t k => P77 t (by
                  show Steps p.tables e below (T2.setTop (mkF m 48 #[.val (.ref z3_V1_1), .val (.int q3_1), .unset] [(.int (133 : Int32)), (.int q3_1)])) t
                  refine XS.icmpYes X2.here hx rfl (pc0 := 48) (pc' := 55) rfl (hb hby d3_48) rfl (teq c78).1 (by decide) (by decide) ?_
                  refine XS.iconst X2.here hx rfl (hb hby d3_55) ?_
                  refine XS.istoreN X2.here hx rfl (hb hby d3_56) rfl (l' := #[.val (.ref z3_V1_1), .val (.int q3_1), .val (.int (0 : Int32))]) rfl ?_
                  refine XS.aloadN X2.here hx rfl (hb hby d3_57) rfl rfl ?_
                  refine XS.iloadN X2.here hx rfl (hb hby d3_58) rfl ?_
                  show Steps p.tables e below (T2.setTop (mkF m 59 #[.val (.ref z3_V1_1), .val (.int q3_1), .val (.int (0 : Int32))] [(.int q3_1), (.ref z3_V1_1)])) t
                  exact k)
                obtain ⟨cq80, kq80, q80a, q80b, q80c⟩ := isOf hZ e2 E_z3_V1_1
                obtain ⟨_, _, ⟨T80, L80, k80, n80⟩, -, X80, ⟨Lc80, hQ80, l80, y80, z80⟩, st80⟩ := X2.virtualBack hx (y := (⟨"com/example/splice/splice/XmlVersion", "allows", "(I)Z"⟩ : MethodName)) (z := (⟨"com/example/splice/splice/XmlVersion", "allows", "(I)Z"⟩ : MethodName)) hown (mvT hZ (hw _ (List.mem_of_getElem? (i := 18) rfl))) (mvT hZ (hw _ (List.mem_of_getElem? (i := 8) rfl))) (notFace_of_selects (args := #[]) (mvT hZ (hw _ (List.mem_of_getElem? (i := 10) rfl)))) (mvT hZ (hw _ (List.mem_of_getElem? (i := 10) rfl))) (mvT hZ (hw _ (List.mem_of_getElem? (i := 9) rfl))) (by decide) (backOf (W := 0) (rm2 l Z a0 hw [] z3_V1_1 q3_1 h0 n0 Z0 S_V1_1) hZ (hw _ (List.mem_of_getElem? (i := 11) rfl)) (hw _ (List.mem_of_getElem? (i := 3) rfl)) (by decide) (by decide)) q80a q80c (g := (mkF m 59 #[.val (.ref z3_V1_1), .val (.int q3_1), .val (.int (0 : Int32))] [(.int q3_1), (.ref z3_V1_1)])) rfl (by rw [hml]; rfl) (Steps.refl _) (argsL := [(.int q3_1)]) (rest := []) (lenOf pd_0 rfl) rfl (by show 2 * 0 + _ ≤ _; exact Nat.le_of_eq rfl) (hb hby d3_59) (fun _ _ => ⟨rfl, e2, (by decide : 0 + 0 ≤ _), (by decide : 0 + 0 ≤ _)⟩)
                dsimp only [Pt.U, Pt.locs, Pt.cells, Pt.slots] at X80 l80 y80 z80 st80 hQ80
                subst l80 y80 z80
                obtain ⟨rfl, N80q, e80⟩ := hQ80
                have N80 := Fr.app N0 N80q
                have P80 : own_Go p e below S0 (T80.setTop (mkF m 62 #[.val (.ref z3_V1_1), .val (.int q3_1), .val (.int (0 : Int32))] [(.int (r2 q3_1))])) := fun t k => P79 t (st80.trans k)
                by_cases c81 : (r2 q3_1) = (0 : Int32)
                · skip
                  have P82 : own_Go p e below S0 (T80.setTop (mkF m 74 #[.val (.ref z3_V1_1), .val (.int q3_1), .val (.int (0 : Int32))] [(.int (0 : Int32))])) := fun t k => P80 t (by
                    show Steps p.tables e below (T80.setTop (mkF m 62 #[.val (.ref z3_V1_1), .val (.int q3_1), .val (.int (0 : Int32))] [(.int (r2 q3_1))])) t
                    refine XS.ifYes X80.here hx rfl (pc0 := 62) (pc' := 73) rfl (hb hby d3_62) rfl ((if0 _ _).trans (teq c81).1) (by decide) (by decide) ?_
                    refine XS.iconst X80.here hx rfl (hb hby d3_73) ?_
                    show Steps p.tables e below (T80.setTop (mkF m 74 #[.val (.ref z3_V1_1), .val (.int q3_1), .val (.int (0 : Int32))] [(.int (0 : Int32))])) t
                    exact k)
                  obtain ⟨fs, hr, hrun, hended, hW, hsame⟩ := X80.leave (v := some (.int (0 : Int32))) (fun h => by rw [Bd.returns] at h; cases h)
                  refine ⟨_, _, own_from hS0 (P82 _ ?_), hrun, hended, _, _, rfl, ?_, ⟨_, rfl⟩, hW, hsame.mono (by decide) (by decide)⟩
                  · show Steps p.tables e below (T80.setTop (mkF m 74 #[.val (.ref z3_V1_1), .val (.int q3_1), .val (.int (0 : Int32))] [(.int (0 : Int32))])) _
                    exact retN X80 hx (t := .boolean) Bd.returns (by simp) (hb hby d3_74) hr
                  · show Q3 Z z3_V1_1 q3_1 h0 n0 _ T80.heap _
                    rw [e80]
                    exact ⟨(congrArg (fun z => some (Value.int z)) (Eq.symm (Eq.trans (if_pos c4) (Eq.trans (if_neg c6) (Eq.trans (if_neg c34) (Eq.trans (if_pos c62) (Eq.trans (if_neg c64) (Eq.trans (if_neg c71) (Eq.trans (if_pos c78) (if_pos c81)))))))))), N80, rfl⟩
                · skip
                  have P83 : own_Go p e below S0 (T80.setTop (mkF m 74 #[.val (.ref z3_V1_1), .val (.int q3_1), .val (.int (0 : Int32))] [(.int (1 : Int32))])) := fun t k => P80 t (by
                    show Steps p.tables e below (T80.setTop (mkF m 62 #[.val (.ref z3_V1_1), .val (.int q3_1), .val (.int (0 : Int32))] [(.int (r2 q3_1))])) t
                    refine XS.ifNo X80.here hx rfl (hb hby d3_62) rfl ((if0 _ _).trans (feq c81).1) ?_
                    refine XS.iloadN X80.here hx rfl (hb hby d3_65) rfl ?_
                    refine XS.ifNo X80.here hx rfl (hb hby d3_66) rfl ((if0 _ _).trans (teq (by decide)).2) ?_
                    refine XS.iconst X80.here hx rfl (hb hby d3_69) ?_
                    refine XS.goto X80.here hx rfl (pc0 := 70) (pc' := 74) rfl (hb hby d3_70) (by decide) (by decide) ?_
                    show Steps p.tables e below (T80.setTop (mkF m 74 #[.val (.ref z3_V1_1), .val (.int q3_1), .val (.int (0 : Int32))] [(.int (1 : Int32))])) t
                    exact k)
                  obtain ⟨fs, hr, hrun, hended, hW, hsame⟩ := X80.leave (v := some (.int (1 : Int32))) (fun h => by rw [Bd.returns] at h; cases h)
                  refine ⟨_, _, own_from hS0 (P83 _ ?_), hrun, hended, _, _, rfl, ?_, ⟨_, rfl⟩, hW, hsame.mono (by decide) (by decide)⟩
                  · show Steps p.tables e below (T80.setTop (mkF m 74 #[.val (.ref z3_V1_1), .val (.int q3_1), .val (.int (0 : Int32))] [(.int (1 : Int32))])) _
                    exact retN X80 hx (t := .boolean) Bd.returns (by simp) (hb hby d3_74) hr
                  · show Q3 Z z3_V1_1 q3_1 h0 n0 _ T80.heap _
                    rw [e80]
                    exact ⟨(congrArg (fun z => some (Value.int z)) (Eq.symm (Eq.trans (if_pos c4) (Eq.trans (if_neg c6) (Eq.trans (if_neg c34) (Eq.trans (if_pos c62) (Eq.trans (if_neg c64) (Eq.trans (if_neg c71) (Eq.trans (if_pos c78) (if_neg c81)))))))))), N80, rfl⟩
              · skip
                have P84 : own_Go p e below S0 (T2.setTop (mkF m 59 #[.val (.ref z3_V1_1), .val (.int q3_1), .val (.int (1 : Int32))] [(.int q3_1), (.ref z3_V1_1)])) := fun t k => P77 t (by
                  show Steps p.tables e below (T2.setTop (mkF m 48 #[.val (.ref z3_V1_1), .val (.int q3_1), .unset] [(.int (133 : Int32)), (.int q3_1)])) t
                  refine XS.icmpNo X2.here hx rfl (hb hby d3_48) rfl (feq c78).1 ?_
                  refine XS.iconst X2.here hx rfl (hb hby d3_51) ?_
                  refine XS.goto X2.here hx rfl (pc0 := 52) (pc' := 56) rfl (hb hby d3_52) (by decide) (by decide) ?_
                  refine XS.istoreN X2.here hx rfl (hb hby d3_56) rfl (l' := #[.val (.ref z3_V1_1), .val (.int q3_1), .val (.int (1 : Int32))]) rfl ?_
                  refine XS.aloadN X2.here hx rfl (hb hby d3_57) rfl rfl ?_
                  refine XS.iloadN X2.here hx rfl (hb hby d3_58) rfl ?_
                  show Steps p.tables e below (T2.setTop (mkF m 59 #[.val (.ref z3_V1_1), .val (.int q3_1), .val (.int (1 : Int32))] [(.int q3_1), (.ref z3_V1_1)])) t
                  exact k)
                obtain ⟨cq85, kq85, q85a, q85b, q85c⟩ := isOf hZ e2 E_z3_V1_1
                obtain ⟨_, _, ⟨T85, L85, k85, n85⟩, -, X85, ⟨Lc85, hQ85, l85, y85, z85⟩, st85⟩ := X2.virtualBack hx (y := (⟨"com/example/splice/splice/XmlVersion", "allows", "(I)Z"⟩ : MethodName)) (z := (⟨"com/example/splice/splice/XmlVersion", "allows", "(I)Z"⟩ : MethodName)) hown (mvT hZ (hw _ (List.mem_of_getElem? (i := 18) rfl))) (mvT hZ (hw _ (List.mem_of_getElem? (i := 8) rfl))) (notFace_of_selects (args := #[]) (mvT hZ (hw _ (List.mem_of_getElem? (i := 10) rfl)))) (mvT hZ (hw _ (List.mem_of_getElem? (i := 10) rfl))) (mvT hZ (hw _ (List.mem_of_getElem? (i := 9) rfl))) (by decide) (backOf (W := 0) (rm2 l Z a0 hw [] z3_V1_1 q3_1 h0 n0 Z0 S_V1_1) hZ (hw _ (List.mem_of_getElem? (i := 11) rfl)) (hw _ (List.mem_of_getElem? (i := 3) rfl)) (by decide) (by decide)) q85a q85c (g := (mkF m 59 #[.val (.ref z3_V1_1), .val (.int q3_1), .val (.int (1 : Int32))] [(.int q3_1), (.ref z3_V1_1)])) rfl (by rw [hml]; rfl) (Steps.refl _) (argsL := [(.int q3_1)]) (rest := []) (lenOf pd_0 rfl) rfl (by show 2 * 0 + _ ≤ _; exact Nat.le_of_eq rfl) (hb hby d3_59) (fun _ _ => ⟨rfl, e2, (by decide : 0 + 0 ≤ _), (by decide : 0 + 0 ≤ _)⟩)
                dsimp only [Pt.U, Pt.locs, Pt.cells, Pt.slots] at X85 l85 y85 z85 st85 hQ85
                subst l85 y85 z85
                obtain ⟨rfl, N85q, e85⟩ := hQ85
                have N85 := Fr.app N0 N85q
                have P85 : own_Go p e below S0 (T85.setTop (mkF m 62 #[.val (.ref z3_V1_1), .val (.int q3_1), .val (.int (1 : Int32))] [(.int (r2 q3_1))])) := fun t k => P84 t (st85.trans k)
                by_cases c86 : (r2 q3_1) = (0 : Int32)
                · skip
                  have P87 : own_Go p e below S0 (T85.setTop (mkF m 74 #[.val (.ref z3_V1_1), .val (.int q3_1), .val (.int (1 : Int32))] [(.int (0 : Int32))])) := fun t k => P85 t (by
                    show Steps p.tables e below (T85.setTop (mkF m 62 #[.val (.ref z3_V1_1), .val (.int q3_1), .val (.int (1 : Int32))] [(.int (r2 q3_1))])) t
                    refine XS.ifYes X85.here hx rfl (pc0 := 62) (pc' := 73) rfl (hb hby d3_62) rfl ((if0 _ _).trans (teq c86).1) (by decide) (by decide) ?_
                    refine XS.iconst X85.here hx rfl (hb hby d3_73) ?_
                    show Steps p.tables e below (T85.setTop (mkF m 74 #[.val (.ref z3_V1_1), .val (.int q3_1), .val (.int (1 : Int32))] [(.int (0 : Int32))])) t
                    exact k)
                  obtain ⟨fs, hr, hrun, hended, hW, hsame⟩ := X85.leave (v := some (.int (0 : Int32))) (fun h => by rw [Bd.returns] at h; cases h)
                  refine ⟨_, _, own_from hS0 (P87 _ ?_), hrun, hended, _, _, rfl, ?_, ⟨_, rfl⟩, hW, hsame.mono (by decide) (by decide)⟩
                  · show Steps p.tables e below (T85.setTop (mkF m 74 #[.val (.ref z3_V1_1), .val (.int q3_1), .val (.int (1 : Int32))] [(.int (0 : Int32))])) _
                    exact retN X85 hx (t := .boolean) Bd.returns (by simp) (hb hby d3_74) hr
                  · show Q3 Z z3_V1_1 q3_1 h0 n0 _ T85.heap _
                    rw [e85]
                    exact ⟨(congrArg (fun z => some (Value.int z)) (Eq.symm (Eq.trans (if_pos c4) (Eq.trans (if_neg c6) (Eq.trans (if_neg c34) (Eq.trans (if_pos c62) (Eq.trans (if_neg c64) (Eq.trans (if_neg c71) (if_neg c78))))))))), N85, rfl⟩
                · skip
                  have P88 : own_Go p e below S0 (T85.setTop (mkF m 74 #[.val (.ref z3_V1_1), .val (.int q3_1), .val (.int (1 : Int32))] [(.int (0 : Int32))])) := fun t k => P85 t (by
                    show Steps p.tables e below (T85.setTop (mkF m 62 #[.val (.ref z3_V1_1), .val (.int q3_1), .val (.int (1 : Int32))] [(.int (r2 q3_1))])) t
                    refine XS.ifNo X85.here hx rfl (hb hby d3_62) rfl ((if0 _ _).trans (feq c86).1) ?_
                    refine XS.iloadN X85.here hx rfl (hb hby d3_65) rfl ?_
                    refine XS.ifYes X85.here hx rfl (pc0 := 66) (pc' := 73) rfl (hb hby d3_66) rfl ((if0 _ _).trans (feq (by decide)).2) (by decide) (by decide) ?_
                    refine XS.iconst X85.here hx rfl (hb hby d3_73) ?_
                    show Steps p.tables e below (T85.setTop (mkF m 74 #[.val (.ref z3_V1_1), .val (.int q3_1), .val (.int (1 : Int32))] [(.int (0 : Int32))])) t
                    exact k)
                  obtain ⟨fs, hr, hrun, hended, hW, hsame⟩ := X85.leave (v := some (.int (0 : Int32))) (fun h => by rw [Bd.returns] at h; cases h)
                  refine ⟨_, _, own_from hS0 (P88 _ ?_), hrun, hended, _, _, rfl, ?_, ⟨_, rfl⟩, hW, hsame.mono (by decide) (by decide)⟩
                  · show Steps p.tables e below (T85.setTop (mkF m 74 #[.val (.ref z3_V1_1), .val (.int q3_1), .val (.int (1 : Int32))] [(.int (0 : Int32))])) _
                    exact retN X85 hx (t := .boolean) Bd.returns (by simp) (hb hby d3_74) hr
                  · show Q3 Z z3_V1_1 q3_1 h0 n0 _ T85.heap _
                    rw [e85]
                    exact ⟨(congrArg (fun z => some (Value.int z)) (Eq.symm (Eq.trans (if_pos c4) (Eq.trans (if_neg c6) (Eq.trans (if_neg c34) (Eq.trans (if_pos c62) (Eq.trans (if_neg c64) (Eq.trans (if_neg c71) (if_neg c78))))))))), N85, rfl⟩
        · skip
          have P89 : own_Go p e below S0 (T2.setTop (mkF m 59 #[.val (.ref z3_V1_1), .val (.int q3_1), .val (.int (1 : Int32))] [(.int q3_1), (.ref z3_V1_1)])) := fun t k => P61 t (by
            show Steps p.tables e below (T2.setTop (mkF m 28 #[.val (.ref z3_V1_1), .val (.int q3_1), .unset] [(.int (13 : Int32)), (.int q3_1)])) t
            refine XS.icmpYes X2.here hx rfl (pc0 := 28) (pc' := 51) rfl (hb hby d3_28) rfl (feq c62).2 (by decide) (by decide) ?_
            refine XS.iconst X2.here hx rfl (hb hby d3_51) ?_
            refine XS.goto X2.here hx rfl (pc0 := 52) (pc' := 56) rfl (hb hby d3_52) (by decide) (by decide) ?_
            refine XS.istoreN X2.here hx rfl (hb hby d3_56) rfl (l' := #[.val (.ref z3_V1_1), .val (.int q3_1), .val (.int (1 : Int32))]) rfl ?_
            refine XS.aloadN X2.here hx rfl (hb hby d3_57) rfl rfl ?_
            refine XS.iloadN X2.here hx rfl (hb hby d3_58) rfl ?_
            show Steps p.tables e below (T2.setTop (mkF m 59 #[.val (.ref z3_V1_1), .val (.int q3_1), .val (.int (1 : Int32))] [(.int q3_1), (.ref z3_V1_1)])) t
            exact k)
          obtain ⟨cq90, kq90, q90a, q90b, q90c⟩ := isOf hZ e2 E_z3_V1_1
          obtain ⟨_, _, ⟨T90, L90, k90, n90⟩, -, X90, ⟨Lc90, hQ90, l90, y90, z90⟩, st90⟩ := X2.virtualBack hx (y := (⟨"com/example/splice/splice/XmlVersion", "allows", "(I)Z"⟩ : MethodName)) (z := (⟨"com/example/splice/splice/XmlVersion", "allows", "(I)Z"⟩ : MethodName)) hown (mvT hZ (hw _ (List.mem_of_getElem? (i := 18) rfl))) (mvT hZ (hw _ (List.mem_of_getElem? (i := 8) rfl))) (notFace_of_selects (args := #[]) (mvT hZ (hw _ (List.mem_of_getElem? (i := 10) rfl)))) (mvT hZ (hw _ (List.mem_of_getElem? (i := 10) rfl))) (mvT hZ (hw _ (List.mem_of_getElem? (i := 9) rfl))) (by decide) (backOf (W := 0) (rm2 l Z a0 hw [] z3_V1_1 q3_1 h0 n0 Z0 S_V1_1) hZ (hw _ (List.mem_of_getElem? (i := 11) rfl)) (hw _ (List.mem_of_getElem? (i := 3) rfl)) (by decide) (by decide)) q90a q90c (g := (mkF m 59 #[.val (.ref z3_V1_1), .val (.int q3_1), .val (.int (1 : Int32))] [(.int q3_1), (.ref z3_V1_1)])) rfl (by rw [hml]; rfl) (Steps.refl _) (argsL := [(.int q3_1)]) (rest := []) (lenOf pd_0 rfl) rfl (by show 2 * 0 + _ ≤ _; exact Nat.le_of_eq rfl) (hb hby d3_59) (fun _ _ => ⟨rfl, e2, (by decide : 0 + 0 ≤ _), (by decide : 0 + 0 ≤ _)⟩)
          dsimp only [Pt.U, Pt.locs, Pt.cells, Pt.slots] at X90 l90 y90 z90 st90 hQ90
          subst l90 y90 z90
          obtain ⟨rfl, N90q, e90⟩ := hQ90
          have N90 := Fr.app N0 N90q
          have P90 : own_Go p e below S0 (T90.setTop (mkF m 62 #[.val (.ref z3_V1_1), .val (.int q3_1), .val (.int (1 : Int32))] [(.int (r2 q3_1))])) := fun t k => P89 t (st90.trans k)
          by_cases c91 : (r2 q3_1) = (0 : Int32)
          · skip
            have P92 : own_Go p e below S0 (T90.setTop (mkF m 74 #[.val (.ref z3_V1_1), .val (.int q3_1), .val (.int (1 : Int32))] [(.int (0 : Int32))])) := fun t k => P90 t (by
              show Steps p.tables e below (T90.setTop (mkF m 62 #[.val (.ref z3_V1_1), .val (.int q3_1), .val (.int (1 : Int32))] [(.int (r2 q3_1))])) t
              refine XS.ifYes X90.here hx rfl (pc0 := 62) (pc' := 73) rfl (hb hby d3_62) rfl ((if0 _ _).trans (teq c91).1) (by decide) (by decide) ?_
              refine XS.iconst X90.here hx rfl (hb hby d3_73) ?_
              show Steps p.tables e below (T90.setTop (mkF m 74 #[.val (.ref z3_V1_1), .val (.int q3_1), .val (.int (1 : Int32))] [(.int (0 : Int32))])) t
              exact k)
            obtain ⟨fs, hr, hrun, hended, hW, hsame⟩ := X90.leave (v := some (.int (0 : Int32))) (fun h => by rw [Bd.returns] at h; cases h)
            refine ⟨_, _, own_from hS0 (P92 _ ?_), hrun, hended, _, _, rfl, ?_, ⟨_, rfl⟩, hW, hsame.mono (by decide) (by decide)⟩
            · show Steps p.tables e below (T90.setTop (mkF m 74 #[.val (.ref z3_V1_1), .val (.int q3_1), .val (.int (1 : Int32))] [(.int (0 : Int32))])) _
              exact retN X90 hx (t := .boolean) Bd.returns (by simp) (hb hby d3_74) hr
            · show Q3 Z z3_V1_1 q3_1 h0 n0 _ T90.heap _
              rw [e90]
              exact ⟨(congrArg (fun z => some (Value.int z)) (Eq.symm (Eq.trans (if_pos c4) (Eq.trans (if_neg c6) (Eq.trans (if_neg c34) (if_neg c62)))))), N90, rfl⟩
          · skip
            have P93 : own_Go p e below S0 (T90.setTop (mkF m 74 #[.val (.ref z3_V1_1), .val (.int q3_1), .val (.int (1 : Int32))] [(.int (0 : Int32))])) := fun t k => P90 t (by
              show Steps p.tables e below (T90.setTop (mkF m 62 #[.val (.ref z3_V1_1), .val (.int q3_1), .val (.int (1 : Int32))] [(.int (r2 q3_1))])) t
              refine XS.ifNo X90.here hx rfl (hb hby d3_62) rfl ((if0 _ _).trans (feq c91).1) ?_
              refine XS.iloadN X90.here hx rfl (hb hby d3_65) rfl ?_
              refine XS.ifYes X90.here hx rfl (pc0 := 66) (pc' := 73) rfl (hb hby d3_66) rfl ((if0 _ _).trans (feq (by decide)).2) (by decide) (by decide) ?_
              refine XS.iconst X90.here hx rfl (hb hby d3_73) ?_
              show Steps p.tables e below (T90.setTop (mkF m 74 #[.val (.ref z3_V1_1), .val (.int q3_1), .val (.int (1 : Int32))] [(.int (0 : Int32))])) t
              exact k)
            obtain ⟨fs, hr, hrun, hended, hW, hsame⟩ := X90.leave (v := some (.int (0 : Int32))) (fun h => by rw [Bd.returns] at h; cases h)
            refine ⟨_, _, own_from hS0 (P93 _ ?_), hrun, hended, _, _, rfl, ?_, ⟨_, rfl⟩, hW, hsame.mono (by decide) (by decide)⟩
            · show Steps p.tables e below (T90.setTop (mkF m 74 #[.val (.ref z3_V1_1), .val (.int q3_1), .val (.int (1 : Int32))] [(.int (0 : Int32))])) _
              exact retN X90 hx (t := .boolean) Bd.returns (by simp) (hb hby d3_74) hr
            · show Q3 Z z3_V1_1 q3_1 h0 n0 _ T90.heap _
              rw [e90]
              exact ⟨(congrArg (fun z => some (Value.int z)) (Eq.symm (Eq.trans (if_pos c4) (Eq.trans (if_neg c6) (Eq.trans (if_neg c34) (if_neg c62)))))), N90, rfl⟩
  · skip
    have P94 : own_Go p e below S0 (T2.setTop (mkF m 34 #[.val (.ref z3_V1_1), .val (.int q3_1), .unset] [(.int (127 : Int32)), (.int q3_1)])) := fun t k => P3 t (by
      show Steps p.tables e below (T2.setTop (mkF m 10 #[.val (.ref z3_V1_1), .val (.int q3_1), .unset] [(.int (32 : Int32)), (.int q3_1)])) t
      refine XS.icmpYes X2.here hx rfl (pc0 := 10) (pc' := 31) rfl (hb hby d3_10) rfl (flt c4).2.1 (by decide) (by decide) ?_
      refine XS.iloadN X2.here hx rfl (hb hby d3_31) rfl ?_
      refine XS.bipush X2.here hx rfl (hb hby d3_32) ?_
      show Steps p.tables e below (T2.setTop (mkF m 34 #[.val (.ref z3_V1_1), .val (.int q3_1), .unset] [(.int (127 : Int32)), (.int q3_1)])) t
      exact k)
    by_cases c95 : q3_1 < (127 : Int32)
    · skip
      have P96 : own_Go p e below S0 (T2.setTop (mkF m 59 #[.val (.ref z3_V1_1), .val (.int q3_1), .val (.int (0 : Int32))] [(.int q3_1), (.ref z3_V1_1)])) := fun t k => P94 t (by
        show Steps p.tables e below (T2.setTop (mkF m 34 #[.val (.ref z3_V1_1), .val (.int q3_1), .unset] [(.int (127 : Int32)), (.int q3_1)])) t
        refine XS.icmpYes X2.here hx rfl (pc0 := 34) (pc' := 55) rfl (hb hby d3_34) rfl (tlt c95).1 (by decide) (by decide) ?_
        refine XS.iconst X2.here hx rfl (hb hby d3_55) ?_
        refine XS.istoreN X2.here hx rfl (hb hby d3_56) rfl (l' := #[.val (.ref z3_V1_1), .val (.int q3_1), .val (.int (0 : Int32))]) rfl ?_
        refine XS.aloadN X2.here hx rfl (hb hby d3_57) rfl rfl ?_
        refine XS.iloadN X2.here hx rfl (hb hby d3_58) rfl ?_
        show Steps p.tables e below (T2.setTop (mkF m 59 #[.val (.ref z3_V1_1), .val (.int q3_1), .val (.int (0 : Int32))] [(.int q3_1), (.ref z3_V1_1)])) t
        exact k)
      obtain ⟨cq97, kq97, q97a, q97b, q97c⟩ := isOf hZ e2 E_z3_V1_1
      obtain ⟨_, _, ⟨T97, L97, k97, n97⟩, -, X97, ⟨Lc97, hQ97, l97, y97, z97⟩, st97⟩ := X2.virtualBack hx (y := (⟨"com/example/splice/splice/XmlVersion", "allows", "(I)Z"⟩ : MethodName)) (z := (⟨"com/example/splice/splice/XmlVersion", "allows", "(I)Z"⟩ : MethodName)) hown (mvT hZ (hw _ (List.mem_of_getElem? (i := 18) rfl))) (mvT hZ (hw _ (List.mem_of_getElem? (i := 8) rfl))) (notFace_of_selects (args := #[]) (mvT hZ (hw _ (List.mem_of_getElem? (i := 10) rfl)))) (mvT hZ (hw _ (List.mem_of_getElem? (i := 10) rfl))) (mvT hZ (hw _ (List.mem_of_getElem? (i := 9) rfl))) (by decide) (backOf (W := 0) (rm2 l Z a0 hw [] z3_V1_1 q3_1 h0 n0 Z0 S_V1_1) hZ (hw _ (List.mem_of_getElem? (i := 11) rfl)) (hw _ (List.mem_of_getElem? (i := 3) rfl)) (by decide) (by decide)) q97a q97c (g := (mkF m 59 #[.val (.ref z3_V1_1), .val (.int q3_1), .val (.int (0 : Int32))] [(.int q3_1), (.ref z3_V1_1)])) rfl (by rw [hml]; rfl) (Steps.refl _) (argsL := [(.int q3_1)]) (rest := []) (lenOf pd_0 rfl) rfl (by show 2 * 0 + _ ≤ _; exact Nat.le_of_eq rfl) (hb hby d3_59) (fun _ _ => ⟨rfl, e2, (by decide : 0 + 0 ≤ _), (by decide : 0 + 0 ≤ _)⟩)
      dsimp only [Pt.U, Pt.locs, Pt.cells, Pt.slots] at X97 l97 y97 z97 st97 hQ97
      subst l97 y97 z97
      obtain ⟨rfl, N97q, e97⟩ := hQ97
      have N97 := Fr.app N0 N97q
      have P97 : own_Go p e below S0 (T97.setTop (mkF m 62 #[.val (.ref z3_V1_1), .val (.int q3_1), .val (.int (0 : Int32))] [(.int (r2 q3_1))])) := fun t k => P96 t (st97.trans k)
      by_cases c98 : (r2 q3_1) = (0 : Int32)
      · skip
        have P99 : own_Go p e below S0 (T97.setTop (mkF m 74 #[.val (.ref z3_V1_1), .val (.int q3_1), .val (.int (0 : Int32))] [(.int (0 : Int32))])) := fun t k => P97 t (by
          show Steps p.tables e below (T97.setTop (mkF m 62 #[.val (.ref z3_V1_1), .val (.int q3_1), .val (.int (0 : Int32))] [(.int (r2 q3_1))])) t
          refine XS.ifYes X97.here hx rfl (pc0 := 62) (pc' := 73) rfl (hb hby d3_62) rfl ((if0 _ _).trans (teq c98).1) (by decide) (by decide) ?_
          refine XS.iconst X97.here hx rfl (hb hby d3_73) ?_
          show Steps p.tables e below (T97.setTop (mkF m 74 #[.val (.ref z3_V1_1), .val (.int q3_1), .val (.int (0 : Int32))] [(.int (0 : Int32))])) t
          exact k)
        obtain ⟨fs, hr, hrun, hended, hW, hsame⟩ := X97.leave (v := some (.int (0 : Int32))) (fun h => by rw [Bd.returns] at h; cases h)
        refine ⟨_, _, own_from hS0 (P99 _ ?_), hrun, hended, _, _, rfl, ?_, ⟨_, rfl⟩, hW, hsame.mono (by decide) (by decide)⟩
        · show Steps p.tables e below (T97.setTop (mkF m 74 #[.val (.ref z3_V1_1), .val (.int q3_1), .val (.int (0 : Int32))] [(.int (0 : Int32))])) _
          exact retN X97 hx (t := .boolean) Bd.returns (by simp) (hb hby d3_74) hr
        · show Q3 Z z3_V1_1 q3_1 h0 n0 _ T97.heap _
          rw [e97]
          exact ⟨(congrArg (fun z => some (Value.int z)) (Eq.symm (Eq.trans (if_neg c4) (Eq.trans (if_pos c95) (if_pos c98))))), N97, rfl⟩
      · skip
        have P100 : own_Go p e below S0 (T97.setTop (mkF m 74 #[.val (.ref z3_V1_1), .val (.int q3_1), .val (.int (0 : Int32))] [(.int (1 : Int32))])) := fun t k => P97 t (by
          show Steps p.tables e below (T97.setTop (mkF m 62 #[.val (.ref z3_V1_1), .val (.int q3_1), .val (.int (0 : Int32))] [(.int (r2 q3_1))])) t
          refine XS.ifNo X97.here hx rfl (hb hby d3_62) rfl ((if0 _ _).trans (feq c98).1) ?_
          refine XS.iloadN X97.here hx rfl (hb hby d3_65) rfl ?_
          refine XS.ifNo X97.here hx rfl (hb hby d3_66) rfl ((if0 _ _).trans (teq (by decide)).2) ?_
          refine XS.iconst X97.here hx rfl (hb hby d3_69) ?_
          refine XS.goto X97.here hx rfl (pc0 := 70) (pc' := 74) rfl (hb hby d3_70) (by decide) (by decide) ?_
          show Steps p.tables e below (T97.setTop (mkF m 74 #[.val (.ref z3_V1_1), .val (.int q3_1), .val (.int (0 : Int32))] [(.int (1 : Int32))])) t
          exact k)
        obtain ⟨fs, hr, hrun, hended, hW, hsame⟩ := X97.leave (v := some (.int (1 : Int32))) (fun h => by rw [Bd.returns] at h; cases h)
        refine ⟨_, _, own_from hS0 (P100 _ ?_), hrun, hended, _, _, rfl, ?_, ⟨_, rfl⟩, hW, hsame.mono (by decide) (by decide)⟩
        · show Steps p.tables e below (T97.setTop (mkF m 74 #[.val (.ref z3_V1_1), .val (.int q3_1), .val (.int (0 : Int32))] [(.int (1 : Int32))])) _
          exact retN X97 hx (t := .boolean) Bd.returns (by simp) (hb hby d3_74) hr
        · show Q3 Z z3_V1_1 q3_1 h0 n0 _ T97.heap _
          rw [e97]
          exact ⟨(congrArg (fun z => some (Value.int z)) (Eq.symm (Eq.trans (if_neg c4) (Eq.trans (if_pos c95) (if_neg c98))))), N97, rfl⟩
    · skip
      have P101 : own_Go p e below S0 (T2.setTop (mkF m 41 #[.val (.ref z3_V1_1), .val (.int q3_1), .unset] [(.int (159 : Int32)), (.int q3_1)])) := fun t k => P94 t (by
        show Steps p.tables e below (T2.setTop (mkF m 34 #[.val (.ref z3_V1_1), .val (.int q3_1), .unset] [(.int (127 : Int32)), (.int q3_1)])) t
        refine XS.icmpNo X2.here hx rfl (hb hby d3_34) rfl (flt c95).1 ?_
        refine XS.iloadN X2.here hx rfl (hb hby d3_37) rfl ?_
        refine XS.sipush X2.here hx rfl (hb hby d3_38) ?_
        show Steps p.tables e below (T2.setTop (mkF m 41 #[.val (.ref z3_V1_1), .val (.int q3_1), .unset] [(.int (159 : Int32)), (.int q3_1)])) t
        exact k)
      by_cases c102 : (159 : Int32) < q3_1
      · skip
        have P103 : own_Go p e below S0 (T2.setTop (mkF m 59 #[.val (.ref z3_V1_1), .val (.int q3_1), .val (.int (0 : Int32))] [(.int q3_1), (.ref z3_V1_1)])) := fun t k => P101 t (by
          show Steps p.tables e below (T2.setTop (mkF m 41 #[.val (.ref z3_V1_1), .val (.int q3_1), .unset] [(.int (159 : Int32)), (.int q3_1)])) t
          refine XS.icmpYes X2.here hx rfl (pc0 := 41) (pc' := 55) rfl (hb hby d3_41) rfl (tlt c102).2.2.1 (by decide) (by decide) ?_
          refine XS.iconst X2.here hx rfl (hb hby d3_55) ?_
          refine XS.istoreN X2.here hx rfl (hb hby d3_56) rfl (l' := #[.val (.ref z3_V1_1), .val (.int q3_1), .val (.int (0 : Int32))]) rfl ?_
          refine XS.aloadN X2.here hx rfl (hb hby d3_57) rfl rfl ?_
          refine XS.iloadN X2.here hx rfl (hb hby d3_58) rfl ?_
          show Steps p.tables e below (T2.setTop (mkF m 59 #[.val (.ref z3_V1_1), .val (.int q3_1), .val (.int (0 : Int32))] [(.int q3_1), (.ref z3_V1_1)])) t
          exact k)
        obtain ⟨cq104, kq104, q104a, q104b, q104c⟩ := isOf hZ e2 E_z3_V1_1
        obtain ⟨_, _, ⟨T104, L104, k104, n104⟩, -, X104, ⟨Lc104, hQ104, l104, y104, z104⟩, st104⟩ := X2.virtualBack hx (y := (⟨"com/example/splice/splice/XmlVersion", "allows", "(I)Z"⟩ : MethodName)) (z := (⟨"com/example/splice/splice/XmlVersion", "allows", "(I)Z"⟩ : MethodName)) hown (mvT hZ (hw _ (List.mem_of_getElem? (i := 18) rfl))) (mvT hZ (hw _ (List.mem_of_getElem? (i := 8) rfl))) (notFace_of_selects (args := #[]) (mvT hZ (hw _ (List.mem_of_getElem? (i := 10) rfl)))) (mvT hZ (hw _ (List.mem_of_getElem? (i := 10) rfl))) (mvT hZ (hw _ (List.mem_of_getElem? (i := 9) rfl))) (by decide) (backOf (W := 0) (rm2 l Z a0 hw [] z3_V1_1 q3_1 h0 n0 Z0 S_V1_1) hZ (hw _ (List.mem_of_getElem? (i := 11) rfl)) (hw _ (List.mem_of_getElem? (i := 3) rfl)) (by decide) (by decide)) q104a q104c (g := (mkF m 59 #[.val (.ref z3_V1_1), .val (.int q3_1), .val (.int (0 : Int32))] [(.int q3_1), (.ref z3_V1_1)])) rfl (by rw [hml]; rfl) (Steps.refl _) (argsL := [(.int q3_1)]) (rest := []) (lenOf pd_0 rfl) rfl (by show 2 * 0 + _ ≤ _; exact Nat.le_of_eq rfl) (hb hby d3_59) (fun _ _ => ⟨rfl, e2, (by decide : 0 + 0 ≤ _), (by decide : 0 + 0 ≤ _)⟩)
        dsimp only [Pt.U, Pt.locs, Pt.cells, Pt.slots] at X104 l104 y104 z104 st104 hQ104
        subst l104 y104 z104
        obtain ⟨rfl, N104q, e104⟩ := hQ104
        have N104 := Fr.app N0 N104q
        have P104 : own_Go p e below S0 (T104.setTop (mkF m 62 #[.val (.ref z3_V1_1), .val (.int q3_1), .val (.int (0 : Int32))] [(.int (r2 q3_1))])) := fun t k => P103 t (st104.trans k)
        by_cases c105 : (r2 q3_1) = (0 : Int32)
        · skip
          have P106 : own_Go p e below S0 (T104.setTop (mkF m 74 #[.val (.ref z3_V1_1), .val (.int q3_1), .val (.int (0 : Int32))] [(.int (0 : Int32))])) := fun t k => P104 t (by
            show Steps p.tables e below (T104.setTop (mkF m 62 #[.val (.ref z3_V1_1), .val (.int q3_1), .val (.int (0 : Int32))] [(.int (r2 q3_1))])) t
            refine XS.ifYes X104.here hx rfl (pc0 := 62) (pc' := 73) rfl (hb hby d3_62) rfl ((if0 _ _).trans (teq c105).1) (by decide) (by decide) ?_
            refine XS.iconst X104.here hx rfl (hb hby d3_73) ?_
            show Steps p.tables e below (T104.setTop (mkF m 74 #[.val (.ref z3_V1_1), .val (.int q3_1), .val (.int (0 : Int32))] [(.int (0 : Int32))])) t
            exact k)
          obtain ⟨fs, hr, hrun, hended, hW, hsame⟩ := X104.leave (v := some (.int (0 : Int32))) (fun h => by rw [Bd.returns] at h; cases h)
          refine ⟨_, _, own_from hS0 (P106 _ ?_), hrun, hended, _, _, rfl, ?_, ⟨_, rfl⟩, hW, hsame.mono (by decide) (by decide)⟩
          · show Steps p.tables e below (T104.setTop (mkF m 74 #[.val (.ref z3_V1_1), .val (.int q3_1), .val (.int (0 : Int32))] [(.int (0 : Int32))])) _
            exact retN X104 hx (t := .boolean) Bd.returns (by simp) (hb hby d3_74) hr
          · show Q3 Z z3_V1_1 q3_1 h0 n0 _ T104.heap _
            rw [e104]
            exact ⟨(congrArg (fun z => some (Value.int z)) (Eq.symm (Eq.trans (if_neg c4) (Eq.trans (if_neg c95) (Eq.trans (if_pos c102) (if_pos c105)))))), N104, rfl⟩
        · skip
          have P107 : own_Go p e below S0 (T104.setTop (mkF m 74 #[.val (.ref z3_V1_1), .val (.int q3_1), .val (.int (0 : Int32))] [(.int (1 : Int32))])) := fun t k => P104 t (by
            show Steps p.tables e below (T104.setTop (mkF m 62 #[.val (.ref z3_V1_1), .val (.int q3_1), .val (.int (0 : Int32))] [(.int (r2 q3_1))])) t
            refine XS.ifNo X104.here hx rfl (hb hby d3_62) rfl ((if0 _ _).trans (feq c105).1) ?_
            refine XS.iloadN X104.here hx rfl (hb hby d3_65) rfl ?_
            refine XS.ifNo X104.here hx rfl (hb hby d3_66) rfl ((if0 _ _).trans (teq (by decide)).2) ?_
            refine XS.iconst X104.here hx rfl (hb hby d3_69) ?_
            refine XS.goto X104.here hx rfl (pc0 := 70) (pc' := 74) rfl (hb hby d3_70) (by decide) (by decide) ?_
            show Steps p.tables e below (T104.setTop (mkF m 74 #[.val (.ref z3_V1_1), .val (.int q3_1), .val (.int (0 : Int32))] [(.int (1 : Int32))])) t
            exact k)
          obtain ⟨fs, hr, hrun, hended, hW, hsame⟩ := X104.leave (v := some (.int (1 : Int32))) (fun h => by rw [Bd.returns] at h; cases h)
          refine ⟨_, _, own_from hS0 (P107 _ ?_), hrun, hended, _, _, rfl, ?_, ⟨_, rfl⟩, hW, hsame.mono (by decide) (by decide)⟩
          · show Steps p.tables e below (T104.setTop (mkF m 74 #[.val (.ref z3_V1_1), .val (.int q3_1), .val (.int (0 : Int32))] [(.int (1 : Int32))])) _
            exact retN X104 hx (t := .boolean) Bd.returns (by simp) (hb hby d3_74) hr
          · show Q3 Z z3_V1_1 q3_1 h0 n0 _ T104.heap _
            rw [e104]
            exact ⟨(congrArg (fun z => some (Value.int z)) (Eq.symm (Eq.trans (if_neg c4) (Eq.trans (if_neg c95) (Eq.trans (if_pos c102) (if_neg c105)))))), N104, rfl⟩
      · skip
        have P108 : own_Go p e below S0 (T2.setTop (mkF m 48 #[.val (.ref z3_V1_1), .val (.int q3_1), .unset] [(.int (133 : Int32)), (.int q3_1)])) := fun t k => P101 t (by
          show Steps p.tables e below (T2.setTop (mkF m 41 #[.val (.ref z3_V1_1), .val (.int q3_1), .unset] [(.int (159 : Int32)), (.int q3_1)])) t
          refine XS.icmpNo X2.here hx rfl (hb hby d3_41) rfl (flt c102).2.2.1 ?_
          refine XS.iloadN X2.here hx rfl (hb hby d3_44) rfl ?_
          refine XS.sipush X2.here hx rfl (hb hby d3_45) ?_
          show Steps p.tables e below (T2.setTop (mkF m 48 #[.val (.ref z3_V1_1), .val (.int q3_1), .unset] [(.int (133 : Int32)), (.int q3_1)])) t
          exact k)
        by_cases c109 : q3_1 = (133 : Int32)
        · skip
          have P110 : own_Go p e below S0 (T2.setTop (mkF m 59 #[.val (.ref z3_V1_1), .val (.int q3_1), .val (.int (0 : Int32))] [(.int q3_1), (.ref z3_V1_1)])) := fun t k => P108 t (by
            show Steps p.tables e below (T2.setTop (mkF m 48 #[.val (.ref z3_V1_1), .val (.int q3_1), .unset] [(.int (133 : Int32)), (.int q3_1)])) t
            refine XS.icmpYes X2.here hx rfl (pc0 := 48) (pc' := 55) rfl (hb hby d3_48) rfl (teq c109).1 (by decide) (by decide) ?_
            refine XS.iconst X2.here hx rfl (hb hby d3_55) ?_
            refine XS.istoreN X2.here hx rfl (hb hby d3_56) rfl (l' := #[.val (.ref z3_V1_1), .val (.int q3_1), .val (.int (0 : Int32))]) rfl ?_
            refine XS.aloadN X2.here hx rfl (hb hby d3_57) rfl rfl ?_
            refine XS.iloadN X2.here hx rfl (hb hby d3_58) rfl ?_
            show Steps p.tables e below (T2.setTop (mkF m 59 #[.val (.ref z3_V1_1), .val (.int q3_1), .val (.int (0 : Int32))] [(.int q3_1), (.ref z3_V1_1)])) t
            exact k)
          obtain ⟨cq111, kq111, q111a, q111b, q111c⟩ := isOf hZ e2 E_z3_V1_1
          obtain ⟨_, _, ⟨T111, L111, k111, n111⟩, -, X111, ⟨Lc111, hQ111, l111, y111, z111⟩, st111⟩ := X2.virtualBack hx (y := (⟨"com/example/splice/splice/XmlVersion", "allows", "(I)Z"⟩ : MethodName)) (z := (⟨"com/example/splice/splice/XmlVersion", "allows", "(I)Z"⟩ : MethodName)) hown (mvT hZ (hw _ (List.mem_of_getElem? (i := 18) rfl))) (mvT hZ (hw _ (List.mem_of_getElem? (i := 8) rfl))) (notFace_of_selects (args := #[]) (mvT hZ (hw _ (List.mem_of_getElem? (i := 10) rfl)))) (mvT hZ (hw _ (List.mem_of_getElem? (i := 10) rfl))) (mvT hZ (hw _ (List.mem_of_getElem? (i := 9) rfl))) (by decide) (backOf (W := 0) (rm2 l Z a0 hw [] z3_V1_1 q3_1 h0 n0 Z0 S_V1_1) hZ (hw _ (List.mem_of_getElem? (i := 11) rfl)) (hw _ (List.mem_of_getElem? (i := 3) rfl)) (by decide) (by decide)) q111a q111c (g := (mkF m 59 #[.val (.ref z3_V1_1), .val (.int q3_1), .val (.int (0 : Int32))] [(.int q3_1), (.ref z3_V1_1)])) rfl (by rw [hml]; rfl) (Steps.refl _) (argsL := [(.int q3_1)]) (rest := []) (lenOf pd_0 rfl) rfl (by show 2 * 0 + _ ≤ _; exact Nat.le_of_eq rfl) (hb hby d3_59) (fun _ _ => ⟨rfl, e2, (by decide : 0 + 0 ≤ _), (by decide : 0 + 0 ≤ _)⟩)
          dsimp only [Pt.U, Pt.locs, Pt.cells, Pt.slots] at X111 l111 y111 z111 st111 hQ111
          subst l111 y111 z111
          obtain ⟨rfl, N111q, e111⟩ := hQ111
          have N111 := Fr.app N0 N111q
          have P111 : own_Go p e below S0 (T111.setTop (mkF m 62 #[.val (.ref z3_V1_1), .val (.int q3_1), .val (.int (0 : Int32))] [(.int (r2 q3_1))])) := fun t k => P110 t (st111.trans k)
          by_cases c112 : (r2 q3_1) = (0 : Int32)
          · skip
            have P113 : own_Go p e below S0 (T111.setTop (mkF m 74 #[.val (.ref z3_V1_1), .val (.int q3_1), .val (.int (0 : Int32))] [(.int (0 : Int32))])) := fun t k => P111 t (by
              show Steps p.tables e below (T111.setTop (mkF m 62 #[.val (.ref z3_V1_1), .val (.int q3_1), .val (.int (0 : Int32))] [(.int (r2 q3_1))])) t
              refine XS.ifYes X111.here hx rfl (pc0 := 62) (pc' := 73) rfl (hb hby d3_62) rfl ((if0 _ _).trans (teq c112).1) (by decide) (by decide) ?_
              refine XS.iconst X111.here hx rfl (hb hby d3_73) ?_
              show Steps p.tables e below (T111.setTop (mkF m 74 #[.val (.ref z3_V1_1), .val (.int q3_1), .val (.int (0 : Int32))] [(.int (0 : Int32))])) t
              exact k)
            obtain ⟨fs, hr, hrun, hended, hW, hsame⟩ := X111.leave (v := some (.int (0 : Int32))) (fun h => by rw [Bd.returns] at h; cases h)
            refine ⟨_, _, own_from hS0 (P113 _ ?_), hrun, hended, _, _, rfl, ?_, ⟨_, rfl⟩, hW, hsame.mono (by decide) (by decide)⟩
            · show Steps p.tables e below (T111.setTop (mkF m 74 #[.val (.ref z3_V1_1), .val (.int q3_1), .val (.int (0 : Int32))] [(.int (0 : Int32))])) _
              exact retN X111 hx (t := .boolean) Bd.returns (by simp) (hb hby d3_74) hr
            · show Q3 Z z3_V1_1 q3_1 h0 n0 _ T111.heap _
              rw [e111]
              exact ⟨(congrArg (fun z => some (Value.int z)) (Eq.symm (Eq.trans (if_neg c4) (Eq.trans (if_neg c95) (Eq.trans (if_neg c102) (Eq.trans (if_pos c109) (if_pos c112))))))), N111, rfl⟩
          · skip
            have P114 : own_Go p e below S0 (T111.setTop (mkF m 74 #[.val (.ref z3_V1_1), .val (.int q3_1), .val (.int (0 : Int32))] [(.int (1 : Int32))])) := fun t k => P111 t (by
              show Steps p.tables e below (T111.setTop (mkF m 62 #[.val (.ref z3_V1_1), .val (.int q3_1), .val (.int (0 : Int32))] [(.int (r2 q3_1))])) t
              refine XS.ifNo X111.here hx rfl (hb hby d3_62) rfl ((if0 _ _).trans (feq c112).1) ?_
              refine XS.iloadN X111.here hx rfl (hb hby d3_65) rfl ?_
              refine XS.ifNo X111.here hx rfl (hb hby d3_66) rfl ((if0 _ _).trans (teq (by decide)).2) ?_
              refine XS.iconst X111.here hx rfl (hb hby d3_69) ?_
              refine XS.goto X111.here hx rfl (pc0 := 70) (pc' := 74) rfl (hb hby d3_70) (by decide) (by decide) ?_
              show Steps p.tables e below (T111.setTop (mkF m 74 #[.val (.ref z3_V1_1), .val (.int q3_1), .val (.int (0 : Int32))] [(.int (1 : Int32))])) t
              exact k)
            obtain ⟨fs, hr, hrun, hended, hW, hsame⟩ := X111.leave (v := some (.int (1 : Int32))) (fun h => by rw [Bd.returns] at h; cases h)
            refine ⟨_, _, own_from hS0 (P114 _ ?_), hrun, hended, _, _, rfl, ?_, ⟨_, rfl⟩, hW, hsame.mono (by decide) (by decide)⟩
            · show Steps p.tables e below (T111.setTop (mkF m 74 #[.val (.ref z3_V1_1), .val (.int q3_1), .val (.int (0 : Int32))] [(.int (1 : Int32))])) _
              exact retN X111 hx (t := .boolean) Bd.returns (by simp) (hb hby d3_74) hr
            · show Q3 Z z3_V1_1 q3_1 h0 n0 _ T111.heap _
              rw [e111]
              exact ⟨(congrArg (fun z => some (Value.int z)) (Eq.symm (Eq.trans (if_neg c4) (Eq.trans (if_neg c95) (Eq.trans (if_neg c102) (Eq.trans (if_pos c109) (if_neg c112))))))), N111, rfl⟩
        · skip
          have P115 : own_Go p e below S0 (T2.setTop (mkF m 59 #[.val (.ref z3_V1_1), .val (.int q3_1), .val (.int (1 : Int32))] [(.int q3_1), (.ref z3_V1_1)])) := fun t k => P108 t (by
            show Steps p.tables e below (T2.setTop (mkF m 48 #[.val (.ref z3_V1_1), .val (.int q3_1), .unset] [(.int (133 : Int32)), (.int q3_1)])) t
            refine XS.icmpNo X2.here hx rfl (hb hby d3_48) rfl (feq c109).1 ?_
            refine XS.iconst X2.here hx rfl (hb hby d3_51) ?_
            refine XS.goto X2.here hx rfl (pc0 := 52) (pc' := 56) rfl (hb hby d3_52) (by decide) (by decide) ?_
            refine XS.istoreN X2.here hx rfl (hb hby d3_56) rfl (l' := #[.val (.ref z3_V1_1), .val (.int q3_1), .val (.int (1 : Int32))]) rfl ?_
            refine XS.aloadN X2.here hx rfl (hb hby d3_57) rfl rfl ?_
            refine XS.iloadN X2.here hx rfl (hb hby d3_58) rfl ?_
            show Steps p.tables e below (T2.setTop (mkF m 59 #[.val (.ref z3_V1_1), .val (.int q3_1), .val (.int (1 : Int32))] [(.int q3_1), (.ref z3_V1_1)])) t
            exact k)
          obtain ⟨cq116, kq116, q116a, q116b, q116c⟩ := isOf hZ e2 E_z3_V1_1
          obtain ⟨_, _, ⟨T116, L116, k116, n116⟩, -, X116, ⟨Lc116, hQ116, l116, y116, z116⟩, st116⟩ := X2.virtualBack hx (y := (⟨"com/example/splice/splice/XmlVersion", "allows", "(I)Z"⟩ : MethodName)) (z := (⟨"com/example/splice/splice/XmlVersion", "allows", "(I)Z"⟩ : MethodName)) hown (mvT hZ (hw _ (List.mem_of_getElem? (i := 18) rfl))) (mvT hZ (hw _ (List.mem_of_getElem? (i := 8) rfl))) (notFace_of_selects (args := #[]) (mvT hZ (hw _ (List.mem_of_getElem? (i := 10) rfl)))) (mvT hZ (hw _ (List.mem_of_getElem? (i := 10) rfl))) (mvT hZ (hw _ (List.mem_of_getElem? (i := 9) rfl))) (by decide) (backOf (W := 0) (rm2 l Z a0 hw [] z3_V1_1 q3_1 h0 n0 Z0 S_V1_1) hZ (hw _ (List.mem_of_getElem? (i := 11) rfl)) (hw _ (List.mem_of_getElem? (i := 3) rfl)) (by decide) (by decide)) q116a q116c (g := (mkF m 59 #[.val (.ref z3_V1_1), .val (.int q3_1), .val (.int (1 : Int32))] [(.int q3_1), (.ref z3_V1_1)])) rfl (by rw [hml]; rfl) (Steps.refl _) (argsL := [(.int q3_1)]) (rest := []) (lenOf pd_0 rfl) rfl (by show 2 * 0 + _ ≤ _; exact Nat.le_of_eq rfl) (hb hby d3_59) (fun _ _ => ⟨rfl, e2, (by decide : 0 + 0 ≤ _), (by decide : 0 + 0 ≤ _)⟩)
          dsimp only [Pt.U, Pt.locs, Pt.cells, Pt.slots] at X116 l116 y116 z116 st116 hQ116
          subst l116 y116 z116
          obtain ⟨rfl, N116q, e116⟩ := hQ116
          have N116 := Fr.app N0 N116q
          have P116 : own_Go p e below S0 (T116.setTop (mkF m 62 #[.val (.ref z3_V1_1), .val (.int q3_1), .val (.int (1 : Int32))] [(.int (r2 q3_1))])) := fun t k => P115 t (st116.trans k)
          by_cases c117 : (r2 q3_1) = (0 : Int32)
          · skip
            have P118 : own_Go p e below S0 (T116.setTop (mkF m 74 #[.val (.ref z3_V1_1), .val (.int q3_1), .val (.int (1 : Int32))] [(.int (0 : Int32))])) := fun t k => P116 t (by
              show Steps p.tables e below (T116.setTop (mkF m 62 #[.val (.ref z3_V1_1), .val (.int q3_1), .val (.int (1 : Int32))] [(.int (r2 q3_1))])) t
              refine XS.ifYes X116.here hx rfl (pc0 := 62) (pc' := 73) rfl (hb hby d3_62) rfl ((if0 _ _).trans (teq c117).1) (by decide) (by decide) ?_
              refine XS.iconst X116.here hx rfl (hb hby d3_73) ?_
              show Steps p.tables e below (T116.setTop (mkF m 74 #[.val (.ref z3_V1_1), .val (.int q3_1), .val (.int (1 : Int32))] [(.int (0 : Int32))])) t
              exact k)
            obtain ⟨fs, hr, hrun, hended, hW, hsame⟩ := X116.leave (v := some (.int (0 : Int32))) (fun h => by rw [Bd.returns] at h; cases h)
            refine ⟨_, _, own_from hS0 (P118 _ ?_), hrun, hended, _, _, rfl, ?_, ⟨_, rfl⟩, hW, hsame.mono (by decide) (by decide)⟩
            · show Steps p.tables e below (T116.setTop (mkF m 74 #[.val (.ref z3_V1_1), .val (.int q3_1), .val (.int (1 : Int32))] [(.int (0 : Int32))])) _
              exact retN X116 hx (t := .boolean) Bd.returns (by simp) (hb hby d3_74) hr
            · show Q3 Z z3_V1_1 q3_1 h0 n0 _ T116.heap _
              rw [e116]
              exact ⟨(congrArg (fun z => some (Value.int z)) (Eq.symm (Eq.trans (if_neg c4) (Eq.trans (if_neg c95) (Eq.trans (if_neg c102) (if_neg c109)))))), N116, rfl⟩
          · skip
            have P119 : own_Go p e below S0 (T116.setTop (mkF m 74 #[.val (.ref z3_V1_1), .val (.int q3_1), .val (.int (1 : Int32))] [(.int (0 : Int32))])) := fun t k => P116 t (by
              show Steps p.tables e below (T116.setTop (mkF m 62 #[.val (.ref z3_V1_1), .val (.int q3_1), .val (.int (1 : Int32))] [(.int (r2 q3_1))])) t
              refine XS.ifNo X116.here hx rfl (hb hby d3_62) rfl ((if0 _ _).trans (feq c117).1) ?_
              refine XS.iloadN X116.here hx rfl (hb hby d3_65) rfl ?_
              refine XS.ifYes X116.here hx rfl (pc0 := 66) (pc' := 73) rfl (hb hby d3_66) rfl ((if0 _ _).trans (feq (by decide)).2) (by decide) (by decide) ?_
              refine XS.iconst X116.here hx rfl (hb hby d3_73) ?_
              show Steps p.tables e below (T116.setTop (mkF m 74 #[.val (.ref z3_V1_1), .val (.int q3_1), .val (.int (1 : Int32))] [(.int (0 : Int32))])) t
              exact k)
            obtain ⟨fs, hr, hrun, hended, hW, hsame⟩ := X116.leave (v := some (.int (0 : Int32))) (fun h => by rw [Bd.returns] at h; cases h)
            refine ⟨_, _, own_from hS0 (P119 _ ?_), hrun, hended, _, _, rfl, ?_, ⟨_, rfl⟩, hW, hsame.mono (by decide) (by decide)⟩
            · show Steps p.tables e below (T116.setTop (mkF m 74 #[.val (.ref z3_V1_1), .val (.int q3_1), .val (.int (1 : Int32))] [(.int (0 : Int32))])) _
              exact retN X116 hx (t := .boolean) Bd.returns (by simp) (hb hby d3_74) hr
            · show Q3 Z z3_V1_1 q3_1 h0 n0 _ T116.heap _
              rw [e116]
              exact ⟨(congrArg (fun z => some (Value.int z)) (Eq.symm (Eq.trans (if_neg c4) (Eq.trans (if_neg c95) (Eq.trans (if_neg c102) (if_neg c109)))))), N116, rfl⟩
theorem d4_0 : decode prog_177_method_9_code 0 = .ok (.iload_n 1, 1) := by decide +kernel
theorem d4_1 : decode prog_177_method_9_code 1 = .ok (.bipush 10, 2) := by decide +kernel
theorem d4_3 : decode prog_177_method_9_code 3 = .ok (.if_icmp .eq 30, 3) := by decide +kernel
theorem d4_6 : decode prog_177_method_9_code 6 = .ok (.iload_n 1, 1) := by decide +kernel
theorem d4_7 : decode prog_177_method_9_code 7 = .ok (.bipush 13, 2) := by decide +kernel
theorem d4_9 : decode prog_177_method_9_code 9 = .ok (.if_icmp .eq 24, 3) := by decide +kernel
theorem d4_12 : decode prog_177_method_9_code 12 = .ok (.aload_n 0, 1) := by decide +kernel
theorem d4_13 : decode prog_177_method_9_code 13 = .ok (.getstatic 7, 3) := by decide +kernel
theorem d4_16 : decode prog_177_method_9_code 16 = .ok (.if_acmp .ne 21, 3) := by decide +kernel
theorem d4_19 : decode prog_177_method_9_code 19 = .ok (.iload_n 1, 1) := by decide +kernel
theorem d4_20 : decode prog_177_method_9_code 20 = .ok (.sipush 133, 3) := by decide +kernel
theorem d4_23 : decode prog_177_method_9_code 23 = .ok (.if_icmp .eq 10, 3) := by decide +kernel
theorem d4_26 : decode prog_177_method_9_code 26 = .ok (.iload_n 1, 1) := by decide +kernel
theorem d4_27 : decode prog_177_method_9_code 27 = .ok (.sipush 8232, 3) := by decide +kernel
theorem d4_30 : decode prog_177_method_9_code 30 = .ok (.if_icmp .ne 7, 3) := by decide +kernel
theorem d4_33 : decode prog_177_method_9_code 33 = .ok (.iconst 1, 1) := by decide +kernel
theorem d4_34 : decode prog_177_method_9_code 34 = .ok (.goto 4, 3) := by decide +kernel
theorem d4_37 : decode prog_177_method_9_code 37 = .ok (.iconst 0, 1) := by decide +kernel
theorem d4_38 : decode prog_177_method_9_code 38 = .ok (.ireturn, 1) := by decide +kernel
theorem ef_4 (m : MethodId) (z4_V1_1 : Addr) (q4_1 : Int32) : entryFrame m #[(.ref z4_V1_1), (.int q4_1)] 2 = mkF m 0 #[.val (.ref z4_V1_1), .val (.int q4_1)] [] := by first | (simp [entryFrame, mkF, argsToLocals, Value.category]; done) | rfl
def r4 (q4_1 : Int32) : Int32 := (if q4_1 = (10 : Int32) then (1 : Int32) else (if q4_1 = (13 : Int32) then (1 : Int32) else (if q4_1 = (133 : Int32) then (1 : Int32) else (if q4_1 = (8232 : Int32) then (1 : Int32) else (0 : Int32)))))
def Q4 (Z : State) (z4_V1_1 : Addr) (q4_1 : Int32) (h0 : Heap) (n0 : Nat) (v : Option Value) (h : Heap) (L : List Loc) : Prop := v = some (.int (r4 q4_1)) ∧ Fr n0 L ∧ h = h0
set_option maxRecDepth 65536 in
set_option maxHeartbeats 40000000 in
theorem rm4 (l : Launch) (Z : State) (a0 : Array Value) (hw : ∀ d ∈ tables_1, d.before a0 Z = true) (ws : List Jvm.Cond) (z4_V1_1 : Addr) (q4_1 : Int32) (h0 : Heap) (n0 : Nat) (Z0 : n0 ≤ h0.size) (S_V1_1 : Sta Z h0 "com/example/splice/splice/XmlVersion" "V1_1" "Lcom/example/splice/splice/XmlVersion;" (.ref z4_V1_1)) :
    MetFree l (⟨"com/example/splice/splice/XmlVersion", "endsLine", "(I)Z"⟩ : MethodName) (head1 (Jvm.Cond.code (⟨"com/example/splice/splice/XmlVersion", "endsLine", "(I)Z"⟩ : MethodName) prog_177_method_9_code 2 (some .boolean) :: ws) ({ frames := 0, cells := 0, slots := 0, locals := 0 } : Room)) (fun a U => a = #[(.ref z4_V1_1), (.int q4_1)] ∧ Z.Warmed39 U.vm ∧ U.heap = h0) (fun _ _ _ _ _ => True) (fun _ U o U' => ∃ v L, o = .returned v ∧ Q4 Z z4_V1_1 q4_1 h0 n0 v U'.heap L ∧ FrameEnd U o U' L ({ frames := 0, cells := 0, slots := 0, locals := 0 } : Room).cells ({ frames := 0, cells := 0, slots := 0, locals := 0 } : Room).slots) := by
  refine MetFree.of_bodySF (plainFor_of_name pn_1) hisR ?_
  intro p e s m args below meth c s₁ Bd hml0 hP hK
  obtain ⟨rfl, hZ, hh⟩ := hP
  have hx := Bd.exec
  have hby := Bd.bytes
  have hml : c.maxLocals = 2 := hml0
  have hown : s.vm.findClass "com/example/splice/splice/XmlVersion" = some m.cls := findClass_of_methodNamed Bd.named
  have hnm := (name_of_methodNamed Bd.named Bd.method).1
  have X0 : Stand p l e ({ frames := 0, cells := 0, slots := 0, locals := 0 } : Room) s m #[(.ref z4_V1_1), (.int q4_1)] below meth c s₁ [] 0 0 := Stand.of_body Bd
  have e0 : s₁.heap = h0 := by rw [← hh, Bd.state]; rfl
  have N0 := Fr.nil n0
  obtain ⟨S0, hS0⟩ : ∃ z, z = s₁.setTop (entryFrame m #[(.ref z4_V1_1), (.int q4_1)] 2) := ⟨_, rfl⟩
  have P0 : own_Go p e below S0 (s₁.setTop (mkF m 0 #[.val (.ref z4_V1_1), .val (.int q4_1)] [])) := fun t k => by rw [hS0]; exact castTop (ef_4 m z4_V1_1 q4_1) k
  have P1 : own_Go p e below S0 (s₁.setTop (mkF m 3 #[.val (.ref z4_V1_1), .val (.int q4_1)] [(.int (10 : Int32)), (.int q4_1)])) := fun t k => P0 t (by
    show Steps p.tables e below (s₁.setTop (mkF m 0 #[.val (.ref z4_V1_1), .val (.int q4_1)] [])) t
    refine XS.iloadN X0.here hx rfl (hb hby d4_0) rfl ?_
    refine XS.bipush X0.here hx rfl (hb hby d4_1) ?_
    show Steps p.tables e below (s₁.setTop (mkF m 3 #[.val (.ref z4_V1_1), .val (.int q4_1)] [(.int (10 : Int32)), (.int q4_1)])) t
    exact k)
  by_cases c2 : q4_1 = (10 : Int32)
  · skip
    have P3 : own_Go p e below S0 (s₁.setTop (mkF m 38 #[.val (.ref z4_V1_1), .val (.int q4_1)] [(.int (1 : Int32))])) := fun t k => P1 t (by
      show Steps p.tables e below (s₁.setTop (mkF m 3 #[.val (.ref z4_V1_1), .val (.int q4_1)] [(.int (10 : Int32)), (.int q4_1)])) t
      refine XS.icmpYes X0.here hx rfl (pc0 := 3) (pc' := 33) rfl (hb hby d4_3) rfl (teq c2).1 (by decide) (by decide) ?_
      refine XS.iconst X0.here hx rfl (hb hby d4_33) ?_
      refine XS.goto X0.here hx rfl (pc0 := 34) (pc' := 38) rfl (hb hby d4_34) (by decide) (by decide) ?_
      show Steps p.tables e below (s₁.setTop (mkF m 38 #[.val (.ref z4_V1_1), .val (.int q4_1)] [(.int (1 : Int32))])) t
      exact k)
    obtain ⟨fs, hr, hrun, hended, hW, hsame⟩ := X0.leave (v := some (.int (1 : Int32))) (fun h => by rw [Bd.returns] at h; cases h)
    refine ⟨_, _, own_from hS0 (P3 _ ?_), hrun, hended, _, _, rfl, ?_, ⟨_, rfl⟩, hW, hsame.mono (by decide) (by decide)⟩
    · show Steps p.tables e below (s₁.setTop (mkF m 38 #[.val (.ref z4_V1_1), .val (.int q4_1)] [(.int (1 : Int32))])) _
      exact retN X0 hx (t := .boolean) Bd.returns (by simp) (hb hby d4_38) hr
    · show Q4 Z z4_V1_1 q4_1 h0 n0 _ s₁.heap _
      rw [e0]
      exact ⟨(congrArg (fun z => some (Value.int z)) (Eq.symm (if_pos c2))), N0, rfl⟩
  · skip
    have P4 : own_Go p e below S0 (s₁.setTop (mkF m 9 #[.val (.ref z4_V1_1), .val (.int q4_1)] [(.int (13 : Int32)), (.int q4_1)])) := fun t k => P1 t (by
      show Steps p.tables e below (s₁.setTop (mkF m 3 #[.val (.ref z4_V1_1), .val (.int q4_1)] [(.int (10 : Int32)), (.int q4_1)])) t
      refine XS.icmpNo X0.here hx rfl (hb hby d4_3) rfl (feq c2).1 ?_
      refine XS.iloadN X0.here hx rfl (hb hby d4_6) rfl ?_
      refine XS.bipush X0.here hx rfl (hb hby d4_7) ?_
      show Steps p.tables e below (s₁.setTop (mkF m 9 #[.val (.ref z4_V1_1), .val (.int q4_1)] [(.int (13 : Int32)), (.int q4_1)])) t
      exact k)
    by_cases c5 : q4_1 = (13 : Int32)
    · skip
      have P6 : own_Go p e below S0 (s₁.setTop (mkF m 38 #[.val (.ref z4_V1_1), .val (.int q4_1)] [(.int (1 : Int32))])) := fun t k => P4 t (by
        show Steps p.tables e below (s₁.setTop (mkF m 9 #[.val (.ref z4_V1_1), .val (.int q4_1)] [(.int (13 : Int32)), (.int q4_1)])) t
        refine XS.icmpYes X0.here hx rfl (pc0 := 9) (pc' := 33) rfl (hb hby d4_9) rfl (teq c5).1 (by decide) (by decide) ?_
        refine XS.iconst X0.here hx rfl (hb hby d4_33) ?_
        refine XS.goto X0.here hx rfl (pc0 := 34) (pc' := 38) rfl (hb hby d4_34) (by decide) (by decide) ?_
        show Steps p.tables e below (s₁.setTop (mkF m 38 #[.val (.ref z4_V1_1), .val (.int q4_1)] [(.int (1 : Int32))])) t
        exact k)
      obtain ⟨fs, hr, hrun, hended, hW, hsame⟩ := X0.leave (v := some (.int (1 : Int32))) (fun h => by rw [Bd.returns] at h; cases h)
      refine ⟨_, _, own_from hS0 (P6 _ ?_), hrun, hended, _, _, rfl, ?_, ⟨_, rfl⟩, hW, hsame.mono (by decide) (by decide)⟩
      · show Steps p.tables e below (s₁.setTop (mkF m 38 #[.val (.ref z4_V1_1), .val (.int q4_1)] [(.int (1 : Int32))])) _
        exact retN X0 hx (t := .boolean) Bd.returns (by simp) (hb hby d4_38) hr
      · show Q4 Z z4_V1_1 q4_1 h0 n0 _ s₁.heap _
        rw [e0]
        exact ⟨(congrArg (fun z => some (Value.int z)) (Eq.symm (Eq.trans (if_neg c2) (if_pos c5)))), N0, rfl⟩
    · skip
      have P7 : own_Go p e below S0 (s₁.setTop (mkF m 13 #[.val (.ref z4_V1_1), .val (.int q4_1)] [(.ref z4_V1_1)])) := fun t k => P4 t (by
        show Steps p.tables e below (s₁.setTop (mkF m 9 #[.val (.ref z4_V1_1), .val (.int q4_1)] [(.int (13 : Int32)), (.int q4_1)])) t
        refine XS.icmpNo X0.here hx rfl (hb hby d4_9) rfl (feq c5).1 ?_
        refine XS.aloadN X0.here hx rfl (hb hby d4_12) rfl rfl ?_
        show Steps p.tables e below (s₁.setTop (mkF m 13 #[.val (.ref z4_V1_1), .val (.int q4_1)] [(.ref z4_V1_1)])) t
        exact k)
      obtain ⟨T8, X8, e8, st8⟩ := getS2 X0 hx hZ hown (host := "") (Or.inl (hw _ (List.mem_of_getElem? (i := 12) rfl))) Via.refl e0 S_V1_1 (g := (mkF m 13 #[.val (.ref z4_V1_1), .val (.int q4_1)] [(.ref z4_V1_1)])) rfl (hb hby d4_13)
      have P8 : own_Go p e below S0 (T8.setTop (mkF m 16 #[.val (.ref z4_V1_1), .val (.int q4_1)] [(.ref z4_V1_1), (.ref z4_V1_1)])) := fun t k => P7 t (st8 _ k)
      have P9 : own_Go p e below S0 (T8.setTop (mkF m 23 #[.val (.ref z4_V1_1), .val (.int q4_1)] [(.int (133 : Int32)), (.int q4_1)])) := fun t k => P8 t (by
        show Steps p.tables e below (T8.setTop (mkF m 16 #[.val (.ref z4_V1_1), .val (.int q4_1)] [(.ref z4_V1_1), (.ref z4_V1_1)])) t
        refine Jvm.RoadKit.acmp (g := (mkF m 16 #[.val (.ref z4_V1_1), .val (.int q4_1)] [(.ref z4_V1_1), (.ref z4_V1_1)])) X8 hx rfl rfl rfl (pc0 := 16) (pc' := 19) (same := true) rfl (hb hby d4_16) rfl (decide_eq_true rfl) (by decide) (by decide) ?_
        refine XS.iloadN X8.here hx rfl (hb hby d4_19) rfl ?_
        refine XS.sipush X8.here hx rfl (hb hby d4_20) ?_
        show Steps p.tables e below (T8.setTop (mkF m 23 #[.val (.ref z4_V1_1), .val (.int q4_1)] [(.int (133 : Int32)), (.int q4_1)])) t
        exact k)
      by_cases c10 : q4_1 = (133 : Int32)
      · skip
        have P11 : own_Go p e below S0 (T8.setTop (mkF m 38 #[.val (.ref z4_V1_1), .val (.int q4_1)] [(.int (1 : Int32))])) := fun t k => P9 t (by
          show Steps p.tables e below (T8.setTop (mkF m 23 #[.val (.ref z4_V1_1), .val (.int q4_1)] [(.int (133 : Int32)), (.int q4_1)])) t
          refine XS.icmpYes X8.here hx rfl (pc0 := 23) (pc' := 33) rfl (hb hby d4_23) rfl (teq c10).1 (by decide) (by decide) ?_
          refine XS.iconst X8.here hx rfl (hb hby d4_33) ?_
          refine XS.goto X8.here hx rfl (pc0 := 34) (pc' := 38) rfl (hb hby d4_34) (by decide) (by decide) ?_
          show Steps p.tables e below (T8.setTop (mkF m 38 #[.val (.ref z4_V1_1), .val (.int q4_1)] [(.int (1 : Int32))])) t
          exact k)
        obtain ⟨fs, hr, hrun, hended, hW, hsame⟩ := X8.leave (v := some (.int (1 : Int32))) (fun h => by rw [Bd.returns] at h; cases h)
        refine ⟨_, _, own_from hS0 (P11 _ ?_), hrun, hended, _, _, rfl, ?_, ⟨_, rfl⟩, hW, hsame.mono (by decide) (by decide)⟩
        · show Steps p.tables e below (T8.setTop (mkF m 38 #[.val (.ref z4_V1_1), .val (.int q4_1)] [(.int (1 : Int32))])) _
          exact retN X8 hx (t := .boolean) Bd.returns (by simp) (hb hby d4_38) hr
        · show Q4 Z z4_V1_1 q4_1 h0 n0 _ T8.heap _
          rw [e8]
          exact ⟨(congrArg (fun z => some (Value.int z)) (Eq.symm (Eq.trans (if_neg c2) (Eq.trans (if_neg c5) (if_pos c10))))), N0, rfl⟩
      · skip
        have P12 : own_Go p e below S0 (T8.setTop (mkF m 30 #[.val (.ref z4_V1_1), .val (.int q4_1)] [(.int (8232 : Int32)), (.int q4_1)])) := fun t k => P9 t (by
          show Steps p.tables e below (T8.setTop (mkF m 23 #[.val (.ref z4_V1_1), .val (.int q4_1)] [(.int (133 : Int32)), (.int q4_1)])) t
          refine XS.icmpNo X8.here hx rfl (hb hby d4_23) rfl (feq c10).1 ?_
          refine XS.iloadN X8.here hx rfl (hb hby d4_26) rfl ?_
          refine XS.sipush X8.here hx rfl (hb hby d4_27) ?_
          show Steps p.tables e below (T8.setTop (mkF m 30 #[.val (.ref z4_V1_1), .val (.int q4_1)] [(.int (8232 : Int32)), (.int q4_1)])) t
          exact k)
        by_cases c13 : q4_1 = (8232 : Int32)
        · skip
          have P14 : own_Go p e below S0 (T8.setTop (mkF m 38 #[.val (.ref z4_V1_1), .val (.int q4_1)] [(.int (1 : Int32))])) := fun t k => P12 t (by
            show Steps p.tables e below (T8.setTop (mkF m 30 #[.val (.ref z4_V1_1), .val (.int q4_1)] [(.int (8232 : Int32)), (.int q4_1)])) t
            refine XS.icmpNo X8.here hx rfl (hb hby d4_30) rfl (teq c13).2 ?_
            refine XS.iconst X8.here hx rfl (hb hby d4_33) ?_
            refine XS.goto X8.here hx rfl (pc0 := 34) (pc' := 38) rfl (hb hby d4_34) (by decide) (by decide) ?_
            show Steps p.tables e below (T8.setTop (mkF m 38 #[.val (.ref z4_V1_1), .val (.int q4_1)] [(.int (1 : Int32))])) t
            exact k)
          obtain ⟨fs, hr, hrun, hended, hW, hsame⟩ := X8.leave (v := some (.int (1 : Int32))) (fun h => by rw [Bd.returns] at h; cases h)
          refine ⟨_, _, own_from hS0 (P14 _ ?_), hrun, hended, _, _, rfl, ?_, ⟨_, rfl⟩, hW, hsame.mono (by decide) (by decide)⟩
          · show Steps p.tables e below (T8.setTop (mkF m 38 #[.val (.ref z4_V1_1), .val (.int q4_1)] [(.int (1 : Int32))])) _
            exact retN X8 hx (t := .boolean) Bd.returns (by simp) (hb hby d4_38) hr
          · show Q4 Z z4_V1_1 q4_1 h0 n0 _ T8.heap _
            rw [e8]
            exact ⟨(congrArg (fun z => some (Value.int z)) (Eq.symm (Eq.trans (if_neg c2) (Eq.trans (if_neg c5) (Eq.trans (if_neg c10) (if_pos c13)))))), N0, rfl⟩
        · skip
          have P15 : own_Go p e below S0 (T8.setTop (mkF m 38 #[.val (.ref z4_V1_1), .val (.int q4_1)] [(.int (0 : Int32))])) := fun t k => P12 t (by
            show Steps p.tables e below (T8.setTop (mkF m 30 #[.val (.ref z4_V1_1), .val (.int q4_1)] [(.int (8232 : Int32)), (.int q4_1)])) t
            refine XS.icmpYes X8.here hx rfl (pc0 := 30) (pc' := 37) rfl (hb hby d4_30) rfl (feq c13).2 (by decide) (by decide) ?_
            refine XS.iconst X8.here hx rfl (hb hby d4_37) ?_
            show Steps p.tables e below (T8.setTop (mkF m 38 #[.val (.ref z4_V1_1), .val (.int q4_1)] [(.int (0 : Int32))])) t
            exact k)
          obtain ⟨fs, hr, hrun, hended, hW, hsame⟩ := X8.leave (v := some (.int (0 : Int32))) (fun h => by rw [Bd.returns] at h; cases h)
          refine ⟨_, _, own_from hS0 (P15 _ ?_), hrun, hended, _, _, rfl, ?_, ⟨_, rfl⟩, hW, hsame.mono (by decide) (by decide)⟩
          · show Steps p.tables e below (T8.setTop (mkF m 38 #[.val (.ref z4_V1_1), .val (.int q4_1)] [(.int (0 : Int32))])) _
            exact retN X8 hx (t := .boolean) Bd.returns (by simp) (hb hby d4_38) hr
          · show Q4 Z z4_V1_1 q4_1 h0 n0 _ T8.heap _
            rw [e8]
            exact ⟨(congrArg (fun z => some (Value.int z)) (Eq.symm (Eq.trans (if_neg c2) (Eq.trans (if_neg c5) (Eq.trans (if_neg c10) (if_neg c13)))))), N0, rfl⟩
theorem own_al (c : Int32) : r2 c = (if (0 < c.toInt ∧ c.toInt ≤ 55295) ∨ (57344 ≤ c.toInt ∧ c.toInt ≤ 65533) ∨ (65536 ≤ c.toInt ∧ c.toInt ≤ 1114111) then (1 : Int32) else (0 : Int32)) := by
  have e0 : (0 : Int32).toInt = 0 := by decide
  have e1 : (1 : Int32).toInt = 1 := by decide
  have e9 : (9 : Int32).toInt = 9 := by decide
  have e10 : (10 : Int32).toInt = 10 := by decide
  have e13 : (13 : Int32).toInt = 13 := by decide
  have e32 : (32 : Int32).toInt = 32 := by decide
  have e127 : (127 : Int32).toInt = 127 := by decide
  have e133 : (133 : Int32).toInt = 133 := by decide
  have e159 : (159 : Int32).toInt = 159 := by decide
  have e8232 : (8232 : Int32).toInt = 8232 := by decide
  have e55295 : (55295 : Int32).toInt = 55295 := by decide
  have e57344 : (57344 : Int32).toInt = 57344 := by decide
  have e65533 : (65533 : Int32).toInt = 65533 := by decide
  have e65536 : (65536 : Int32).toInt = 65536 := by decide
  have e1114111 : (1114111 : Int32).toInt = 1114111 := by decide
  unfold r2
  simp only [Int32.lt_iff_toInt_lt, ← Int32.toInt_inj, e0, e1, e9, e10, e13, e32, e127, e133, e159, e8232, e55295, e57344, e65533, e65536, e1114111]
  generalize c.toInt = z
  repeat' split
  all_goals first | rfl | (exfalso; omega)
set_option maxHeartbeats 4000000 in
theorem own_law (c : Int32) : r1 c = (if (r2 c) = (0 : Int32) then (if c < (32 : Int32) then (1 : Int32) else (0 : Int32)) else (if (r3 c) = (0 : Int32) then (1 : Int32) else (if (r4 c) = (0 : Int32) then (0 : Int32) else (if c = (10 : Int32) then (0 : Int32) else (1 : Int32))))) := by
  have e0 : (0 : Int32).toInt = 0 := by decide
  have e1 : (1 : Int32).toInt = 1 := by decide
  have e9 : (9 : Int32).toInt = 9 := by decide
  have e10 : (10 : Int32).toInt = 10 := by decide
  have e13 : (13 : Int32).toInt = 13 := by decide
  have e32 : (32 : Int32).toInt = 32 := by decide
  have e127 : (127 : Int32).toInt = 127 := by decide
  have e133 : (133 : Int32).toInt = 133 := by decide
  have e159 : (159 : Int32).toInt = 159 := by decide
  have e8232 : (8232 : Int32).toInt = 8232 := by decide
  have e55295 : (55295 : Int32).toInt = 55295 := by decide
  have e57344 : (57344 : Int32).toInt = 57344 := by decide
  have e65533 : (65533 : Int32).toInt = 65533 := by decide
  have e65536 : (65536 : Int32).toInt = 65536 := by decide
  have e1114111 : (1114111 : Int32).toInt = 1114111 := by decide
  have h10 : ¬ ((1 : Int32) = (0 : Int32)) := by decide
  have h00 : (0 : Int32) = (0 : Int32) := rfl
  have h3 : r3 c = (if r2 c = (0 : Int32) then (0 : Int32) else r3 c) := by
    by_cases h : r2 c = (0 : Int32)
    · rw [if_pos h]; unfold r3; rw [h]
      simp only [if_true, ite_self]
    · rw [if_neg h]
  by_cases hA : (0 < c.toInt ∧ c.toInt ≤ 55295) ∨ (57344 ≤ c.toInt ∧ c.toInt ≤ 65533) ∨ (65536 ≤ c.toInt ∧ c.toInt ≤ 1114111)
  · have h2 : r2 c = 1 := by rw [own_al, if_pos hA]
    rw [if_neg (by rw [h2]; decide)]
    unfold r1 r3 r4
    simp only [h2, Int32.lt_iff_toInt_lt, ← Int32.toInt_inj, e0, e1, e9, e10, e13, e32, e127, e133, e159, e8232, e55295, e57344, e65533, e65536, e1114111]
    generalize c.toInt = z at *
    repeat' split
    all_goals first | rfl | (exfalso; omega) | (simp_all; done) | (simp_all; omega)
  · have h2 : r2 c = 0 := by rw [own_al, if_neg hA]
    rw [if_pos h2]
    unfold r1
    simp only [Int32.lt_iff_toInt_lt, ← Int32.toInt_inj, e0, e1, e9, e10, e13, e32, e127, e133, e159, e8232, e55295, e57344, e65533, e65536, e1114111]
    generalize c.toInt = z at *
    repeat' split
    all_goals first | rfl | (exfalso; omega)
theorem pn_0 : plainName "com/example/splice/splice/XmlVersionNeedsReferencePinLaw" = true := by first | (simp [plainName, overriddenIn]; done) | decide +kernel
theorem ef_0 (m : MethodId) (i0 : Int32) (i1 : Int32) : entryFrame m #[(.int i0), (.int i1)] maxLocals = mkF m 0 #[.val (.int i0), .val (.int i1), .unset, .unset, .unset, .unset] [] := by first | (simp [entryFrame, mkF, argsToLocals, Value.category, maxLocals]; done) | rfl
def Q0 (Z : State) (i0 : Int32) (i1 : Int32) (z0_V1_1 : Addr) (h0 : Heap) (n0 : Nat) (v : Option Value) (h : Heap) (L : List Loc) : Prop := v = some (.int 1) ∧ Fr n0 L
set_option maxRecDepth 65536 in
set_option maxHeartbeats 40000000 in
theorem rm0 (l : Launch) (Z : State) (a0 : Array Value) (hw : ∀ d ∈ tables_1, d.before a0 Z = true) (ws : List Jvm.Cond) (i0 : Int32) (i1 : Int32) (z0_V1_1 : Addr) (h0 : Heap) (n0 : Nat) (Z0 : n0 ≤ h0.size) (S_V1_1 : Sta Z h0 "com/example/splice/splice/XmlVersion" "V1_1" "Lcom/example/splice/splice/XmlVersion;" (.ref z0_V1_1)) (E_z0_V1_1 : Exa Z h0 z0_V1_1 "com/example/splice/splice/XmlVersion") :
    MetFree l x (head1 (Jvm.Cond.code x code maxLocals ret :: ws) room_1) (fun a U => a = #[(.int i0), (.int i1)] ∧ Z.Warmed39 U.vm ∧ U.heap = h0) (fun _ _ _ _ _ => True) (fun _ U o U' => ∃ v L, o = .returned v ∧ Q0 Z i0 i1 z0_V1_1 h0 n0 v U'.heap L ∧ FrameEnd U o U' L room_1.cells room_1.slots) := by
  refine MetFree.of_bodySF (plainFor_of_name pn_0) hisR ?_
  intro p e s m args below meth c s₁ Bd hml0 hP hK
  obtain ⟨rfl, hZ, hh⟩ := hP
  have hx := Bd.exec
  have hby := Bd.bytes
  have hml : c.maxLocals = 6 := hml0
  have hown : s.vm.findClass "com/example/splice/splice/XmlVersionNeedsReferencePinLaw" = some m.cls := findClass_of_methodNamed Bd.named
  have hnm := (name_of_methodNamed Bd.named Bd.method).1
  have X0 : Stand p l e room_1 s m #[(.int i0), (.int i1)] below meth c s₁ [] 0 0 := Stand.of_body Bd
  have e0 : s₁.heap = h0 := by rw [← hh, Bd.state]; rfl
  have N0 := Fr.nil n0
  obtain ⟨S0, hS0⟩ : ∃ z, z = s₁.setTop (entryFrame m #[(.int i0), (.int i1)] maxLocals) := ⟨_, rfl⟩
  have P0 : own_Go p e below S0 (s₁.setTop (mkF m 0 #[.val (.int i0), .val (.int i1), .unset, .unset, .unset, .unset] [])) := fun t k => by rw [hS0]; exact castTop (ef_0 m i0 i1) k
  have P1 : own_Go p e below S0 (s₁.setTop (mkF m 5 #[.val (.int i0), .val (.int i1), .val (.int (i1 &&& (3 : Int32))), .unset, .unset, .unset] [(.int (i1 &&& (3 : Int32)))])) := fun t k => P0 t (by
    show Steps p.tables e below (s₁.setTop (mkF m 0 #[.val (.int i0), .val (.int i1), .unset, .unset, .unset, .unset] [])) t
    refine XS.iloadN X0.here hx rfl (hb hby at_0) rfl ?_
    refine XS.iconst X0.here hx rfl (hb hby at_1) ?_
    refine XS.iand X0.here hx rfl (hb hby at_2) rfl ?_
    refine XS.istoreN X0.here hx rfl (hb hby at_3) rfl (l' := #[.val (.int i0), .val (.int i1), .val (.int (i1 &&& (3 : Int32))), .unset, .unset, .unset]) rfl ?_
    refine XS.iloadN X0.here hx rfl (hb hby at_4) rfl ?_
    show Steps p.tables e below (s₁.setTop (mkF m 5 #[.val (.int i0), .val (.int i1), .val (.int (i1 &&& (3 : Int32))), .unset, .unset, .unset] [(.int (i1 &&& (3 : Int32)))])) t
    exact k)
  obtain ⟨v11_l3, hv11_l3, P11⟩ : ∃ (v11_l3 : Int32), (v11_l3 = (if (i1 &&& (3 : Int32)) = (0 : Int32) then i0 else (if (i1 &&& (3 : Int32)) = (1 : Int32) then (i0 &&& (255 : Int32)) else (if (i1 &&& (3 : Int32)) = (2 : Int32) then ((8228 : Int32) + (i0 &&& (15 : Int32))) else (i0 &&& (2097151 : Int32)))))) ∧ (own_Go p e below S0 (s₁.setTop (mkF m 49 #[.val (.int i0), .val (.int i1), .val (.int (i1 &&& (3 : Int32))), .val (.int v11_l3), .unset, .unset] []))) := by
    by_cases c2 : (i1 &&& (3 : Int32)) = (0 : Int32)
    · skip
      have P3 : own_Go p e below S0 (s₁.setTop (mkF m 49 #[.val (.int i0), .val (.int i1), .val (.int (i1 &&& (3 : Int32))), .val (.int i0), .unset, .unset] [])) := fun t k => P1 t (by
        show Steps p.tables e below (s₁.setTop (mkF m 5 #[.val (.int i0), .val (.int i1), .val (.int (i1 &&& (3 : Int32))), .unset, .unset, .unset] [(.int (i1 &&& (3 : Int32)))])) t
        refine XS.ifNo X0.here hx rfl (hb hby at_5) rfl ((if0 _ _).trans (teq c2).2) ?_
        refine XS.iloadN X0.here hx rfl (hb hby at_8) rfl ?_
        refine XS.istoreN X0.here hx rfl (hb hby at_9) rfl (l' := #[.val (.int i0), .val (.int i1), .val (.int (i1 &&& (3 : Int32))), .val (.int i0), .unset, .unset]) rfl ?_
        refine XS.goto X0.here hx rfl (pc0 := 10) (pc' := 49) rfl (hb hby at_10) (by decide) (by decide) ?_
        show Steps p.tables e below (s₁.setTop (mkF m 49 #[.val (.int i0), .val (.int i1), .val (.int (i1 &&& (3 : Int32))), .val (.int i0), .unset, .unset] [])) t
        exact k)
      exact ⟨i0, (Eq.symm (if_pos c2)), P3⟩
    · skip
      have P4 : own_Go p e below S0 (s₁.setTop (mkF m 15 #[.val (.int i0), .val (.int i1), .val (.int (i1 &&& (3 : Int32))), .unset, .unset, .unset] [(.int (1 : Int32)), (.int (i1 &&& (3 : Int32)))])) := fun t k => P1 t (by
        show Steps p.tables e below (s₁.setTop (mkF m 5 #[.val (.int i0), .val (.int i1), .val (.int (i1 &&& (3 : Int32))), .unset, .unset, .unset] [(.int (i1 &&& (3 : Int32)))])) t
        refine XS.ifYes X0.here hx rfl (pc0 := 5) (pc' := 13) rfl (hb hby at_5) rfl ((if0 _ _).trans (feq c2).2) (by decide) (by decide) ?_
        refine XS.iloadN X0.here hx rfl (hb hby at_13) rfl ?_
        refine XS.iconst X0.here hx rfl (hb hby at_14) ?_
        show Steps p.tables e below (s₁.setTop (mkF m 15 #[.val (.int i0), .val (.int i1), .val (.int (i1 &&& (3 : Int32))), .unset, .unset, .unset] [(.int (1 : Int32)), (.int (i1 &&& (3 : Int32)))])) t
        exact k)
      by_cases c5 : (i1 &&& (3 : Int32)) = (1 : Int32)
      · skip
        have P6 : own_Go p e below S0 (s₁.setTop (mkF m 49 #[.val (.int i0), .val (.int i1), .val (.int (i1 &&& (3 : Int32))), .val (.int (i0 &&& (255 : Int32))), .unset, .unset] [])) := fun t k => P4 t (by
          show Steps p.tables e below (s₁.setTop (mkF m 15 #[.val (.int i0), .val (.int i1), .val (.int (i1 &&& (3 : Int32))), .unset, .unset, .unset] [(.int (1 : Int32)), (.int (i1 &&& (3 : Int32)))])) t
          refine XS.icmpNo X0.here hx rfl (hb hby at_15) rfl (teq c5).2 ?_
          refine XS.iloadN X0.here hx rfl (hb hby at_18) rfl ?_
          refine XS.sipush X0.here hx rfl (hb hby at_19) ?_
          refine XS.iand X0.here hx rfl (hb hby at_22) rfl ?_
          refine XS.istoreN X0.here hx rfl (hb hby at_23) rfl (l' := #[.val (.int i0), .val (.int i1), .val (.int (i1 &&& (3 : Int32))), .val (.int (i0 &&& (255 : Int32))), .unset, .unset]) rfl ?_
          refine XS.goto X0.here hx rfl (pc0 := 24) (pc' := 49) rfl (hb hby at_24) (by decide) (by decide) ?_
          show Steps p.tables e below (s₁.setTop (mkF m 49 #[.val (.int i0), .val (.int i1), .val (.int (i1 &&& (3 : Int32))), .val (.int (i0 &&& (255 : Int32))), .unset, .unset] [])) t
          exact k)
        exact ⟨(i0 &&& (255 : Int32)), (Eq.symm (Eq.trans (if_neg c2) (if_pos c5))), P6⟩
      · skip
        have P7 : own_Go p e below S0 (s₁.setTop (mkF m 29 #[.val (.int i0), .val (.int i1), .val (.int (i1 &&& (3 : Int32))), .unset, .unset, .unset] [(.int (2 : Int32)), (.int (i1 &&& (3 : Int32)))])) := fun t k => P4 t (by
          show Steps p.tables e below (s₁.setTop (mkF m 15 #[.val (.int i0), .val (.int i1), .val (.int (i1 &&& (3 : Int32))), .unset, .unset, .unset] [(.int (1 : Int32)), (.int (i1 &&& (3 : Int32)))])) t
          refine XS.icmpYes X0.here hx rfl (pc0 := 15) (pc' := 27) rfl (hb hby at_15) rfl (feq c5).2 (by decide) (by decide) ?_
          refine XS.iloadN X0.here hx rfl (hb hby at_27) rfl ?_
          refine XS.iconst X0.here hx rfl (hb hby at_28) ?_
          show Steps p.tables e below (s₁.setTop (mkF m 29 #[.val (.int i0), .val (.int i1), .val (.int (i1 &&& (3 : Int32))), .unset, .unset, .unset] [(.int (2 : Int32)), (.int (i1 &&& (3 : Int32)))])) t
          exact k)
        by_cases c8 : (i1 &&& (3 : Int32)) = (2 : Int32)
        · skip
          have P9 : own_Go p e below S0 (s₁.setTop (mkF m 49 #[.val (.int i0), .val (.int i1), .val (.int (i1 &&& (3 : Int32))), .val (.int ((8228 : Int32) + (i0 &&& (15 : Int32)))), .unset, .unset] [])) := fun t k => P7 t (by
            show Steps p.tables e below (s₁.setTop (mkF m 29 #[.val (.int i0), .val (.int i1), .val (.int (i1 &&& (3 : Int32))), .unset, .unset, .unset] [(.int (2 : Int32)), (.int (i1 &&& (3 : Int32)))])) t
            refine XS.icmpNo X0.here hx rfl (hb hby at_29) rfl (teq c8).2 ?_
            refine XS.sipush X0.here hx rfl (hb hby at_32) ?_
            refine XS.iloadN X0.here hx rfl (hb hby at_35) rfl ?_
            refine XS.bipush X0.here hx rfl (hb hby at_36) ?_
            refine XS.iand X0.here hx rfl (hb hby at_38) rfl ?_
            refine XS.iadd X0.here hx rfl (hb hby at_39) rfl ?_
            show Steps p.tables e below (s₁.setTop (mkF m 40 #[.val (.int i0), .val (.int i1), .val (.int (i1 &&& (3 : Int32))), .unset, .unset, .unset] [(.int ((8228 : Int32) + (i0 &&& (15 : Int32))))])) t
            refine XS.istoreN X0.here hx rfl (hb hby at_40) rfl (l' := #[.val (.int i0), .val (.int i1), .val (.int (i1 &&& (3 : Int32))), .val (.int ((8228 : Int32) + (i0 &&& (15 : Int32)))), .unset, .unset]) rfl ?_
            refine XS.goto X0.here hx rfl (pc0 := 41) (pc' := 49) rfl (hb hby at_41) (by decide) (by decide) ?_
            show Steps p.tables e below (s₁.setTop (mkF m 49 #[.val (.int i0), .val (.int i1), .val (.int (i1 &&& (3 : Int32))), .val (.int ((8228 : Int32) + (i0 &&& (15 : Int32)))), .unset, .unset] [])) t
            exact k)
          exact ⟨((8228 : Int32) + (i0 &&& (15 : Int32))), (Eq.symm (Eq.trans (if_neg c2) (Eq.trans (if_neg c5) (if_pos c8)))), P9⟩
        · skip
          have P10 : own_Go p e below S0 (s₁.setTop (mkF m 49 #[.val (.int i0), .val (.int i1), .val (.int (i1 &&& (3 : Int32))), .val (.int (i0 &&& (2097151 : Int32))), .unset, .unset] [])) := fun t k => P7 t (by
            show Steps p.tables e below (s₁.setTop (mkF m 29 #[.val (.int i0), .val (.int i1), .val (.int (i1 &&& (3 : Int32))), .unset, .unset, .unset] [(.int (2 : Int32)), (.int (i1 &&& (3 : Int32)))])) t
            refine XS.icmpYes X0.here hx rfl (pc0 := 29) (pc' := 44) rfl (hb hby at_29) rfl (feq c8).2 (by decide) (by decide) ?_
            refine XS.iloadN X0.here hx rfl (hb hby at_44) rfl ?_
            show Steps p.tables e below (s₁.setTop (mkF m 45 #[.val (.int i0), .val (.int i1), .val (.int (i1 &&& (3 : Int32))), .unset, .unset, .unset] [(.int i0)])) t
            refine X0.ldcInt hx hown (mvT hZ (hw _ (List.mem_of_getElem? (i := 0) rfl))) (g := (mkF m 45 #[.val (.int i0), .val (.int i1), .val (.int (i1 &&& (3 : Int32))), .unset, .unset, .unset] [(.int i0)])) rfl (hb hby at_45) _ ?_
            refine XS.iand X0.here hx rfl (hb hby at_47) rfl ?_
            refine XS.istoreN X0.here hx rfl (hb hby at_48) rfl (l' := #[.val (.int i0), .val (.int i1), .val (.int (i1 &&& (3 : Int32))), .val (.int (i0 &&& (2097151 : Int32))), .unset, .unset]) rfl ?_
            show Steps p.tables e below (s₁.setTop (mkF m 49 #[.val (.int i0), .val (.int i1), .val (.int (i1 &&& (3 : Int32))), .val (.int (i0 &&& (2097151 : Int32))), .unset, .unset] [])) t
            exact k)
          exact ⟨(i0 &&& (2097151 : Int32)), (Eq.symm (Eq.trans (if_neg c2) (Eq.trans (if_neg c5) (if_neg c8)))), P10⟩
  have P12 : own_Go p e below S0 (s₁.setTop (mkF m 50 #[.val (.int i0), .val (.int i1), .val (.int (i1 &&& (3 : Int32))), .val (.int v11_l3), .unset, .unset] [(.int v11_l3)])) := fun t k => P11 t (by
    show Steps p.tables e below (s₁.setTop (mkF m 49 #[.val (.int i0), .val (.int i1), .val (.int (i1 &&& (3 : Int32))), .val (.int v11_l3), .unset, .unset] [])) t
    refine XS.iloadN X0.here hx rfl (hb hby at_49) rfl ?_
    show Steps p.tables e below (s₁.setTop (mkF m 50 #[.val (.int i0), .val (.int i1), .val (.int (i1 &&& (3 : Int32))), .val (.int v11_l3), .unset, .unset] [(.int v11_l3)])) t
    exact k)
  obtain ⟨_, _, ⟨T13, L13, k13, n13⟩, -, X13, ⟨Lc13, hQ13, l13, y13, z13⟩, st13⟩ := Jvm.LawKit.callS X0 hx (y := (⟨"com/example/splice/splice/XmlVersion", "needsReference", "(I)Z"⟩ : MethodName)) hown (mvT hZ (hw _ (List.mem_of_getElem? (i := 1) rfl))) (mvT hZ (hw _ (List.mem_of_getElem? (i := 2) rfl))) (mvT hZ (hw _ (List.mem_of_getElem? (i := 3) rfl))) (mvT hZ (hw _ (List.mem_of_getElem? (i := 4) rfl))) (by decide) (backOf (W := 0) (rm1 l Z a0 hw [] v11_l3 h0 n0 Z0) hZ (hw _ (List.mem_of_getElem? (i := 4) rfl)) (hw _ (List.mem_of_getElem? (i := 3) rfl)) (by decide) (by decide)) (g := (mkF m 50 #[.val (.int i0), .val (.int i1), .val (.int (i1 &&& (3 : Int32))), .val (.int v11_l3), .unset, .unset] [(.int v11_l3)])) rfl (by rw [hml]; rfl) (argsL := [(.int v11_l3)]) (rest := []) (lenOf pd_0 rfl) rfl (by show 2 * 0 + _ ≤ _; exact Nat.le_of_eq rfl) (hb hby at_50) (fun _ _ => ⟨rfl, e0, (by decide : 0 + 0 ≤ _), (by decide : 0 + 0 ≤ _)⟩)
  dsimp only [Pt.U, Pt.locs, Pt.cells, Pt.slots] at X13 l13 y13 z13 st13 hQ13
  subst l13 y13 z13
  obtain ⟨rfl, N13q, e13⟩ := hQ13
  have N13 := Fr.app N0 N13q
  have P13 : own_Go p e below S0 (T13.setTop (mkF m 53 #[.val (.int i0), .val (.int i1), .val (.int (i1 &&& (3 : Int32))), .val (.int v11_l3), .unset, .unset] [(.int (r1 v11_l3))])) := fun t k => P12 t (st13 _ k)
  have P14 : own_Go p e below S0 (T13.setTop (mkF m 55 #[.val (.int i0), .val (.int i1), .val (.int (i1 &&& (3 : Int32))), .val (.int v11_l3), .val (.int (r1 v11_l3)), .unset] [])) := fun t k => P13 t (by
    show Steps p.tables e below (T13.setTop (mkF m 53 #[.val (.int i0), .val (.int i1), .val (.int (i1 &&& (3 : Int32))), .val (.int v11_l3), .unset, .unset] [(.int (r1 v11_l3))])) t
    refine XS.istore X13.here hx rfl (hb hby at_53) rfl (l' := #[.val (.int i0), .val (.int i1), .val (.int (i1 &&& (3 : Int32))), .val (.int v11_l3), .val (.int (r1 v11_l3)), .unset]) rfl ?_
    show Steps p.tables e below (T13.setTop (mkF m 55 #[.val (.int i0), .val (.int i1), .val (.int (i1 &&& (3 : Int32))), .val (.int v11_l3), .val (.int (r1 v11_l3)), .unset] [])) t
    exact k)
  obtain ⟨T15, X15, e15, st15⟩ := getS2 X13 hx hZ hown (host := "") (Or.inl (hw _ (List.mem_of_getElem? (i := 5) rfl))) Via.refl e13 S_V1_1 (g := (mkF m 55 #[.val (.int i0), .val (.int i1), .val (.int (i1 &&& (3 : Int32))), .val (.int v11_l3), .val (.int (r1 v11_l3)), .unset] [])) rfl (hb hby at_55)
  have P15 : own_Go p e below S0 (T15.setTop (mkF m 58 #[.val (.int i0), .val (.int i1), .val (.int (i1 &&& (3 : Int32))), .val (.int v11_l3), .val (.int (r1 v11_l3)), .unset] [(.ref z0_V1_1)])) := fun t k => P14 t (st15 _ k)
  have P16 : own_Go p e below S0 (T15.setTop (mkF m 59 #[.val (.int i0), .val (.int i1), .val (.int (i1 &&& (3 : Int32))), .val (.int v11_l3), .val (.int (r1 v11_l3)), .unset] [(.int v11_l3), (.ref z0_V1_1)])) := fun t k => P15 t (by
    show Steps p.tables e below (T15.setTop (mkF m 58 #[.val (.int i0), .val (.int i1), .val (.int (i1 &&& (3 : Int32))), .val (.int v11_l3), .val (.int (r1 v11_l3)), .unset] [(.ref z0_V1_1)])) t
    refine XS.iloadN X15.here hx rfl (hb hby at_58) rfl ?_
    show Steps p.tables e below (T15.setTop (mkF m 59 #[.val (.int i0), .val (.int i1), .val (.int (i1 &&& (3 : Int32))), .val (.int v11_l3), .val (.int (r1 v11_l3)), .unset] [(.int v11_l3), (.ref z0_V1_1)])) t
    exact k)
  obtain ⟨cq17, kq17, q17a, q17b, q17c⟩ := isOf hZ e15 E_z0_V1_1
  obtain ⟨_, _, ⟨T17, L17, k17, n17⟩, -, X17, ⟨Lc17, hQ17, l17, y17, z17⟩, st17⟩ := X15.virtualBack hx (y := (⟨"com/example/splice/splice/XmlVersion", "allows", "(I)Z"⟩ : MethodName)) (z := (⟨"com/example/splice/splice/XmlVersion", "allows", "(I)Z"⟩ : MethodName)) hown (mvT hZ (hw _ (List.mem_of_getElem? (i := 7) rfl))) (mvT hZ (hw _ (List.mem_of_getElem? (i := 8) rfl))) (notFace_of_selects (args := #[]) (mvT hZ (hw _ (List.mem_of_getElem? (i := 10) rfl)))) (mvT hZ (hw _ (List.mem_of_getElem? (i := 10) rfl))) (mvT hZ (hw _ (List.mem_of_getElem? (i := 9) rfl))) (by decide) (backOf (W := 0) (rm2 l Z a0 hw [] z0_V1_1 v11_l3 h0 n0 Z0 S_V1_1) hZ (hw _ (List.mem_of_getElem? (i := 11) rfl)) (hw _ (List.mem_of_getElem? (i := 3) rfl)) (by decide) (by decide)) q17a q17c (g := (mkF m 59 #[.val (.int i0), .val (.int i1), .val (.int (i1 &&& (3 : Int32))), .val (.int v11_l3), .val (.int (r1 v11_l3)), .unset] [(.int v11_l3), (.ref z0_V1_1)])) rfl (by rw [hml]; rfl) (Steps.refl _) (argsL := [(.int v11_l3)]) (rest := []) (lenOf pd_0 rfl) rfl (by show 2 * 0 + _ ≤ _; exact Nat.le_of_eq rfl) (hb hby at_59) (fun _ _ => ⟨rfl, e15, (by decide : 0 + 0 ≤ _), (by decide : 0 + 0 ≤ _)⟩)
  dsimp only [Pt.U, Pt.locs, Pt.cells, Pt.slots] at X17 l17 y17 z17 st17 hQ17
  subst l17 y17 z17
  obtain ⟨rfl, N17q, e17⟩ := hQ17
  have N17 := Fr.app N13 N17q
  have P17 : own_Go p e below S0 (T17.setTop (mkF m 62 #[.val (.int i0), .val (.int i1), .val (.int (i1 &&& (3 : Int32))), .val (.int v11_l3), .val (.int (r1 v11_l3)), .unset] [(.int (r2 v11_l3))])) := fun t k => P16 t (st17.trans k)
  obtain ⟨T39, lo39, v39_l5, X39, e39, N39, hv39_l5, P39⟩ : ∃ (T39 : State) (lo39 : List Loc) (v39_l5 : Int32), (Stand p l e room_1 s m #[(.int i0), (.int i1)] below meth c T39 lo39 0 0) ∧ (T39.heap = h0) ∧ (Fr n0 lo39) ∧ (v39_l5 = (if (r2 v11_l3) = (0 : Int32) then (if v11_l3 < (32 : Int32) then (1 : Int32) else (0 : Int32)) else (if (r3 v11_l3) = (0 : Int32) then (1 : Int32) else (if (r4 v11_l3) = (0 : Int32) then (0 : Int32) else (if v11_l3 = (10 : Int32) then (0 : Int32) else (1 : Int32)))))) ∧ (own_Go p e below S0 (T39.setTop (mkF m 114 #[.val (.int i0), .val (.int i1), .val (.int (i1 &&& (3 : Int32))), .val (.int v11_l3), .val (.int (r1 v11_l3)), .val (.int v39_l5)] []))) := by
    by_cases c18 : (r2 v11_l3) = (0 : Int32)
    · skip
      have P19 : own_Go p e below S0 (T17.setTop (mkF m 104 #[.val (.int i0), .val (.int i1), .val (.int (i1 &&& (3 : Int32))), .val (.int v11_l3), .val (.int (r1 v11_l3)), .unset] [(.int (32 : Int32)), (.int v11_l3)])) := fun t k => P17 t (by
        show Steps p.tables e below (T17.setTop (mkF m 62 #[.val (.int i0), .val (.int i1), .val (.int (i1 &&& (3 : Int32))), .val (.int v11_l3), .val (.int (r1 v11_l3)), .unset] [(.int (r2 v11_l3))])) t
        refine XS.ifYes X17.here hx rfl (pc0 := 62) (pc' := 101) rfl (hb hby at_62) rfl ((if0 _ _).trans (teq c18).1) (by decide) (by decide) ?_
        refine XS.iloadN X17.here hx rfl (hb hby at_101) rfl ?_
        refine XS.bipush X17.here hx rfl (hb hby at_102) ?_
        show Steps p.tables e below (T17.setTop (mkF m 104 #[.val (.int i0), .val (.int i1), .val (.int (i1 &&& (3 : Int32))), .val (.int v11_l3), .val (.int (r1 v11_l3)), .unset] [(.int (32 : Int32)), (.int v11_l3)])) t
        exact k)
      by_cases c20 : v11_l3 < (32 : Int32)
      · skip
        have P21 : own_Go p e below S0 (T17.setTop (mkF m 114 #[.val (.int i0), .val (.int i1), .val (.int (i1 &&& (3 : Int32))), .val (.int v11_l3), .val (.int (r1 v11_l3)), .val (.int (1 : Int32))] [])) := fun t k => P19 t (by
          show Steps p.tables e below (T17.setTop (mkF m 104 #[.val (.int i0), .val (.int i1), .val (.int (i1 &&& (3 : Int32))), .val (.int v11_l3), .val (.int (r1 v11_l3)), .unset] [(.int (32 : Int32)), (.int v11_l3)])) t
          refine XS.icmpNo X17.here hx rfl (hb hby at_104) rfl (tlt c20).2.1 ?_
          refine XS.iconst X17.here hx rfl (hb hby at_107) ?_
          refine XS.goto X17.here hx rfl (pc0 := 108) (pc' := 112) rfl (hb hby at_108) (by decide) (by decide) ?_
          refine XS.istore X17.here hx rfl (hb hby at_112) rfl (l' := #[.val (.int i0), .val (.int i1), .val (.int (i1 &&& (3 : Int32))), .val (.int v11_l3), .val (.int (r1 v11_l3)), .val (.int (1 : Int32))]) rfl ?_
          show Steps p.tables e below (T17.setTop (mkF m 114 #[.val (.int i0), .val (.int i1), .val (.int (i1 &&& (3 : Int32))), .val (.int v11_l3), .val (.int (r1 v11_l3)), .val (.int (1 : Int32))] [])) t
          exact k)
        exact ⟨T17, _, (1 : Int32), X17, e17, N17, (Eq.symm (Eq.trans (if_pos c18) (if_pos c20))), P21⟩
      · skip
        have P22 : own_Go p e below S0 (T17.setTop (mkF m 114 #[.val (.int i0), .val (.int i1), .val (.int (i1 &&& (3 : Int32))), .val (.int v11_l3), .val (.int (r1 v11_l3)), .val (.int (0 : Int32))] [])) := fun t k => P19 t (by
          show Steps p.tables e below (T17.setTop (mkF m 104 #[.val (.int i0), .val (.int i1), .val (.int (i1 &&& (3 : Int32))), .val (.int v11_l3), .val (.int (r1 v11_l3)), .unset] [(.int (32 : Int32)), (.int v11_l3)])) t
          refine XS.icmpYes X17.here hx rfl (pc0 := 104) (pc' := 111) rfl (hb hby at_104) rfl (flt c20).2.1 (by decide) (by decide) ?_
          refine XS.iconst X17.here hx rfl (hb hby at_111) ?_
          refine XS.istore X17.here hx rfl (hb hby at_112) rfl (l' := #[.val (.int i0), .val (.int i1), .val (.int (i1 &&& (3 : Int32))), .val (.int v11_l3), .val (.int (r1 v11_l3)), .val (.int (0 : Int32))]) rfl ?_
          show Steps p.tables e below (T17.setTop (mkF m 114 #[.val (.int i0), .val (.int i1), .val (.int (i1 &&& (3 : Int32))), .val (.int v11_l3), .val (.int (r1 v11_l3)), .val (.int (0 : Int32))] [])) t
          exact k)
        exact ⟨T17, _, (0 : Int32), X17, e17, N17, (Eq.symm (Eq.trans (if_pos c18) (if_neg c20))), P22⟩
    · skip
      have P23 : own_Go p e below S0 (T17.setTop (mkF m 65 #[.val (.int i0), .val (.int i1), .val (.int (i1 &&& (3 : Int32))), .val (.int v11_l3), .val (.int (r1 v11_l3)), .unset] [])) := fun t k => P17 t (by
        show Steps p.tables e below (T17.setTop (mkF m 62 #[.val (.int i0), .val (.int i1), .val (.int (i1 &&& (3 : Int32))), .val (.int v11_l3), .val (.int (r1 v11_l3)), .unset] [(.int (r2 v11_l3))])) t
        refine XS.ifNo X17.here hx rfl (hb hby at_62) rfl ((if0 _ _).trans (feq c18).1) ?_
        show Steps p.tables e below (T17.setTop (mkF m 65 #[.val (.int i0), .val (.int i1), .val (.int (i1 &&& (3 : Int32))), .val (.int v11_l3), .val (.int (r1 v11_l3)), .unset] [])) t
        exact k)
      obtain ⟨T24, X24, e24, st24⟩ := getS2 X17 hx hZ hown (host := "") (Or.inl (hw _ (List.mem_of_getElem? (i := 5) rfl))) Via.refl e17 S_V1_1 (g := (mkF m 65 #[.val (.int i0), .val (.int i1), .val (.int (i1 &&& (3 : Int32))), .val (.int v11_l3), .val (.int (r1 v11_l3)), .unset] [])) rfl (hb hby at_65)
      have P24 : own_Go p e below S0 (T24.setTop (mkF m 68 #[.val (.int i0), .val (.int i1), .val (.int (i1 &&& (3 : Int32))), .val (.int v11_l3), .val (.int (r1 v11_l3)), .unset] [(.ref z0_V1_1)])) := fun t k => P23 t (st24 _ k)
      have P25 : own_Go p e below S0 (T24.setTop (mkF m 69 #[.val (.int i0), .val (.int i1), .val (.int (i1 &&& (3 : Int32))), .val (.int v11_l3), .val (.int (r1 v11_l3)), .unset] [(.int v11_l3), (.ref z0_V1_1)])) := fun t k => P24 t (by
        show Steps p.tables e below (T24.setTop (mkF m 68 #[.val (.int i0), .val (.int i1), .val (.int (i1 &&& (3 : Int32))), .val (.int v11_l3), .val (.int (r1 v11_l3)), .unset] [(.ref z0_V1_1)])) t
        refine XS.iloadN X24.here hx rfl (hb hby at_68) rfl ?_
        show Steps p.tables e below (T24.setTop (mkF m 69 #[.val (.int i0), .val (.int i1), .val (.int (i1 &&& (3 : Int32))), .val (.int v11_l3), .val (.int (r1 v11_l3)), .unset] [(.int v11_l3), (.ref z0_V1_1)])) t
        exact k)
      obtain ⟨cq26, kq26, q26a, q26b, q26c⟩ := isOf hZ e24 E_z0_V1_1
      obtain ⟨_, _, ⟨T26, L26, k26, n26⟩, -, X26, ⟨Lc26, hQ26, l26, y26, z26⟩, st26⟩ := X24.virtualBack hx (y := (⟨"com/example/splice/splice/XmlVersion", "allowsLiterally", "(I)Z"⟩ : MethodName)) (z := (⟨"com/example/splice/splice/XmlVersion", "allowsLiterally", "(I)Z"⟩ : MethodName)) hown (mvT hZ (hw _ (List.mem_of_getElem? (i := 13) rfl))) (mvT hZ (hw _ (List.mem_of_getElem? (i := 14) rfl))) (notFace_of_selects (args := #[]) (mvT hZ (hw _ (List.mem_of_getElem? (i := 16) rfl)))) (mvT hZ (hw _ (List.mem_of_getElem? (i := 16) rfl))) (mvT hZ (hw _ (List.mem_of_getElem? (i := 15) rfl))) (by decide) (backOf (W := 0) (rm3 l Z a0 hw [] z0_V1_1 v11_l3 h0 n0 Z0 S_V1_1 E_z0_V1_1) hZ (hw _ (List.mem_of_getElem? (i := 17) rfl)) (hw _ (List.mem_of_getElem? (i := 3) rfl)) (by decide) (by decide)) q26a q26c (g := (mkF m 69 #[.val (.int i0), .val (.int i1), .val (.int (i1 &&& (3 : Int32))), .val (.int v11_l3), .val (.int (r1 v11_l3)), .unset] [(.int v11_l3), (.ref z0_V1_1)])) rfl (by rw [hml]; rfl) (Steps.refl _) (argsL := [(.int v11_l3)]) (rest := []) (lenOf pd_0 rfl) rfl (by show 2 * 0 + _ ≤ _; exact Nat.le_of_eq rfl) (hb hby at_69) (fun _ _ => ⟨rfl, e24, (by decide : 0 + 0 ≤ _), (by decide : 0 + 0 ≤ _)⟩)
      dsimp only [Pt.U, Pt.locs, Pt.cells, Pt.slots] at X26 l26 y26 z26 st26 hQ26
      subst l26 y26 z26
      obtain ⟨rfl, N26q, e26⟩ := hQ26
      have N26 := Fr.app N17 N26q
      have P26 : own_Go p e below S0 (T26.setTop (mkF m 72 #[.val (.int i0), .val (.int i1), .val (.int (i1 &&& (3 : Int32))), .val (.int v11_l3), .val (.int (r1 v11_l3)), .unset] [(.int (r3 v11_l3))])) := fun t k => P25 t (st26.trans k)
      by_cases c27 : (r3 v11_l3) = (0 : Int32)
      · skip
        have P28 : own_Go p e below S0 (T26.setTop (mkF m 114 #[.val (.int i0), .val (.int i1), .val (.int (i1 &&& (3 : Int32))), .val (.int v11_l3), .val (.int (r1 v11_l3)), .val (.int (1 : Int32))] [])) := fun t k => P26 t (by
          show Steps p.tables e below (T26.setTop (mkF m 72 #[.val (.int i0), .val (.int i1), .val (.int (i1 &&& (3 : Int32))), .val (.int v11_l3), .val (.int (r1 v11_l3)), .unset] [(.int (r3 v11_l3))])) t
          refine XS.ifYes X26.here hx rfl (pc0 := 72) (pc' := 91) rfl (hb hby at_72) rfl ((if0 _ _).trans (teq c27).1) (by decide) (by decide) ?_
          refine XS.iconst X26.here hx rfl (hb hby at_91) ?_
          refine XS.goto X26.here hx rfl (pc0 := 92) (pc' := 96) rfl (hb hby at_92) (by decide) (by decide) ?_
          refine XS.istore X26.here hx rfl (hb hby at_96) rfl (l' := #[.val (.int i0), .val (.int i1), .val (.int (i1 &&& (3 : Int32))), .val (.int v11_l3), .val (.int (r1 v11_l3)), .val (.int (1 : Int32))]) rfl ?_
          refine XS.goto X26.here hx rfl (pc0 := 98) (pc' := 114) rfl (hb hby at_98) (by decide) (by decide) ?_
          show Steps p.tables e below (T26.setTop (mkF m 114 #[.val (.int i0), .val (.int i1), .val (.int (i1 &&& (3 : Int32))), .val (.int v11_l3), .val (.int (r1 v11_l3)), .val (.int (1 : Int32))] [])) t
          exact k)
        exact ⟨T26, _, (1 : Int32), X26, e26, N26, (Eq.symm (Eq.trans (if_neg c18) (if_pos c27))), P28⟩
      · skip
        have P29 : own_Go p e below S0 (T26.setTop (mkF m 75 #[.val (.int i0), .val (.int i1), .val (.int (i1 &&& (3 : Int32))), .val (.int v11_l3), .val (.int (r1 v11_l3)), .unset] [])) := fun t k => P26 t (by
          show Steps p.tables e below (T26.setTop (mkF m 72 #[.val (.int i0), .val (.int i1), .val (.int (i1 &&& (3 : Int32))), .val (.int v11_l3), .val (.int (r1 v11_l3)), .unset] [(.int (r3 v11_l3))])) t
          refine XS.ifNo X26.here hx rfl (hb hby at_72) rfl ((if0 _ _).trans (feq c27).1) ?_
          show Steps p.tables e below (T26.setTop (mkF m 75 #[.val (.int i0), .val (.int i1), .val (.int (i1 &&& (3 : Int32))), .val (.int v11_l3), .val (.int (r1 v11_l3)), .unset] [])) t
          exact k)
        obtain ⟨T30, X30, e30, st30⟩ := getS2 X26 hx hZ hown (host := "") (Or.inl (hw _ (List.mem_of_getElem? (i := 5) rfl))) Via.refl e26 S_V1_1 (g := (mkF m 75 #[.val (.int i0), .val (.int i1), .val (.int (i1 &&& (3 : Int32))), .val (.int v11_l3), .val (.int (r1 v11_l3)), .unset] [])) rfl (hb hby at_75)
        have P30 : own_Go p e below S0 (T30.setTop (mkF m 78 #[.val (.int i0), .val (.int i1), .val (.int (i1 &&& (3 : Int32))), .val (.int v11_l3), .val (.int (r1 v11_l3)), .unset] [(.ref z0_V1_1)])) := fun t k => P29 t (st30 _ k)
        have P31 : own_Go p e below S0 (T30.setTop (mkF m 79 #[.val (.int i0), .val (.int i1), .val (.int (i1 &&& (3 : Int32))), .val (.int v11_l3), .val (.int (r1 v11_l3)), .unset] [(.int v11_l3), (.ref z0_V1_1)])) := fun t k => P30 t (by
          show Steps p.tables e below (T30.setTop (mkF m 78 #[.val (.int i0), .val (.int i1), .val (.int (i1 &&& (3 : Int32))), .val (.int v11_l3), .val (.int (r1 v11_l3)), .unset] [(.ref z0_V1_1)])) t
          refine XS.iloadN X30.here hx rfl (hb hby at_78) rfl ?_
          show Steps p.tables e below (T30.setTop (mkF m 79 #[.val (.int i0), .val (.int i1), .val (.int (i1 &&& (3 : Int32))), .val (.int v11_l3), .val (.int (r1 v11_l3)), .unset] [(.int v11_l3), (.ref z0_V1_1)])) t
          exact k)
        obtain ⟨cq32, kq32, q32a, q32b, q32c⟩ := isOf hZ e30 E_z0_V1_1
        obtain ⟨_, _, ⟨T32, L32, k32, n32⟩, -, X32, ⟨Lc32, hQ32, l32, y32, z32⟩, st32⟩ := X30.virtualBack hx (y := (⟨"com/example/splice/splice/XmlVersion", "endsLine", "(I)Z"⟩ : MethodName)) (z := (⟨"com/example/splice/splice/XmlVersion", "endsLine", "(I)Z"⟩ : MethodName)) hown (mvT hZ (hw _ (List.mem_of_getElem? (i := 20) rfl))) (mvT hZ (hw _ (List.mem_of_getElem? (i := 21) rfl))) (notFace_of_selects (args := #[]) (mvT hZ (hw _ (List.mem_of_getElem? (i := 23) rfl)))) (mvT hZ (hw _ (List.mem_of_getElem? (i := 23) rfl))) (mvT hZ (hw _ (List.mem_of_getElem? (i := 22) rfl))) (by decide) (backOf (W := 0) (rm4 l Z a0 hw [] z0_V1_1 v11_l3 h0 n0 Z0 S_V1_1) hZ (hw _ (List.mem_of_getElem? (i := 24) rfl)) (hw _ (List.mem_of_getElem? (i := 3) rfl)) (by decide) (by decide)) q32a q32c (g := (mkF m 79 #[.val (.int i0), .val (.int i1), .val (.int (i1 &&& (3 : Int32))), .val (.int v11_l3), .val (.int (r1 v11_l3)), .unset] [(.int v11_l3), (.ref z0_V1_1)])) rfl (by rw [hml]; rfl) (Steps.refl _) (argsL := [(.int v11_l3)]) (rest := []) (lenOf pd_0 rfl) rfl (by show 2 * 0 + _ ≤ _; exact Nat.le_of_eq rfl) (hb hby at_79) (fun _ _ => ⟨rfl, e30, (by decide : 0 + 0 ≤ _), (by decide : 0 + 0 ≤ _)⟩)
        dsimp only [Pt.U, Pt.locs, Pt.cells, Pt.slots] at X32 l32 y32 z32 st32 hQ32
        subst l32 y32 z32
        obtain ⟨rfl, N32q, e32⟩ := hQ32
        have N32 := Fr.app N26 N32q
        have P32 : own_Go p e below S0 (T32.setTop (mkF m 82 #[.val (.int i0), .val (.int i1), .val (.int (i1 &&& (3 : Int32))), .val (.int v11_l3), .val (.int (r1 v11_l3)), .unset] [(.int (r4 v11_l3))])) := fun t k => P31 t (st32.trans k)
        by_cases c33 : (r4 v11_l3) = (0 : Int32)
        · skip
          have P34 : own_Go p e below S0 (T32.setTop (mkF m 114 #[.val (.int i0), .val (.int i1), .val (.int (i1 &&& (3 : Int32))), .val (.int v11_l3), .val (.int (r1 v11_l3)), .val (.int (0 : Int32))] [])) := fun t k => P32 t (by
            show Steps p.tables e below (T32.setTop (mkF m 82 #[.val (.int i0), .val (.int i1), .val (.int (i1 &&& (3 : Int32))), .val (.int v11_l3), .val (.int (r1 v11_l3)), .unset] [(.int (r4 v11_l3))])) t
            refine XS.ifYes X32.here hx rfl (pc0 := 82) (pc' := 95) rfl (hb hby at_82) rfl ((if0 _ _).trans (teq c33).1) (by decide) (by decide) ?_
            refine XS.iconst X32.here hx rfl (hb hby at_95) ?_
            refine XS.istore X32.here hx rfl (hb hby at_96) rfl (l' := #[.val (.int i0), .val (.int i1), .val (.int (i1 &&& (3 : Int32))), .val (.int v11_l3), .val (.int (r1 v11_l3)), .val (.int (0 : Int32))]) rfl ?_
            refine XS.goto X32.here hx rfl (pc0 := 98) (pc' := 114) rfl (hb hby at_98) (by decide) (by decide) ?_
            show Steps p.tables e below (T32.setTop (mkF m 114 #[.val (.int i0), .val (.int i1), .val (.int (i1 &&& (3 : Int32))), .val (.int v11_l3), .val (.int (r1 v11_l3)), .val (.int (0 : Int32))] [])) t
            exact k)
          exact ⟨T32, _, (0 : Int32), X32, e32, N32, (Eq.symm (Eq.trans (if_neg c18) (Eq.trans (if_neg c27) (if_pos c33)))), P34⟩
        · skip
          have P35 : own_Go p e below S0 (T32.setTop (mkF m 88 #[.val (.int i0), .val (.int i1), .val (.int (i1 &&& (3 : Int32))), .val (.int v11_l3), .val (.int (r1 v11_l3)), .unset] [(.int (10 : Int32)), (.int v11_l3)])) := fun t k => P32 t (by
            show Steps p.tables e below (T32.setTop (mkF m 82 #[.val (.int i0), .val (.int i1), .val (.int (i1 &&& (3 : Int32))), .val (.int v11_l3), .val (.int (r1 v11_l3)), .unset] [(.int (r4 v11_l3))])) t
            refine XS.ifNo X32.here hx rfl (hb hby at_82) rfl ((if0 _ _).trans (feq c33).1) ?_
            refine XS.iloadN X32.here hx rfl (hb hby at_85) rfl ?_
            refine XS.bipush X32.here hx rfl (hb hby at_86) ?_
            show Steps p.tables e below (T32.setTop (mkF m 88 #[.val (.int i0), .val (.int i1), .val (.int (i1 &&& (3 : Int32))), .val (.int v11_l3), .val (.int (r1 v11_l3)), .unset] [(.int (10 : Int32)), (.int v11_l3)])) t
            exact k)
          by_cases c36 : v11_l3 = (10 : Int32)
          · skip
            have P37 : own_Go p e below S0 (T32.setTop (mkF m 114 #[.val (.int i0), .val (.int i1), .val (.int (i1 &&& (3 : Int32))), .val (.int v11_l3), .val (.int (r1 v11_l3)), .val (.int (0 : Int32))] [])) := fun t k => P35 t (by
              show Steps p.tables e below (T32.setTop (mkF m 88 #[.val (.int i0), .val (.int i1), .val (.int (i1 &&& (3 : Int32))), .val (.int v11_l3), .val (.int (r1 v11_l3)), .unset] [(.int (10 : Int32)), (.int v11_l3)])) t
              refine XS.icmpYes X32.here hx rfl (pc0 := 88) (pc' := 95) rfl (hb hby at_88) rfl (teq c36).1 (by decide) (by decide) ?_
              refine XS.iconst X32.here hx rfl (hb hby at_95) ?_
              refine XS.istore X32.here hx rfl (hb hby at_96) rfl (l' := #[.val (.int i0), .val (.int i1), .val (.int (i1 &&& (3 : Int32))), .val (.int v11_l3), .val (.int (r1 v11_l3)), .val (.int (0 : Int32))]) rfl ?_
              refine XS.goto X32.here hx rfl (pc0 := 98) (pc' := 114) rfl (hb hby at_98) (by decide) (by decide) ?_
              show Steps p.tables e below (T32.setTop (mkF m 114 #[.val (.int i0), .val (.int i1), .val (.int (i1 &&& (3 : Int32))), .val (.int v11_l3), .val (.int (r1 v11_l3)), .val (.int (0 : Int32))] [])) t
              exact k)
            exact ⟨T32, _, (0 : Int32), X32, e32, N32, (Eq.symm (Eq.trans (if_neg c18) (Eq.trans (if_neg c27) (Eq.trans (if_neg c33) (if_pos c36))))), P37⟩
          · skip
            have P38 : own_Go p e below S0 (T32.setTop (mkF m 114 #[.val (.int i0), .val (.int i1), .val (.int (i1 &&& (3 : Int32))), .val (.int v11_l3), .val (.int (r1 v11_l3)), .val (.int (1 : Int32))] [])) := fun t k => P35 t (by
              show Steps p.tables e below (T32.setTop (mkF m 88 #[.val (.int i0), .val (.int i1), .val (.int (i1 &&& (3 : Int32))), .val (.int v11_l3), .val (.int (r1 v11_l3)), .unset] [(.int (10 : Int32)), (.int v11_l3)])) t
              refine XS.icmpNo X32.here hx rfl (hb hby at_88) rfl (feq c36).1 ?_
              refine XS.iconst X32.here hx rfl (hb hby at_91) ?_
              refine XS.goto X32.here hx rfl (pc0 := 92) (pc' := 96) rfl (hb hby at_92) (by decide) (by decide) ?_
              refine XS.istore X32.here hx rfl (hb hby at_96) rfl (l' := #[.val (.int i0), .val (.int i1), .val (.int (i1 &&& (3 : Int32))), .val (.int v11_l3), .val (.int (r1 v11_l3)), .val (.int (1 : Int32))]) rfl ?_
              refine XS.goto X32.here hx rfl (pc0 := 98) (pc' := 114) rfl (hb hby at_98) (by decide) (by decide) ?_
              show Steps p.tables e below (T32.setTop (mkF m 114 #[.val (.int i0), .val (.int i1), .val (.int (i1 &&& (3 : Int32))), .val (.int v11_l3), .val (.int (r1 v11_l3)), .val (.int (1 : Int32))] [])) t
              exact k)
            exact ⟨T32, _, (1 : Int32), X32, e32, N32, (Eq.symm (Eq.trans (if_neg c18) (Eq.trans (if_neg c27) (Eq.trans (if_neg c33) (if_neg c36))))), P38⟩
  have c40 : (r1 v11_l3) = v39_l5 := (own_law _).trans (Eq.symm hv39_l5)
  have P41 : own_Go p e below S0 (T39.setTop (mkF m 126 #[.val (.int i0), .val (.int i1), .val (.int (i1 &&& (3 : Int32))), .val (.int v11_l3), .val (.int (r1 v11_l3)), .val (.int v39_l5)] [(.int (1 : Int32))])) := fun t k => P39 t (by
    show Steps p.tables e below (T39.setTop (mkF m 114 #[.val (.int i0), .val (.int i1), .val (.int (i1 &&& (3 : Int32))), .val (.int v11_l3), .val (.int (r1 v11_l3)), .val (.int v39_l5)] [])) t
    refine XS.iload X39.here hx rfl (hb hby at_114) rfl ?_
    refine XS.iload X39.here hx rfl (hb hby at_116) rfl ?_
    refine XS.icmpNo X39.here hx rfl (hb hby at_118) rfl (teq c40).2 ?_
    refine XS.iconst X39.here hx rfl (hb hby at_121) ?_
    refine XS.goto X39.here hx rfl (pc0 := 122) (pc' := 126) rfl (hb hby at_122) (by decide) (by decide) ?_
    show Steps p.tables e below (T39.setTop (mkF m 126 #[.val (.int i0), .val (.int i1), .val (.int (i1 &&& (3 : Int32))), .val (.int v11_l3), .val (.int (r1 v11_l3)), .val (.int v39_l5)] [(.int (1 : Int32))])) t
    exact k)
  obtain ⟨fs, hr, hrun, hended, hW, hsame⟩ := X39.leave (v := some (.int (1 : Int32))) (fun h => by rw [Bd.returns] at h; cases h)
  refine ⟨_, _, own_from hS0 (P41 _ ?_), hrun, hended, _, _, rfl, ?_, ⟨_, rfl⟩, hW, hsame.mono (by decide) (by decide)⟩
  · show Steps p.tables e below (T39.setTop (mkF m 126 #[.val (.int i0), .val (.int i1), .val (.int (i1 &&& (3 : Int32))), .val (.int v11_l3), .val (.int (r1 v11_l3)), .val (.int v39_l5)] [(.int (1 : Int32))])) _
    exact retN X39 hx (t := .boolean) Bd.returns (by simp) (hb hby at_126) hr
  · show Q0 Z i0 i1 z0_V1_1 h0 n0 _ T39.heap _
    rw [e39]
    exact ⟨rfl, N39⟩
set_option maxRecDepth 65536 in
set_option maxHeartbeats 40000000 in
theorem comes_1 {Post : Tables → Env → Array Value → State → Outcome → State → Prop} (hpost : ∀ tb e args s v u, (limb_1_1.after args s (.returned v) u = true ∧ limb_1_2.after args s (.returned v) u = true ∧ True) → FrameEnd s (.returned v) u (Jvm.fieldLocs frame_1_writes args s ++ Jvm.arrayLocs frame_1_arrays args s ++ Jvm.staticLocs frame_1_statics s) 0 0 → Post tb e args s (.returned v) u) :
    ArmFor flags0 classFile x code maxLocals ret World_1 tables_1 room_1 Calls_1 rest_1 Pre_1 Post := by
  intro l hfl _ _ p e ha hc hk s m args below hf hA hF happ hP
  obtain ⟨hcalls, hrest, hpre⟩ := hP
  obtain ⟨-, -, -, hnamed, -, -, -, hat⟩ := (Spec.applies_iff hf).mp happ
  obtain ⟨hg, hn⟩ := and_e (Cond.before_iff.mp (show (Jvm.Cond.and given_1 narrow_1).before args s = true from hpre))
  obtain ⟨ga1, gb1⟩ := and_e hg
  obtain ⟨ga2, gb2⟩ := and_e gb1
  obtain ⟨w0, w1, rfl⟩ : ∃ w0 w1 : Value, args = #[w0, w1] := by
    have hs : args.size = 2 := by simpa [Cond.value, given_1] using ga1
    obtain ⟨L⟩ := args
    match L, hs with
    | [w0, w1], _ => exact ⟨w0, w1, rfl⟩
  have hw := fun d (hd : d ∈ tables_1) => atoms_spec (ws := Jvm.Cond.code x code maxLocals ret :: tables_1) hat d (List.mem_cons_of_mem _ hd)
  have hfit : Fit s := fun {y c} hc i hi => by
    obtain ⟨ha, rfl⟩ := Array.getElem?_eq_some_iff.mp hc
    have q := List.all_eq_true.mp ((Array.all_eq_true_iff_forall_mem.mp hF) _ (Array.getElem_mem ha)) i (List.mem_range.mpr hi)
    simpa [Array.getElem?_eq_getElem hi] using q
  obtain ⟨i0, ei0⟩ := is_v ga2
  obtain rfl : w0 = (.int i0) := Option.some.inj ei0
  obtain ⟨i1, ei1⟩ := is_v gb2
  obtain rfl : w1 = (.int i1) := Option.some.inj ei1
  obtain ⟨z0_V1_1, ev1⟩ := exa_v hn
  have S_V1_1 : Sta s s.heap "com/example/splice/splice/XmlVersion" "V1_1" "Lcom/example/splice/splice/XmlVersion;" (.ref z0_V1_1) := Sta.start ev1 (Or.inr ⟨(hw _ (List.mem_of_getElem? (i := 3) rfl)), (hw _ (List.mem_of_getElem? (i := 6) rfl))⟩)
  have Ex_z0_V1_1 : Exa s s.heap z0_V1_1 "com/example/splice/splice/XmlVersion" := Exa.start ev1 hn
  obtain ⟨n, o, h1, h2, h3, _, L, rfl, ⟨rfl, N⟩, hq⟩ := rm0 l s _ hw tables_1 i0 i1 z0_V1_1 s.heap s.heap.size (Nat.le_refl _) S_V1_1 Ex_z0_V1_1 p e ha hc hk s m _ below hf ((Spec.applies_iff_loose hf).mp happ).1 ⟨rfl, State.Warmed39.refl s, rfl⟩ trivial
  refine ⟨n, _, h1, h2, h3, hpost _ _ _ _ _ _ ⟨Cond.after_iff.mpr rfl, Cond.after_iff.mpr (eq_i res_at (Term.int_eval (1)) rfl), trivial⟩ ⟨hq.1, hq.2.1, (hq.2.2.sift fun y hy => Or.inr (N y hy)).mono (by decide) (by decide)⟩⟩
theorem main_1_1 : Claimed_1_1 := comes_1 fun _ _ _ _ _ _ h hF => ⟨h.1, hF⟩
theorem main_1_2 : Claimed_1_2 := comes_1 fun _ _ _ _ _ _ h hF => ⟨h.2.1, hF⟩
end Jvm.Pilot.@@N@@
namespace Jvm.Pilot.@@N@@
open Jvm Jvm.ClassFile Sem Op Lib Jvm.Free Jvm.Stand Jvm.Pilot.@@N@@.Jvm.D
/-! MADE BY PROGRAM (witnessworld.py) out of the Statement's table words and the real class files: 12 classes; the members and pool entries that the words name. The judged class is class 1, her method 1. -/
namespace start1
open Jvm.ClassFile
def u (s : String) : CpInfo := .utf8 (stringToUtf16 s)
/-- a pool by its gaps: so many unusable entries, then the entry; so many at the end -/
def gap : Nat → List CpInfo → List CpInfo
  | 0, r => r
  | n + 1, r => .unusable :: gap n r
def poolList (es : List (Nat × CpInfo)) (last : Nat) : List CpInfo := es.foldr (fun e r => gap e.1 (e.2 :: r)) (gap last [])
def pool (es : List (Nat × CpInfo)) (last : Nat) : Array CpInfo := ⟨poolList es last⟩
def fileOf (pool : Array CpInfo) (this : Nat) (attrs : Array Attribute := #[]) (ms : Array MethodInfo := #[]) (fl : Nat := 33) (sup : Nat := 0) (ifs : Array Nat := #[]) (fds : Array FieldInfo := #[]) : ClassFile where
  minorVersion := 0
  majorVersion := 65
  constantPool := pool
  accessFlags := fl
  thisClass := this
  superClass := sup
  interfaces := ifs
  fields := fds
  methods := ms
  attributes := attrs
def plain (name : String) (sup : Option ClassId) : Class where
  name := name
  kind := .ordinary
  loader := none
  accessFlags := 33
  super := sup
  interfaces := #[]
  cf := none
  fields := #[]
  methods := #[]
  instanceTypes := #[]
  staticTypes := #[]
  resolved := #[]
  callSites := []
  init := .initialized
  statics := none
  mirror := none

def pool0 : Array CpInfo := pool [(5, u "<init>"), (0, u "()V"), (1, .class_ 10), (1, u "java/lang/Object")] 113

def k0m0 : Method := { name := "<init>", desc := "()V", sig := { parameters := [], returnType := none }, accessFlags := 1, code := none }
/-- java/lang/Object -/
def k0 : Class := { plain "java/lang/Object" none with
  accessFlags := 33
  interfaces := #[]
  cf := some (fileOf pool0 8 #[] #[{ accessFlags := 1, nameIndex := 5, descriptorIndex := 6, attributes := #[] }] 33 0 #[] #[])
  fields := #[]
  methods := #[k0m0]
  instanceTypes := #[]
  staticTypes := #[]
  resolved := Array.replicate 124 none
  statics := none }

def pool1 : Array CpInfo := pool [(2, .class_ 4), (1, u "java/lang/Object"), (0, u "<init>"), (0, u "()V"), (0, .integer 2097151), (0, .methodref 9 10), (0, .class_ 11), (0, .nameAndType 12 13), (0, u "com/example/splice/splice/XmlVersion"), (0, u "needsReference"), (0, u "(I)Z"), (0, .fieldref 9 15), (0, .nameAndType 16 17), (0, u "V1_1"), (0, u "Lcom/example/splice/splice/XmlVersion;"), (0, .methodref 9 19), (0, .nameAndType 20 13), (0, u "allows"), (0, .methodref 9 22), (0, .nameAndType 23 13), (0, u "allowsLiterally"), (0, .methodref 9 25), (0, .nameAndType 26 13), (0, u "endsLine"), (0, .class_ 28), (0, u "com/example/splice/splice/XmlVersionNeedsReferencePinLaw"), (2, u "law"), (0, u "(II)Z")] 3

def k1m0 : Method := { name := "<init>", desc := "()V", sig := { parameters := [], returnType := none }, accessFlags := 1, code := none }
def k1c1 : Code := { maxStack := 3, maxLocals := 6, code := code, exceptionTable := #[], attributes := #[] }
def k1m1 : Method := { name := "law", desc := "(II)Z", sig := { parameters := [.int, .int], returnType := some .boolean }, accessFlags := 9, code := some k1c1 }
/-- com/example/splice/splice/XmlVersionNeedsReferencePinLaw -/
def k1 : Class := { plain "com/example/splice/splice/XmlVersionNeedsReferencePinLaw" (some 0) with
  accessFlags := 49
  interfaces := #[]
  cf := some (fileOf pool1 27 #[] #[{ accessFlags := 1, nameIndex := 5, descriptorIndex := 6, attributes := #[] }, { accessFlags := 9, nameIndex := 31, descriptorIndex := 32, attributes := #[] }] 49 2 #[] #[])
  fields := #[]
  methods := #[k1m0, k1m1]
  instanceTypes := #[]
  staticTypes := #[]
  resolved := Array.replicate 36 none
  statics := none }

def pool2 : Array CpInfo := pool [(1, .class_ 2), (0, u "java/lang/constant/Constable"), (0, .class_ 4), (0, u "java/lang/Object")] 6

/-- java/lang/constant/Constable -/
def k2 : Class := { plain "java/lang/constant/Constable" (some 0) with
  accessFlags := 1537
  interfaces := #[]
  cf := some (fileOf pool2 1 #[] #[] 1537 3 #[] #[])
  fields := #[]
  methods := #[]
  instanceTypes := #[]
  staticTypes := #[]
  resolved := Array.replicate 11 none
  statics := none }

def pool3 : Array CpInfo := pool [(1, .class_ 2), (0, u "java/lang/Comparable"), (0, .class_ 4), (0, u "java/lang/Object")] 7

/-- java/lang/Comparable -/
def k3 : Class := { plain "java/lang/Comparable" (some 0) with
  accessFlags := 1537
  interfaces := #[]
  cf := some (fileOf pool3 1 #[] #[] 1537 3 #[] #[])
  fields := #[]
  methods := #[]
  instanceTypes := #[]
  staticTypes := #[]
  resolved := Array.replicate 12 none
  statics := none }

def pool4 : Array CpInfo := pool [(1, .class_ 2), (0, u "java/io/Serializable"), (0, .class_ 4), (0, u "java/lang/Object")] 2

/-- java/io/Serializable -/
def k4 : Class := { plain "java/io/Serializable" (some 0) with
  accessFlags := 1537
  interfaces := #[]
  cf := some (fileOf pool4 1 #[] #[] 1537 3 #[] #[])
  fields := #[]
  methods := #[]
  instanceTypes := #[]
  staticTypes := #[]
  resolved := Array.replicate 7 none
  statics := none }

def pool5 : Array CpInfo := pool [(2, .class_ 4), (1, u "java/lang/Enum"), (0, u "name"), (0, u "Ljava/lang/String;"), (2, u "ordinal"), (0, u "I"), (1, .class_ 14), (1, u "java/lang/Object"), (4, u "hash"), (86, .class_ 108), (1, u "java/lang/Enum$EnumDesc"), (2, .class_ 112), (0, u "java/lang/constant/Constable"), (0, .class_ 114), (0, u "java/lang/Comparable"), (0, .class_ 116), (0, u "java/io/Serializable")] 87

/-- java/lang/Enum -/
def k5 : Class := { plain "java/lang/Enum" (some 0) with
  accessFlags := 1057
  interfaces := #[2, 3, 4]
  cf := some (fileOf pool5 2 #[.nestMembers #[106]] #[] 1057 12 #[111, 113, 115] #[{ accessFlags := 18, nameIndex := 5, descriptorIndex := 6, attributes := #[] }, { accessFlags := 18, nameIndex := 9, descriptorIndex := 10, attributes := #[] }, { accessFlags := 2, nameIndex := 19, descriptorIndex := 10, attributes := #[] }])
  fields := #[{ name := "name", type := (.object "java/lang/String"), accessFlags := 18, slot := 0, constantValue := 0 }, { name := "ordinal", type := .int, accessFlags := 18, slot := 1, constantValue := 0 }, { name := "hash", type := .int, accessFlags := 2, slot := 2, constantValue := 0 }]
  methods := #[]
  instanceTypes := #[(.object "java/lang/String"), .int, .int]
  staticTypes := #[]
  resolved := Array.replicate 204 none
  statics := none }

def pool6 : Array CpInfo := pool [(1, .class_ 2), (0, u "com/example/splice/splice/XmlVersion"), (2, u "V1_0"), (0, u "Lcom/example/splice/splice/XmlVersion;"), (0, .fieldref 1 8), (0, .nameAndType 9 6), (0, u "V1_1"), (2, u "$VALUES"), (0, u "[Lcom/example/splice/splice/XmlVersion;"), (6, .class_ 22), (1, u "java/lang/Enum"), (8, u "number"), (0, u "Ljava/lang/String;"), (10, .integer 55295), (0, .integer 57344), (0, .integer 65533), (0, .integer 65536), (0, .integer 1114111), (0, .methodref 1 49), (0, .nameAndType 50 51), (0, u "allows"), (0, u "(I)Z"), (24, u "allowsLiterally"), (0, u "endsLine"), (2, u "needsReference")] 20

def k6c0 : Code := { maxStack := 2, maxLocals := 3, code := prog_177_method_7_code, exceptionTable := #[], attributes := #[] }
def k6m0 : Method := { name := "allows", desc := "(I)Z", sig := { parameters := [.int], returnType := some .boolean }, accessFlags := 0, code := some k6c0 }
def k6c1 : Code := { maxStack := 2, maxLocals := 3, code := prog_177_method_8_code, exceptionTable := #[], attributes := #[] }
def k6m1 : Method := { name := "allowsLiterally", desc := "(I)Z", sig := { parameters := [.int], returnType := some .boolean }, accessFlags := 0, code := some k6c1 }
def k6c2 : Code := { maxStack := 2, maxLocals := 2, code := prog_177_method_9_code, exceptionTable := #[], attributes := #[] }
def k6m2 : Method := { name := "endsLine", desc := "(I)Z", sig := { parameters := [.int], returnType := some .boolean }, accessFlags := 0, code := some k6c2 }
def k6c3 : Code := { maxStack := 2, maxLocals := 1, code := prog_177_method_11_code, exceptionTable := #[], attributes := #[] }
def k6m3 : Method := { name := "needsReference", desc := "(I)Z", sig := { parameters := [.int], returnType := some .boolean }, accessFlags := 8, code := some k6c3 }
/-- com/example/splice/splice/XmlVersion -/
def k6 : Class := { plain "com/example/splice/splice/XmlVersion" (some 5) with
  accessFlags := 16432
  interfaces := #[]
  cf := some (fileOf pool6 1 #[] #[{ accessFlags := 0, nameIndex := 50, descriptorIndex := 51, attributes := #[] }, { accessFlags := 0, nameIndex := 76, descriptorIndex := 51, attributes := #[] }, { accessFlags := 0, nameIndex := 77, descriptorIndex := 51, attributes := #[] }, { accessFlags := 8, nameIndex := 80, descriptorIndex := 51, attributes := #[] }] 16432 20 #[] #[{ accessFlags := 16409, nameIndex := 5, descriptorIndex := 6, attributes := #[] }, { accessFlags := 16409, nameIndex := 9, descriptorIndex := 6, attributes := #[] }, { accessFlags := 18, nameIndex := 31, descriptorIndex := 32, attributes := #[] }, { accessFlags := 4122, nameIndex := 12, descriptorIndex := 13, attributes := #[] }])
  fields := #[{ name := "V1_0", type := (.object "com/example/splice/splice/XmlVersion"), accessFlags := 16409, slot := 0, constantValue := 0 }, { name := "V1_1", type := (.object "com/example/splice/splice/XmlVersion"), accessFlags := 16409, slot := 1, constantValue := 0 }, { name := "number", type := (.object "java/lang/String"), accessFlags := 18, slot := 3, constantValue := 0 }, { name := "$VALUES", type := (.array (.object "com/example/splice/splice/XmlVersion")), accessFlags := 4122, slot := 2, constantValue := 0 }]
  methods := #[k6m0, k6m1, k6m2, k6m3]
  instanceTypes := #[(.object "java/lang/String"), .int, .int, (.object "java/lang/String")]
  staticTypes := #[(.object "com/example/splice/splice/XmlVersion"), (.object "com/example/splice/splice/XmlVersion"), (.array (.object "com/example/splice/splice/XmlVersion"))]
  resolved := Array.replicate 101 none
  statics := some 0 }

def pool7 : Array CpInfo := pool [(1, u "java/lang/Cloneable"), (0, .class_ 1), (0, u "java/lang/Object"), (0, .class_ 3)] 3

/-- java/lang/Cloneable -/
def k7 : Class := { plain "java/lang/Cloneable" (some 0) with
  accessFlags := 1537
  interfaces := #[]
  cf := some (fileOf pool7 2 #[] #[] 1537 4 #[] #[])
  fields := #[]
  methods := #[]
  instanceTypes := #[]
  staticTypes := #[]
  resolved := Array.replicate 8 none
  statics := none }

/-- the primitive byte -/
def k8 : Class := { plain "byte" none with kind := .primitive 'B', accessFlags := 0x411 }
/-- [B -/
def k9 : Class := { plain "[B" (some 0) with kind := .array 8 .byte, interfaces := #[7, 4], accessFlags := 1041 }

/-- the primitive int -/
def k10 : Class := { plain "int" none with kind := .primitive 'I', accessFlags := 0x411 }
/-- [I -/
def k11 : Class := { plain "[I" (some 0) with kind := .array 10 .int, interfaces := #[7, 4], accessFlags := 1041 }

def heap : Heap := #[{ cls := 6, slots := #[.null, .ref 1, .null], vm := .statics 6 },
  { cls := 6, slots := #[.null, .int 1, .int 0, .null], vm := .none }]
def classes : Array Class := #[k0, k1, k2, k3, k4, k5, k6, k7, k8, k9, k10, k11]
def interned : List (Array UInt16 × Addr) := []
def slotsUsed : Nat := 7
def theMethod : MethodId := ⟨1, 1⟩
def args0 : Array Value := #[.int 5, .int 3]
def aboutOver (below : List Frame) : State where
  vm := { classes := classes, interned := interned.toArray }
  heap := heap
  slotsUsed := slotsUsed
  threads := #[{ frames := .invoking theMethod args0 :: below }]
def below0 : List Frame := [.native { method := ⟨0, 0⟩, args := #[] }]
def about1 : State := aboutOver below0
def p0 : Program := .bare "" "" ""
def e0 : Env := launch0.env 0 0 0
theorem w_frames : about1.frames = Frame.invoking theMethod args0 :: below0 := rfl
set_option maxRecDepth 65536 in
theorem w_args : argsFit about1.vm theMethod args0 = true := by decide +kernel
set_option maxRecDepth 65536 in
theorem w_heap : heapFits about1 = true := by decide +kernel
set_option maxRecDepth 65536 in
theorem w_runnable : about1.curStatus? = some .runnable := by decide +kernel
set_option maxRecDepth 65536 in
theorem w_alone : about1.alone = true := by decide +kernel
set_option maxRecDepth 65536 in
theorem w_named : about1.methodNamed? x = some theMethod := by decide +kernel
set_option maxRecDepth 65536 in
theorem w_hears : about1.hears theMethod below0 = true := by decide +kernel
set_option maxRecDepth 65536 in
theorem w_ripe : about1.ripe theMethod args0 below0 = true := by decide +kernel
theorem w_running : about1.status = .running := rfl
set_option maxRecDepth 65536 in
theorem w_room : about1.hasRoom e0.platform room_1 = true :=
  launch0.hasRoom_least _ room_1 (by decide +kernel) (by decide +kernel) (by decide +kernel) (by decide +kernel) (by decide +kernel) (by decide +kernel)
theorem allAtoms_all (ts : List Jvm.Cond) (a : Array Jvm.Value) (st : Jvm.State) : (allAtoms ts).before a st = ts.all (fun c => c.before a st) := by
  induction ts with
  | nil => rfl
  | cons c t ih =>
    show (Jvm.Cond.and c (allAtoms t)).before a st = _
    rw [Jvm.Cond.before_and, ih, List.all_cons]
def words1 : List Jvm.Cond := Jvm.Cond.code x code maxLocals ret :: tables_1
/-- a 'code' word, met by the world's own term for the bytes: nothing is compared byte by byte -/
theorem code_word {y : MethodName} {bytes : ByteArray} {mx : Nat} {rt : Option FieldType} {a : Array Value} {s : State} {m : MethodId} {meth : Method} {c : Code} (h1 : s.methodNamed? y = some m) (h2 : s.vm.method? m = some meth) (h3 : meth.code = some c) (h4 : c.code = bytes)
    (h5 : (c.maxLocals == mx && c.exceptionTable.isEmpty && decide (c.maxStack ≤ mostOperands) && decide (meth.sig.returnType = rt) && !meth.locks && decide (parseMethodDescriptor y.desc = some meth.sig)) = true) : (Jvm.Cond.code y bytes mx rt).before a s = true := by
  simp only [Bool.and_eq_true, beq_iff_eq, Bool.not_eq_true', decide_eq_true_eq] at h5
  obtain ⟨⟨⟨⟨⟨g1, g2⟩, g3⟩, g4⟩, g5⟩, g6⟩ := h5
  simp [Cond.before, Cond.holds, Cond.value, h1, h2, h3, h4, g1, g2, g3, g4, g5, g6]
def isCode : Jvm.Cond → Bool
  | .code _ _ _ _ => true
  | _ => false
theorem all_split {L : List Jvm.Cond} {P : Jvm.Cond → Bool} (h1 : L.all (fun c => isCode c || P c) = true) (h2 : ∀ c ∈ L.filter isCode, P c = true) : L.all P = true := by
  refine List.all_eq_true.mpr fun c hc => ?_
  have h := List.all_eq_true.mp h1 c hc
  rcases Bool.eq_false_or_eq_true (isCode c) with hi | hi
  · exact h2 c (List.mem_filter.mpr ⟨hc, hi⟩)
  · simpa [hi] using h
set_option maxRecDepth 65536 in
theorem w_c0 : (Jvm.Cond.code x code maxLocals ret).before args0 about1 = true := code_word (m := ⟨1, 1⟩) (meth := k1m1) (c := k1c1) (by decide +kernel) rfl rfl rfl (by decide +kernel)
set_option maxRecDepth 65536 in
theorem w_c1 : (Jvm.Cond.code ({ cls := "com/example/splice/splice/XmlVersion", name := "needsReference", desc := "(I)Z" } : Jvm.MethodName) prog_177_method_11_code (1 : Nat) (Option.some Jvm.ClassFile.FieldType.boolean)).before args0 about1 = true := code_word (m := ⟨6, 3⟩) (meth := k6m3) (c := k6c3) (by decide +kernel) rfl rfl rfl (by decide +kernel)
set_option maxRecDepth 65536 in
theorem w_c2 : (Jvm.Cond.code ({ cls := "com/example/splice/splice/XmlVersion", name := "allows", desc := "(I)Z" } : Jvm.MethodName) prog_177_method_7_code (3 : Nat) (Option.some Jvm.ClassFile.FieldType.boolean)).before args0 about1 = true := code_word (m := ⟨6, 0⟩) (meth := k6m0) (c := k6c0) (by decide +kernel) rfl rfl rfl (by decide +kernel)
set_option maxRecDepth 65536 in
theorem w_c3 : (Jvm.Cond.code ({ cls := "com/example/splice/splice/XmlVersion", name := "allowsLiterally", desc := "(I)Z" } : Jvm.MethodName) prog_177_method_8_code (3 : Nat) (Option.some Jvm.ClassFile.FieldType.boolean)).before args0 about1 = true := code_word (m := ⟨6, 1⟩) (meth := k6m1) (c := k6c1) (by decide +kernel) rfl rfl rfl (by decide +kernel)
set_option maxRecDepth 65536 in
theorem w_c4 : (Jvm.Cond.code ({ cls := "com/example/splice/splice/XmlVersion", name := "endsLine", desc := "(I)Z" } : Jvm.MethodName) prog_177_method_9_code (2 : Nat) (Option.some Jvm.ClassFile.FieldType.boolean)).before args0 about1 = true := code_word (m := ⟨6, 2⟩) (meth := k6m2) (c := k6c2) (by decide +kernel) rfl rfl rfl (by decide +kernel)
def codes1 : List Jvm.Cond := [Jvm.Cond.code x code maxLocals ret, Jvm.Cond.code ({ cls := "com/example/splice/splice/XmlVersion", name := "needsReference", desc := "(I)Z" } : Jvm.MethodName) prog_177_method_11_code (1 : Nat) (Option.some Jvm.ClassFile.FieldType.boolean), Jvm.Cond.code ({ cls := "com/example/splice/splice/XmlVersion", name := "allows", desc := "(I)Z" } : Jvm.MethodName) prog_177_method_7_code (3 : Nat) (Option.some Jvm.ClassFile.FieldType.boolean), Jvm.Cond.code ({ cls := "com/example/splice/splice/XmlVersion", name := "allowsLiterally", desc := "(I)Z" } : Jvm.MethodName) prog_177_method_8_code (3 : Nat) (Option.some Jvm.ClassFile.FieldType.boolean), Jvm.Cond.code ({ cls := "com/example/splice/splice/XmlVersion", name := "endsLine", desc := "(I)Z" } : Jvm.MethodName) prog_177_method_9_code (2 : Nat) (Option.some Jvm.ClassFile.FieldType.boolean)]
set_option maxRecDepth 65536 in
theorem codes_eq : words1.filter isCode = codes1 := rfl
theorem w_codes : ∀ c ∈ words1.filter isCode, c.before args0 about1 = true := by
  rw [codes_eq]
  intro c hc
  simp only [codes1, List.mem_cons, List.not_mem_nil, or_false] at hc
  rcases hc with rfl | rfl | rfl | rfl | rfl
  · exact w_c0
  · exact w_c1
  · exact w_c2
  · exact w_c3
  · exact w_c4
set_option maxRecDepth 65536 in
theorem w_t1 : (words1.take 24).all (fun c => isCode c || c.before args0 about1) = true := by decide +kernel
set_option maxRecDepth 65536 in
theorem w_t2 : (words1.drop 24).all (fun c => isCode c || c.before args0 about1) = true := by decide +kernel
theorem w_tables : (allAtoms (Jvm.Cond.code x code maxLocals ret :: tables_1)).before args0 about1 = true := by
  rw [allAtoms_all]
  show words1.all (fun c => c.before args0 about1) = true
  refine all_split ?_ w_codes
  rw [← List.take_append_drop 24 words1, List.all_append, w_t1, w_t2]
  rfl
set_option maxRecDepth 65536 in
theorem w_case : (Jvm.Cond.and given_1 narrow_1).before args0 about1 = true := by decide +kernel
theorem w_applies : (headSpec (Jvm.Cond.code x code maxLocals ret :: tables_1) room_1).applies x e0.platform about1 = true :=
  (Spec.applies_iff w_frames).mpr ⟨w_running, w_runnable, w_alone, w_named, w_hears, w_ripe, w_room, w_tables⟩
theorem atStart : AtStart classFile x code maxLocals ret World_1 tables_1 room_1 Calls_1 rest_1 Pre_1 launch0 p0 e0 about1 theMethod args0 below0 :=
  ⟨lists_1, trivial, launch0.admits_env _ _ _, launch0.least_env, fairChoices_fair.cas, fairChoices_fair.clock, w_frames, w_args, w_heap, w_applies, trivial, trivial, w_case⟩
end start1
theorem witness_1 : WitnessClaimed_1 := ⟨start1.p0, start1.e0, start1.about1, start1.theMethod, start1.args0, start1.below0, start1.atStart⟩
end Jvm.Pilot.@@N@@
