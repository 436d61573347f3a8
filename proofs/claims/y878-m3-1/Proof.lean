import JvmDerived
import JvmDerived.Pilot.@@N@@Statement
import JvmDerived.Pilot.@@N@@Code
set_option linter.unusedVariables false
set_option linter.unusedSimpArgs false
namespace Jvm.RoadKit
open Sem ClassFile Op Lib Jvm.Stand Jvm.Free Jvm.LawKit
section New
variable {p : Program} {l : Launch} {e : Env} {R : Room} {s : State} {m : MethodId} {args : Array Value} {below : List Frame} {meth : Method} {c : Code} {T : State} {locs : List Loc} {cells slots : Nat}
theorem retI (X : Stand p l e R s m args below meth c T locs cells slots) (hx : p.tables.exec = Jvm.exec) {pc : Nat} {Ls : Array Slot} {z : Int32} {rest : List Value} (hret : meth.sig.returnType = some .int) (hd : decode c.code pc = .ok (.ireturn, 1)) {fs : List Frame}
    (hl : ∀ (f : JFrame) (acts : List Action), f.method = m → f.locked = none → f.entered = [] → (doReturn e (T.setTop f) acts (some (.int z))).1 = T.setFrames fs) : Steps p.tables e below (T.setTop (mkF m pc Ls (.int z :: rest))) (T.setFrames fs) := by
  have hm' : T.vm.method? m = some meth := X.method'
  have hn : narrow .int (.int z) = .int z := rfl
  show Steps p.tables e below (T.setTop { method := m, pc := pc, locals := Ls, stack := _ :: rest, locked := none }) _
  jvm_step X.here [X.here.top, hx, hd, hm', hret, hn]
  first | (intro acts; rw [hl _ acts rfl rfl rfl]) | rw [hl _ _ rfl rfl rfl]
  exact Steps.refl _
end New
end Jvm.RoadKit
namespace Jvm.Pilot.@@N@@
open Jvm Jvm.ClassFile Sem Op Lib Jvm.Free Jvm.Stand Jvm.LawKit Jvm.RoadKit Bundle Jvm.Pilot.@@N@@.Jvm.D
abbrev own_Go (p : Program) (e : Env) (below : List Frame) (A B : State) : Prop := ∀ t, Steps p.tables e below B t → Steps p.tables e below A t
theorem own_from {p : Program} {e : Env} {below : List Frame} {A B t : State} (h : A = B) (k : Steps p.tables e below A t) : Steps p.tables e below B t := h ▸ k
theorem own_ite1 {P : Prop} [Decidable P] (h : P) : ¬ ((if P then (1 : Int32) else (0 : Int32)) = (0 : Int32)) := by rw [if_pos h]; decide
theorem own_ite0 {P : Prop} [Decidable P] (h : ¬ P) : (if P then (1 : Int32) else (0 : Int32)) = (0 : Int32) := if_neg h
def own_Pl (h : Heap) (a : Addr) : Prop := ∃ c : Cell, h[a]? = some c ∧ c.vm.isStatics = false
theorem own_plE {Z : State} {h : Heap} {a : Addr} {C : String} (F : Exa Z h a C) : own_Pl h a := by obtain ⟨cell, k, h1, _, _, h4, _⟩ := F; exact ⟨cell, h1, h4⟩
theorem own_plF {Z : State} {h : Heap} {a : Addr} {C n d : String} {v : Value} (F : Fld Z h a C n d v) : own_Pl h a := by obtain ⟨cell, cf, k, i, f, h1, _, _, _, h5, _⟩ := F; exact ⟨cell, h1, h5⟩
theorem own_plA {Z : State} {h : Heap} {a : Addr} {k : ClassId} {ty : FieldType} {n : Int32} {vs : List Value} {d : Value} (F : Arv Z h a k ty n vs d) : own_Pl h a := by obtain ⟨c, A, _⟩ := F; exact ⟨c, A.1, A.plain⟩
theorem own_staK {Z : State} {h h' : Heap} {C n d : String} {v : Value} {ws : List Addr} (F : Sta Z h C n d v) (K : Keep h h' ws) (q : ∀ x ∈ ws, own_Pl h x) : Sta Z h' C n d v := by
  obtain ⟨cf, i, k, f, st, cell, h1, h2, h3, h4, h5, h6, h7⟩ := F
  refine ⟨cf, i, k, f, st, cell, h1, h2, h3, h4, K.2.1 st cell h5 fun z => ?_, h6, h7⟩
  obtain ⟨c, q1, q2⟩ := q st z
  cases h5.symm.trans q1
  rw [h6] at q2; cases q2
theorem own_insK {Z : State} {h h' : Heap} {a : Addr} {C : String} {bo : Bool} {ws : List Addr} (F : Ins Z h a C bo) (K : Keep h h' ws) : Ins Z h' a C bo := by
  obtain ⟨cell, cT, h1, h2, h3⟩ := F
  obtain ⟨c', q1, q2, q3, q4⟩ := K.2.2 a cell h1
  exact ⟨c', cT, q1, h2, by rw [q2, q3]; exact h3⟩
theorem own_atI {c : Cell} {vs : List Value} {d : Value} {ty : FieldType} {j : Int32} (H : Has c vs d) (G : ∀ i, i < c.slots.size → fits ty (vs.getD i d) = true) (q : ¬ (j < 0 ∨ c.slots.size ≤ j.toNatClampNeg)) (ht : ty = .int ∨ ty = .boolean ∨ ty = .byte ∨ ty = .char ∨ ty = .short) : ∃ z, c.slots[j.toNatClampNeg]? = some (.int z) := by
  have hlt := Nat.lt_of_not_le fun y => q (Or.inr y)
  obtain ⟨z, hz⟩ := fit_I (G _ hlt) ht
  exact ⟨z, by rw [H _ hlt, hz]⟩
theorem own_selp {s : State} {args : Array Value} {y : MethodName} {n : Nat} (wi : (Jvm.Cond.instantiable y.cls n).before args s = true) (hp : s.PrivateAt y) (hinst : (Jvm.Cond.instanceMethod y).before args s = true) (hy : y.cls ≠ "java/lang/invoke/MethodHandle" ∧ y.cls ≠ "java/lang/invoke/VarHandle") : (Jvm.Cond.selects y.cls y y).before args s = true := by
  obtain ⟨c, k, h1, h2, -, h4, -⟩ := Cond.instantiable_spec wi
  rw [Bool.or_eq_false_iff] at h4
  exact selects_self_of_private h1 h2 h4.1 hp hinst hy
theorem own_cat {v : Value} (h : v.isRef = true) : v.category = 1 := by cases v <;> simp [Value.isRef, Value.category] at h ⊢
theorem own_w {a0 : Array Value} {Z : State} (hw : ∀ d ∈ tables_1, d.before a0 Z = true) {d : Jvm.Cond} (i : Nat) (h : tables_1[i]? = some d) : d.before a0 Z = true := hw _ (List.mem_of_getElem? h)
theorem own_wS {Z : State} {a0 : Array Value} (hw : ∀ d ∈ tables_1, d.before a0 Z = true) : ∀ a ∈ Bundle.stringAtoms, a.before a0 Z = true := by
  intro a ha
  simp only [Bundle.stringAtoms, List.mem_cons, List.not_mem_nil, or_false] at ha
  rcases ha with rfl | rfl | rfl | rfl | rfl | rfl | rfl
  · exact (own_w hw 7 rfl)
  · exact (own_w hw 6 rfl)
  · exact (own_w hw 19 rfl)
  · exact (own_w hw 20 rfl)
  · exact (own_w hw 21 rfl)
  · exact (own_w hw 22 rfl)
  · exact (own_w hw 23 rfl)
def own_EL : List (String × Nat) := [("java/lang/String", 7)]
theorem own_EW {Z : State} {a0 : Array Value} (hw : ∀ d ∈ tables_1, d.before a0 Z = true) : EW Z a0 own_EL := (EW.cons (own_w hw 18 rfl) (by decide) EW.nil)
theorem own_fold {s Z U : State} {vm0 : Vm} {k0 : Nat} {own : String} {cc : ClassId} (hS : s.Since vm0 k0) (h2 : (s.setVm vm0).Since U.vm U.heap.size) (hk : k0 ≤ U.heap.size) (hZ : Z.Warmed39 vm0) (hown : vm0.findClass own = some cc) : s.Since U.vm U.heap.size ∧ Z.Warmed39 (s.setVm U.vm).vm ∧ (s.setVm U.vm).vm.findClass own = some cc :=
  ⟨hS.trans h2 hk, State.Warmed39.trans (t := s.setVm vm0) hZ h2.1, by rw [show (s.setVm U.vm).vm = U.vm from rfl, h2.1.alike.findClass]; exact hown⟩
theorem own_flat {p : Program} {l : Launch} {e : Env} {R : Room} {s : State} {v1 v2 : Vm} {m : MethodId} {args : Array Value} {below : List Frame} {meth : Method} {c : Code} {T : State} {locs : List Loc} {cells slots : Nat} (X : Stand p l e R ((s.setVm v1).setVm v2) m args below meth c T locs cells slots) : Stand p l e R (s.setVm v2) m args below meth c T locs cells slots := X
theorem own_backOfSC {p : Program} {l : Launch} {e : Env} {R : Room} {s : State} {args : Array Value} {below : List Frame} {Z : State} {a0 : Array Value} {h : Heap} {vm0 : Vm} {y : MethodName} {bytes : ByteArray} {maxL : Nat} {ret : Option FieldType} {rm : Room} {len W : Nat} {as' : Array Value} {b : Addr} {EL : List (String × Nat)} {Q : Option Value → Heap → List Loc → Prop}
    (hM : MetFree l y (head1 [Cond.code y bytes maxL ret] rm) (fun a U => a = as' ∧ Z.Warmed39 U.vm ∧ U.heap = h ∧ CHv Z EL U.vm h ∧ Safe Z EL U.vm h b) (fun _ _ _ _ _ => True) (fun _ U o U' => ∃ v L, o = .returned v ∧ Q v U'.heap L ∧ ReturnedEndW U o U' L rm.cells rm.slots))
    (hZ : Z.Warmed39 vm0) (wc : (Jvm.Cond.code y bytes maxL ret).before a0 Z = true) (wz : (Jvm.Cond.initialized y.cls).before a0 Z = true) (hf : rm.frames + 1 ≤ R.frames) (hl : W + (maxL + 11) + rm.locals ≤ R.locals) (hEL : EW Z a0 EL) (H : CHv Z EL vm0 h) (hb : b < h.size) (hs : Safe Z EL vm0 h b) :
    BackS l R p e below (s.setVm vm0) args y len W (fun A a => a = as' ∧ A.U.heap = h ∧ A.cells + rm.cells ≤ R.cells ∧ A.slots + rm.slots ≤ R.slots)
      (fun A _ v B => ∃ L, Q v B.U.heap L ∧ B.locs = A.locs ++ L ∧ B.cells = A.cells + rm.cells ∧ B.slots = A.slots + rm.slots) :=
  BackS.of_freeW (bytes := bytes) (maxL := maxL) (ret := ret) (E := fun _ _ o t L k n => k = rm.cells ∧ n = rm.slots ∧ ∃ v, o = .returned v ∧ Q v t.heap L) hM hf hl
    (fun m meth c A a Y hp => have hU : Z.Warmed39 A.U.vm := wtrans (s := s.setVm vm0) hZ Y.warmed
      ⟨by show (Jvm.Cond.and _ .tt).before a A.U = true; rw [Cond.before_and, mv hU wc]; rfl, mv hU wc, mv hU wz, hp.2.2.1, hp.2.2.2⟩)
    (fun m meth c A a g mk Y hp => ⟨hp.1, wtrans (s := s.setVm vm0) hZ Y.warmed, hp.2.1, (CHv.at Y hZ hEL H).1, (CHv.at Y hZ hEL H).safe hb hs⟩) (fun _ _ _ _ _ _ _ _ _ => trivial)
    (fun _ _ _ _ ⟨v, L, h1, h2, h3⟩ => ⟨L, _, _, h3, rfl, rfl, v, h1, h2⟩)
    (fun m meth c A a g mk v t L k n Y hp _ _ ⟨e1, e2, v', e3, e4⟩ => by cases e3; subst e1 e2; exact ⟨L, e4, rfl, rfl, rfl⟩)
theorem own_mod5 (x : Int32) : ((x &&& (2147483647 : Int32)) % (5 : Int32)) = (0 : Int32) ∨ ((x &&& (2147483647 : Int32)) % (5 : Int32)) = (1 : Int32) ∨ ((x &&& (2147483647 : Int32)) % (5 : Int32)) = (2 : Int32) ∨ ((x &&& (2147483647 : Int32)) % (5 : Int32)) = (3 : Int32) ∨ ((x &&& (2147483647 : Int32)) % (5 : Int32)) = (4 : Int32) := by
  have h := c_mask x 2147483647 31 (by decide) (by decide)
  have h2 := (c_irem (x &&& (2147483647 : Int32)) 5 5 (by decide)).1 (by omega)
  have e0 : (0 : Int32).toInt = 0 := by decide
  have e1 : (1 : Int32).toInt = 1 := by decide
  have e2 : (2 : Int32).toInt = 2 := by decide
  have e3 : (3 : Int32).toInt = 3 := by decide
  have e4 : (4 : Int32).toInt = 4 := by decide
  simp only [← Int32.toInt_inj]
  omega
theorem own_byte (x : Int32) : ∃ i : Fin 256, (x &&& (255 : Int32)) = Int32.ofInt (i.1 : Int) := by
  have a := c_mask x 255 8 (by decide) (by decide)
  refine ⟨⟨(x.toInt % 256).toNat, by omega⟩, ?_⟩
  apply Int32.toInt_inj.mp
  rw [a, Int32.toInt_ofInt_of_le (by omega) (by omega)]
  show x.toInt % 256 = (((x.toInt % 256).toNat : Nat) : Int)
  omega
theorem own_hx {n x : Int32} (h : n = ((x &&& (255 : Int32)).toUInt32.toUInt16.toUInt32.toInt32)) : ¬ ((255 : Int32) < (nar .char n)) := by
  rw [h, i2c_mask]
  obtain ⟨i, e⟩ := own_byte x
  rw [e]
  have q : ∀ i : Fin 256, ¬ ((255 : Int32) < (nar .char (Int32.ofInt (i.1 : Int)))) := by decide +kernel
  exact q i
theorem own_nb {n x : Int32} (h : n = ((x &&& (255 : Int32)).toUInt32.toUInt16.toUInt32.toInt32)) : (nar .byte ((nar .char n).toInt8.toInt32) = (42 : Int32) ↔ n = (42 : Int32)) ∧ (nar .byte ((nar .char n).toInt8.toInt32) = (63 : Int32) ↔ n = (63 : Int32)) := by
  rw [h, i2c_mask]
  obtain ⟨i, e⟩ := own_byte x
  rw [e]
  have q : ∀ i : Fin 256, (nar .byte ((nar .char (Int32.ofInt (i.1 : Int))).toInt8.toInt32) = (42 : Int32) ↔ (Int32.ofInt (i.1 : Int)) = (42 : Int32)) ∧ (nar .byte ((nar .char (Int32.ofInt (i.1 : Int))).toInt8.toInt32) = (63 : Int32) ↔ (Int32.ofInt (i.1 : Int)) = (63 : Int32)) := by decide +kernel
  exact q i
theorem own_cs {args : Array Value} {s : State} {t : Term} {z : Int32} (ev : t.eval args s none [] s = some (.int z)) (h : (Jvm.Cond.not (Jvm.Cond.eq t (Jvm.Term.int (0 : Int32)))).before args s = true) : ¬ (z = (0 : Int32)) := fun e => by
  have h1 := not_v (Cond.before_iff.mp h)
  rw [eq_i ev (Term.int_eval (0)) (by rw [e])] at h1
  cases h1
theorem own_3 (n : Int32) : n = (42 : Int32) ∨ n = (63 : Int32) ∨ (n ≠ (42 : Int32) ∧ n ≠ (63 : Int32)) := by
  by_cases a : n = (42 : Int32)
  · exact Or.inl a
  · by_cases b : n = (63 : Int32)
    · exact Or.inr (Or.inl b)
    · exact Or.inr (Or.inr ⟨a, b⟩)

theorem pn_18 : plainName "java/lang/StringUTF16" = true := by first | (simp [plainName, overriddenIn]; done) | decide +kernel
theorem d18_0 : decode jdk_52_method_21_code 0 = .ok (.iconst 0, 1) := by decide +kernel
theorem d18_1 : decode jdk_52_method_21_code 1 = .ok (.istore 5, 2) := by decide +kernel
theorem d18_3 : decode jdk_52_method_21_code 3 = .ok (.iload 5, 2) := by decide +kernel
theorem d18_5 : decode jdk_52_method_21_code 5 = .ok (.iload 4, 2) := by decide +kernel
theorem d18_7 : decode jdk_52_method_21_code 7 = .ok (.if_icmp .ge 37, 3) := by decide +kernel
theorem d18_10 : decode jdk_52_method_21_code 10 = .ok (.aload_n 0, 1) := by decide +kernel
theorem d18_11 : decode jdk_52_method_21_code 11 = .ok (.iload_n 1, 1) := by decide +kernel
theorem d18_12 : decode jdk_52_method_21_code 12 = .ok (.caload, 1) := by decide +kernel
theorem d18_13 : decode jdk_52_method_21_code 13 = .ok (.istore 6, 2) := by decide +kernel
theorem d18_15 : decode jdk_52_method_21_code 15 = .ok (.iload 6, 2) := by decide +kernel
theorem d18_17 : decode jdk_52_method_21_code 17 = .ok (.sipush 255, 3) := by decide +kernel
theorem d18_20 : decode jdk_52_method_21_code 20 = .ok (.if_icmp .le 6, 3) := by decide +kernel
theorem d18_26 : decode jdk_52_method_21_code 26 = .ok (.aload_n 2, 1) := by decide +kernel
theorem d18_27 : decode jdk_52_method_21_code 27 = .ok (.iload_n 3, 1) := by decide +kernel
theorem d18_28 : decode jdk_52_method_21_code 28 = .ok (.iload 6, 2) := by decide +kernel
theorem d18_30 : decode jdk_52_method_21_code 30 = .ok (.i2b, 1) := by decide +kernel
theorem d18_31 : decode jdk_52_method_21_code 31 = .ok (.bastore, 1) := by decide +kernel
theorem d18_32 : decode jdk_52_method_21_code 32 = .ok (.iinc 1 1, 3) := by decide +kernel
theorem d18_35 : decode jdk_52_method_21_code 35 = .ok (.iinc 3 1, 3) := by decide +kernel
theorem d18_38 : decode jdk_52_method_21_code 38 = .ok (.iinc 5 1, 3) := by decide +kernel
theorem d18_41 : decode jdk_52_method_21_code 41 = .ok (.goto (-38), 3) := by decide +kernel
theorem d18_44 : decode jdk_52_method_21_code 44 = .ok (.iload 4, 2) := by decide +kernel
theorem d18_46 : decode jdk_52_method_21_code 46 = .ok (.ireturn, 1) := by decide +kernel
theorem ef_18s1 (m : MethodId) (qc : Addr) (qb : Addr) : entryFrame m #[(.ref qc), (.int 0), (.ref qb), (.int 0), (.int 1)] 7 = mkF m 0 #[.val (.ref qc), .val (.int 0), .val (.ref qb), .val (.int 0), .val (.int 1), .unset, .unset] [] := by first | (simp [entryFrame, mkF, argsToLocals, Value.category]; done) | rfl
def Q18s1 (Z : State) (qc : Addr) (qb : Addr) (kc : ClassId) (kb : ClassId) (x0 : Int32) (h0 : Heap) (n0 : Nat) (v : Option Value) (h : Heap) (L : List Loc) : Prop := v = some (.int 1) ∧ Fr n0 L ∧ Keep h0 h [qb] ∧ Arv Z h qb kb .byte (1 : Int32) [(.int (nar .byte (x0.toInt8.toInt32)))] (.int 0)
set_option maxRecDepth 65536 in
set_option maxHeartbeats 40000000 in
theorem rm18s1 (l : Launch) (Z : State) (a0 : Array Value) (hw : ∀ d ∈ tables_1, d.before a0 Z = true) (ws : List Jvm.Cond) (qc : Addr) (qb : Addr) (kc : ClassId) (kb : ClassId) (x0 : Int32) (h0 : Heap) (n0 : Nat) (Z0 : n0 ≤ h0.size) (A_qc : Arv Z h0 qc kc .char (1 : Int32) [(.int x0)] (.int 0)) (A_qb : Arv Z h0 qb kb .byte (1 : Int32) [(.int 0)] (.int 0)) (hx0 : ¬ ((255 : Int32) < x0)) (g_qb : n0 ≤ qb) :
    MetFree l (⟨"java/lang/StringUTF16", "compress", "([CI[BII)I"⟩ : MethodName) (head1 (Jvm.Cond.code (⟨"java/lang/StringUTF16", "compress", "([CI[BII)I"⟩ : MethodName) jdk_52_method_21_code 7 (some .int) :: ws) ({ frames := 0, cells := 0, slots := 0, locals := 0 } : Room)) (fun a U => a = #[(.ref qc), (.int 0), (.ref qb), (.int 0), (.int 1)] ∧ Z.Warmed39 U.vm ∧ U.heap = h0) (fun _ _ _ _ _ => True) (fun _ U o U' => ∃ v L, o = .returned v ∧ Q18s1 Z qc qb kc kb x0 h0 n0 v U'.heap L ∧ FrameEnd U o U' L ({ frames := 0, cells := 0, slots := 0, locals := 0 } : Room).cells ({ frames := 0, cells := 0, slots := 0, locals := 0 } : Room).slots) := by
  refine MetFree.of_bodySF (plainFor_of_name pn_18) hisR ?_
  intro p e s m args below meth c s₁ Bd hml0 hP hK
  obtain ⟨rfl, hZ, hh⟩ := hP
  have hx := Bd.exec
  have hby := Bd.bytes
  have hml : c.maxLocals = 7 := hml0
  have hown : s.vm.findClass "java/lang/StringUTF16" = some m.cls := findClass_of_methodNamed Bd.named
  have hnm := (name_of_methodNamed Bd.named Bd.method).1
  have X0 : Stand p l e ({ frames := 0, cells := 0, slots := 0, locals := 0 } : Room) s m #[(.ref qc), (.int 0), (.ref qb), (.int 0), (.int 1)] below meth c s₁ [] 0 0 := Stand.of_body Bd
  have e0 : s₁.heap = h0 := by rw [← hh, Bd.state]; rfl
  have N0 := Fr.nil n0
  obtain ⟨S0, hE0⟩ : ∃ z, z = s₁.setTop (entryFrame m #[(.ref qc), (.int 0), (.ref qb), (.int 0), (.int 1)] 7) := ⟨_, rfl⟩
  have P0 : own_Go p e below S0 (s₁.setTop (mkF m 0 #[.val (.ref qc), .val (.int 0), .val (.ref qb), .val (.int 0), .val (.int 1), .unset, .unset] [])) := fun t k => by rw [hE0]; exact castTop (ef_18s1 m qc qb) k
  obtain ⟨cl1, Ar1, q1, Sz1, Nn1, Hh1, Gg1⟩ := id A_qc
  have hin1 : ¬ ((0 : Int32) < 0 ∨ cl1.slots.size ≤ ((0 : Int32)).toNatClampNeg) := inb_of Sz1 ⟨by decide, by decide⟩
  have hat1 : cl1.slots[((0 : Int32)).toNatClampNeg]? = some (.int x0) := Has.at Hh1 hin1 rfl
  have c2 : ¬ ((255 : Int32) < x0) := hx0
  have P3 : own_Go p e below S0 (s₁.setTop (mkF m 31 #[.val (.ref qc), .val (.int 0), .val (.ref qb), .val (.int 0), .val (.int 1), .val (.int 0), .val (.int x0)] [(.int (x0.toInt8.toInt32)), (.int 0), (.ref qb)])) := fun t k => P0 t (by
    refine XS.iconst X0.here hx rfl (hb hby d18_0) ?_
    refine XS.istore X0.here hx rfl (hb hby d18_1) rfl (l' := #[.val (.ref qc), .val (.int 0), .val (.ref qb), .val (.int 0), .val (.int 1), .val (.int 0), .unset]) rfl ?_
    refine XS.iload X0.here hx rfl (hb hby d18_3) rfl ?_
    refine XS.iload X0.here hx rfl (hb hby d18_5) rfl ?_
    refine XS.icmpNo X0.here hx rfl (hb hby d18_7) rfl (tlt (by decide)).2.1 ?_
    refine XS.aloadN X0.here hx rfl (hb hby d18_10) rfl rfl ?_
    show Steps p.tables e below (s₁.setTop (mkF m 11 #[.val (.ref qc), .val (.int 0), .val (.ref qb), .val (.int 0), .val (.int 1), .val (.int 0), .unset] [(.ref qc)])) t
    refine XS.iloadN X0.here hx rfl (hb hby d18_11) rfl ?_
    show Steps p.tables e below (s₁.setTop (mkF m 12 #[.val (.ref qc), .val (.int 0), .val (.ref qb), .val (.int 0), .val (.int 1), .val (.int 0), .unset] [(.int 0), (.ref qc)])) t
    refine X0.caload hx (j := (0 : Int32)) (v := (.int x0)) (by rw [e0]; exact Ar1.1) (State.isArrayOf_alike hZ.alike Ar1.2.1) Ar1.2.2 hin1 hat1 (g := (mkF m 12 #[.val (.ref qc), .val (.int 0), .val (.ref qb), .val (.int 0), .val (.int 1), .val (.int 0), .unset] [(.int 0), (.ref qc)])) rfl rfl (hb hby d18_12) _ ?_
    refine XS.istore X0.here hx rfl (hb hby d18_13) rfl (l' := #[.val (.ref qc), .val (.int 0), .val (.ref qb), .val (.int 0), .val (.int 1), .val (.int 0), .val (.int x0)]) rfl ?_
    refine XS.iload X0.here hx rfl (hb hby d18_15) rfl ?_
    refine XS.sipush X0.here hx rfl (hb hby d18_17) ?_
    refine XS.icmpYes X0.here hx rfl (pc0 := 20) (pc' := 26) rfl (hb hby d18_20) rfl (flt c2).2.2.2 (by decide) (by decide) ?_
    show Steps p.tables e below (s₁.setTop (mkF m 26 #[.val (.ref qc), .val (.int 0), .val (.ref qb), .val (.int 0), .val (.int 1), .val (.int 0), .val (.int x0)] [])) t
    refine XS.aloadN X0.here hx rfl (hb hby d18_26) rfl rfl ?_
    refine XS.iloadN X0.here hx rfl (hb hby d18_27) rfl ?_
    refine XS.iload X0.here hx rfl (hb hby d18_28) rfl ?_
    refine XS.i2b X0.here hx rfl (hb hby d18_30) rfl ?_
    show Steps p.tables e below (s₁.setTop (mkF m 31 #[.val (.ref qc), .val (.int 0), .val (.ref qb), .val (.int 0), .val (.int 1), .val (.int 0), .val (.int x0)] [(.int (x0.toInt8.toInt32)), (.int 0), (.ref qb)])) t
    exact k)
  obtain ⟨cl5, Ar5, q5, Sz5, Nn5, Hh5, Gg5⟩ := id A_qb
  have hin5 : ¬ ((0 : Int32) < 0 ∨ cl5.slots.size ≤ ((0 : Int32)).toNatClampNeg) := inb_of Sz5 ⟨by decide, by decide⟩
  obtain ⟨T4, h4, X4, e4, W4, st4⟩ := stB X0 hx hZ e0 Ar5 (j := (0 : Int32)) hin5 (g := (mkF m 31 #[.val (.ref qc), .val (.int 0), .val (.ref qb), .val (.int 0), .val (.int 1), .val (.int 0), .val (.int x0)] [(.int (x0.toInt8.toInt32)), (.int 0), (.ref qb)])) rfl rfl (hb hby d18_31)
  have K4 : Keep h0 h4 [qb] := (Keep.refl h0 [qb]).wr W4 (Or.inl (by simp))
  have N4 := Fr.snoc X4 N0 g_qb
  have V4 : Arv Z h4 qb kb .byte (1 : Int32) [(.int (nar .byte (x0.toInt8.toInt32)))] (.int 0) := Arv.set Ar5 q5 Sz5 Nn5 Hh5 Gg5 (fits_nar_byte _) W4 0 rfl (Nat.le_of_ble_eq_true rfl)
  have P4 : own_Go p e below S0 (T4.setTop (mkF m 32 #[.val (.ref qc), .val (.int 0), .val (.ref qb), .val (.int 0), .val (.int 1), .val (.int 0), .val (.int x0)] [])) := fun t k => P3 t (st4 _ k)
  have P6 : own_Go p e below S0 (T4.setTop (mkF m 46 #[.val (.ref qc), .val (.int 1), .val (.ref qb), .val (.int 1), .val (.int 1), .val (.int 1), .val (.int x0)] [(.int 1)])) := fun t k => P4 t (by
    refine XS.iinc X4.here hx rfl (hb hby d18_32) rfl (l' := #[.val (.ref qc), .val (.int 1), .val (.ref qb), .val (.int 0), .val (.int 1), .val (.int 0), .val (.int x0)]) rfl ?_
    refine XS.iinc X4.here hx rfl (hb hby d18_35) rfl (l' := #[.val (.ref qc), .val (.int 1), .val (.ref qb), .val (.int 1), .val (.int 1), .val (.int 0), .val (.int x0)]) rfl ?_
    refine XS.iinc X4.here hx rfl (hb hby d18_38) rfl (l' := #[.val (.ref qc), .val (.int 1), .val (.ref qb), .val (.int 1), .val (.int 1), .val (.int 1), .val (.int x0)]) rfl ?_
    refine XS.goto X4.here hx rfl (pc0 := 41) (pc' := 3) rfl (hb hby d18_41) (by decide) (by decide) ?_
    refine XS.iload X4.here hx rfl (hb hby d18_3) rfl ?_
    refine XS.iload X4.here hx rfl (hb hby d18_5) rfl ?_
    show Steps p.tables e below (T4.setTop (mkF m 7 #[.val (.ref qc), .val (.int 1), .val (.ref qb), .val (.int 1), .val (.int 1), .val (.int 1), .val (.int x0)] [(.int 1), (.int 1)])) t
    refine XS.icmpYes X4.here hx rfl (pc0 := 7) (pc' := 44) rfl (hb hby d18_7) rfl (flt (by decide)).2.1 (by decide) (by decide) ?_
    refine XS.iload X4.here hx rfl (hb hby d18_44) rfl ?_
    show Steps p.tables e below (T4.setTop (mkF m 46 #[.val (.ref qc), .val (.int 1), .val (.ref qb), .val (.int 1), .val (.int 1), .val (.int 1), .val (.int x0)] [(.int 1)])) t
    exact k)
  obtain ⟨fs, hr, hrun, hended, hW, hsame⟩ := X4.leave (v := some (.int 1)) (fun h => by rw [Bd.returns] at h; cases h) (BodyLoose.notSynchronized Bd)
  refine ⟨_, _, own_from hE0 (P6 _ ?_), hrun, hended, _, _, rfl, ?_, ⟨_, rfl⟩, hW, hsame.mono (by decide) (by decide)⟩
  · show Steps p.tables e below (T4.setTop (mkF m 46 #[.val (.ref qc), .val (.int 1), .val (.ref qb), .val (.int 1), .val (.int 1), .val (.int 1), .val (.int x0)] [(.int 1)])) _
    exact retI X4 hx Bd.returns (hb hby d18_46) hr
  · show Q18s1 Z qc qb kc kb x0 h0 n0 _ T4.heap _
    rw [e4]
    exact ⟨rfl, N4, K4, V4⟩
theorem pd_0 : parseMethodDescriptor "([CI[BII)I" = some ⟨[(.array .char), .int, (.array .byte), .int, .int], some .int⟩ := by decide +kernel
theorem d17_0 : decode jdk_52_method_16_code 0 = .ok (.iload_n 2, 1) := by decide +kernel
theorem d17_1 : decode jdk_52_method_16_code 1 = .ok (.newarray .byte, 2) := by decide +kernel
theorem d17_3 : decode jdk_52_method_16_code 3 = .ok (.astore_n 3, 1) := by decide +kernel
theorem d17_4 : decode jdk_52_method_16_code 4 = .ok (.aload_n 0, 1) := by decide +kernel
theorem d17_5 : decode jdk_52_method_16_code 5 = .ok (.iload_n 1, 1) := by decide +kernel
theorem d17_6 : decode jdk_52_method_16_code 6 = .ok (.aload_n 3, 1) := by decide +kernel
theorem d17_7 : decode jdk_52_method_16_code 7 = .ok (.iconst 0, 1) := by decide +kernel
theorem d17_8 : decode jdk_52_method_16_code 8 = .ok (.iload_n 2, 1) := by decide +kernel
theorem d17_9 : decode jdk_52_method_16_code 9 = .ok (.invokestatic 115, 3) := by decide +kernel
theorem d17_12 : decode jdk_52_method_16_code 12 = .ok (.istore 4, 2) := by decide +kernel
theorem d17_14 : decode jdk_52_method_16_code 14 = .ok (.iload 4, 2) := by decide +kernel
theorem d17_16 : decode jdk_52_method_16_code 16 = .ok (.iload_n 2, 1) := by decide +kernel
theorem d17_17 : decode jdk_52_method_16_code 17 = .ok (.if_icmp .eq 40, 3) := by decide +kernel
theorem d17_57 : decode jdk_52_method_16_code 57 = .ok (.aload_n 3, 1) := by decide +kernel
theorem d17_58 : decode jdk_52_method_16_code 58 = .ok (.areturn, 1) := by decide +kernel
theorem ef_17s1 (m : MethodId) (qc : Addr) : entryFrame m #[(.ref qc), (.int 0), (.int 1)] 6 = mkF m 0 #[.val (.ref qc), .val (.int 0), .val (.int 1), .unset, .unset, .unset] [] := by first | (simp [entryFrame, mkF, argsToLocals, Value.category]; done) | rfl
def Q17s1 (Z : State) (qc : Addr) (kc : ClassId) (x0 : Int32) (h0 : Heap) (n0 : Nat) (v : Option Value) (h : Heap) (L : List Loc) : Prop := ∃ (b2 : Addr) (k2 : ClassId), v = some (.ref b2) ∧ Fr n0 L ∧ Keep h0 h [] ∧ h0.size ≤ b2 ∧ Arv Z h b2 k2 .byte (1 : Int32) [(.int (nar .byte (x0.toInt8.toInt32)))] (.int 0)
set_option maxRecDepth 65536 in
set_option maxHeartbeats 40000000 in
theorem rm17s1 (l : Launch) (Z : State) (a0 : Array Value) (hw : ∀ d ∈ tables_1, d.before a0 Z = true) (ws : List Jvm.Cond) (qc : Addr) (kc : ClassId) (x0 : Int32) (h0 : Heap) (n0 : Nat) (Z0 : n0 ≤ h0.size) (A_qc : Arv Z h0 qc kc .char (1 : Int32) [(.int x0)] (.int 0)) (hx0 : ¬ ((255 : Int32) < x0)) :
    MetFree l (⟨"java/lang/StringUTF16", "compress", "([CII)[B"⟩ : MethodName) (head1 (Jvm.Cond.code (⟨"java/lang/StringUTF16", "compress", "([CII)[B"⟩ : MethodName) jdk_52_method_16_code 6 (some (.array .byte)) :: ws) ({ frames := 1, cells := 1, slots := 1, locals := 18 } : Room)) (fun a U => a = #[(.ref qc), (.int 0), (.int 1)] ∧ Z.Warmed39 U.vm ∧ U.heap = h0) (fun _ _ _ _ _ => True) (fun _ U o U' => ∃ v L, o = .returned v ∧ Q17s1 Z qc kc x0 h0 n0 v U'.heap L ∧ FrameEnd U o U' L ({ frames := 1, cells := 1, slots := 1, locals := 18 } : Room).cells ({ frames := 1, cells := 1, slots := 1, locals := 18 } : Room).slots) := by
  refine MetFree.of_bodySF (plainFor_of_name pn_18) hisR ?_
  intro p e s m args below meth c s₁ Bd hml0 hP hK
  obtain ⟨rfl, hZ, hh⟩ := hP
  have hx := Bd.exec
  have hby := Bd.bytes
  have hml : c.maxLocals = 6 := hml0
  have hown : s.vm.findClass "java/lang/StringUTF16" = some m.cls := findClass_of_methodNamed Bd.named
  have hnm := (name_of_methodNamed Bd.named Bd.method).1
  have X0 : Stand p l e ({ frames := 1, cells := 1, slots := 1, locals := 18 } : Room) s m #[(.ref qc), (.int 0), (.int 1)] below meth c s₁ [] 0 0 := Stand.of_body Bd
  have e0 : s₁.heap = h0 := by rw [← hh, Bd.state]; rfl
  have N0 := Fr.nil n0
  obtain ⟨S0, hE0⟩ : ∃ z, z = s₁.setTop (entryFrame m #[(.ref qc), (.int 0), (.int 1)] 6) := ⟨_, rfl⟩
  have P0 : own_Go p e below S0 (s₁.setTop (mkF m 0 #[.val (.ref qc), .val (.int 0), .val (.int 1), .unset, .unset, .unset] [])) := fun t k => by rw [hE0]; exact castTop (ef_17s1 m qc) k
  have P1 : own_Go p e below S0 (s₁.setTop (mkF m 1 #[.val (.ref qc), .val (.int 0), .val (.int 1), .unset, .unset, .unset] [(.int 1)])) := fun t k => P0 t (by
    refine XS.iloadN X0.here hx rfl (hb hby d17_0) rfl ?_
    show Steps p.tables e below (s₁.setTop (mkF m 1 #[.val (.ref qc), .val (.int 0), .val (.int 1), .unset, .unset, .unset] [(.int 1)])) t
    exact k)
  obtain ⟨T2, h2, k2, X2, e2, E2, A2, st2⟩ := newP X0 hx hZ (own_w hw 19 rfl) e0 (g := (mkF m 1 #[.val (.ref qc), .val (.int 0), .val (.int 1), .unset, .unset, .unset] [(.int 1)])) rfl (hb hby d17_1) rfl (by decide) (cap := 1) (by decide) (by decide) (by decide) (by decide)
  obtain ⟨b2, g2⟩ : ∃ z, z = h0.size := ⟨_, rfl⟩
  rw [← g2] at A2 st2
  have sz_b2 : h0.size ≤ b2 := Nat.le_of_eq g2.symm
  have ne_qc_b2 : qc ≠ b2 := Nat.ne_of_lt (Nat.lt_of_lt_of_le A_qc.lt sz_b2)
  have g_b2 : n0 ≤ b2 := Nat.le_trans Z0 sz_b2
  have o_b2 : h0.size ≤ b2 := sz_b2
  have K2 : Keep h0 h2 [] := (Keep.refl h0 []).ext E2
  have V2 : Arv Z h2 b2 k2 .byte (1 : Int32) [(.int 0)] (.int 0) := (Arv.new A2 (by decide)).pad (pad_rep [] (.int 0) 1)
  have P2 : own_Go p e below S0 (T2.setTop (mkF m 3 #[.val (.ref qc), .val (.int 0), .val (.int 1), .unset, .unset, .unset] [(.ref b2)])) := fun t k => P1 t (st2 _ k)
  have F3 : Arv Z h2 qc kc .char (1 : Int32) [(.int x0)] (.int 0) := A_qc.ext E2
  have P4 : own_Go p e below S0 (T2.setTop (mkF m 9 #[.val (.ref qc), .val (.int 0), .val (.int 1), .val (.ref b2), .unset, .unset] [(.int 1), (.int 0), (.ref b2), (.int 0), (.ref qc)])) := fun t k => P2 t (by
    refine XS.astoreN X2.here hx rfl (hb hby d17_3) rfl rfl (l' := #[.val (.ref qc), .val (.int 0), .val (.int 1), .val (.ref b2), .unset, .unset]) rfl ?_
    refine XS.aloadN X2.here hx rfl (hb hby d17_4) rfl rfl ?_
    refine XS.iloadN X2.here hx rfl (hb hby d17_5) rfl ?_
    refine XS.aloadN X2.here hx rfl (hb hby d17_6) rfl rfl ?_
    refine XS.iconst X2.here hx rfl (hb hby d17_7) ?_
    refine XS.iloadN X2.here hx rfl (hb hby d17_8) rfl ?_
    show Steps p.tables e below (T2.setTop (mkF m 9 #[.val (.ref qc), .val (.int 0), .val (.int 1), .val (.ref b2), .unset, .unset] [(.int 1), (.int 0), (.ref b2), (.int 0), (.ref qc)])) t
    exact k)
  obtain ⟨_, _, ⟨T5, L5, k5, n5⟩, -, X5, ⟨Lc5, hQ5, l5, y5, z5⟩, st5⟩ := Jvm.LawKit.callS X2 hx (y := (⟨"java/lang/StringUTF16", "compress", "([CI[BII)I"⟩ : MethodName)) hown (mvT hZ (own_w hw 91 rfl)) (mvT hZ (own_w hw 92 rfl)) (mvT hZ (own_w hw 89 rfl)) (mvT hZ (own_w hw 93 rfl)) (by decide) (backOf (W := 0) (rm18s1 l Z a0 hw [] qc b2 kc k2 x0 h2 n0 (Nat.le_trans Z0 K2.1) F3 V2 hx0 g_b2) hZ (own_w hw 93 rfl) (own_w hw 89 rfl) (by decide) (by decide)) (g := (mkF m 9 #[.val (.ref qc), .val (.int 0), .val (.int 1), .val (.ref b2), .unset, .unset] [(.int 1), (.int 0), (.ref b2), (.int 0), (.ref qc)])) rfl (by rw [hml]; rfl) (argsL := [(.ref qc), (.int 0), (.ref b2), (.int 0), (.int 1)]) (rest := []) (lenOf pd_0 rfl) rfl (by show 2 * 0 + _ ≤ _; exact Nat.le_of_eq rfl) (hb hby d17_9) (fun _ _ => ⟨rfl, e2, (by decide : 1 + 0 ≤ _), (by decide : 1 + 0 ≤ _)⟩)
  dsimp only [Pt.U, Pt.locs, Pt.cells, Pt.slots] at X5 l5 y5 z5 st5 hQ5
  subst l5 y5 z5
  obtain ⟨rfl, N5q, Kc5, F5_0⟩ := hQ5
  have N5 := Fr.app N0 N5q
  have K5 : Keep h0 T5.heap [] := Keep.trans K2 Kc5 (allS (Or.inr o_b2) all0)
  have P5 : own_Go p e below S0 (T5.setTop (mkF m 12 #[.val (.ref qc), .val (.int 0), .val (.int 1), .val (.ref b2), .unset, .unset] [(.int 1)])) := fun t k => P4 t (st5 _ k)
  have P6 : own_Go p e below S0 (T5.setTop (mkF m 58 #[.val (.ref qc), .val (.int 0), .val (.int 1), .val (.ref b2), .val (.int 1), .unset] [(.ref b2)])) := fun t k => P5 t (by
    refine XS.istore X5.here hx rfl (hb hby d17_12) rfl (l' := #[.val (.ref qc), .val (.int 0), .val (.int 1), .val (.ref b2), .val (.int 1), .unset]) rfl ?_
    refine XS.iload X5.here hx rfl (hb hby d17_14) rfl ?_
    refine XS.iloadN X5.here hx rfl (hb hby d17_16) rfl ?_
    refine XS.icmpYes X5.here hx rfl (pc0 := 17) (pc' := 57) rfl (hb hby d17_17) rfl (teq (by decide)).1 (by decide) (by decide) ?_
    refine XS.aloadN X5.here hx rfl (hb hby d17_57) rfl rfl ?_
    show Steps p.tables e below (T5.setTop (mkF m 58 #[.val (.ref qc), .val (.int 0), .val (.int 1), .val (.ref b2), .val (.int 1), .unset] [(.ref b2)])) t
    exact k)
  obtain ⟨fs, hr, hrun, hended, hW, hsame⟩ := X5.leave (v := some (.ref b2)) (fun h => by rw [Bd.returns] at h; cases h) (BodyLoose.notSynchronized Bd)
  refine ⟨_, _, own_from hE0 (P6 _ ?_), hrun, hended, _, _, rfl, ?_, ⟨_, rfl⟩, hW, hsame.mono (by decide) (by decide)⟩
  · show Steps p.tables e below (T5.setTop (mkF m 58 #[.val (.ref qc), .val (.int 0), .val (.int 1), .val (.ref b2), .val (.int 1), .unset] [(.ref b2)])) _
    jvm_step X5.here [X5.here.top, hx, (hb hby d17_58), X5.method', Bd.returns, Value.isRef, FieldType.isReference]
    first | (intro acts; rw [hr _ acts rfl rfl rfl]) | rw [hr _ _ rfl rfl rfl]
    exact Steps.refl _
  · show Q17s1 Z qc kc x0 h0 n0 _ T5.heap _
    exact ⟨b2, k2, rfl, N5, K5, o_b2, F5_0⟩
theorem d19_0 : decode jdk_52_method_15_code 0 = .ok (.iload_n 1, 1) := by decide +kernel
theorem d19_1 : decode jdk_52_method_15_code 1 = .ok (.aload_n 0, 1) := by decide +kernel
theorem d19_2 : decode jdk_52_method_15_code 2 = .ok (.arraylength, 1) := by decide +kernel
theorem d19_3 : decode jdk_52_method_15_code 3 = .ok (.isub, 1) := by decide +kernel
theorem d19_4 : decode jdk_52_method_15_code 4 = .ok (.bipush 31, 2) := by decide +kernel
theorem d19_6 : decode jdk_52_method_15_code 6 = .ok (.iushr, 1) := by decide +kernel
theorem d19_7 : decode jdk_52_method_15_code 7 = .ok (.i2b, 1) := by decide +kernel
theorem d19_8 : decode jdk_52_method_15_code 8 = .ok (.ireturn, 1) := by decide +kernel
theorem ef_19s1 (m : MethodId) (qb : Addr) : entryFrame m #[(.ref qb), (.int 1)] 2 = mkF m 0 #[.val (.ref qb), .val (.int 1)] [] := by first | (simp [entryFrame, mkF, argsToLocals, Value.category]; done) | rfl
def Q19s1 (Z : State) (qb : Addr) (kb : ClassId) (y0 : Int32) (h0 : Heap) (n0 : Nat) (v : Option Value) (h : Heap) (L : List Loc) : Prop := v = some (.int 0) ∧ Fr n0 L ∧ h = h0
set_option maxRecDepth 65536 in
set_option maxHeartbeats 40000000 in
theorem rm19s1 (l : Launch) (Z : State) (a0 : Array Value) (hw : ∀ d ∈ tables_1, d.before a0 Z = true) (ws : List Jvm.Cond) (qb : Addr) (kb : ClassId) (y0 : Int32) (h0 : Heap) (n0 : Nat) (Z0 : n0 ≤ h0.size) (A_qb : Arv Z h0 qb kb .byte (1 : Int32) [(.int y0)] (.int 0)) :
    MetFree l (⟨"java/lang/StringUTF16", "coderFromArrayLen", "([BI)B"⟩ : MethodName) (head1 (Jvm.Cond.code (⟨"java/lang/StringUTF16", "coderFromArrayLen", "([BI)B"⟩ : MethodName) jdk_52_method_15_code 2 (some .byte) :: ws) ({ frames := 0, cells := 0, slots := 0, locals := 0 } : Room)) (fun a U => a = #[(.ref qb), (.int 1)] ∧ Z.Warmed39 U.vm ∧ U.heap = h0) (fun _ _ _ _ _ => True) (fun _ U o U' => ∃ v L, o = .returned v ∧ Q19s1 Z qb kb y0 h0 n0 v U'.heap L ∧ FrameEnd U o U' L ({ frames := 0, cells := 0, slots := 0, locals := 0 } : Room).cells ({ frames := 0, cells := 0, slots := 0, locals := 0 } : Room).slots) := by
  refine MetFree.of_bodySF (plainFor_of_name pn_18) hisR ?_
  intro p e s m args below meth c s₁ Bd hml0 hP hK
  obtain ⟨rfl, hZ, hh⟩ := hP
  have hx := Bd.exec
  have hby := Bd.bytes
  have hml : c.maxLocals = 2 := hml0
  have hown : s.vm.findClass "java/lang/StringUTF16" = some m.cls := findClass_of_methodNamed Bd.named
  have hnm := (name_of_methodNamed Bd.named Bd.method).1
  have X0 : Stand p l e ({ frames := 0, cells := 0, slots := 0, locals := 0 } : Room) s m #[(.ref qb), (.int 1)] below meth c s₁ [] 0 0 := Stand.of_body Bd
  have e0 : s₁.heap = h0 := by rw [← hh, Bd.state]; rfl
  have N0 := Fr.nil n0
  obtain ⟨S0, hE0⟩ : ∃ z, z = s₁.setTop (entryFrame m #[(.ref qb), (.int 1)] 2) := ⟨_, rfl⟩
  have P0 : own_Go p e below S0 (s₁.setTop (mkF m 0 #[.val (.ref qb), .val (.int 1)] [])) := fun t k => by rw [hE0]; exact castTop (ef_19s1 m qb) k
  obtain ⟨cl1, Ar1, q1, Sz1, Nn1, Hh1, Gg1⟩ := id A_qb
  have P2 : own_Go p e below S0 (s₁.setTop (mkF m 8 #[.val (.ref qb), .val (.int 1)] [(.int 0)])) := fun t k => P0 t (by
    refine XS.iloadN X0.here hx rfl (hb hby d19_0) rfl ?_
    refine XS.aloadN X0.here hx rfl (hb hby d19_1) rfl rfl ?_
    show Steps p.tables e below (s₁.setTop (mkF m 2 #[.val (.ref qb), .val (.int 1)] [(.ref qb), (.int 1)])) t
    refine X0.arraylength hx (by rw [e0]; exact Ar1.1) (State.isArrayOf_alike hZ.alike Ar1.2.1) (g := (mkF m 2 #[.val (.ref qb), .val (.int 1)] [(.ref qb), (.int 1)])) rfl rfl (hb hby d19_2) _ ?_
    rw [len_of Sz1 Nn1]
    refine XS.isub X0.here hx rfl (hb hby d19_3) rfl ?_
    refine XS.bipush X0.here hx rfl (hb hby d19_4) ?_
    refine XS.iushr X0.here hx rfl (hb hby d19_6) rfl ?_
    show Steps p.tables e below (s₁.setTop (mkF m 7 #[.val (.ref qb), .val (.int 1)] [(.int 0)])) t
    refine XS.i2b X0.here hx rfl (hb hby d19_7) rfl ?_
    show Steps p.tables e below (s₁.setTop (mkF m 8 #[.val (.ref qb), .val (.int 1)] [(.int 0)])) t
    exact k)
  obtain ⟨fs, hr, hrun, hended, hW, hsame⟩ := X0.leave (v := some (.int 0)) (fun h => by rw [Bd.returns] at h; cases h) (BodyLoose.notSynchronized Bd)
  refine ⟨_, _, own_from hE0 (P2 _ ?_), hrun, hended, _, _, rfl, ?_, ⟨_, rfl⟩, hW, hsame.mono (by decide) (by decide)⟩
  · show Steps p.tables e below (s₁.setTop (mkF m 8 #[.val (.ref qb), .val (.int 1)] [(.int 0)])) _
    exact retN X0 hx (t := .byte) Bd.returns (by simp) (hb hby d19_8) hr
  · show Q19s1 Z qb kb y0 h0 n0 _ s₁.heap _
    rw [e0]
    exact ⟨rfl, N0, rfl⟩
theorem pd_1 : parseMethodDescriptor "([CII)[B" = some ⟨[(.array .char), .int, .int], some (.array .byte)⟩ := by decide +kernel
theorem pd_2 : parseMethodDescriptor "([BI)B" = some ⟨[(.array .byte), .int], some .byte⟩ := by decide +kernel
theorem pn_2 : plainName "java/lang/String" = true := by first | (simp [plainName, overriddenIn]; done) | decide +kernel
theorem d2_0 : decode jdk_42_method_149_code 0 = .ok (.aload_n 0, 1) := by decide +kernel
theorem d2_1 : decode jdk_42_method_149_code 1 = .ok (.invokespecial 1, 3) := by decide +kernel
theorem d2_4 : decode jdk_42_method_149_code 4 = .ok (.iload_n 3, 1) := by decide +kernel
theorem d2_5 : decode jdk_42_method_149_code 5 = .ok (.ifCond .ne 22, 3) := by decide +kernel
theorem d2_27 : decode jdk_42_method_149_code 27 = .ok (.getstatic 38, 3) := by decide +kernel
theorem d2_30 : decode jdk_42_method_149_code 30 = .ok (.ifCond .eq 28, 3) := by decide +kernel
theorem d2_33 : decode jdk_42_method_149_code 33 = .ok (.aload_n 1, 1) := by decide +kernel
theorem d2_34 : decode jdk_42_method_149_code 34 = .ok (.iload_n 2, 1) := by decide +kernel
theorem d2_35 : decode jdk_42_method_149_code 35 = .ok (.iload_n 3, 1) := by decide +kernel
theorem d2_36 : decode jdk_42_method_149_code 36 = .ok (.invokestatic 177, 3) := by decide +kernel
theorem d2_39 : decode jdk_42_method_149_code 39 = .ok (.astore 5, 2) := by decide +kernel
theorem d2_41 : decode jdk_42_method_149_code 41 = .ok (.aload_n 0, 1) := by decide +kernel
theorem d2_42 : decode jdk_42_method_149_code 42 = .ok (.aload 5, 2) := by decide +kernel
theorem d2_44 : decode jdk_42_method_149_code 44 = .ok (.iload_n 3, 1) := by decide +kernel
theorem d2_45 : decode jdk_42_method_149_code 45 = .ok (.invokestatic 47, 3) := by decide +kernel
theorem d2_48 : decode jdk_42_method_149_code 48 = .ok (.putfield 15, 3) := by decide +kernel
theorem d2_51 : decode jdk_42_method_149_code 51 = .ok (.aload_n 0, 1) := by decide +kernel
theorem d2_52 : decode jdk_42_method_149_code 52 = .ok (.aload 5, 2) := by decide +kernel
theorem d2_54 : decode jdk_42_method_149_code 54 = .ok (.putfield 9, 3) := by decide +kernel
theorem d2_57 : decode jdk_42_method_149_code 57 = .ok (.return_, 1) := by decide +kernel
theorem ef_2s1 (m : MethodId) (q2s1_0 : Addr) (qc : Addr) : entryFrame m #[(.ref q2s1_0), (.ref qc), (.int 0), (.int 1), .null] 6 = mkF m 0 #[.val (.ref q2s1_0), .val (.ref qc), .val (.int 0), .val (.int 1), .val .null, .unset] [] := by first | (simp [entryFrame, mkF, argsToLocals, Value.category]; done) | rfl
def Q2s1 (Z : State) (q2s1_0 : Addr) (qc : Addr) (kc : ClassId) (zc : Int32) (x0 : Int32) (u2s1_q2s1_0_coder : Value) (u2s1_q2s1_0_value : Value) (h0 : Heap) (n0 : Nat) (v : Option Value) (h : Heap) (L : List Loc) : Prop := ∃ (b2_7 : Addr) (k2_7 : ClassId), v = none ∧ Fr n0 L ∧ Keep h0 h [q2s1_0] ∧ h0.size ≤ b2_7 ∧ Arv Z h b2_7 k2_7 .byte (1 : Int32) [(.int (nar .byte (x0.toInt8.toInt32)))] (.int 0) ∧ Fld Z h q2s1_0 "java/lang/String" "coder" "B" (.int 0) ∧ Fld Z h q2s1_0 "java/lang/String" "value" "[B" (.ref b2_7)
set_option maxRecDepth 65536 in
set_option maxHeartbeats 40000000 in
theorem rm2s1 (l : Launch) (Z : State) (a0 : Array Value) (hw : ∀ d ∈ tables_1, d.before a0 Z = true) (ws : List Jvm.Cond) (q2s1_0 : Addr) (qc : Addr) (kc : ClassId) (zc : Int32) (x0 : Int32) (u2s1_q2s1_0_coder : Value) (u2s1_q2s1_0_value : Value) (h0 : Heap) (n0 : Nat) (Z0 : n0 ≤ h0.size) (E_q2s1_0 : Exa Z h0 q2s1_0 "java/lang/String") (A_qc : Arv Z h0 qc kc .char (1 : Int32) [(.int x0)] (.int 0)) (S_COMPACT_STRINGS : Sta Z h0 "java/lang/String" "COMPACT_STRINGS" "Z" (.int zc)) (hcs : ¬ (zc = (0 : Int32))) (hx0 : ¬ ((255 : Int32) < x0)) (F_q2s1_0_coder : Fld Z h0 q2s1_0 "java/lang/String" "coder" "B" u2s1_q2s1_0_coder) (g_q2s1_0 : n0 ≤ q2s1_0) (F_q2s1_0_value : Fld Z h0 q2s1_0 "java/lang/String" "value" "[B" u2s1_q2s1_0_value) :
    MetFree l (⟨"java/lang/String", "<init>", "([CIILjava/lang/Void;)V"⟩ : MethodName) (head1 (Jvm.Cond.code (⟨"java/lang/String", "<init>", "([CIILjava/lang/Void;)V"⟩ : MethodName) jdk_42_method_149_code 6 none :: ws) ({ frames := 2, cells := 1, slots := 1, locals := 35 } : Room)) (fun a U => a = #[(.ref q2s1_0), (.ref qc), (.int 0), (.int 1), .null] ∧ Z.Warmed39 U.vm ∧ U.heap = h0) (fun _ _ _ _ _ => True) (fun _ U o U' => ∃ v L, o = .returned v ∧ Q2s1 Z q2s1_0 qc kc zc x0 u2s1_q2s1_0_coder u2s1_q2s1_0_value h0 n0 v U'.heap L ∧ FrameEnd U o U' L ({ frames := 2, cells := 1, slots := 1, locals := 35 } : Room).cells ({ frames := 2, cells := 1, slots := 1, locals := 35 } : Room).slots) := by
  refine MetFree.of_bodySF (plainFor_of_name pn_2) hisR ?_
  intro p e s m args below meth c s₁ Bd hml0 hP hK
  obtain ⟨rfl, hZ, hh⟩ := hP
  have hx := Bd.exec
  have hby := Bd.bytes
  have hml : c.maxLocals = 6 := hml0
  have hown : s.vm.findClass "java/lang/String" = some m.cls := findClass_of_methodNamed Bd.named
  have hnm := (name_of_methodNamed Bd.named Bd.method).1
  have X0 : Stand p l e ({ frames := 2, cells := 1, slots := 1, locals := 35 } : Room) s m #[(.ref q2s1_0), (.ref qc), (.int 0), (.int 1), .null] below meth c s₁ [] 0 0 := Stand.of_body Bd
  have e0 : s₁.heap = h0 := by rw [← hh, Bd.state]; rfl
  have N0 := Fr.nil n0
  obtain ⟨S0, hE0⟩ : ∃ z, z = s₁.setTop (entryFrame m #[(.ref q2s1_0), (.ref qc), (.int 0), (.int 1), .null] 6) := ⟨_, rfl⟩
  have P0 : own_Go p e below S0 (s₁.setTop (mkF m 0 #[.val (.ref q2s1_0), .val (.ref qc), .val (.int 0), .val (.int 1), .val .null, .unset] [])) := fun t k => by rw [hE0]; exact castTop (ef_2s1 m q2s1_0 qc) k
  have P1 : own_Go p e below S0 (s₁.setTop (mkF m 1 #[.val (.ref q2s1_0), .val (.ref qc), .val (.int 0), .val (.int 1), .val .null, .unset] [(.ref q2s1_0)])) := fun t k => P0 t (by
    refine XS.aloadN X0.here hx rfl (hb hby d2_0) rfl rfl ?_
    show Steps p.tables e below (s₁.setTop (mkF m 1 #[.val (.ref q2s1_0), .val (.ref qc), .val (.int 0), .val (.int 1), .val .null, .unset] [(.ref q2s1_0)])) t
    exact k)
  obtain ⟨T2, X2, e2, st2⟩ := initO X0 hx hZ hown (own_w hw 15 rfl) (own_w hw 16 rfl) (own_w hw 17 rfl) e0 (g := (mkF m 1 #[.val (.ref q2s1_0), .val (.ref qc), .val (.int 0), .val (.int 1), .val .null, .unset] [(.ref q2s1_0)])) rfl (by rw [hml]; rfl) rfl (hb hby d2_1) (by decide) (W := 0) (by show 2 * 0 + _ ≤ _; exact Nat.le_of_eq rfl) (by decide)
  have P2 : own_Go p e below S0 (T2.setTop (mkF m 4 #[.val (.ref q2s1_0), .val (.ref qc), .val (.int 0), .val (.int 1), .val .null, .unset] [])) := fun t k => P1 t (st2 _ k)
  have P3 : own_Go p e below S0 (T2.setTop (mkF m 27 #[.val (.ref q2s1_0), .val (.ref qc), .val (.int 0), .val (.int 1), .val .null, .unset] [])) := fun t k => P2 t (by
    refine XS.iloadN X2.here hx rfl (hb hby d2_4) rfl ?_
    refine XS.ifYes X2.here hx rfl (pc0 := 5) (pc' := 27) rfl (hb hby d2_5) rfl ((if0 _ _).trans (feq (by decide)).2) (by decide) (by decide) ?_
    show Steps p.tables e below (T2.setTop (mkF m 27 #[.val (.ref q2s1_0), .val (.ref qc), .val (.int 0), .val (.int 1), .val .null, .unset] [])) t
    exact k)
  obtain ⟨T4, X4, e4, st4⟩ := getS2 X2 hx hZ hown (host := "") (Or.inl (own_w hw 58 rfl)) Via.refl e2 S_COMPACT_STRINGS (g := (mkF m 27 #[.val (.ref q2s1_0), .val (.ref qc), .val (.int 0), .val (.int 1), .val .null, .unset] [])) rfl (hb hby d2_27)
  have P4 : own_Go p e below S0 (T4.setTop (mkF m 30 #[.val (.ref q2s1_0), .val (.ref qc), .val (.int 0), .val (.int 1), .val .null, .unset] [(.int zc)])) := fun t k => P3 t (st4 _ k)
  have c5 : ¬ (zc = (0 : Int32)) := hcs
  have P6 : own_Go p e below S0 (T4.setTop (mkF m 36 #[.val (.ref q2s1_0), .val (.ref qc), .val (.int 0), .val (.int 1), .val .null, .unset] [(.int 1), (.int 0), (.ref qc)])) := fun t k => P4 t (by
    refine XS.ifNo X4.here hx rfl (hb hby d2_30) rfl ((if0 _ _).trans (feq c5).1) ?_
    refine XS.aloadN X4.here hx rfl (hb hby d2_33) rfl rfl ?_
    refine XS.iloadN X4.here hx rfl (hb hby d2_34) rfl ?_
    refine XS.iloadN X4.here hx rfl (hb hby d2_35) rfl ?_
    show Steps p.tables e below (T4.setTop (mkF m 36 #[.val (.ref q2s1_0), .val (.ref qc), .val (.int 0), .val (.int 1), .val .null, .unset] [(.int 1), (.int 0), (.ref qc)])) t
    exact k)
  obtain ⟨_, _, ⟨T7, L7, k7, n7⟩, -, X7, ⟨Lc7, hQ7, l7, y7, z7⟩, st7⟩ := Jvm.LawKit.callS X4 hx (y := (⟨"java/lang/StringUTF16", "compress", "([CII)[B"⟩ : MethodName)) hown (mvT hZ (own_w hw 87 rfl)) (mvT hZ (own_w hw 88 rfl)) (mvT hZ (own_w hw 89 rfl)) (mvT hZ (own_w hw 90 rfl)) (by decide) (backOf (W := 0) (rm17s1 l Z a0 hw [] qc kc x0 h0 n0 Z0 A_qc hx0) hZ (own_w hw 90 rfl) (own_w hw 89 rfl) (by decide) (by decide)) (g := (mkF m 36 #[.val (.ref q2s1_0), .val (.ref qc), .val (.int 0), .val (.int 1), .val .null, .unset] [(.int 1), (.int 0), (.ref qc)])) rfl (by rw [hml]; rfl) (argsL := [(.ref qc), (.int 0), (.int 1)]) (rest := []) (lenOf pd_1 rfl) rfl (by show 2 * 0 + _ ≤ _; exact Nat.le_of_eq rfl) (hb hby d2_36) (fun _ _ => ⟨rfl, e4, (by decide : 0 + 1 ≤ _), (by decide : 0 + 1 ≤ _)⟩)
  dsimp only [Pt.U, Pt.locs, Pt.cells, Pt.slots] at X7 l7 y7 z7 st7 hQ7
  subst l7 y7 z7
  obtain ⟨b2_7, k2_7, rfl, N7q, Kc7, sz_b2_7, F7_0⟩ := hQ7
  have N7 := Fr.app N0 N7q
  have ne_q2s1_0_b2_7 : q2s1_0 ≠ b2_7 := Nat.ne_of_lt (Nat.lt_of_lt_of_le E_q2s1_0.lt sz_b2_7)
  have ne_qc_b2_7 : qc ≠ b2_7 := Nat.ne_of_lt (Nat.lt_of_lt_of_le A_qc.lt sz_b2_7)
  have g_b2_7 : n0 ≤ b2_7 := Nat.le_trans Z0 sz_b2_7
  have o_b2_7 : h0.size ≤ b2_7 := sz_b2_7
  have K7 : Keep h0 T7.heap [q2s1_0] := Keep.trans (Keep.refl h0 [q2s1_0]) Kc7 all0
  have P7 : own_Go p e below S0 (T7.setTop (mkF m 39 #[.val (.ref q2s1_0), .val (.ref qc), .val (.int 0), .val (.int 1), .val .null, .unset] [(.ref b2_7)])) := fun t k => P6 t (st7 _ k)
  have P8 : own_Go p e below S0 (T7.setTop (mkF m 45 #[.val (.ref q2s1_0), .val (.ref qc), .val (.int 0), .val (.int 1), .val .null, .val (.ref b2_7)] [(.int 1), (.ref b2_7), (.ref q2s1_0)])) := fun t k => P7 t (by
    refine XS.astore X7.here hx rfl (hb hby d2_39) rfl rfl (l' := #[.val (.ref q2s1_0), .val (.ref qc), .val (.int 0), .val (.int 1), .val .null, .val (.ref b2_7)]) rfl ?_
    refine XS.aloadN X7.here hx rfl (hb hby d2_41) rfl rfl ?_
    refine XS.aload X7.here hx rfl (hb hby d2_42) rfl rfl ?_
    refine XS.iloadN X7.here hx rfl (hb hby d2_44) rfl ?_
    show Steps p.tables e below (T7.setTop (mkF m 45 #[.val (.ref q2s1_0), .val (.ref qc), .val (.int 0), .val (.int 1), .val .null, .val (.ref b2_7)] [(.int 1), (.ref b2_7), (.ref q2s1_0)])) t
    exact k)
  obtain ⟨_, _, ⟨T9, L9, k9, n9⟩, -, X9, ⟨Lc9, hQ9, l9, y9, z9⟩, st9⟩ := Jvm.LawKit.callS X7 hx (y := (⟨"java/lang/StringUTF16", "coderFromArrayLen", "([BI)B"⟩ : MethodName)) hown (mvT hZ (own_w hw 94 rfl)) (mvT hZ (own_w hw 95 rfl)) (mvT hZ (own_w hw 89 rfl)) (mvT hZ (own_w hw 96 rfl)) (by decide) (backOf (W := 1) (rm19s1 l Z a0 hw [] b2_7 k2_7 (nar .byte (x0.toInt8.toInt32)) T7.heap n0 (Nat.le_trans Z0 K7.1) F7_0) hZ (own_w hw 96 rfl) (own_w hw 89 rfl) (by decide) (by decide)) (g := (mkF m 45 #[.val (.ref q2s1_0), .val (.ref qc), .val (.int 0), .val (.int 1), .val .null, .val (.ref b2_7)] [(.int 1), (.ref b2_7), (.ref q2s1_0)])) rfl (by rw [hml]; rfl) (argsL := [(.ref b2_7), (.int 1)]) (rest := [(.ref q2s1_0)]) (lenOf pd_2 rfl) rfl (by show 2 * 0 + _ ≤ _; exact Nat.le_of_eq rfl) (hb hby d2_45) (fun _ _ => ⟨rfl, rfl, (by decide : 1 + 0 ≤ _), (by decide : 1 + 0 ≤ _)⟩)
  dsimp only [Pt.U, Pt.locs, Pt.cells, Pt.slots] at X9 l9 y9 z9 st9 hQ9
  subst l9 y9 z9
  obtain ⟨rfl, N9q, e9⟩ := hQ9
  have N9 := Fr.app N7 N9q
  have P9 : own_Go p e below S0 (T9.setTop (mkF m 48 #[.val (.ref q2s1_0), .val (.ref qc), .val (.int 0), .val (.int 1), .val .null, .val (.ref b2_7)] [(.int 0), (.ref q2s1_0)])) := fun t k => P8 t (st9 _ k)
  have F10 : Exa Z T7.heap q2s1_0 "java/lang/String" := E_q2s1_0.keep Kc7
  have F11 : Fld Z T7.heap q2s1_0 "java/lang/String" "coder" "B" u2s1_q2s1_0_coder := F_q2s1_0_coder.keep Kc7 nin0
  obtain ⟨T12, h12, X12, e12, W12, st12⟩ := putFN X9 hx hZ hown (own_w hw 25 rfl) Via.refl e9 F11 F10 (Or.inr ⟨(own_w hw 21 rfl), rfl, hnm⟩) (own_w hw 6 rfl) (ty := .byte) (v' := (.int 0)) (by decide) rfl (by decide) (g := (mkF m 48 #[.val (.ref q2s1_0), .val (.ref qc), .val (.int 0), .val (.int 1), .val .null, .val (.ref b2_7)] [(.int 0), (.ref q2s1_0)])) rfl rfl (hb hby d2_48)
  have K12 : Keep h0 h12 [q2s1_0] := K7.wr W12 (Or.inl (by simp))
  have N12 := Fr.snoc X12 N9 g_q2s1_0
  have F12w : Fld Z h12 q2s1_0 "java/lang/String" "coder" "B" (.int 0) := F11.same W12
  have P12 : own_Go p e below S0 (T12.setTop (mkF m 51 #[.val (.ref q2s1_0), .val (.ref qc), .val (.int 0), .val (.int 1), .val .null, .val (.ref b2_7)] [])) := fun t k => P9 t (st12 _ k)
  have F13 : Exa Z h12 q2s1_0 "java/lang/String" := F10.wr W12
  have F14 : Fld Z T7.heap q2s1_0 "java/lang/String" "value" "[B" u2s1_q2s1_0_value := F_q2s1_0_value.keep Kc7 nin0
  have F15 : Fld Z h12 q2s1_0 "java/lang/String" "value" "[B" u2s1_q2s1_0_value := F14.other W12 (Or.inr (slot_ne (Or.inr (own_w hw 20 rfl)) (Or.inr (own_w hw 21 rfl)) (by decide) (t := (.array .byte)) (t' := .byte) (by decide) (by decide)))
  have P16 : own_Go p e below S0 (T12.setTop (mkF m 54 #[.val (.ref q2s1_0), .val (.ref qc), .val (.int 0), .val (.int 1), .val .null, .val (.ref b2_7)] [(.ref b2_7), (.ref q2s1_0)])) := fun t k => P12 t (by
    refine XS.aloadN X12.here hx rfl (hb hby d2_51) rfl rfl ?_
    refine XS.aload X12.here hx rfl (hb hby d2_52) rfl rfl ?_
    show Steps p.tables e below (T12.setTop (mkF m 54 #[.val (.ref q2s1_0), .val (.ref qc), .val (.int 0), .val (.int 1), .val .null, .val (.ref b2_7)] [(.ref b2_7), (.ref q2s1_0)])) t
    exact k)
  obtain ⟨T17, h17, X17, e17, W17, st17⟩ := putF X12 hx hZ hown (host := "") (Or.inl (own_w hw 24 rfl)) Via.refl e12 F15 F13 (Or.inr ⟨(own_w hw 20 rfl), rfl, hnm⟩) (own_w hw 6 rfl) (ty := (.array .byte)) (by decide) rfl rfl (g := (mkF m 54 #[.val (.ref q2s1_0), .val (.ref qc), .val (.int 0), .val (.int 1), .val .null, .val (.ref b2_7)] [(.ref b2_7), (.ref q2s1_0)])) rfl rfl (hb hby d2_54)
  have K17 : Keep h0 h17 [q2s1_0] := K12.wr W17 (Or.inl (by simp))
  have N17 := Fr.snoc X17 N12 g_q2s1_0
  have F17w : Fld Z h17 q2s1_0 "java/lang/String" "value" "[B" (.ref b2_7) := F15.same W17
  have P17 : own_Go p e below S0 (T17.setTop (mkF m 57 #[.val (.ref q2s1_0), .val (.ref qc), .val (.int 0), .val (.int 1), .val .null, .val (.ref b2_7)] [])) := fun t k => P16 t (st17 _ k)
  have F18 : Arv Z h12 b2_7 k2_7 .byte (1 : Int32) [(.int (nar .byte (x0.toInt8.toInt32)))] (.int 0) := F7_0.other W12 (Ne.symm ne_q2s1_0_b2_7)
  have F19 : Arv Z h17 b2_7 k2_7 .byte (1 : Int32) [(.int (nar .byte (x0.toInt8.toInt32)))] (.int 0) := F18.other W17 (Ne.symm ne_q2s1_0_b2_7)
  have F20 : Fld Z h17 q2s1_0 "java/lang/String" "coder" "B" (.int 0) := F12w.other W17 (Or.inr (slot_ne (Or.inr (own_w hw 21 rfl)) (Or.inr (own_w hw 20 rfl)) (by decide) (t := .byte) (t' := (.array .byte)) (by decide) (by decide)))
  obtain ⟨fs, hr, hrun, hended, hW, hsame⟩ := X17.leave (v := none) (fun _ => rfl) (BodyLoose.notSynchronized Bd)
  refine ⟨_, _, own_from hE0 (P17 _ ?_), hrun, hended, _, _, rfl, ?_, ⟨_, rfl⟩, hW, hsame.mono (by decide) (by decide)⟩
  · show Steps p.tables e below (T17.setTop (mkF m 57 #[.val (.ref q2s1_0), .val (.ref qc), .val (.int 0), .val (.int 1), .val .null, .val (.ref b2_7)] [])) _
    exact X17.returnOut hx Bd.returns (hb hby d2_57) hr
  · show Q2s1 Z q2s1_0 qc kc zc x0 u2s1_q2s1_0_coder u2s1_q2s1_0_value h0 n0 _ T17.heap _
    rw [e17]
    exact ⟨b2_7, k2_7, rfl, N17, K17, o_b2_7, F19, F20, F17w⟩
theorem pd_3 : parseMethodDescriptor "([CIILjava/lang/Void;)V" = some ⟨[(.array .char), .int, .int, (.object "java/lang/Void")], none⟩ := by decide +kernel
theorem d1_0 : decode jdk_42_method_3_code 0 = .ok (.aload_n 0, 1) := by decide +kernel
theorem d1_1 : decode jdk_42_method_3_code 1 = .ok (.aload_n 1, 1) := by decide +kernel
theorem d1_2 : decode jdk_42_method_3_code 2 = .ok (.iconst 0, 1) := by decide +kernel
theorem d1_3 : decode jdk_42_method_3_code 3 = .ok (.aload_n 1, 1) := by decide +kernel
theorem d1_4 : decode jdk_42_method_3_code 4 = .ok (.arraylength, 1) := by decide +kernel
theorem d1_5 : decode jdk_42_method_3_code 5 = .ok (.aconst_null, 1) := by decide +kernel
theorem d1_6 : decode jdk_42_method_3_code 6 = .ok (.invokespecial 27, 3) := by decide +kernel
theorem d1_9 : decode jdk_42_method_3_code 9 = .ok (.return_, 1) := by decide +kernel
theorem ef_1s1 (m : MethodId) (q1s1_0 : Addr) (qc : Addr) : entryFrame m #[(.ref q1s1_0), (.ref qc)] 2 = mkF m 0 #[.val (.ref q1s1_0), .val (.ref qc)] [] := by first | (simp [entryFrame, mkF, argsToLocals, Value.category]; done) | rfl
def Q1s1 (Z : State) (q1s1_0 : Addr) (qc : Addr) (kc : ClassId) (zc : Int32) (x0 : Int32) (u1s1_q1s1_0_coder : Value) (u1s1_q1s1_0_value : Value) (h0 : Heap) (n0 : Nat) (v : Option Value) (h : Heap) (L : List Loc) : Prop := ∃ (b2_7_3 : Addr) (k2_7_3 : ClassId), v = none ∧ Fr n0 L ∧ Keep h0 h [q1s1_0] ∧ h0.size ≤ b2_7_3 ∧ Arv Z h b2_7_3 k2_7_3 .byte (1 : Int32) [(.int (nar .byte (x0.toInt8.toInt32)))] (.int 0) ∧ Fld Z h q1s1_0 "java/lang/String" "coder" "B" (.int 0) ∧ Fld Z h q1s1_0 "java/lang/String" "value" "[B" (.ref b2_7_3)
set_option maxRecDepth 65536 in
set_option maxHeartbeats 40000000 in
theorem rm1s1 (l : Launch) (Z : State) (a0 : Array Value) (hw : ∀ d ∈ tables_1, d.before a0 Z = true) (ws : List Jvm.Cond) (q1s1_0 : Addr) (qc : Addr) (kc : ClassId) (zc : Int32) (x0 : Int32) (u1s1_q1s1_0_coder : Value) (u1s1_q1s1_0_value : Value) (h0 : Heap) (n0 : Nat) (Z0 : n0 ≤ h0.size) (E_q1s1_0 : Exa Z h0 q1s1_0 "java/lang/String") (A_qc : Arv Z h0 qc kc .char (1 : Int32) [(.int x0)] (.int 0)) (S_COMPACT_STRINGS : Sta Z h0 "java/lang/String" "COMPACT_STRINGS" "Z" (.int zc)) (hcs : ¬ (zc = (0 : Int32))) (hx0 : ¬ ((255 : Int32) < x0)) (F_q1s1_0_coder : Fld Z h0 q1s1_0 "java/lang/String" "coder" "B" u1s1_q1s1_0_coder) (g_q1s1_0 : n0 ≤ q1s1_0) (F_q1s1_0_value : Fld Z h0 q1s1_0 "java/lang/String" "value" "[B" u1s1_q1s1_0_value) :
    MetFree l (⟨"java/lang/String", "<init>", "([C)V"⟩ : MethodName) (head1 (Jvm.Cond.code (⟨"java/lang/String", "<init>", "([C)V"⟩ : MethodName) jdk_42_method_3_code 2 none :: ws) ({ frames := 3, cells := 1, slots := 1, locals := 52 } : Room)) (fun a U => a = #[(.ref q1s1_0), (.ref qc)] ∧ Z.Warmed39 U.vm ∧ U.heap = h0) (fun _ _ _ _ _ => True) (fun _ U o U' => ∃ v L, o = .returned v ∧ Q1s1 Z q1s1_0 qc kc zc x0 u1s1_q1s1_0_coder u1s1_q1s1_0_value h0 n0 v U'.heap L ∧ FrameEnd U o U' L ({ frames := 3, cells := 1, slots := 1, locals := 52 } : Room).cells ({ frames := 3, cells := 1, slots := 1, locals := 52 } : Room).slots) := by
  refine MetFree.of_bodySF (plainFor_of_name pn_2) hisR ?_
  intro p e s m args below meth c s₁ Bd hml0 hP hK
  obtain ⟨rfl, hZ, hh⟩ := hP
  have hx := Bd.exec
  have hby := Bd.bytes
  have hml : c.maxLocals = 2 := hml0
  have hown : s.vm.findClass "java/lang/String" = some m.cls := findClass_of_methodNamed Bd.named
  have hnm := (name_of_methodNamed Bd.named Bd.method).1
  have X0 : Stand p l e ({ frames := 3, cells := 1, slots := 1, locals := 52 } : Room) s m #[(.ref q1s1_0), (.ref qc)] below meth c s₁ [] 0 0 := Stand.of_body Bd
  have e0 : s₁.heap = h0 := by rw [← hh, Bd.state]; rfl
  have N0 := Fr.nil n0
  obtain ⟨S0, hE0⟩ : ∃ z, z = s₁.setTop (entryFrame m #[(.ref q1s1_0), (.ref qc)] 2) := ⟨_, rfl⟩
  have P0 : own_Go p e below S0 (s₁.setTop (mkF m 0 #[.val (.ref q1s1_0), .val (.ref qc)] [])) := fun t k => by rw [hE0]; exact castTop (ef_1s1 m q1s1_0 qc) k
  obtain ⟨cl1, Ar1, q1, Sz1, Nn1, Hh1, Gg1⟩ := id A_qc
  have P2 : own_Go p e below S0 (s₁.setTop (mkF m 6 #[.val (.ref q1s1_0), .val (.ref qc)] [.null, (.int 1), (.int 0), (.ref qc), (.ref q1s1_0)])) := fun t k => P0 t (by
    refine XS.aloadN X0.here hx rfl (hb hby d1_0) rfl rfl ?_
    refine XS.aloadN X0.here hx rfl (hb hby d1_1) rfl rfl ?_
    refine XS.iconst X0.here hx rfl (hb hby d1_2) ?_
    refine XS.aloadN X0.here hx rfl (hb hby d1_3) rfl rfl ?_
    show Steps p.tables e below (s₁.setTop (mkF m 4 #[.val (.ref q1s1_0), .val (.ref qc)] [(.ref qc), (.int 0), (.ref qc), (.ref q1s1_0)])) t
    refine X0.arraylength hx (by rw [e0]; exact Ar1.1) (State.isArrayOf_alike hZ.alike Ar1.2.1) (g := (mkF m 4 #[.val (.ref q1s1_0), .val (.ref qc)] [(.ref qc), (.int 0), (.ref qc), (.ref q1s1_0)])) rfl rfl (hb hby d1_4) _ ?_
    rw [len_of Sz1 Nn1]
    refine XS.aconstNull X0.here hx rfl (hb hby d1_5) ?_
    show Steps p.tables e below (s₁.setTop (mkF m 6 #[.val (.ref q1s1_0), .val (.ref qc)] [.null, (.int 1), (.int 0), (.ref qc), (.ref q1s1_0)])) t
    exact k)
  obtain ⟨_, _, ⟨T3, L3, k3, n3⟩, -, X3, ⟨Lc3, hQ3, l3, y3, z3⟩, st3⟩ := X0.specialBack hx (y := (⟨"java/lang/String", "<init>", "([CIILjava/lang/Void;)V"⟩ : MethodName)) rfl hown (mvT hZ (own_w hw 11 rfl)) (mvT hZ (own_w hw 12 rfl)) (mvT hZ (own_w hw 14 rfl)) (by decide) (backOf (W := 0) (rm2s1 l Z a0 hw [] q1s1_0 qc kc zc x0 u1s1_q1s1_0_coder u1s1_q1s1_0_value h0 n0 Z0 E_q1s1_0 A_qc S_COMPACT_STRINGS hcs hx0 F_q1s1_0_coder g_q1s1_0 F_q1s1_0_value) hZ (own_w hw 14 rfl) (own_w hw 7 rfl) (by decide) (by decide)) (g := (mkF m 6 #[.val (.ref q1s1_0), .val (.ref qc)] [.null, (.int 1), (.int 0), (.ref qc), (.ref q1s1_0)])) rfl (by rw [hml]; rfl) (Steps.refl _) (a := q1s1_0) (argsL := [(.ref qc), (.int 0), (.int 1), .null]) (rest := []) (lenOf pd_3 rfl) rfl (by show 2 * 0 + _ ≤ _; exact Nat.le_of_eq rfl) (hb hby d1_6) (fun _ _ => ⟨rfl, e0, (by decide : 0 + 1 ≤ _), (by decide : 0 + 1 ≤ _)⟩)
  dsimp only [Pt.U, Pt.locs, Pt.cells, Pt.slots] at X3 l3 y3 z3 st3 hQ3
  subst l3 y3 z3
  obtain ⟨b2_7_3, k2_7_3, rfl, N3q, Kc3, sz_b2_7_3, F3_0, F3_1, F3_2⟩ := hQ3
  have N3 := Fr.app N0 N3q
  have ne_q1s1_0_b2_7_3 : q1s1_0 ≠ b2_7_3 := Nat.ne_of_lt (Nat.lt_of_lt_of_le E_q1s1_0.lt sz_b2_7_3)
  have ne_qc_b2_7_3 : qc ≠ b2_7_3 := Nat.ne_of_lt (Nat.lt_of_lt_of_le A_qc.lt sz_b2_7_3)
  have g_b2_7_3 : n0 ≤ b2_7_3 := Nat.le_trans Z0 sz_b2_7_3
  have o_b2_7_3 : h0.size ≤ b2_7_3 := sz_b2_7_3
  have K3 : Keep h0 T3.heap [q1s1_0] := Keep.trans (Keep.refl h0 [q1s1_0]) Kc3 (allS (Or.inl (by simp)) all0)
  have P3 : own_Go p e below S0 (T3.setTop (mkF m 9 #[.val (.ref q1s1_0), .val (.ref qc)] [])) := fun t k => P2 t (st3.trans k)
  obtain ⟨fs, hr, hrun, hended, hW, hsame⟩ := X3.leave (v := none) (fun _ => rfl) (BodyLoose.notSynchronized Bd)
  refine ⟨_, _, own_from hE0 (P3 _ ?_), hrun, hended, _, _, rfl, ?_, ⟨_, rfl⟩, hW, hsame.mono (by decide) (by decide)⟩
  · show Steps p.tables e below (T3.setTop (mkF m 9 #[.val (.ref q1s1_0), .val (.ref qc)] [])) _
    exact X3.returnOut hx Bd.returns (hb hby d1_9) hr
  · show Q1s1 Z q1s1_0 qc kc zc x0 u1s1_q1s1_0_coder u1s1_q1s1_0_value h0 n0 _ T3.heap _
    exact ⟨b2_7_3, k2_7_3, rfl, N3, K3, o_b2_7_3, F3_0, F3_1, F3_2⟩
theorem ef_18s2 (m : MethodId) (qc : Addr) (qb : Addr) : entryFrame m #[(.ref qc), (.int 0), (.ref qb), (.int 0), (.int 2)] 7 = mkF m 0 #[.val (.ref qc), .val (.int 0), .val (.ref qb), .val (.int 0), .val (.int 2), .unset, .unset] [] := by first | (simp [entryFrame, mkF, argsToLocals, Value.category]; done) | rfl
def Q18s2 (Z : State) (qc : Addr) (qb : Addr) (kc : ClassId) (kb : ClassId) (x0 : Int32) (x1 : Int32) (h0 : Heap) (n0 : Nat) (v : Option Value) (h : Heap) (L : List Loc) : Prop := v = some (.int 2) ∧ Fr n0 L ∧ Keep h0 h [qb] ∧ Arv Z h qb kb .byte (2 : Int32) [(.int (nar .byte (x0.toInt8.toInt32))), (.int (nar .byte (x1.toInt8.toInt32)))] (.int 0)
set_option maxRecDepth 65536 in
set_option maxHeartbeats 40000000 in
theorem rm18s2 (l : Launch) (Z : State) (a0 : Array Value) (hw : ∀ d ∈ tables_1, d.before a0 Z = true) (ws : List Jvm.Cond) (qc : Addr) (qb : Addr) (kc : ClassId) (kb : ClassId) (x0 : Int32) (x1 : Int32) (h0 : Heap) (n0 : Nat) (Z0 : n0 ≤ h0.size) (A_qc : Arv Z h0 qc kc .char (2 : Int32) [(.int x0), (.int x1)] (.int 0)) (A_qb : Arv Z h0 qb kb .byte (2 : Int32) [(.int 0), (.int 0)] (.int 0)) (hx0 : ¬ ((255 : Int32) < x0)) (hx1 : ¬ ((255 : Int32) < x1)) (g_qb : n0 ≤ qb) (hne_qc_qb : qc ≠ qb) :
    MetFree l (⟨"java/lang/StringUTF16", "compress", "([CI[BII)I"⟩ : MethodName) (head1 (Jvm.Cond.code (⟨"java/lang/StringUTF16", "compress", "([CI[BII)I"⟩ : MethodName) jdk_52_method_21_code 7 (some .int) :: ws) ({ frames := 0, cells := 0, slots := 0, locals := 0 } : Room)) (fun a U => a = #[(.ref qc), (.int 0), (.ref qb), (.int 0), (.int 2)] ∧ Z.Warmed39 U.vm ∧ U.heap = h0) (fun _ _ _ _ _ => True) (fun _ U o U' => ∃ v L, o = .returned v ∧ Q18s2 Z qc qb kc kb x0 x1 h0 n0 v U'.heap L ∧ FrameEnd U o U' L ({ frames := 0, cells := 0, slots := 0, locals := 0 } : Room).cells ({ frames := 0, cells := 0, slots := 0, locals := 0 } : Room).slots) := by
  refine MetFree.of_bodySF (plainFor_of_name pn_18) hisR ?_
  intro p e s m args below meth c s₁ Bd hml0 hP hK
  obtain ⟨rfl, hZ, hh⟩ := hP
  have hx := Bd.exec
  have hby := Bd.bytes
  have hml : c.maxLocals = 7 := hml0
  have hown : s.vm.findClass "java/lang/StringUTF16" = some m.cls := findClass_of_methodNamed Bd.named
  have hnm := (name_of_methodNamed Bd.named Bd.method).1
  have X0 : Stand p l e ({ frames := 0, cells := 0, slots := 0, locals := 0 } : Room) s m #[(.ref qc), (.int 0), (.ref qb), (.int 0), (.int 2)] below meth c s₁ [] 0 0 := Stand.of_body Bd
  have e0 : s₁.heap = h0 := by rw [← hh, Bd.state]; rfl
  have N0 := Fr.nil n0
  obtain ⟨S0, hE0⟩ : ∃ z, z = s₁.setTop (entryFrame m #[(.ref qc), (.int 0), (.ref qb), (.int 0), (.int 2)] 7) := ⟨_, rfl⟩
  have P0 : own_Go p e below S0 (s₁.setTop (mkF m 0 #[.val (.ref qc), .val (.int 0), .val (.ref qb), .val (.int 0), .val (.int 2), .unset, .unset] [])) := fun t k => by rw [hE0]; exact castTop (ef_18s2 m qc qb) k
  obtain ⟨cl1, Ar1, q1, Sz1, Nn1, Hh1, Gg1⟩ := id A_qc
  have hin1 : ¬ ((0 : Int32) < 0 ∨ cl1.slots.size ≤ ((0 : Int32)).toNatClampNeg) := inb_of Sz1 ⟨by decide, by decide⟩
  have hat1 : cl1.slots[((0 : Int32)).toNatClampNeg]? = some (.int x0) := Has.at Hh1 hin1 rfl
  have c2 : ¬ ((255 : Int32) < x0) := hx0
  have P3 : own_Go p e below S0 (s₁.setTop (mkF m 31 #[.val (.ref qc), .val (.int 0), .val (.ref qb), .val (.int 0), .val (.int 2), .val (.int 0), .val (.int x0)] [(.int (x0.toInt8.toInt32)), (.int 0), (.ref qb)])) := fun t k => P0 t (by
    refine XS.iconst X0.here hx rfl (hb hby d18_0) ?_
    refine XS.istore X0.here hx rfl (hb hby d18_1) rfl (l' := #[.val (.ref qc), .val (.int 0), .val (.ref qb), .val (.int 0), .val (.int 2), .val (.int 0), .unset]) rfl ?_
    refine XS.iload X0.here hx rfl (hb hby d18_3) rfl ?_
    refine XS.iload X0.here hx rfl (hb hby d18_5) rfl ?_
    refine XS.icmpNo X0.here hx rfl (hb hby d18_7) rfl (tlt (by decide)).2.1 ?_
    refine XS.aloadN X0.here hx rfl (hb hby d18_10) rfl rfl ?_
    show Steps p.tables e below (s₁.setTop (mkF m 11 #[.val (.ref qc), .val (.int 0), .val (.ref qb), .val (.int 0), .val (.int 2), .val (.int 0), .unset] [(.ref qc)])) t
    refine XS.iloadN X0.here hx rfl (hb hby d18_11) rfl ?_
    show Steps p.tables e below (s₁.setTop (mkF m 12 #[.val (.ref qc), .val (.int 0), .val (.ref qb), .val (.int 0), .val (.int 2), .val (.int 0), .unset] [(.int 0), (.ref qc)])) t
    refine X0.caload hx (j := (0 : Int32)) (v := (.int x0)) (by rw [e0]; exact Ar1.1) (State.isArrayOf_alike hZ.alike Ar1.2.1) Ar1.2.2 hin1 hat1 (g := (mkF m 12 #[.val (.ref qc), .val (.int 0), .val (.ref qb), .val (.int 0), .val (.int 2), .val (.int 0), .unset] [(.int 0), (.ref qc)])) rfl rfl (hb hby d18_12) _ ?_
    refine XS.istore X0.here hx rfl (hb hby d18_13) rfl (l' := #[.val (.ref qc), .val (.int 0), .val (.ref qb), .val (.int 0), .val (.int 2), .val (.int 0), .val (.int x0)]) rfl ?_
    refine XS.iload X0.here hx rfl (hb hby d18_15) rfl ?_
    refine XS.sipush X0.here hx rfl (hb hby d18_17) ?_
    refine XS.icmpYes X0.here hx rfl (pc0 := 20) (pc' := 26) rfl (hb hby d18_20) rfl (flt c2).2.2.2 (by decide) (by decide) ?_
    show Steps p.tables e below (s₁.setTop (mkF m 26 #[.val (.ref qc), .val (.int 0), .val (.ref qb), .val (.int 0), .val (.int 2), .val (.int 0), .val (.int x0)] [])) t
    refine XS.aloadN X0.here hx rfl (hb hby d18_26) rfl rfl ?_
    refine XS.iloadN X0.here hx rfl (hb hby d18_27) rfl ?_
    refine XS.iload X0.here hx rfl (hb hby d18_28) rfl ?_
    refine XS.i2b X0.here hx rfl (hb hby d18_30) rfl ?_
    show Steps p.tables e below (s₁.setTop (mkF m 31 #[.val (.ref qc), .val (.int 0), .val (.ref qb), .val (.int 0), .val (.int 2), .val (.int 0), .val (.int x0)] [(.int (x0.toInt8.toInt32)), (.int 0), (.ref qb)])) t
    exact k)
  obtain ⟨cl5, Ar5, q5, Sz5, Nn5, Hh5, Gg5⟩ := id A_qb
  have hin5 : ¬ ((0 : Int32) < 0 ∨ cl5.slots.size ≤ ((0 : Int32)).toNatClampNeg) := inb_of Sz5 ⟨by decide, by decide⟩
  obtain ⟨T4, h4, X4, e4, W4, st4⟩ := stB X0 hx hZ e0 Ar5 (j := (0 : Int32)) hin5 (g := (mkF m 31 #[.val (.ref qc), .val (.int 0), .val (.ref qb), .val (.int 0), .val (.int 2), .val (.int 0), .val (.int x0)] [(.int (x0.toInt8.toInt32)), (.int 0), (.ref qb)])) rfl rfl (hb hby d18_31)
  have K4 : Keep h0 h4 [qb] := (Keep.refl h0 [qb]).wr W4 (Or.inl (by simp))
  have N4 := Fr.snoc X4 N0 g_qb
  have V4 : Arv Z h4 qb kb .byte (2 : Int32) [(.int (nar .byte (x0.toInt8.toInt32))), (.int 0)] (.int 0) := Arv.set Ar5 q5 Sz5 Nn5 Hh5 Gg5 (fits_nar_byte _) W4 0 rfl (Nat.le_of_ble_eq_true rfl)
  have P4 : own_Go p e below S0 (T4.setTop (mkF m 32 #[.val (.ref qc), .val (.int 0), .val (.ref qb), .val (.int 0), .val (.int 2), .val (.int 0), .val (.int x0)] [])) := fun t k => P3 t (st4 _ k)
  have F6 : Arv Z h4 qc kc .char (2 : Int32) [(.int x0), (.int x1)] (.int 0) := A_qc.other W4 hne_qc_qb
  obtain ⟨cl7, Ar7, q7, Sz7, Nn7, Hh7, Gg7⟩ := id F6
  have hin7 : ¬ ((1 : Int32) < 0 ∨ cl7.slots.size ≤ ((1 : Int32)).toNatClampNeg) := inb_of Sz7 ⟨by decide, by decide⟩
  have hat7 : cl7.slots[((1 : Int32)).toNatClampNeg]? = some (.int x1) := Has.at Hh7 hin7 rfl
  have c8 : ¬ ((255 : Int32) < x1) := hx1
  have P9 : own_Go p e below S0 (T4.setTop (mkF m 31 #[.val (.ref qc), .val (.int 1), .val (.ref qb), .val (.int 1), .val (.int 2), .val (.int 1), .val (.int x1)] [(.int (x1.toInt8.toInt32)), (.int 1), (.ref qb)])) := fun t k => P4 t (by
    refine XS.iinc X4.here hx rfl (hb hby d18_32) rfl (l' := #[.val (.ref qc), .val (.int 1), .val (.ref qb), .val (.int 0), .val (.int 2), .val (.int 0), .val (.int x0)]) rfl ?_
    refine XS.iinc X4.here hx rfl (hb hby d18_35) rfl (l' := #[.val (.ref qc), .val (.int 1), .val (.ref qb), .val (.int 1), .val (.int 2), .val (.int 0), .val (.int x0)]) rfl ?_
    refine XS.iinc X4.here hx rfl (hb hby d18_38) rfl (l' := #[.val (.ref qc), .val (.int 1), .val (.ref qb), .val (.int 1), .val (.int 2), .val (.int 1), .val (.int x0)]) rfl ?_
    refine XS.goto X4.here hx rfl (pc0 := 41) (pc' := 3) rfl (hb hby d18_41) (by decide) (by decide) ?_
    refine XS.iload X4.here hx rfl (hb hby d18_3) rfl ?_
    refine XS.iload X4.here hx rfl (hb hby d18_5) rfl ?_
    show Steps p.tables e below (T4.setTop (mkF m 7 #[.val (.ref qc), .val (.int 1), .val (.ref qb), .val (.int 1), .val (.int 2), .val (.int 1), .val (.int x0)] [(.int 2), (.int 1)])) t
    refine XS.icmpNo X4.here hx rfl (hb hby d18_7) rfl (tlt (by decide)).2.1 ?_
    refine XS.aloadN X4.here hx rfl (hb hby d18_10) rfl rfl ?_
    refine XS.iloadN X4.here hx rfl (hb hby d18_11) rfl ?_
    show Steps p.tables e below (T4.setTop (mkF m 12 #[.val (.ref qc), .val (.int 1), .val (.ref qb), .val (.int 1), .val (.int 2), .val (.int 1), .val (.int x0)] [(.int 1), (.ref qc)])) t
    refine X4.caload hx (j := (1 : Int32)) (v := (.int x1)) (by rw [e4]; exact Ar7.1) (State.isArrayOf_alike hZ.alike Ar7.2.1) Ar7.2.2 hin7 hat7 (g := (mkF m 12 #[.val (.ref qc), .val (.int 1), .val (.ref qb), .val (.int 1), .val (.int 2), .val (.int 1), .val (.int x0)] [(.int 1), (.ref qc)])) rfl rfl (hb hby d18_12) _ ?_
    refine XS.istore X4.here hx rfl (hb hby d18_13) rfl (l' := #[.val (.ref qc), .val (.int 1), .val (.ref qb), .val (.int 1), .val (.int 2), .val (.int 1), .val (.int x1)]) rfl ?_
    refine XS.iload X4.here hx rfl (hb hby d18_15) rfl ?_
    show Steps p.tables e below (T4.setTop (mkF m 17 #[.val (.ref qc), .val (.int 1), .val (.ref qb), .val (.int 1), .val (.int 2), .val (.int 1), .val (.int x1)] [(.int x1)])) t
    refine XS.sipush X4.here hx rfl (hb hby d18_17) ?_
    refine XS.icmpYes X4.here hx rfl (pc0 := 20) (pc' := 26) rfl (hb hby d18_20) rfl (flt c8).2.2.2 (by decide) (by decide) ?_
    refine XS.aloadN X4.here hx rfl (hb hby d18_26) rfl rfl ?_
    refine XS.iloadN X4.here hx rfl (hb hby d18_27) rfl ?_
    refine XS.iload X4.here hx rfl (hb hby d18_28) rfl ?_
    refine XS.i2b X4.here hx rfl (hb hby d18_30) rfl ?_
    show Steps p.tables e below (T4.setTop (mkF m 31 #[.val (.ref qc), .val (.int 1), .val (.ref qb), .val (.int 1), .val (.int 2), .val (.int 1), .val (.int x1)] [(.int (x1.toInt8.toInt32)), (.int 1), (.ref qb)])) t
    exact k)
  obtain ⟨cl11, Ar11, q11, Sz11, Nn11, Hh11, Gg11⟩ := id V4
  have hin11 : ¬ ((1 : Int32) < 0 ∨ cl11.slots.size ≤ ((1 : Int32)).toNatClampNeg) := inb_of Sz11 ⟨by decide, by decide⟩
  obtain ⟨T10, h10, X10, e10, W10, st10⟩ := stB X4 hx hZ e4 Ar11 (j := (1 : Int32)) hin11 (g := (mkF m 31 #[.val (.ref qc), .val (.int 1), .val (.ref qb), .val (.int 1), .val (.int 2), .val (.int 1), .val (.int x1)] [(.int (x1.toInt8.toInt32)), (.int 1), (.ref qb)])) rfl rfl (hb hby d18_31)
  have K10 : Keep h0 h10 [qb] := K4.wr W10 (Or.inl (by simp))
  have N10 := Fr.snoc X10 N4 g_qb
  have V10 : Arv Z h10 qb kb .byte (2 : Int32) [(.int (nar .byte (x0.toInt8.toInt32))), (.int (nar .byte (x1.toInt8.toInt32)))] (.int 0) := Arv.set Ar11 q11 Sz11 Nn11 Hh11 Gg11 (fits_nar_byte _) W10 1 rfl (Nat.le_of_ble_eq_true rfl)
  have P10 : own_Go p e below S0 (T10.setTop (mkF m 32 #[.val (.ref qc), .val (.int 1), .val (.ref qb), .val (.int 1), .val (.int 2), .val (.int 1), .val (.int x1)] [])) := fun t k => P9 t (st10 _ k)
  have P12 : own_Go p e below S0 (T10.setTop (mkF m 46 #[.val (.ref qc), .val (.int 2), .val (.ref qb), .val (.int 2), .val (.int 2), .val (.int 2), .val (.int x1)] [(.int 2)])) := fun t k => P10 t (by
    refine XS.iinc X10.here hx rfl (hb hby d18_32) rfl (l' := #[.val (.ref qc), .val (.int 2), .val (.ref qb), .val (.int 1), .val (.int 2), .val (.int 1), .val (.int x1)]) rfl ?_
    refine XS.iinc X10.here hx rfl (hb hby d18_35) rfl (l' := #[.val (.ref qc), .val (.int 2), .val (.ref qb), .val (.int 2), .val (.int 2), .val (.int 1), .val (.int x1)]) rfl ?_
    refine XS.iinc X10.here hx rfl (hb hby d18_38) rfl (l' := #[.val (.ref qc), .val (.int 2), .val (.ref qb), .val (.int 2), .val (.int 2), .val (.int 2), .val (.int x1)]) rfl ?_
    refine XS.goto X10.here hx rfl (pc0 := 41) (pc' := 3) rfl (hb hby d18_41) (by decide) (by decide) ?_
    refine XS.iload X10.here hx rfl (hb hby d18_3) rfl ?_
    refine XS.iload X10.here hx rfl (hb hby d18_5) rfl ?_
    show Steps p.tables e below (T10.setTop (mkF m 7 #[.val (.ref qc), .val (.int 2), .val (.ref qb), .val (.int 2), .val (.int 2), .val (.int 2), .val (.int x1)] [(.int 2), (.int 2)])) t
    refine XS.icmpYes X10.here hx rfl (pc0 := 7) (pc' := 44) rfl (hb hby d18_7) rfl (flt (by decide)).2.1 (by decide) (by decide) ?_
    refine XS.iload X10.here hx rfl (hb hby d18_44) rfl ?_
    show Steps p.tables e below (T10.setTop (mkF m 46 #[.val (.ref qc), .val (.int 2), .val (.ref qb), .val (.int 2), .val (.int 2), .val (.int 2), .val (.int x1)] [(.int 2)])) t
    exact k)
  obtain ⟨fs, hr, hrun, hended, hW, hsame⟩ := X10.leave (v := some (.int 2)) (fun h => by rw [Bd.returns] at h; cases h) (BodyLoose.notSynchronized Bd)
  refine ⟨_, _, own_from hE0 (P12 _ ?_), hrun, hended, _, _, rfl, ?_, ⟨_, rfl⟩, hW, hsame.mono (by decide) (by decide)⟩
  · show Steps p.tables e below (T10.setTop (mkF m 46 #[.val (.ref qc), .val (.int 2), .val (.ref qb), .val (.int 2), .val (.int 2), .val (.int 2), .val (.int x1)] [(.int 2)])) _
    exact retI X10 hx Bd.returns (hb hby d18_46) hr
  · show Q18s2 Z qc qb kc kb x0 x1 h0 n0 _ T10.heap _
    rw [e10]
    exact ⟨rfl, N10, K10, V10⟩
theorem ef_17s2 (m : MethodId) (qc : Addr) : entryFrame m #[(.ref qc), (.int 0), (.int 2)] 6 = mkF m 0 #[.val (.ref qc), .val (.int 0), .val (.int 2), .unset, .unset, .unset] [] := by first | (simp [entryFrame, mkF, argsToLocals, Value.category]; done) | rfl
def Q17s2 (Z : State) (qc : Addr) (kc : ClassId) (x0 : Int32) (x1 : Int32) (h0 : Heap) (n0 : Nat) (v : Option Value) (h : Heap) (L : List Loc) : Prop := ∃ (b2 : Addr) (k2 : ClassId), v = some (.ref b2) ∧ Fr n0 L ∧ Keep h0 h [] ∧ h0.size ≤ b2 ∧ Arv Z h b2 k2 .byte (2 : Int32) [(.int (nar .byte (x0.toInt8.toInt32))), (.int (nar .byte (x1.toInt8.toInt32)))] (.int 0)
set_option maxRecDepth 65536 in
set_option maxHeartbeats 40000000 in
theorem rm17s2 (l : Launch) (Z : State) (a0 : Array Value) (hw : ∀ d ∈ tables_1, d.before a0 Z = true) (ws : List Jvm.Cond) (qc : Addr) (kc : ClassId) (x0 : Int32) (x1 : Int32) (h0 : Heap) (n0 : Nat) (Z0 : n0 ≤ h0.size) (A_qc : Arv Z h0 qc kc .char (2 : Int32) [(.int x0), (.int x1)] (.int 0)) (hx0 : ¬ ((255 : Int32) < x0)) (hx1 : ¬ ((255 : Int32) < x1)) :
    MetFree l (⟨"java/lang/StringUTF16", "compress", "([CII)[B"⟩ : MethodName) (head1 (Jvm.Cond.code (⟨"java/lang/StringUTF16", "compress", "([CII)[B"⟩ : MethodName) jdk_52_method_16_code 6 (some (.array .byte)) :: ws) ({ frames := 1, cells := 1, slots := 2, locals := 18 } : Room)) (fun a U => a = #[(.ref qc), (.int 0), (.int 2)] ∧ Z.Warmed39 U.vm ∧ U.heap = h0) (fun _ _ _ _ _ => True) (fun _ U o U' => ∃ v L, o = .returned v ∧ Q17s2 Z qc kc x0 x1 h0 n0 v U'.heap L ∧ FrameEnd U o U' L ({ frames := 1, cells := 1, slots := 2, locals := 18 } : Room).cells ({ frames := 1, cells := 1, slots := 2, locals := 18 } : Room).slots) := by
  refine MetFree.of_bodySF (plainFor_of_name pn_18) hisR ?_
  intro p e s m args below meth c s₁ Bd hml0 hP hK
  obtain ⟨rfl, hZ, hh⟩ := hP
  have hx := Bd.exec
  have hby := Bd.bytes
  have hml : c.maxLocals = 6 := hml0
  have hown : s.vm.findClass "java/lang/StringUTF16" = some m.cls := findClass_of_methodNamed Bd.named
  have hnm := (name_of_methodNamed Bd.named Bd.method).1
  have X0 : Stand p l e ({ frames := 1, cells := 1, slots := 2, locals := 18 } : Room) s m #[(.ref qc), (.int 0), (.int 2)] below meth c s₁ [] 0 0 := Stand.of_body Bd
  have e0 : s₁.heap = h0 := by rw [← hh, Bd.state]; rfl
  have N0 := Fr.nil n0
  obtain ⟨S0, hE0⟩ : ∃ z, z = s₁.setTop (entryFrame m #[(.ref qc), (.int 0), (.int 2)] 6) := ⟨_, rfl⟩
  have P0 : own_Go p e below S0 (s₁.setTop (mkF m 0 #[.val (.ref qc), .val (.int 0), .val (.int 2), .unset, .unset, .unset] [])) := fun t k => by rw [hE0]; exact castTop (ef_17s2 m qc) k
  have P1 : own_Go p e below S0 (s₁.setTop (mkF m 1 #[.val (.ref qc), .val (.int 0), .val (.int 2), .unset, .unset, .unset] [(.int 2)])) := fun t k => P0 t (by
    refine XS.iloadN X0.here hx rfl (hb hby d17_0) rfl ?_
    show Steps p.tables e below (s₁.setTop (mkF m 1 #[.val (.ref qc), .val (.int 0), .val (.int 2), .unset, .unset, .unset] [(.int 2)])) t
    exact k)
  obtain ⟨T2, h2, k2, X2, e2, E2, A2, st2⟩ := newP X0 hx hZ (own_w hw 19 rfl) e0 (g := (mkF m 1 #[.val (.ref qc), .val (.int 0), .val (.int 2), .unset, .unset, .unset] [(.int 2)])) rfl (hb hby d17_1) rfl (by decide) (cap := 2) (by decide) (by decide) (by decide) (by decide)
  obtain ⟨b2, g2⟩ : ∃ z, z = h0.size := ⟨_, rfl⟩
  rw [← g2] at A2 st2
  have sz_b2 : h0.size ≤ b2 := Nat.le_of_eq g2.symm
  have ne_qc_b2 : qc ≠ b2 := Nat.ne_of_lt (Nat.lt_of_lt_of_le A_qc.lt sz_b2)
  have g_b2 : n0 ≤ b2 := Nat.le_trans Z0 sz_b2
  have o_b2 : h0.size ≤ b2 := sz_b2
  have K2 : Keep h0 h2 [] := (Keep.refl h0 []).ext E2
  have V2 : Arv Z h2 b2 k2 .byte (2 : Int32) [(.int 0), (.int 0)] (.int 0) := (Arv.new A2 (by decide)).pad (pad_rep [] (.int 0) 2)
  have P2 : own_Go p e below S0 (T2.setTop (mkF m 3 #[.val (.ref qc), .val (.int 0), .val (.int 2), .unset, .unset, .unset] [(.ref b2)])) := fun t k => P1 t (st2 _ k)
  have F3 : Arv Z h2 qc kc .char (2 : Int32) [(.int x0), (.int x1)] (.int 0) := A_qc.ext E2
  have P4 : own_Go p e below S0 (T2.setTop (mkF m 9 #[.val (.ref qc), .val (.int 0), .val (.int 2), .val (.ref b2), .unset, .unset] [(.int 2), (.int 0), (.ref b2), (.int 0), (.ref qc)])) := fun t k => P2 t (by
    refine XS.astoreN X2.here hx rfl (hb hby d17_3) rfl rfl (l' := #[.val (.ref qc), .val (.int 0), .val (.int 2), .val (.ref b2), .unset, .unset]) rfl ?_
    refine XS.aloadN X2.here hx rfl (hb hby d17_4) rfl rfl ?_
    refine XS.iloadN X2.here hx rfl (hb hby d17_5) rfl ?_
    refine XS.aloadN X2.here hx rfl (hb hby d17_6) rfl rfl ?_
    refine XS.iconst X2.here hx rfl (hb hby d17_7) ?_
    refine XS.iloadN X2.here hx rfl (hb hby d17_8) rfl ?_
    show Steps p.tables e below (T2.setTop (mkF m 9 #[.val (.ref qc), .val (.int 0), .val (.int 2), .val (.ref b2), .unset, .unset] [(.int 2), (.int 0), (.ref b2), (.int 0), (.ref qc)])) t
    exact k)
  obtain ⟨_, _, ⟨T5, L5, k5, n5⟩, -, X5, ⟨Lc5, hQ5, l5, y5, z5⟩, st5⟩ := Jvm.LawKit.callS X2 hx (y := (⟨"java/lang/StringUTF16", "compress", "([CI[BII)I"⟩ : MethodName)) hown (mvT hZ (own_w hw 91 rfl)) (mvT hZ (own_w hw 92 rfl)) (mvT hZ (own_w hw 89 rfl)) (mvT hZ (own_w hw 93 rfl)) (by decide) (backOf (W := 0) (rm18s2 l Z a0 hw [] qc b2 kc k2 x0 x1 h2 n0 (Nat.le_trans Z0 K2.1) F3 V2 hx0 hx1 g_b2 ne_qc_b2) hZ (own_w hw 93 rfl) (own_w hw 89 rfl) (by decide) (by decide)) (g := (mkF m 9 #[.val (.ref qc), .val (.int 0), .val (.int 2), .val (.ref b2), .unset, .unset] [(.int 2), (.int 0), (.ref b2), (.int 0), (.ref qc)])) rfl (by rw [hml]; rfl) (argsL := [(.ref qc), (.int 0), (.ref b2), (.int 0), (.int 2)]) (rest := []) (lenOf pd_0 rfl) rfl (by show 2 * 0 + _ ≤ _; exact Nat.le_of_eq rfl) (hb hby d17_9) (fun _ _ => ⟨rfl, e2, (by decide : 1 + 0 ≤ _), (by decide : 2 + 0 ≤ _)⟩)
  dsimp only [Pt.U, Pt.locs, Pt.cells, Pt.slots] at X5 l5 y5 z5 st5 hQ5
  subst l5 y5 z5
  obtain ⟨rfl, N5q, Kc5, F5_0⟩ := hQ5
  have N5 := Fr.app N0 N5q
  have K5 : Keep h0 T5.heap [] := Keep.trans K2 Kc5 (allS (Or.inr o_b2) all0)
  have P5 : own_Go p e below S0 (T5.setTop (mkF m 12 #[.val (.ref qc), .val (.int 0), .val (.int 2), .val (.ref b2), .unset, .unset] [(.int 2)])) := fun t k => P4 t (st5 _ k)
  have P6 : own_Go p e below S0 (T5.setTop (mkF m 58 #[.val (.ref qc), .val (.int 0), .val (.int 2), .val (.ref b2), .val (.int 2), .unset] [(.ref b2)])) := fun t k => P5 t (by
    refine XS.istore X5.here hx rfl (hb hby d17_12) rfl (l' := #[.val (.ref qc), .val (.int 0), .val (.int 2), .val (.ref b2), .val (.int 2), .unset]) rfl ?_
    refine XS.iload X5.here hx rfl (hb hby d17_14) rfl ?_
    refine XS.iloadN X5.here hx rfl (hb hby d17_16) rfl ?_
    refine XS.icmpYes X5.here hx rfl (pc0 := 17) (pc' := 57) rfl (hb hby d17_17) rfl (teq (by decide)).1 (by decide) (by decide) ?_
    refine XS.aloadN X5.here hx rfl (hb hby d17_57) rfl rfl ?_
    show Steps p.tables e below (T5.setTop (mkF m 58 #[.val (.ref qc), .val (.int 0), .val (.int 2), .val (.ref b2), .val (.int 2), .unset] [(.ref b2)])) t
    exact k)
  obtain ⟨fs, hr, hrun, hended, hW, hsame⟩ := X5.leave (v := some (.ref b2)) (fun h => by rw [Bd.returns] at h; cases h) (BodyLoose.notSynchronized Bd)
  refine ⟨_, _, own_from hE0 (P6 _ ?_), hrun, hended, _, _, rfl, ?_, ⟨_, rfl⟩, hW, hsame.mono (by decide) (by decide)⟩
  · show Steps p.tables e below (T5.setTop (mkF m 58 #[.val (.ref qc), .val (.int 0), .val (.int 2), .val (.ref b2), .val (.int 2), .unset] [(.ref b2)])) _
    jvm_step X5.here [X5.here.top, hx, (hb hby d17_58), X5.method', Bd.returns, Value.isRef, FieldType.isReference]
    first | (intro acts; rw [hr _ acts rfl rfl rfl]) | rw [hr _ _ rfl rfl rfl]
    exact Steps.refl _
  · show Q17s2 Z qc kc x0 x1 h0 n0 _ T5.heap _
    exact ⟨b2, k2, rfl, N5, K5, o_b2, F5_0⟩
theorem ef_19s2 (m : MethodId) (qb : Addr) : entryFrame m #[(.ref qb), (.int 2)] 2 = mkF m 0 #[.val (.ref qb), .val (.int 2)] [] := by first | (simp [entryFrame, mkF, argsToLocals, Value.category]; done) | rfl
def Q19s2 (Z : State) (qb : Addr) (kb : ClassId) (y0 : Int32) (y1 : Int32) (h0 : Heap) (n0 : Nat) (v : Option Value) (h : Heap) (L : List Loc) : Prop := v = some (.int 0) ∧ Fr n0 L ∧ h = h0
set_option maxRecDepth 65536 in
set_option maxHeartbeats 40000000 in
theorem rm19s2 (l : Launch) (Z : State) (a0 : Array Value) (hw : ∀ d ∈ tables_1, d.before a0 Z = true) (ws : List Jvm.Cond) (qb : Addr) (kb : ClassId) (y0 : Int32) (y1 : Int32) (h0 : Heap) (n0 : Nat) (Z0 : n0 ≤ h0.size) (A_qb : Arv Z h0 qb kb .byte (2 : Int32) [(.int y0), (.int y1)] (.int 0)) :
    MetFree l (⟨"java/lang/StringUTF16", "coderFromArrayLen", "([BI)B"⟩ : MethodName) (head1 (Jvm.Cond.code (⟨"java/lang/StringUTF16", "coderFromArrayLen", "([BI)B"⟩ : MethodName) jdk_52_method_15_code 2 (some .byte) :: ws) ({ frames := 0, cells := 0, slots := 0, locals := 0 } : Room)) (fun a U => a = #[(.ref qb), (.int 2)] ∧ Z.Warmed39 U.vm ∧ U.heap = h0) (fun _ _ _ _ _ => True) (fun _ U o U' => ∃ v L, o = .returned v ∧ Q19s2 Z qb kb y0 y1 h0 n0 v U'.heap L ∧ FrameEnd U o U' L ({ frames := 0, cells := 0, slots := 0, locals := 0 } : Room).cells ({ frames := 0, cells := 0, slots := 0, locals := 0 } : Room).slots) := by
  refine MetFree.of_bodySF (plainFor_of_name pn_18) hisR ?_
  intro p e s m args below meth c s₁ Bd hml0 hP hK
  obtain ⟨rfl, hZ, hh⟩ := hP
  have hx := Bd.exec
  have hby := Bd.bytes
  have hml : c.maxLocals = 2 := hml0
  have hown : s.vm.findClass "java/lang/StringUTF16" = some m.cls := findClass_of_methodNamed Bd.named
  have hnm := (name_of_methodNamed Bd.named Bd.method).1
  have X0 : Stand p l e ({ frames := 0, cells := 0, slots := 0, locals := 0 } : Room) s m #[(.ref qb), (.int 2)] below meth c s₁ [] 0 0 := Stand.of_body Bd
  have e0 : s₁.heap = h0 := by rw [← hh, Bd.state]; rfl
  have N0 := Fr.nil n0
  obtain ⟨S0, hE0⟩ : ∃ z, z = s₁.setTop (entryFrame m #[(.ref qb), (.int 2)] 2) := ⟨_, rfl⟩
  have P0 : own_Go p e below S0 (s₁.setTop (mkF m 0 #[.val (.ref qb), .val (.int 2)] [])) := fun t k => by rw [hE0]; exact castTop (ef_19s2 m qb) k
  obtain ⟨cl1, Ar1, q1, Sz1, Nn1, Hh1, Gg1⟩ := id A_qb
  have P2 : own_Go p e below S0 (s₁.setTop (mkF m 8 #[.val (.ref qb), .val (.int 2)] [(.int 0)])) := fun t k => P0 t (by
    refine XS.iloadN X0.here hx rfl (hb hby d19_0) rfl ?_
    refine XS.aloadN X0.here hx rfl (hb hby d19_1) rfl rfl ?_
    show Steps p.tables e below (s₁.setTop (mkF m 2 #[.val (.ref qb), .val (.int 2)] [(.ref qb), (.int 2)])) t
    refine X0.arraylength hx (by rw [e0]; exact Ar1.1) (State.isArrayOf_alike hZ.alike Ar1.2.1) (g := (mkF m 2 #[.val (.ref qb), .val (.int 2)] [(.ref qb), (.int 2)])) rfl rfl (hb hby d19_2) _ ?_
    rw [len_of Sz1 Nn1]
    refine XS.isub X0.here hx rfl (hb hby d19_3) rfl ?_
    refine XS.bipush X0.here hx rfl (hb hby d19_4) ?_
    refine XS.iushr X0.here hx rfl (hb hby d19_6) rfl ?_
    show Steps p.tables e below (s₁.setTop (mkF m 7 #[.val (.ref qb), .val (.int 2)] [(.int 0)])) t
    refine XS.i2b X0.here hx rfl (hb hby d19_7) rfl ?_
    show Steps p.tables e below (s₁.setTop (mkF m 8 #[.val (.ref qb), .val (.int 2)] [(.int 0)])) t
    exact k)
  obtain ⟨fs, hr, hrun, hended, hW, hsame⟩ := X0.leave (v := some (.int 0)) (fun h => by rw [Bd.returns] at h; cases h) (BodyLoose.notSynchronized Bd)
  refine ⟨_, _, own_from hE0 (P2 _ ?_), hrun, hended, _, _, rfl, ?_, ⟨_, rfl⟩, hW, hsame.mono (by decide) (by decide)⟩
  · show Steps p.tables e below (s₁.setTop (mkF m 8 #[.val (.ref qb), .val (.int 2)] [(.int 0)])) _
    exact retN X0 hx (t := .byte) Bd.returns (by simp) (hb hby d19_8) hr
  · show Q19s2 Z qb kb y0 y1 h0 n0 _ s₁.heap _
    rw [e0]
    exact ⟨rfl, N0, rfl⟩
theorem ef_2s2 (m : MethodId) (q2s2_0 : Addr) (qc : Addr) : entryFrame m #[(.ref q2s2_0), (.ref qc), (.int 0), (.int 2), .null] 6 = mkF m 0 #[.val (.ref q2s2_0), .val (.ref qc), .val (.int 0), .val (.int 2), .val .null, .unset] [] := by first | (simp [entryFrame, mkF, argsToLocals, Value.category]; done) | rfl
def Q2s2 (Z : State) (q2s2_0 : Addr) (qc : Addr) (kc : ClassId) (zc : Int32) (x0 : Int32) (x1 : Int32) (u2s2_q2s2_0_coder : Value) (u2s2_q2s2_0_value : Value) (h0 : Heap) (n0 : Nat) (v : Option Value) (h : Heap) (L : List Loc) : Prop := ∃ (b2_7 : Addr) (k2_7 : ClassId), v = none ∧ Fr n0 L ∧ Keep h0 h [q2s2_0] ∧ h0.size ≤ b2_7 ∧ Arv Z h b2_7 k2_7 .byte (2 : Int32) [(.int (nar .byte (x0.toInt8.toInt32))), (.int (nar .byte (x1.toInt8.toInt32)))] (.int 0) ∧ Fld Z h q2s2_0 "java/lang/String" "coder" "B" (.int 0) ∧ Fld Z h q2s2_0 "java/lang/String" "value" "[B" (.ref b2_7)
set_option maxRecDepth 65536 in
set_option maxHeartbeats 40000000 in
theorem rm2s2 (l : Launch) (Z : State) (a0 : Array Value) (hw : ∀ d ∈ tables_1, d.before a0 Z = true) (ws : List Jvm.Cond) (q2s2_0 : Addr) (qc : Addr) (kc : ClassId) (zc : Int32) (x0 : Int32) (x1 : Int32) (u2s2_q2s2_0_coder : Value) (u2s2_q2s2_0_value : Value) (h0 : Heap) (n0 : Nat) (Z0 : n0 ≤ h0.size) (E_q2s2_0 : Exa Z h0 q2s2_0 "java/lang/String") (A_qc : Arv Z h0 qc kc .char (2 : Int32) [(.int x0), (.int x1)] (.int 0)) (S_COMPACT_STRINGS : Sta Z h0 "java/lang/String" "COMPACT_STRINGS" "Z" (.int zc)) (hcs : ¬ (zc = (0 : Int32))) (hx0 : ¬ ((255 : Int32) < x0)) (hx1 : ¬ ((255 : Int32) < x1)) (F_q2s2_0_coder : Fld Z h0 q2s2_0 "java/lang/String" "coder" "B" u2s2_q2s2_0_coder) (g_q2s2_0 : n0 ≤ q2s2_0) (F_q2s2_0_value : Fld Z h0 q2s2_0 "java/lang/String" "value" "[B" u2s2_q2s2_0_value) :
    MetFree l (⟨"java/lang/String", "<init>", "([CIILjava/lang/Void;)V"⟩ : MethodName) (head1 (Jvm.Cond.code (⟨"java/lang/String", "<init>", "([CIILjava/lang/Void;)V"⟩ : MethodName) jdk_42_method_149_code 6 none :: ws) ({ frames := 2, cells := 1, slots := 2, locals := 35 } : Room)) (fun a U => a = #[(.ref q2s2_0), (.ref qc), (.int 0), (.int 2), .null] ∧ Z.Warmed39 U.vm ∧ U.heap = h0) (fun _ _ _ _ _ => True) (fun _ U o U' => ∃ v L, o = .returned v ∧ Q2s2 Z q2s2_0 qc kc zc x0 x1 u2s2_q2s2_0_coder u2s2_q2s2_0_value h0 n0 v U'.heap L ∧ FrameEnd U o U' L ({ frames := 2, cells := 1, slots := 2, locals := 35 } : Room).cells ({ frames := 2, cells := 1, slots := 2, locals := 35 } : Room).slots) := by
  refine MetFree.of_bodySF (plainFor_of_name pn_2) hisR ?_
  intro p e s m args below meth c s₁ Bd hml0 hP hK
  obtain ⟨rfl, hZ, hh⟩ := hP
  have hx := Bd.exec
  have hby := Bd.bytes
  have hml : c.maxLocals = 6 := hml0
  have hown : s.vm.findClass "java/lang/String" = some m.cls := findClass_of_methodNamed Bd.named
  have hnm := (name_of_methodNamed Bd.named Bd.method).1
  have X0 : Stand p l e ({ frames := 2, cells := 1, slots := 2, locals := 35 } : Room) s m #[(.ref q2s2_0), (.ref qc), (.int 0), (.int 2), .null] below meth c s₁ [] 0 0 := Stand.of_body Bd
  have e0 : s₁.heap = h0 := by rw [← hh, Bd.state]; rfl
  have N0 := Fr.nil n0
  obtain ⟨S0, hE0⟩ : ∃ z, z = s₁.setTop (entryFrame m #[(.ref q2s2_0), (.ref qc), (.int 0), (.int 2), .null] 6) := ⟨_, rfl⟩
  have P0 : own_Go p e below S0 (s₁.setTop (mkF m 0 #[.val (.ref q2s2_0), .val (.ref qc), .val (.int 0), .val (.int 2), .val .null, .unset] [])) := fun t k => by rw [hE0]; exact castTop (ef_2s2 m q2s2_0 qc) k
  have P1 : own_Go p e below S0 (s₁.setTop (mkF m 1 #[.val (.ref q2s2_0), .val (.ref qc), .val (.int 0), .val (.int 2), .val .null, .unset] [(.ref q2s2_0)])) := fun t k => P0 t (by
    refine XS.aloadN X0.here hx rfl (hb hby d2_0) rfl rfl ?_
    show Steps p.tables e below (s₁.setTop (mkF m 1 #[.val (.ref q2s2_0), .val (.ref qc), .val (.int 0), .val (.int 2), .val .null, .unset] [(.ref q2s2_0)])) t
    exact k)
  obtain ⟨T2, X2, e2, st2⟩ := initO X0 hx hZ hown (own_w hw 15 rfl) (own_w hw 16 rfl) (own_w hw 17 rfl) e0 (g := (mkF m 1 #[.val (.ref q2s2_0), .val (.ref qc), .val (.int 0), .val (.int 2), .val .null, .unset] [(.ref q2s2_0)])) rfl (by rw [hml]; rfl) rfl (hb hby d2_1) (by decide) (W := 0) (by show 2 * 0 + _ ≤ _; exact Nat.le_of_eq rfl) (by decide)
  have P2 : own_Go p e below S0 (T2.setTop (mkF m 4 #[.val (.ref q2s2_0), .val (.ref qc), .val (.int 0), .val (.int 2), .val .null, .unset] [])) := fun t k => P1 t (st2 _ k)
  have P3 : own_Go p e below S0 (T2.setTop (mkF m 27 #[.val (.ref q2s2_0), .val (.ref qc), .val (.int 0), .val (.int 2), .val .null, .unset] [])) := fun t k => P2 t (by
    refine XS.iloadN X2.here hx rfl (hb hby d2_4) rfl ?_
    refine XS.ifYes X2.here hx rfl (pc0 := 5) (pc' := 27) rfl (hb hby d2_5) rfl ((if0 _ _).trans (feq (by decide)).2) (by decide) (by decide) ?_
    show Steps p.tables e below (T2.setTop (mkF m 27 #[.val (.ref q2s2_0), .val (.ref qc), .val (.int 0), .val (.int 2), .val .null, .unset] [])) t
    exact k)
  obtain ⟨T4, X4, e4, st4⟩ := getS2 X2 hx hZ hown (host := "") (Or.inl (own_w hw 58 rfl)) Via.refl e2 S_COMPACT_STRINGS (g := (mkF m 27 #[.val (.ref q2s2_0), .val (.ref qc), .val (.int 0), .val (.int 2), .val .null, .unset] [])) rfl (hb hby d2_27)
  have P4 : own_Go p e below S0 (T4.setTop (mkF m 30 #[.val (.ref q2s2_0), .val (.ref qc), .val (.int 0), .val (.int 2), .val .null, .unset] [(.int zc)])) := fun t k => P3 t (st4 _ k)
  have c5 : ¬ (zc = (0 : Int32)) := hcs
  have P6 : own_Go p e below S0 (T4.setTop (mkF m 36 #[.val (.ref q2s2_0), .val (.ref qc), .val (.int 0), .val (.int 2), .val .null, .unset] [(.int 2), (.int 0), (.ref qc)])) := fun t k => P4 t (by
    refine XS.ifNo X4.here hx rfl (hb hby d2_30) rfl ((if0 _ _).trans (feq c5).1) ?_
    refine XS.aloadN X4.here hx rfl (hb hby d2_33) rfl rfl ?_
    refine XS.iloadN X4.here hx rfl (hb hby d2_34) rfl ?_
    refine XS.iloadN X4.here hx rfl (hb hby d2_35) rfl ?_
    show Steps p.tables e below (T4.setTop (mkF m 36 #[.val (.ref q2s2_0), .val (.ref qc), .val (.int 0), .val (.int 2), .val .null, .unset] [(.int 2), (.int 0), (.ref qc)])) t
    exact k)
  obtain ⟨_, _, ⟨T7, L7, k7, n7⟩, -, X7, ⟨Lc7, hQ7, l7, y7, z7⟩, st7⟩ := Jvm.LawKit.callS X4 hx (y := (⟨"java/lang/StringUTF16", "compress", "([CII)[B"⟩ : MethodName)) hown (mvT hZ (own_w hw 87 rfl)) (mvT hZ (own_w hw 88 rfl)) (mvT hZ (own_w hw 89 rfl)) (mvT hZ (own_w hw 90 rfl)) (by decide) (backOf (W := 0) (rm17s2 l Z a0 hw [] qc kc x0 x1 h0 n0 Z0 A_qc hx0 hx1) hZ (own_w hw 90 rfl) (own_w hw 89 rfl) (by decide) (by decide)) (g := (mkF m 36 #[.val (.ref q2s2_0), .val (.ref qc), .val (.int 0), .val (.int 2), .val .null, .unset] [(.int 2), (.int 0), (.ref qc)])) rfl (by rw [hml]; rfl) (argsL := [(.ref qc), (.int 0), (.int 2)]) (rest := []) (lenOf pd_1 rfl) rfl (by show 2 * 0 + _ ≤ _; exact Nat.le_of_eq rfl) (hb hby d2_36) (fun _ _ => ⟨rfl, e4, (by decide : 0 + 1 ≤ _), (by decide : 0 + 2 ≤ _)⟩)
  dsimp only [Pt.U, Pt.locs, Pt.cells, Pt.slots] at X7 l7 y7 z7 st7 hQ7
  subst l7 y7 z7
  obtain ⟨b2_7, k2_7, rfl, N7q, Kc7, sz_b2_7, F7_0⟩ := hQ7
  have N7 := Fr.app N0 N7q
  have ne_q2s2_0_b2_7 : q2s2_0 ≠ b2_7 := Nat.ne_of_lt (Nat.lt_of_lt_of_le E_q2s2_0.lt sz_b2_7)
  have ne_qc_b2_7 : qc ≠ b2_7 := Nat.ne_of_lt (Nat.lt_of_lt_of_le A_qc.lt sz_b2_7)
  have g_b2_7 : n0 ≤ b2_7 := Nat.le_trans Z0 sz_b2_7
  have o_b2_7 : h0.size ≤ b2_7 := sz_b2_7
  have K7 : Keep h0 T7.heap [q2s2_0] := Keep.trans (Keep.refl h0 [q2s2_0]) Kc7 all0
  have P7 : own_Go p e below S0 (T7.setTop (mkF m 39 #[.val (.ref q2s2_0), .val (.ref qc), .val (.int 0), .val (.int 2), .val .null, .unset] [(.ref b2_7)])) := fun t k => P6 t (st7 _ k)
  have P8 : own_Go p e below S0 (T7.setTop (mkF m 45 #[.val (.ref q2s2_0), .val (.ref qc), .val (.int 0), .val (.int 2), .val .null, .val (.ref b2_7)] [(.int 2), (.ref b2_7), (.ref q2s2_0)])) := fun t k => P7 t (by
    refine XS.astore X7.here hx rfl (hb hby d2_39) rfl rfl (l' := #[.val (.ref q2s2_0), .val (.ref qc), .val (.int 0), .val (.int 2), .val .null, .val (.ref b2_7)]) rfl ?_
    refine XS.aloadN X7.here hx rfl (hb hby d2_41) rfl rfl ?_
    refine XS.aload X7.here hx rfl (hb hby d2_42) rfl rfl ?_
    refine XS.iloadN X7.here hx rfl (hb hby d2_44) rfl ?_
    show Steps p.tables e below (T7.setTop (mkF m 45 #[.val (.ref q2s2_0), .val (.ref qc), .val (.int 0), .val (.int 2), .val .null, .val (.ref b2_7)] [(.int 2), (.ref b2_7), (.ref q2s2_0)])) t
    exact k)
  obtain ⟨_, _, ⟨T9, L9, k9, n9⟩, -, X9, ⟨Lc9, hQ9, l9, y9, z9⟩, st9⟩ := Jvm.LawKit.callS X7 hx (y := (⟨"java/lang/StringUTF16", "coderFromArrayLen", "([BI)B"⟩ : MethodName)) hown (mvT hZ (own_w hw 94 rfl)) (mvT hZ (own_w hw 95 rfl)) (mvT hZ (own_w hw 89 rfl)) (mvT hZ (own_w hw 96 rfl)) (by decide) (backOf (W := 1) (rm19s2 l Z a0 hw [] b2_7 k2_7 (nar .byte (x0.toInt8.toInt32)) (nar .byte (x1.toInt8.toInt32)) T7.heap n0 (Nat.le_trans Z0 K7.1) F7_0) hZ (own_w hw 96 rfl) (own_w hw 89 rfl) (by decide) (by decide)) (g := (mkF m 45 #[.val (.ref q2s2_0), .val (.ref qc), .val (.int 0), .val (.int 2), .val .null, .val (.ref b2_7)] [(.int 2), (.ref b2_7), (.ref q2s2_0)])) rfl (by rw [hml]; rfl) (argsL := [(.ref b2_7), (.int 2)]) (rest := [(.ref q2s2_0)]) (lenOf pd_2 rfl) rfl (by show 2 * 0 + _ ≤ _; exact Nat.le_of_eq rfl) (hb hby d2_45) (fun _ _ => ⟨rfl, rfl, (by decide : 1 + 0 ≤ _), (by decide : 2 + 0 ≤ _)⟩)
  dsimp only [Pt.U, Pt.locs, Pt.cells, Pt.slots] at X9 l9 y9 z9 st9 hQ9
  subst l9 y9 z9
  obtain ⟨rfl, N9q, e9⟩ := hQ9
  have N9 := Fr.app N7 N9q
  have P9 : own_Go p e below S0 (T9.setTop (mkF m 48 #[.val (.ref q2s2_0), .val (.ref qc), .val (.int 0), .val (.int 2), .val .null, .val (.ref b2_7)] [(.int 0), (.ref q2s2_0)])) := fun t k => P8 t (st9 _ k)
  have F10 : Exa Z T7.heap q2s2_0 "java/lang/String" := E_q2s2_0.keep Kc7
  have F11 : Fld Z T7.heap q2s2_0 "java/lang/String" "coder" "B" u2s2_q2s2_0_coder := F_q2s2_0_coder.keep Kc7 nin0
  obtain ⟨T12, h12, X12, e12, W12, st12⟩ := putFN X9 hx hZ hown (own_w hw 25 rfl) Via.refl e9 F11 F10 (Or.inr ⟨(own_w hw 21 rfl), rfl, hnm⟩) (own_w hw 6 rfl) (ty := .byte) (v' := (.int 0)) (by decide) rfl (by decide) (g := (mkF m 48 #[.val (.ref q2s2_0), .val (.ref qc), .val (.int 0), .val (.int 2), .val .null, .val (.ref b2_7)] [(.int 0), (.ref q2s2_0)])) rfl rfl (hb hby d2_48)
  have K12 : Keep h0 h12 [q2s2_0] := K7.wr W12 (Or.inl (by simp))
  have N12 := Fr.snoc X12 N9 g_q2s2_0
  have F12w : Fld Z h12 q2s2_0 "java/lang/String" "coder" "B" (.int 0) := F11.same W12
  have P12 : own_Go p e below S0 (T12.setTop (mkF m 51 #[.val (.ref q2s2_0), .val (.ref qc), .val (.int 0), .val (.int 2), .val .null, .val (.ref b2_7)] [])) := fun t k => P9 t (st12 _ k)
  have F13 : Exa Z h12 q2s2_0 "java/lang/String" := F10.wr W12
  have F14 : Fld Z T7.heap q2s2_0 "java/lang/String" "value" "[B" u2s2_q2s2_0_value := F_q2s2_0_value.keep Kc7 nin0
  have F15 : Fld Z h12 q2s2_0 "java/lang/String" "value" "[B" u2s2_q2s2_0_value := F14.other W12 (Or.inr (slot_ne (Or.inr (own_w hw 20 rfl)) (Or.inr (own_w hw 21 rfl)) (by decide) (t := (.array .byte)) (t' := .byte) (by decide) (by decide)))
  have P16 : own_Go p e below S0 (T12.setTop (mkF m 54 #[.val (.ref q2s2_0), .val (.ref qc), .val (.int 0), .val (.int 2), .val .null, .val (.ref b2_7)] [(.ref b2_7), (.ref q2s2_0)])) := fun t k => P12 t (by
    refine XS.aloadN X12.here hx rfl (hb hby d2_51) rfl rfl ?_
    refine XS.aload X12.here hx rfl (hb hby d2_52) rfl rfl ?_
    show Steps p.tables e below (T12.setTop (mkF m 54 #[.val (.ref q2s2_0), .val (.ref qc), .val (.int 0), .val (.int 2), .val .null, .val (.ref b2_7)] [(.ref b2_7), (.ref q2s2_0)])) t
    exact k)
  obtain ⟨T17, h17, X17, e17, W17, st17⟩ := putF X12 hx hZ hown (host := "") (Or.inl (own_w hw 24 rfl)) Via.refl e12 F15 F13 (Or.inr ⟨(own_w hw 20 rfl), rfl, hnm⟩) (own_w hw 6 rfl) (ty := (.array .byte)) (by decide) rfl rfl (g := (mkF m 54 #[.val (.ref q2s2_0), .val (.ref qc), .val (.int 0), .val (.int 2), .val .null, .val (.ref b2_7)] [(.ref b2_7), (.ref q2s2_0)])) rfl rfl (hb hby d2_54)
  have K17 : Keep h0 h17 [q2s2_0] := K12.wr W17 (Or.inl (by simp))
  have N17 := Fr.snoc X17 N12 g_q2s2_0
  have F17w : Fld Z h17 q2s2_0 "java/lang/String" "value" "[B" (.ref b2_7) := F15.same W17
  have P17 : own_Go p e below S0 (T17.setTop (mkF m 57 #[.val (.ref q2s2_0), .val (.ref qc), .val (.int 0), .val (.int 2), .val .null, .val (.ref b2_7)] [])) := fun t k => P16 t (st17 _ k)
  have F18 : Arv Z h12 b2_7 k2_7 .byte (2 : Int32) [(.int (nar .byte (x0.toInt8.toInt32))), (.int (nar .byte (x1.toInt8.toInt32)))] (.int 0) := F7_0.other W12 (Ne.symm ne_q2s2_0_b2_7)
  have F19 : Arv Z h17 b2_7 k2_7 .byte (2 : Int32) [(.int (nar .byte (x0.toInt8.toInt32))), (.int (nar .byte (x1.toInt8.toInt32)))] (.int 0) := F18.other W17 (Ne.symm ne_q2s2_0_b2_7)
  have F20 : Fld Z h17 q2s2_0 "java/lang/String" "coder" "B" (.int 0) := F12w.other W17 (Or.inr (slot_ne (Or.inr (own_w hw 21 rfl)) (Or.inr (own_w hw 20 rfl)) (by decide) (t := .byte) (t' := (.array .byte)) (by decide) (by decide)))
  obtain ⟨fs, hr, hrun, hended, hW, hsame⟩ := X17.leave (v := none) (fun _ => rfl) (BodyLoose.notSynchronized Bd)
  refine ⟨_, _, own_from hE0 (P17 _ ?_), hrun, hended, _, _, rfl, ?_, ⟨_, rfl⟩, hW, hsame.mono (by decide) (by decide)⟩
  · show Steps p.tables e below (T17.setTop (mkF m 57 #[.val (.ref q2s2_0), .val (.ref qc), .val (.int 0), .val (.int 2), .val .null, .val (.ref b2_7)] [])) _
    exact X17.returnOut hx Bd.returns (hb hby d2_57) hr
  · show Q2s2 Z q2s2_0 qc kc zc x0 x1 u2s2_q2s2_0_coder u2s2_q2s2_0_value h0 n0 _ T17.heap _
    rw [e17]
    exact ⟨b2_7, k2_7, rfl, N17, K17, o_b2_7, F19, F20, F17w⟩
theorem ef_1s2 (m : MethodId) (q1s2_0 : Addr) (qc : Addr) : entryFrame m #[(.ref q1s2_0), (.ref qc)] 2 = mkF m 0 #[.val (.ref q1s2_0), .val (.ref qc)] [] := by first | (simp [entryFrame, mkF, argsToLocals, Value.category]; done) | rfl
def Q1s2 (Z : State) (q1s2_0 : Addr) (qc : Addr) (kc : ClassId) (zc : Int32) (x0 : Int32) (x1 : Int32) (u1s2_q1s2_0_coder : Value) (u1s2_q1s2_0_value : Value) (h0 : Heap) (n0 : Nat) (v : Option Value) (h : Heap) (L : List Loc) : Prop := ∃ (b2_7_3 : Addr) (k2_7_3 : ClassId), v = none ∧ Fr n0 L ∧ Keep h0 h [q1s2_0] ∧ h0.size ≤ b2_7_3 ∧ Arv Z h b2_7_3 k2_7_3 .byte (2 : Int32) [(.int (nar .byte (x0.toInt8.toInt32))), (.int (nar .byte (x1.toInt8.toInt32)))] (.int 0) ∧ Fld Z h q1s2_0 "java/lang/String" "coder" "B" (.int 0) ∧ Fld Z h q1s2_0 "java/lang/String" "value" "[B" (.ref b2_7_3)
set_option maxRecDepth 65536 in
set_option maxHeartbeats 40000000 in
theorem rm1s2 (l : Launch) (Z : State) (a0 : Array Value) (hw : ∀ d ∈ tables_1, d.before a0 Z = true) (ws : List Jvm.Cond) (q1s2_0 : Addr) (qc : Addr) (kc : ClassId) (zc : Int32) (x0 : Int32) (x1 : Int32) (u1s2_q1s2_0_coder : Value) (u1s2_q1s2_0_value : Value) (h0 : Heap) (n0 : Nat) (Z0 : n0 ≤ h0.size) (E_q1s2_0 : Exa Z h0 q1s2_0 "java/lang/String") (A_qc : Arv Z h0 qc kc .char (2 : Int32) [(.int x0), (.int x1)] (.int 0)) (S_COMPACT_STRINGS : Sta Z h0 "java/lang/String" "COMPACT_STRINGS" "Z" (.int zc)) (hcs : ¬ (zc = (0 : Int32))) (hx0 : ¬ ((255 : Int32) < x0)) (hx1 : ¬ ((255 : Int32) < x1)) (F_q1s2_0_coder : Fld Z h0 q1s2_0 "java/lang/String" "coder" "B" u1s2_q1s2_0_coder) (g_q1s2_0 : n0 ≤ q1s2_0) (F_q1s2_0_value : Fld Z h0 q1s2_0 "java/lang/String" "value" "[B" u1s2_q1s2_0_value) :
    MetFree l (⟨"java/lang/String", "<init>", "([C)V"⟩ : MethodName) (head1 (Jvm.Cond.code (⟨"java/lang/String", "<init>", "([C)V"⟩ : MethodName) jdk_42_method_3_code 2 none :: ws) ({ frames := 3, cells := 1, slots := 2, locals := 52 } : Room)) (fun a U => a = #[(.ref q1s2_0), (.ref qc)] ∧ Z.Warmed39 U.vm ∧ U.heap = h0) (fun _ _ _ _ _ => True) (fun _ U o U' => ∃ v L, o = .returned v ∧ Q1s2 Z q1s2_0 qc kc zc x0 x1 u1s2_q1s2_0_coder u1s2_q1s2_0_value h0 n0 v U'.heap L ∧ FrameEnd U o U' L ({ frames := 3, cells := 1, slots := 2, locals := 52 } : Room).cells ({ frames := 3, cells := 1, slots := 2, locals := 52 } : Room).slots) := by
  refine MetFree.of_bodySF (plainFor_of_name pn_2) hisR ?_
  intro p e s m args below meth c s₁ Bd hml0 hP hK
  obtain ⟨rfl, hZ, hh⟩ := hP
  have hx := Bd.exec
  have hby := Bd.bytes
  have hml : c.maxLocals = 2 := hml0
  have hown : s.vm.findClass "java/lang/String" = some m.cls := findClass_of_methodNamed Bd.named
  have hnm := (name_of_methodNamed Bd.named Bd.method).1
  have X0 : Stand p l e ({ frames := 3, cells := 1, slots := 2, locals := 52 } : Room) s m #[(.ref q1s2_0), (.ref qc)] below meth c s₁ [] 0 0 := Stand.of_body Bd
  have e0 : s₁.heap = h0 := by rw [← hh, Bd.state]; rfl
  have N0 := Fr.nil n0
  obtain ⟨S0, hE0⟩ : ∃ z, z = s₁.setTop (entryFrame m #[(.ref q1s2_0), (.ref qc)] 2) := ⟨_, rfl⟩
  have P0 : own_Go p e below S0 (s₁.setTop (mkF m 0 #[.val (.ref q1s2_0), .val (.ref qc)] [])) := fun t k => by rw [hE0]; exact castTop (ef_1s2 m q1s2_0 qc) k
  obtain ⟨cl1, Ar1, q1, Sz1, Nn1, Hh1, Gg1⟩ := id A_qc
  have P2 : own_Go p e below S0 (s₁.setTop (mkF m 6 #[.val (.ref q1s2_0), .val (.ref qc)] [.null, (.int 2), (.int 0), (.ref qc), (.ref q1s2_0)])) := fun t k => P0 t (by
    refine XS.aloadN X0.here hx rfl (hb hby d1_0) rfl rfl ?_
    refine XS.aloadN X0.here hx rfl (hb hby d1_1) rfl rfl ?_
    refine XS.iconst X0.here hx rfl (hb hby d1_2) ?_
    refine XS.aloadN X0.here hx rfl (hb hby d1_3) rfl rfl ?_
    show Steps p.tables e below (s₁.setTop (mkF m 4 #[.val (.ref q1s2_0), .val (.ref qc)] [(.ref qc), (.int 0), (.ref qc), (.ref q1s2_0)])) t
    refine X0.arraylength hx (by rw [e0]; exact Ar1.1) (State.isArrayOf_alike hZ.alike Ar1.2.1) (g := (mkF m 4 #[.val (.ref q1s2_0), .val (.ref qc)] [(.ref qc), (.int 0), (.ref qc), (.ref q1s2_0)])) rfl rfl (hb hby d1_4) _ ?_
    rw [len_of Sz1 Nn1]
    refine XS.aconstNull X0.here hx rfl (hb hby d1_5) ?_
    show Steps p.tables e below (s₁.setTop (mkF m 6 #[.val (.ref q1s2_0), .val (.ref qc)] [.null, (.int 2), (.int 0), (.ref qc), (.ref q1s2_0)])) t
    exact k)
  obtain ⟨_, _, ⟨T3, L3, k3, n3⟩, -, X3, ⟨Lc3, hQ3, l3, y3, z3⟩, st3⟩ := X0.specialBack hx (y := (⟨"java/lang/String", "<init>", "([CIILjava/lang/Void;)V"⟩ : MethodName)) rfl hown (mvT hZ (own_w hw 11 rfl)) (mvT hZ (own_w hw 12 rfl)) (mvT hZ (own_w hw 14 rfl)) (by decide) (backOf (W := 0) (rm2s2 l Z a0 hw [] q1s2_0 qc kc zc x0 x1 u1s2_q1s2_0_coder u1s2_q1s2_0_value h0 n0 Z0 E_q1s2_0 A_qc S_COMPACT_STRINGS hcs hx0 hx1 F_q1s2_0_coder g_q1s2_0 F_q1s2_0_value) hZ (own_w hw 14 rfl) (own_w hw 7 rfl) (by decide) (by decide)) (g := (mkF m 6 #[.val (.ref q1s2_0), .val (.ref qc)] [.null, (.int 2), (.int 0), (.ref qc), (.ref q1s2_0)])) rfl (by rw [hml]; rfl) (Steps.refl _) (a := q1s2_0) (argsL := [(.ref qc), (.int 0), (.int 2), .null]) (rest := []) (lenOf pd_3 rfl) rfl (by show 2 * 0 + _ ≤ _; exact Nat.le_of_eq rfl) (hb hby d1_6) (fun _ _ => ⟨rfl, e0, (by decide : 0 + 1 ≤ _), (by decide : 0 + 2 ≤ _)⟩)
  dsimp only [Pt.U, Pt.locs, Pt.cells, Pt.slots] at X3 l3 y3 z3 st3 hQ3
  subst l3 y3 z3
  obtain ⟨b2_7_3, k2_7_3, rfl, N3q, Kc3, sz_b2_7_3, F3_0, F3_1, F3_2⟩ := hQ3
  have N3 := Fr.app N0 N3q
  have ne_q1s2_0_b2_7_3 : q1s2_0 ≠ b2_7_3 := Nat.ne_of_lt (Nat.lt_of_lt_of_le E_q1s2_0.lt sz_b2_7_3)
  have ne_qc_b2_7_3 : qc ≠ b2_7_3 := Nat.ne_of_lt (Nat.lt_of_lt_of_le A_qc.lt sz_b2_7_3)
  have g_b2_7_3 : n0 ≤ b2_7_3 := Nat.le_trans Z0 sz_b2_7_3
  have o_b2_7_3 : h0.size ≤ b2_7_3 := sz_b2_7_3
  have K3 : Keep h0 T3.heap [q1s2_0] := Keep.trans (Keep.refl h0 [q1s2_0]) Kc3 (allS (Or.inl (by simp)) all0)
  have P3 : own_Go p e below S0 (T3.setTop (mkF m 9 #[.val (.ref q1s2_0), .val (.ref qc)] [])) := fun t k => P2 t (st3.trans k)
  obtain ⟨fs, hr, hrun, hended, hW, hsame⟩ := X3.leave (v := none) (fun _ => rfl) (BodyLoose.notSynchronized Bd)
  refine ⟨_, _, own_from hE0 (P3 _ ?_), hrun, hended, _, _, rfl, ?_, ⟨_, rfl⟩, hW, hsame.mono (by decide) (by decide)⟩
  · show Steps p.tables e below (T3.setTop (mkF m 9 #[.val (.ref q1s2_0), .val (.ref qc)] [])) _
    exact X3.returnOut hx Bd.returns (hb hby d1_9) hr
  · show Q1s2 Z q1s2_0 qc kc zc x0 x1 u1s2_q1s2_0_coder u1s2_q1s2_0_value h0 n0 _ T3.heap _
    exact ⟨b2_7_3, k2_7_3, rfl, N3, K3, o_b2_7_3, F3_0, F3_1, F3_2⟩
theorem ef_18s3 (m : MethodId) (qc : Addr) (qb : Addr) : entryFrame m #[(.ref qc), (.int 0), (.ref qb), (.int 0), (.int 3)] 7 = mkF m 0 #[.val (.ref qc), .val (.int 0), .val (.ref qb), .val (.int 0), .val (.int 3), .unset, .unset] [] := by first | (simp [entryFrame, mkF, argsToLocals, Value.category]; done) | rfl
def Q18s3 (Z : State) (qc : Addr) (qb : Addr) (kc : ClassId) (kb : ClassId) (x0 : Int32) (x1 : Int32) (x2 : Int32) (h0 : Heap) (n0 : Nat) (v : Option Value) (h : Heap) (L : List Loc) : Prop := v = some (.int 3) ∧ Fr n0 L ∧ Keep h0 h [qb] ∧ Arv Z h qb kb .byte (3 : Int32) [(.int (nar .byte (x0.toInt8.toInt32))), (.int (nar .byte (x1.toInt8.toInt32))), (.int (nar .byte (x2.toInt8.toInt32)))] (.int 0)
set_option maxRecDepth 65536 in
set_option maxHeartbeats 40000000 in
theorem rm18s3 (l : Launch) (Z : State) (a0 : Array Value) (hw : ∀ d ∈ tables_1, d.before a0 Z = true) (ws : List Jvm.Cond) (qc : Addr) (qb : Addr) (kc : ClassId) (kb : ClassId) (x0 : Int32) (x1 : Int32) (x2 : Int32) (h0 : Heap) (n0 : Nat) (Z0 : n0 ≤ h0.size) (A_qc : Arv Z h0 qc kc .char (3 : Int32) [(.int x0), (.int x1), (.int x2)] (.int 0)) (A_qb : Arv Z h0 qb kb .byte (3 : Int32) [(.int 0), (.int 0), (.int 0)] (.int 0)) (hx0 : ¬ ((255 : Int32) < x0)) (hx1 : ¬ ((255 : Int32) < x1)) (hx2 : ¬ ((255 : Int32) < x2)) (g_qb : n0 ≤ qb) (hne_qc_qb : qc ≠ qb) :
    MetFree l (⟨"java/lang/StringUTF16", "compress", "([CI[BII)I"⟩ : MethodName) (head1 (Jvm.Cond.code (⟨"java/lang/StringUTF16", "compress", "([CI[BII)I"⟩ : MethodName) jdk_52_method_21_code 7 (some .int) :: ws) ({ frames := 0, cells := 0, slots := 0, locals := 0 } : Room)) (fun a U => a = #[(.ref qc), (.int 0), (.ref qb), (.int 0), (.int 3)] ∧ Z.Warmed39 U.vm ∧ U.heap = h0) (fun _ _ _ _ _ => True) (fun _ U o U' => ∃ v L, o = .returned v ∧ Q18s3 Z qc qb kc kb x0 x1 x2 h0 n0 v U'.heap L ∧ FrameEnd U o U' L ({ frames := 0, cells := 0, slots := 0, locals := 0 } : Room).cells ({ frames := 0, cells := 0, slots := 0, locals := 0 } : Room).slots) := by
  refine MetFree.of_bodySF (plainFor_of_name pn_18) hisR ?_
  intro p e s m args below meth c s₁ Bd hml0 hP hK
  obtain ⟨rfl, hZ, hh⟩ := hP
  have hx := Bd.exec
  have hby := Bd.bytes
  have hml : c.maxLocals = 7 := hml0
  have hown : s.vm.findClass "java/lang/StringUTF16" = some m.cls := findClass_of_methodNamed Bd.named
  have hnm := (name_of_methodNamed Bd.named Bd.method).1
  have X0 : Stand p l e ({ frames := 0, cells := 0, slots := 0, locals := 0 } : Room) s m #[(.ref qc), (.int 0), (.ref qb), (.int 0), (.int 3)] below meth c s₁ [] 0 0 := Stand.of_body Bd
  have e0 : s₁.heap = h0 := by rw [← hh, Bd.state]; rfl
  have N0 := Fr.nil n0
  obtain ⟨S0, hE0⟩ : ∃ z, z = s₁.setTop (entryFrame m #[(.ref qc), (.int 0), (.ref qb), (.int 0), (.int 3)] 7) := ⟨_, rfl⟩
  have P0 : own_Go p e below S0 (s₁.setTop (mkF m 0 #[.val (.ref qc), .val (.int 0), .val (.ref qb), .val (.int 0), .val (.int 3), .unset, .unset] [])) := fun t k => by rw [hE0]; exact castTop (ef_18s3 m qc qb) k
  obtain ⟨cl1, Ar1, q1, Sz1, Nn1, Hh1, Gg1⟩ := id A_qc
  have hin1 : ¬ ((0 : Int32) < 0 ∨ cl1.slots.size ≤ ((0 : Int32)).toNatClampNeg) := inb_of Sz1 ⟨by decide, by decide⟩
  have hat1 : cl1.slots[((0 : Int32)).toNatClampNeg]? = some (.int x0) := Has.at Hh1 hin1 rfl
  have c2 : ¬ ((255 : Int32) < x0) := hx0
  have P3 : own_Go p e below S0 (s₁.setTop (mkF m 31 #[.val (.ref qc), .val (.int 0), .val (.ref qb), .val (.int 0), .val (.int 3), .val (.int 0), .val (.int x0)] [(.int (x0.toInt8.toInt32)), (.int 0), (.ref qb)])) := fun t k => P0 t (by
    refine XS.iconst X0.here hx rfl (hb hby d18_0) ?_
    refine XS.istore X0.here hx rfl (hb hby d18_1) rfl (l' := #[.val (.ref qc), .val (.int 0), .val (.ref qb), .val (.int 0), .val (.int 3), .val (.int 0), .unset]) rfl ?_
    refine XS.iload X0.here hx rfl (hb hby d18_3) rfl ?_
    refine XS.iload X0.here hx rfl (hb hby d18_5) rfl ?_
    refine XS.icmpNo X0.here hx rfl (hb hby d18_7) rfl (tlt (by decide)).2.1 ?_
    refine XS.aloadN X0.here hx rfl (hb hby d18_10) rfl rfl ?_
    show Steps p.tables e below (s₁.setTop (mkF m 11 #[.val (.ref qc), .val (.int 0), .val (.ref qb), .val (.int 0), .val (.int 3), .val (.int 0), .unset] [(.ref qc)])) t
    refine XS.iloadN X0.here hx rfl (hb hby d18_11) rfl ?_
    show Steps p.tables e below (s₁.setTop (mkF m 12 #[.val (.ref qc), .val (.int 0), .val (.ref qb), .val (.int 0), .val (.int 3), .val (.int 0), .unset] [(.int 0), (.ref qc)])) t
    refine X0.caload hx (j := (0 : Int32)) (v := (.int x0)) (by rw [e0]; exact Ar1.1) (State.isArrayOf_alike hZ.alike Ar1.2.1) Ar1.2.2 hin1 hat1 (g := (mkF m 12 #[.val (.ref qc), .val (.int 0), .val (.ref qb), .val (.int 0), .val (.int 3), .val (.int 0), .unset] [(.int 0), (.ref qc)])) rfl rfl (hb hby d18_12) _ ?_
    refine XS.istore X0.here hx rfl (hb hby d18_13) rfl (l' := #[.val (.ref qc), .val (.int 0), .val (.ref qb), .val (.int 0), .val (.int 3), .val (.int 0), .val (.int x0)]) rfl ?_
    refine XS.iload X0.here hx rfl (hb hby d18_15) rfl ?_
    refine XS.sipush X0.here hx rfl (hb hby d18_17) ?_
    refine XS.icmpYes X0.here hx rfl (pc0 := 20) (pc' := 26) rfl (hb hby d18_20) rfl (flt c2).2.2.2 (by decide) (by decide) ?_
    show Steps p.tables e below (s₁.setTop (mkF m 26 #[.val (.ref qc), .val (.int 0), .val (.ref qb), .val (.int 0), .val (.int 3), .val (.int 0), .val (.int x0)] [])) t
    refine XS.aloadN X0.here hx rfl (hb hby d18_26) rfl rfl ?_
    refine XS.iloadN X0.here hx rfl (hb hby d18_27) rfl ?_
    refine XS.iload X0.here hx rfl (hb hby d18_28) rfl ?_
    refine XS.i2b X0.here hx rfl (hb hby d18_30) rfl ?_
    show Steps p.tables e below (s₁.setTop (mkF m 31 #[.val (.ref qc), .val (.int 0), .val (.ref qb), .val (.int 0), .val (.int 3), .val (.int 0), .val (.int x0)] [(.int (x0.toInt8.toInt32)), (.int 0), (.ref qb)])) t
    exact k)
  obtain ⟨cl5, Ar5, q5, Sz5, Nn5, Hh5, Gg5⟩ := id A_qb
  have hin5 : ¬ ((0 : Int32) < 0 ∨ cl5.slots.size ≤ ((0 : Int32)).toNatClampNeg) := inb_of Sz5 ⟨by decide, by decide⟩
  obtain ⟨T4, h4, X4, e4, W4, st4⟩ := stB X0 hx hZ e0 Ar5 (j := (0 : Int32)) hin5 (g := (mkF m 31 #[.val (.ref qc), .val (.int 0), .val (.ref qb), .val (.int 0), .val (.int 3), .val (.int 0), .val (.int x0)] [(.int (x0.toInt8.toInt32)), (.int 0), (.ref qb)])) rfl rfl (hb hby d18_31)
  have K4 : Keep h0 h4 [qb] := (Keep.refl h0 [qb]).wr W4 (Or.inl (by simp))
  have N4 := Fr.snoc X4 N0 g_qb
  have V4 : Arv Z h4 qb kb .byte (3 : Int32) [(.int (nar .byte (x0.toInt8.toInt32))), (.int 0), (.int 0)] (.int 0) := Arv.set Ar5 q5 Sz5 Nn5 Hh5 Gg5 (fits_nar_byte _) W4 0 rfl (Nat.le_of_ble_eq_true rfl)
  have P4 : own_Go p e below S0 (T4.setTop (mkF m 32 #[.val (.ref qc), .val (.int 0), .val (.ref qb), .val (.int 0), .val (.int 3), .val (.int 0), .val (.int x0)] [])) := fun t k => P3 t (st4 _ k)
  have F6 : Arv Z h4 qc kc .char (3 : Int32) [(.int x0), (.int x1), (.int x2)] (.int 0) := A_qc.other W4 hne_qc_qb
  obtain ⟨cl7, Ar7, q7, Sz7, Nn7, Hh7, Gg7⟩ := id F6
  have hin7 : ¬ ((1 : Int32) < 0 ∨ cl7.slots.size ≤ ((1 : Int32)).toNatClampNeg) := inb_of Sz7 ⟨by decide, by decide⟩
  have hat7 : cl7.slots[((1 : Int32)).toNatClampNeg]? = some (.int x1) := Has.at Hh7 hin7 rfl
  have c8 : ¬ ((255 : Int32) < x1) := hx1
  have P9 : own_Go p e below S0 (T4.setTop (mkF m 31 #[.val (.ref qc), .val (.int 1), .val (.ref qb), .val (.int 1), .val (.int 3), .val (.int 1), .val (.int x1)] [(.int (x1.toInt8.toInt32)), (.int 1), (.ref qb)])) := fun t k => P4 t (by
    refine XS.iinc X4.here hx rfl (hb hby d18_32) rfl (l' := #[.val (.ref qc), .val (.int 1), .val (.ref qb), .val (.int 0), .val (.int 3), .val (.int 0), .val (.int x0)]) rfl ?_
    refine XS.iinc X4.here hx rfl (hb hby d18_35) rfl (l' := #[.val (.ref qc), .val (.int 1), .val (.ref qb), .val (.int 1), .val (.int 3), .val (.int 0), .val (.int x0)]) rfl ?_
    refine XS.iinc X4.here hx rfl (hb hby d18_38) rfl (l' := #[.val (.ref qc), .val (.int 1), .val (.ref qb), .val (.int 1), .val (.int 3), .val (.int 1), .val (.int x0)]) rfl ?_
    refine XS.goto X4.here hx rfl (pc0 := 41) (pc' := 3) rfl (hb hby d18_41) (by decide) (by decide) ?_
    refine XS.iload X4.here hx rfl (hb hby d18_3) rfl ?_
    refine XS.iload X4.here hx rfl (hb hby d18_5) rfl ?_
    show Steps p.tables e below (T4.setTop (mkF m 7 #[.val (.ref qc), .val (.int 1), .val (.ref qb), .val (.int 1), .val (.int 3), .val (.int 1), .val (.int x0)] [(.int 3), (.int 1)])) t
    refine XS.icmpNo X4.here hx rfl (hb hby d18_7) rfl (tlt (by decide)).2.1 ?_
    refine XS.aloadN X4.here hx rfl (hb hby d18_10) rfl rfl ?_
    refine XS.iloadN X4.here hx rfl (hb hby d18_11) rfl ?_
    show Steps p.tables e below (T4.setTop (mkF m 12 #[.val (.ref qc), .val (.int 1), .val (.ref qb), .val (.int 1), .val (.int 3), .val (.int 1), .val (.int x0)] [(.int 1), (.ref qc)])) t
    refine X4.caload hx (j := (1 : Int32)) (v := (.int x1)) (by rw [e4]; exact Ar7.1) (State.isArrayOf_alike hZ.alike Ar7.2.1) Ar7.2.2 hin7 hat7 (g := (mkF m 12 #[.val (.ref qc), .val (.int 1), .val (.ref qb), .val (.int 1), .val (.int 3), .val (.int 1), .val (.int x0)] [(.int 1), (.ref qc)])) rfl rfl (hb hby d18_12) _ ?_
    refine XS.istore X4.here hx rfl (hb hby d18_13) rfl (l' := #[.val (.ref qc), .val (.int 1), .val (.ref qb), .val (.int 1), .val (.int 3), .val (.int 1), .val (.int x1)]) rfl ?_
    refine XS.iload X4.here hx rfl (hb hby d18_15) rfl ?_
    show Steps p.tables e below (T4.setTop (mkF m 17 #[.val (.ref qc), .val (.int 1), .val (.ref qb), .val (.int 1), .val (.int 3), .val (.int 1), .val (.int x1)] [(.int x1)])) t
    refine XS.sipush X4.here hx rfl (hb hby d18_17) ?_
    refine XS.icmpYes X4.here hx rfl (pc0 := 20) (pc' := 26) rfl (hb hby d18_20) rfl (flt c8).2.2.2 (by decide) (by decide) ?_
    refine XS.aloadN X4.here hx rfl (hb hby d18_26) rfl rfl ?_
    refine XS.iloadN X4.here hx rfl (hb hby d18_27) rfl ?_
    refine XS.iload X4.here hx rfl (hb hby d18_28) rfl ?_
    refine XS.i2b X4.here hx rfl (hb hby d18_30) rfl ?_
    show Steps p.tables e below (T4.setTop (mkF m 31 #[.val (.ref qc), .val (.int 1), .val (.ref qb), .val (.int 1), .val (.int 3), .val (.int 1), .val (.int x1)] [(.int (x1.toInt8.toInt32)), (.int 1), (.ref qb)])) t
    exact k)
  obtain ⟨cl11, Ar11, q11, Sz11, Nn11, Hh11, Gg11⟩ := id V4
  have hin11 : ¬ ((1 : Int32) < 0 ∨ cl11.slots.size ≤ ((1 : Int32)).toNatClampNeg) := inb_of Sz11 ⟨by decide, by decide⟩
  obtain ⟨T10, h10, X10, e10, W10, st10⟩ := stB X4 hx hZ e4 Ar11 (j := (1 : Int32)) hin11 (g := (mkF m 31 #[.val (.ref qc), .val (.int 1), .val (.ref qb), .val (.int 1), .val (.int 3), .val (.int 1), .val (.int x1)] [(.int (x1.toInt8.toInt32)), (.int 1), (.ref qb)])) rfl rfl (hb hby d18_31)
  have K10 : Keep h0 h10 [qb] := K4.wr W10 (Or.inl (by simp))
  have N10 := Fr.snoc X10 N4 g_qb
  have V10 : Arv Z h10 qb kb .byte (3 : Int32) [(.int (nar .byte (x0.toInt8.toInt32))), (.int (nar .byte (x1.toInt8.toInt32))), (.int 0)] (.int 0) := Arv.set Ar11 q11 Sz11 Nn11 Hh11 Gg11 (fits_nar_byte _) W10 1 rfl (Nat.le_of_ble_eq_true rfl)
  have P10 : own_Go p e below S0 (T10.setTop (mkF m 32 #[.val (.ref qc), .val (.int 1), .val (.ref qb), .val (.int 1), .val (.int 3), .val (.int 1), .val (.int x1)] [])) := fun t k => P9 t (st10 _ k)
  have F12 : Arv Z h10 qc kc .char (3 : Int32) [(.int x0), (.int x1), (.int x2)] (.int 0) := F6.other W10 hne_qc_qb
  obtain ⟨cl13, Ar13, q13, Sz13, Nn13, Hh13, Gg13⟩ := id F12
  have hin13 : ¬ ((2 : Int32) < 0 ∨ cl13.slots.size ≤ ((2 : Int32)).toNatClampNeg) := inb_of Sz13 ⟨by decide, by decide⟩
  have hat13 : cl13.slots[((2 : Int32)).toNatClampNeg]? = some (.int x2) := Has.at Hh13 hin13 rfl
  have c14 : ¬ ((255 : Int32) < x2) := hx2
  have P15 : own_Go p e below S0 (T10.setTop (mkF m 31 #[.val (.ref qc), .val (.int 2), .val (.ref qb), .val (.int 2), .val (.int 3), .val (.int 2), .val (.int x2)] [(.int (x2.toInt8.toInt32)), (.int 2), (.ref qb)])) := fun t k => P10 t (by
    refine XS.iinc X10.here hx rfl (hb hby d18_32) rfl (l' := #[.val (.ref qc), .val (.int 2), .val (.ref qb), .val (.int 1), .val (.int 3), .val (.int 1), .val (.int x1)]) rfl ?_
    refine XS.iinc X10.here hx rfl (hb hby d18_35) rfl (l' := #[.val (.ref qc), .val (.int 2), .val (.ref qb), .val (.int 2), .val (.int 3), .val (.int 1), .val (.int x1)]) rfl ?_
    refine XS.iinc X10.here hx rfl (hb hby d18_38) rfl (l' := #[.val (.ref qc), .val (.int 2), .val (.ref qb), .val (.int 2), .val (.int 3), .val (.int 2), .val (.int x1)]) rfl ?_
    refine XS.goto X10.here hx rfl (pc0 := 41) (pc' := 3) rfl (hb hby d18_41) (by decide) (by decide) ?_
    refine XS.iload X10.here hx rfl (hb hby d18_3) rfl ?_
    refine XS.iload X10.here hx rfl (hb hby d18_5) rfl ?_
    show Steps p.tables e below (T10.setTop (mkF m 7 #[.val (.ref qc), .val (.int 2), .val (.ref qb), .val (.int 2), .val (.int 3), .val (.int 2), .val (.int x1)] [(.int 3), (.int 2)])) t
    refine XS.icmpNo X10.here hx rfl (hb hby d18_7) rfl (tlt (by decide)).2.1 ?_
    refine XS.aloadN X10.here hx rfl (hb hby d18_10) rfl rfl ?_
    refine XS.iloadN X10.here hx rfl (hb hby d18_11) rfl ?_
    show Steps p.tables e below (T10.setTop (mkF m 12 #[.val (.ref qc), .val (.int 2), .val (.ref qb), .val (.int 2), .val (.int 3), .val (.int 2), .val (.int x1)] [(.int 2), (.ref qc)])) t
    refine X10.caload hx (j := (2 : Int32)) (v := (.int x2)) (by rw [e10]; exact Ar13.1) (State.isArrayOf_alike hZ.alike Ar13.2.1) Ar13.2.2 hin13 hat13 (g := (mkF m 12 #[.val (.ref qc), .val (.int 2), .val (.ref qb), .val (.int 2), .val (.int 3), .val (.int 2), .val (.int x1)] [(.int 2), (.ref qc)])) rfl rfl (hb hby d18_12) _ ?_
    refine XS.istore X10.here hx rfl (hb hby d18_13) rfl (l' := #[.val (.ref qc), .val (.int 2), .val (.ref qb), .val (.int 2), .val (.int 3), .val (.int 2), .val (.int x2)]) rfl ?_
    refine XS.iload X10.here hx rfl (hb hby d18_15) rfl ?_
    show Steps p.tables e below (T10.setTop (mkF m 17 #[.val (.ref qc), .val (.int 2), .val (.ref qb), .val (.int 2), .val (.int 3), .val (.int 2), .val (.int x2)] [(.int x2)])) t
    refine XS.sipush X10.here hx rfl (hb hby d18_17) ?_
    refine XS.icmpYes X10.here hx rfl (pc0 := 20) (pc' := 26) rfl (hb hby d18_20) rfl (flt c14).2.2.2 (by decide) (by decide) ?_
    refine XS.aloadN X10.here hx rfl (hb hby d18_26) rfl rfl ?_
    refine XS.iloadN X10.here hx rfl (hb hby d18_27) rfl ?_
    refine XS.iload X10.here hx rfl (hb hby d18_28) rfl ?_
    refine XS.i2b X10.here hx rfl (hb hby d18_30) rfl ?_
    show Steps p.tables e below (T10.setTop (mkF m 31 #[.val (.ref qc), .val (.int 2), .val (.ref qb), .val (.int 2), .val (.int 3), .val (.int 2), .val (.int x2)] [(.int (x2.toInt8.toInt32)), (.int 2), (.ref qb)])) t
    exact k)
  obtain ⟨cl17, Ar17, q17, Sz17, Nn17, Hh17, Gg17⟩ := id V10
  have hin17 : ¬ ((2 : Int32) < 0 ∨ cl17.slots.size ≤ ((2 : Int32)).toNatClampNeg) := inb_of Sz17 ⟨by decide, by decide⟩
  obtain ⟨T16, h16, X16, e16, W16, st16⟩ := stB X10 hx hZ e10 Ar17 (j := (2 : Int32)) hin17 (g := (mkF m 31 #[.val (.ref qc), .val (.int 2), .val (.ref qb), .val (.int 2), .val (.int 3), .val (.int 2), .val (.int x2)] [(.int (x2.toInt8.toInt32)), (.int 2), (.ref qb)])) rfl rfl (hb hby d18_31)
  have K16 : Keep h0 h16 [qb] := K10.wr W16 (Or.inl (by simp))
  have N16 := Fr.snoc X16 N10 g_qb
  have V16 : Arv Z h16 qb kb .byte (3 : Int32) [(.int (nar .byte (x0.toInt8.toInt32))), (.int (nar .byte (x1.toInt8.toInt32))), (.int (nar .byte (x2.toInt8.toInt32)))] (.int 0) := Arv.set Ar17 q17 Sz17 Nn17 Hh17 Gg17 (fits_nar_byte _) W16 2 rfl (Nat.le_of_ble_eq_true rfl)
  have P16 : own_Go p e below S0 (T16.setTop (mkF m 32 #[.val (.ref qc), .val (.int 2), .val (.ref qb), .val (.int 2), .val (.int 3), .val (.int 2), .val (.int x2)] [])) := fun t k => P15 t (st16 _ k)
  have P18 : own_Go p e below S0 (T16.setTop (mkF m 46 #[.val (.ref qc), .val (.int 3), .val (.ref qb), .val (.int 3), .val (.int 3), .val (.int 3), .val (.int x2)] [(.int 3)])) := fun t k => P16 t (by
    refine XS.iinc X16.here hx rfl (hb hby d18_32) rfl (l' := #[.val (.ref qc), .val (.int 3), .val (.ref qb), .val (.int 2), .val (.int 3), .val (.int 2), .val (.int x2)]) rfl ?_
    refine XS.iinc X16.here hx rfl (hb hby d18_35) rfl (l' := #[.val (.ref qc), .val (.int 3), .val (.ref qb), .val (.int 3), .val (.int 3), .val (.int 2), .val (.int x2)]) rfl ?_
    refine XS.iinc X16.here hx rfl (hb hby d18_38) rfl (l' := #[.val (.ref qc), .val (.int 3), .val (.ref qb), .val (.int 3), .val (.int 3), .val (.int 3), .val (.int x2)]) rfl ?_
    refine XS.goto X16.here hx rfl (pc0 := 41) (pc' := 3) rfl (hb hby d18_41) (by decide) (by decide) ?_
    refine XS.iload X16.here hx rfl (hb hby d18_3) rfl ?_
    refine XS.iload X16.here hx rfl (hb hby d18_5) rfl ?_
    show Steps p.tables e below (T16.setTop (mkF m 7 #[.val (.ref qc), .val (.int 3), .val (.ref qb), .val (.int 3), .val (.int 3), .val (.int 3), .val (.int x2)] [(.int 3), (.int 3)])) t
    refine XS.icmpYes X16.here hx rfl (pc0 := 7) (pc' := 44) rfl (hb hby d18_7) rfl (flt (by decide)).2.1 (by decide) (by decide) ?_
    refine XS.iload X16.here hx rfl (hb hby d18_44) rfl ?_
    show Steps p.tables e below (T16.setTop (mkF m 46 #[.val (.ref qc), .val (.int 3), .val (.ref qb), .val (.int 3), .val (.int 3), .val (.int 3), .val (.int x2)] [(.int 3)])) t
    exact k)
  obtain ⟨fs, hr, hrun, hended, hW, hsame⟩ := X16.leave (v := some (.int 3)) (fun h => by rw [Bd.returns] at h; cases h) (BodyLoose.notSynchronized Bd)
  refine ⟨_, _, own_from hE0 (P18 _ ?_), hrun, hended, _, _, rfl, ?_, ⟨_, rfl⟩, hW, hsame.mono (by decide) (by decide)⟩
  · show Steps p.tables e below (T16.setTop (mkF m 46 #[.val (.ref qc), .val (.int 3), .val (.ref qb), .val (.int 3), .val (.int 3), .val (.int 3), .val (.int x2)] [(.int 3)])) _
    exact retI X16 hx Bd.returns (hb hby d18_46) hr
  · show Q18s3 Z qc qb kc kb x0 x1 x2 h0 n0 _ T16.heap _
    rw [e16]
    exact ⟨rfl, N16, K16, V16⟩
theorem ef_17s3 (m : MethodId) (qc : Addr) : entryFrame m #[(.ref qc), (.int 0), (.int 3)] 6 = mkF m 0 #[.val (.ref qc), .val (.int 0), .val (.int 3), .unset, .unset, .unset] [] := by first | (simp [entryFrame, mkF, argsToLocals, Value.category]; done) | rfl
def Q17s3 (Z : State) (qc : Addr) (kc : ClassId) (x0 : Int32) (x1 : Int32) (x2 : Int32) (h0 : Heap) (n0 : Nat) (v : Option Value) (h : Heap) (L : List Loc) : Prop := ∃ (b2 : Addr) (k2 : ClassId), v = some (.ref b2) ∧ Fr n0 L ∧ Keep h0 h [] ∧ h0.size ≤ b2 ∧ Arv Z h b2 k2 .byte (3 : Int32) [(.int (nar .byte (x0.toInt8.toInt32))), (.int (nar .byte (x1.toInt8.toInt32))), (.int (nar .byte (x2.toInt8.toInt32)))] (.int 0)
set_option maxRecDepth 65536 in
set_option maxHeartbeats 40000000 in
theorem rm17s3 (l : Launch) (Z : State) (a0 : Array Value) (hw : ∀ d ∈ tables_1, d.before a0 Z = true) (ws : List Jvm.Cond) (qc : Addr) (kc : ClassId) (x0 : Int32) (x1 : Int32) (x2 : Int32) (h0 : Heap) (n0 : Nat) (Z0 : n0 ≤ h0.size) (A_qc : Arv Z h0 qc kc .char (3 : Int32) [(.int x0), (.int x1), (.int x2)] (.int 0)) (hx0 : ¬ ((255 : Int32) < x0)) (hx1 : ¬ ((255 : Int32) < x1)) (hx2 : ¬ ((255 : Int32) < x2)) :
    MetFree l (⟨"java/lang/StringUTF16", "compress", "([CII)[B"⟩ : MethodName) (head1 (Jvm.Cond.code (⟨"java/lang/StringUTF16", "compress", "([CII)[B"⟩ : MethodName) jdk_52_method_16_code 6 (some (.array .byte)) :: ws) ({ frames := 1, cells := 1, slots := 3, locals := 18 } : Room)) (fun a U => a = #[(.ref qc), (.int 0), (.int 3)] ∧ Z.Warmed39 U.vm ∧ U.heap = h0) (fun _ _ _ _ _ => True) (fun _ U o U' => ∃ v L, o = .returned v ∧ Q17s3 Z qc kc x0 x1 x2 h0 n0 v U'.heap L ∧ FrameEnd U o U' L ({ frames := 1, cells := 1, slots := 3, locals := 18 } : Room).cells ({ frames := 1, cells := 1, slots := 3, locals := 18 } : Room).slots) := by
  refine MetFree.of_bodySF (plainFor_of_name pn_18) hisR ?_
  intro p e s m args below meth c s₁ Bd hml0 hP hK
  obtain ⟨rfl, hZ, hh⟩ := hP
  have hx := Bd.exec
  have hby := Bd.bytes
  have hml : c.maxLocals = 6 := hml0
  have hown : s.vm.findClass "java/lang/StringUTF16" = some m.cls := findClass_of_methodNamed Bd.named
  have hnm := (name_of_methodNamed Bd.named Bd.method).1
  have X0 : Stand p l e ({ frames := 1, cells := 1, slots := 3, locals := 18 } : Room) s m #[(.ref qc), (.int 0), (.int 3)] below meth c s₁ [] 0 0 := Stand.of_body Bd
  have e0 : s₁.heap = h0 := by rw [← hh, Bd.state]; rfl
  have N0 := Fr.nil n0
  obtain ⟨S0, hE0⟩ : ∃ z, z = s₁.setTop (entryFrame m #[(.ref qc), (.int 0), (.int 3)] 6) := ⟨_, rfl⟩
  have P0 : own_Go p e below S0 (s₁.setTop (mkF m 0 #[.val (.ref qc), .val (.int 0), .val (.int 3), .unset, .unset, .unset] [])) := fun t k => by rw [hE0]; exact castTop (ef_17s3 m qc) k
  have P1 : own_Go p e below S0 (s₁.setTop (mkF m 1 #[.val (.ref qc), .val (.int 0), .val (.int 3), .unset, .unset, .unset] [(.int 3)])) := fun t k => P0 t (by
    refine XS.iloadN X0.here hx rfl (hb hby d17_0) rfl ?_
    show Steps p.tables e below (s₁.setTop (mkF m 1 #[.val (.ref qc), .val (.int 0), .val (.int 3), .unset, .unset, .unset] [(.int 3)])) t
    exact k)
  obtain ⟨T2, h2, k2, X2, e2, E2, A2, st2⟩ := newP X0 hx hZ (own_w hw 19 rfl) e0 (g := (mkF m 1 #[.val (.ref qc), .val (.int 0), .val (.int 3), .unset, .unset, .unset] [(.int 3)])) rfl (hb hby d17_1) rfl (by decide) (cap := 3) (by decide) (by decide) (by decide) (by decide)
  obtain ⟨b2, g2⟩ : ∃ z, z = h0.size := ⟨_, rfl⟩
  rw [← g2] at A2 st2
  have sz_b2 : h0.size ≤ b2 := Nat.le_of_eq g2.symm
  have ne_qc_b2 : qc ≠ b2 := Nat.ne_of_lt (Nat.lt_of_lt_of_le A_qc.lt sz_b2)
  have g_b2 : n0 ≤ b2 := Nat.le_trans Z0 sz_b2
  have o_b2 : h0.size ≤ b2 := sz_b2
  have K2 : Keep h0 h2 [] := (Keep.refl h0 []).ext E2
  have V2 : Arv Z h2 b2 k2 .byte (3 : Int32) [(.int 0), (.int 0), (.int 0)] (.int 0) := (Arv.new A2 (by decide)).pad (pad_rep [] (.int 0) 3)
  have P2 : own_Go p e below S0 (T2.setTop (mkF m 3 #[.val (.ref qc), .val (.int 0), .val (.int 3), .unset, .unset, .unset] [(.ref b2)])) := fun t k => P1 t (st2 _ k)
  have F3 : Arv Z h2 qc kc .char (3 : Int32) [(.int x0), (.int x1), (.int x2)] (.int 0) := A_qc.ext E2
  have P4 : own_Go p e below S0 (T2.setTop (mkF m 9 #[.val (.ref qc), .val (.int 0), .val (.int 3), .val (.ref b2), .unset, .unset] [(.int 3), (.int 0), (.ref b2), (.int 0), (.ref qc)])) := fun t k => P2 t (by
    refine XS.astoreN X2.here hx rfl (hb hby d17_3) rfl rfl (l' := #[.val (.ref qc), .val (.int 0), .val (.int 3), .val (.ref b2), .unset, .unset]) rfl ?_
    refine XS.aloadN X2.here hx rfl (hb hby d17_4) rfl rfl ?_
    refine XS.iloadN X2.here hx rfl (hb hby d17_5) rfl ?_
    refine XS.aloadN X2.here hx rfl (hb hby d17_6) rfl rfl ?_
    refine XS.iconst X2.here hx rfl (hb hby d17_7) ?_
    refine XS.iloadN X2.here hx rfl (hb hby d17_8) rfl ?_
    show Steps p.tables e below (T2.setTop (mkF m 9 #[.val (.ref qc), .val (.int 0), .val (.int 3), .val (.ref b2), .unset, .unset] [(.int 3), (.int 0), (.ref b2), (.int 0), (.ref qc)])) t
    exact k)
  obtain ⟨_, _, ⟨T5, L5, k5, n5⟩, -, X5, ⟨Lc5, hQ5, l5, y5, z5⟩, st5⟩ := Jvm.LawKit.callS X2 hx (y := (⟨"java/lang/StringUTF16", "compress", "([CI[BII)I"⟩ : MethodName)) hown (mvT hZ (own_w hw 91 rfl)) (mvT hZ (own_w hw 92 rfl)) (mvT hZ (own_w hw 89 rfl)) (mvT hZ (own_w hw 93 rfl)) (by decide) (backOf (W := 0) (rm18s3 l Z a0 hw [] qc b2 kc k2 x0 x1 x2 h2 n0 (Nat.le_trans Z0 K2.1) F3 V2 hx0 hx1 hx2 g_b2 ne_qc_b2) hZ (own_w hw 93 rfl) (own_w hw 89 rfl) (by decide) (by decide)) (g := (mkF m 9 #[.val (.ref qc), .val (.int 0), .val (.int 3), .val (.ref b2), .unset, .unset] [(.int 3), (.int 0), (.ref b2), (.int 0), (.ref qc)])) rfl (by rw [hml]; rfl) (argsL := [(.ref qc), (.int 0), (.ref b2), (.int 0), (.int 3)]) (rest := []) (lenOf pd_0 rfl) rfl (by show 2 * 0 + _ ≤ _; exact Nat.le_of_eq rfl) (hb hby d17_9) (fun _ _ => ⟨rfl, e2, (by decide : 1 + 0 ≤ _), (by decide : 3 + 0 ≤ _)⟩)
  dsimp only [Pt.U, Pt.locs, Pt.cells, Pt.slots] at X5 l5 y5 z5 st5 hQ5
  subst l5 y5 z5
  obtain ⟨rfl, N5q, Kc5, F5_0⟩ := hQ5
  have N5 := Fr.app N0 N5q
  have K5 : Keep h0 T5.heap [] := Keep.trans K2 Kc5 (allS (Or.inr o_b2) all0)
  have P5 : own_Go p e below S0 (T5.setTop (mkF m 12 #[.val (.ref qc), .val (.int 0), .val (.int 3), .val (.ref b2), .unset, .unset] [(.int 3)])) := fun t k => P4 t (st5 _ k)
  have P6 : own_Go p e below S0 (T5.setTop (mkF m 58 #[.val (.ref qc), .val (.int 0), .val (.int 3), .val (.ref b2), .val (.int 3), .unset] [(.ref b2)])) := fun t k => P5 t (by
    refine XS.istore X5.here hx rfl (hb hby d17_12) rfl (l' := #[.val (.ref qc), .val (.int 0), .val (.int 3), .val (.ref b2), .val (.int 3), .unset]) rfl ?_
    refine XS.iload X5.here hx rfl (hb hby d17_14) rfl ?_
    refine XS.iloadN X5.here hx rfl (hb hby d17_16) rfl ?_
    refine XS.icmpYes X5.here hx rfl (pc0 := 17) (pc' := 57) rfl (hb hby d17_17) rfl (teq (by decide)).1 (by decide) (by decide) ?_
    refine XS.aloadN X5.here hx rfl (hb hby d17_57) rfl rfl ?_
    show Steps p.tables e below (T5.setTop (mkF m 58 #[.val (.ref qc), .val (.int 0), .val (.int 3), .val (.ref b2), .val (.int 3), .unset] [(.ref b2)])) t
    exact k)
  obtain ⟨fs, hr, hrun, hended, hW, hsame⟩ := X5.leave (v := some (.ref b2)) (fun h => by rw [Bd.returns] at h; cases h) (BodyLoose.notSynchronized Bd)
  refine ⟨_, _, own_from hE0 (P6 _ ?_), hrun, hended, _, _, rfl, ?_, ⟨_, rfl⟩, hW, hsame.mono (by decide) (by decide)⟩
  · show Steps p.tables e below (T5.setTop (mkF m 58 #[.val (.ref qc), .val (.int 0), .val (.int 3), .val (.ref b2), .val (.int 3), .unset] [(.ref b2)])) _
    jvm_step X5.here [X5.here.top, hx, (hb hby d17_58), X5.method', Bd.returns, Value.isRef, FieldType.isReference]
    first | (intro acts; rw [hr _ acts rfl rfl rfl]) | rw [hr _ _ rfl rfl rfl]
    exact Steps.refl _
  · show Q17s3 Z qc kc x0 x1 x2 h0 n0 _ T5.heap _
    exact ⟨b2, k2, rfl, N5, K5, o_b2, F5_0⟩
theorem ef_19s3 (m : MethodId) (qb : Addr) : entryFrame m #[(.ref qb), (.int 3)] 2 = mkF m 0 #[.val (.ref qb), .val (.int 3)] [] := by first | (simp [entryFrame, mkF, argsToLocals, Value.category]; done) | rfl
def Q19s3 (Z : State) (qb : Addr) (kb : ClassId) (y0 : Int32) (y1 : Int32) (y2 : Int32) (h0 : Heap) (n0 : Nat) (v : Option Value) (h : Heap) (L : List Loc) : Prop := v = some (.int 0) ∧ Fr n0 L ∧ h = h0
set_option maxRecDepth 65536 in
set_option maxHeartbeats 40000000 in
theorem rm19s3 (l : Launch) (Z : State) (a0 : Array Value) (hw : ∀ d ∈ tables_1, d.before a0 Z = true) (ws : List Jvm.Cond) (qb : Addr) (kb : ClassId) (y0 : Int32) (y1 : Int32) (y2 : Int32) (h0 : Heap) (n0 : Nat) (Z0 : n0 ≤ h0.size) (A_qb : Arv Z h0 qb kb .byte (3 : Int32) [(.int y0), (.int y1), (.int y2)] (.int 0)) :
    MetFree l (⟨"java/lang/StringUTF16", "coderFromArrayLen", "([BI)B"⟩ : MethodName) (head1 (Jvm.Cond.code (⟨"java/lang/StringUTF16", "coderFromArrayLen", "([BI)B"⟩ : MethodName) jdk_52_method_15_code 2 (some .byte) :: ws) ({ frames := 0, cells := 0, slots := 0, locals := 0 } : Room)) (fun a U => a = #[(.ref qb), (.int 3)] ∧ Z.Warmed39 U.vm ∧ U.heap = h0) (fun _ _ _ _ _ => True) (fun _ U o U' => ∃ v L, o = .returned v ∧ Q19s3 Z qb kb y0 y1 y2 h0 n0 v U'.heap L ∧ FrameEnd U o U' L ({ frames := 0, cells := 0, slots := 0, locals := 0 } : Room).cells ({ frames := 0, cells := 0, slots := 0, locals := 0 } : Room).slots) := by
  refine MetFree.of_bodySF (plainFor_of_name pn_18) hisR ?_
  intro p e s m args below meth c s₁ Bd hml0 hP hK
  obtain ⟨rfl, hZ, hh⟩ := hP
  have hx := Bd.exec
  have hby := Bd.bytes
  have hml : c.maxLocals = 2 := hml0
  have hown : s.vm.findClass "java/lang/StringUTF16" = some m.cls := findClass_of_methodNamed Bd.named
  have hnm := (name_of_methodNamed Bd.named Bd.method).1
  have X0 : Stand p l e ({ frames := 0, cells := 0, slots := 0, locals := 0 } : Room) s m #[(.ref qb), (.int 3)] below meth c s₁ [] 0 0 := Stand.of_body Bd
  have e0 : s₁.heap = h0 := by rw [← hh, Bd.state]; rfl
  have N0 := Fr.nil n0
  obtain ⟨S0, hE0⟩ : ∃ z, z = s₁.setTop (entryFrame m #[(.ref qb), (.int 3)] 2) := ⟨_, rfl⟩
  have P0 : own_Go p e below S0 (s₁.setTop (mkF m 0 #[.val (.ref qb), .val (.int 3)] [])) := fun t k => by rw [hE0]; exact castTop (ef_19s3 m qb) k
  obtain ⟨cl1, Ar1, q1, Sz1, Nn1, Hh1, Gg1⟩ := id A_qb
  have P2 : own_Go p e below S0 (s₁.setTop (mkF m 8 #[.val (.ref qb), .val (.int 3)] [(.int 0)])) := fun t k => P0 t (by
    refine XS.iloadN X0.here hx rfl (hb hby d19_0) rfl ?_
    refine XS.aloadN X0.here hx rfl (hb hby d19_1) rfl rfl ?_
    show Steps p.tables e below (s₁.setTop (mkF m 2 #[.val (.ref qb), .val (.int 3)] [(.ref qb), (.int 3)])) t
    refine X0.arraylength hx (by rw [e0]; exact Ar1.1) (State.isArrayOf_alike hZ.alike Ar1.2.1) (g := (mkF m 2 #[.val (.ref qb), .val (.int 3)] [(.ref qb), (.int 3)])) rfl rfl (hb hby d19_2) _ ?_
    rw [len_of Sz1 Nn1]
    refine XS.isub X0.here hx rfl (hb hby d19_3) rfl ?_
    refine XS.bipush X0.here hx rfl (hb hby d19_4) ?_
    refine XS.iushr X0.here hx rfl (hb hby d19_6) rfl ?_
    show Steps p.tables e below (s₁.setTop (mkF m 7 #[.val (.ref qb), .val (.int 3)] [(.int 0)])) t
    refine XS.i2b X0.here hx rfl (hb hby d19_7) rfl ?_
    show Steps p.tables e below (s₁.setTop (mkF m 8 #[.val (.ref qb), .val (.int 3)] [(.int 0)])) t
    exact k)
  obtain ⟨fs, hr, hrun, hended, hW, hsame⟩ := X0.leave (v := some (.int 0)) (fun h => by rw [Bd.returns] at h; cases h) (BodyLoose.notSynchronized Bd)
  refine ⟨_, _, own_from hE0 (P2 _ ?_), hrun, hended, _, _, rfl, ?_, ⟨_, rfl⟩, hW, hsame.mono (by decide) (by decide)⟩
  · show Steps p.tables e below (s₁.setTop (mkF m 8 #[.val (.ref qb), .val (.int 3)] [(.int 0)])) _
    exact retN X0 hx (t := .byte) Bd.returns (by simp) (hb hby d19_8) hr
  · show Q19s3 Z qb kb y0 y1 y2 h0 n0 _ s₁.heap _
    rw [e0]
    exact ⟨rfl, N0, rfl⟩
theorem ef_2s3 (m : MethodId) (q2s3_0 : Addr) (qc : Addr) : entryFrame m #[(.ref q2s3_0), (.ref qc), (.int 0), (.int 3), .null] 6 = mkF m 0 #[.val (.ref q2s3_0), .val (.ref qc), .val (.int 0), .val (.int 3), .val .null, .unset] [] := by first | (simp [entryFrame, mkF, argsToLocals, Value.category]; done) | rfl
def Q2s3 (Z : State) (q2s3_0 : Addr) (qc : Addr) (kc : ClassId) (zc : Int32) (x0 : Int32) (x1 : Int32) (x2 : Int32) (u2s3_q2s3_0_coder : Value) (u2s3_q2s3_0_value : Value) (h0 : Heap) (n0 : Nat) (v : Option Value) (h : Heap) (L : List Loc) : Prop := ∃ (b2_7 : Addr) (k2_7 : ClassId), v = none ∧ Fr n0 L ∧ Keep h0 h [q2s3_0] ∧ h0.size ≤ b2_7 ∧ Arv Z h b2_7 k2_7 .byte (3 : Int32) [(.int (nar .byte (x0.toInt8.toInt32))), (.int (nar .byte (x1.toInt8.toInt32))), (.int (nar .byte (x2.toInt8.toInt32)))] (.int 0) ∧ Fld Z h q2s3_0 "java/lang/String" "coder" "B" (.int 0) ∧ Fld Z h q2s3_0 "java/lang/String" "value" "[B" (.ref b2_7)
set_option maxRecDepth 65536 in
set_option maxHeartbeats 40000000 in
theorem rm2s3 (l : Launch) (Z : State) (a0 : Array Value) (hw : ∀ d ∈ tables_1, d.before a0 Z = true) (ws : List Jvm.Cond) (q2s3_0 : Addr) (qc : Addr) (kc : ClassId) (zc : Int32) (x0 : Int32) (x1 : Int32) (x2 : Int32) (u2s3_q2s3_0_coder : Value) (u2s3_q2s3_0_value : Value) (h0 : Heap) (n0 : Nat) (Z0 : n0 ≤ h0.size) (E_q2s3_0 : Exa Z h0 q2s3_0 "java/lang/String") (A_qc : Arv Z h0 qc kc .char (3 : Int32) [(.int x0), (.int x1), (.int x2)] (.int 0)) (S_COMPACT_STRINGS : Sta Z h0 "java/lang/String" "COMPACT_STRINGS" "Z" (.int zc)) (hcs : ¬ (zc = (0 : Int32))) (hx0 : ¬ ((255 : Int32) < x0)) (hx1 : ¬ ((255 : Int32) < x1)) (hx2 : ¬ ((255 : Int32) < x2)) (F_q2s3_0_coder : Fld Z h0 q2s3_0 "java/lang/String" "coder" "B" u2s3_q2s3_0_coder) (g_q2s3_0 : n0 ≤ q2s3_0) (F_q2s3_0_value : Fld Z h0 q2s3_0 "java/lang/String" "value" "[B" u2s3_q2s3_0_value) :
    MetFree l (⟨"java/lang/String", "<init>", "([CIILjava/lang/Void;)V"⟩ : MethodName) (head1 (Jvm.Cond.code (⟨"java/lang/String", "<init>", "([CIILjava/lang/Void;)V"⟩ : MethodName) jdk_42_method_149_code 6 none :: ws) ({ frames := 2, cells := 1, slots := 3, locals := 35 } : Room)) (fun a U => a = #[(.ref q2s3_0), (.ref qc), (.int 0), (.int 3), .null] ∧ Z.Warmed39 U.vm ∧ U.heap = h0) (fun _ _ _ _ _ => True) (fun _ U o U' => ∃ v L, o = .returned v ∧ Q2s3 Z q2s3_0 qc kc zc x0 x1 x2 u2s3_q2s3_0_coder u2s3_q2s3_0_value h0 n0 v U'.heap L ∧ FrameEnd U o U' L ({ frames := 2, cells := 1, slots := 3, locals := 35 } : Room).cells ({ frames := 2, cells := 1, slots := 3, locals := 35 } : Room).slots) := by
  refine MetFree.of_bodySF (plainFor_of_name pn_2) hisR ?_
  intro p e s m args below meth c s₁ Bd hml0 hP hK
  obtain ⟨rfl, hZ, hh⟩ := hP
  have hx := Bd.exec
  have hby := Bd.bytes
  have hml : c.maxLocals = 6 := hml0
  have hown : s.vm.findClass "java/lang/String" = some m.cls := findClass_of_methodNamed Bd.named
  have hnm := (name_of_methodNamed Bd.named Bd.method).1
  have X0 : Stand p l e ({ frames := 2, cells := 1, slots := 3, locals := 35 } : Room) s m #[(.ref q2s3_0), (.ref qc), (.int 0), (.int 3), .null] below meth c s₁ [] 0 0 := Stand.of_body Bd
  have e0 : s₁.heap = h0 := by rw [← hh, Bd.state]; rfl
  have N0 := Fr.nil n0
  obtain ⟨S0, hE0⟩ : ∃ z, z = s₁.setTop (entryFrame m #[(.ref q2s3_0), (.ref qc), (.int 0), (.int 3), .null] 6) := ⟨_, rfl⟩
  have P0 : own_Go p e below S0 (s₁.setTop (mkF m 0 #[.val (.ref q2s3_0), .val (.ref qc), .val (.int 0), .val (.int 3), .val .null, .unset] [])) := fun t k => by rw [hE0]; exact castTop (ef_2s3 m q2s3_0 qc) k
  have P1 : own_Go p e below S0 (s₁.setTop (mkF m 1 #[.val (.ref q2s3_0), .val (.ref qc), .val (.int 0), .val (.int 3), .val .null, .unset] [(.ref q2s3_0)])) := fun t k => P0 t (by
    refine XS.aloadN X0.here hx rfl (hb hby d2_0) rfl rfl ?_
    show Steps p.tables e below (s₁.setTop (mkF m 1 #[.val (.ref q2s3_0), .val (.ref qc), .val (.int 0), .val (.int 3), .val .null, .unset] [(.ref q2s3_0)])) t
    exact k)
  obtain ⟨T2, X2, e2, st2⟩ := initO X0 hx hZ hown (own_w hw 15 rfl) (own_w hw 16 rfl) (own_w hw 17 rfl) e0 (g := (mkF m 1 #[.val (.ref q2s3_0), .val (.ref qc), .val (.int 0), .val (.int 3), .val .null, .unset] [(.ref q2s3_0)])) rfl (by rw [hml]; rfl) rfl (hb hby d2_1) (by decide) (W := 0) (by show 2 * 0 + _ ≤ _; exact Nat.le_of_eq rfl) (by decide)
  have P2 : own_Go p e below S0 (T2.setTop (mkF m 4 #[.val (.ref q2s3_0), .val (.ref qc), .val (.int 0), .val (.int 3), .val .null, .unset] [])) := fun t k => P1 t (st2 _ k)
  have P3 : own_Go p e below S0 (T2.setTop (mkF m 27 #[.val (.ref q2s3_0), .val (.ref qc), .val (.int 0), .val (.int 3), .val .null, .unset] [])) := fun t k => P2 t (by
    refine XS.iloadN X2.here hx rfl (hb hby d2_4) rfl ?_
    refine XS.ifYes X2.here hx rfl (pc0 := 5) (pc' := 27) rfl (hb hby d2_5) rfl ((if0 _ _).trans (feq (by decide)).2) (by decide) (by decide) ?_
    show Steps p.tables e below (T2.setTop (mkF m 27 #[.val (.ref q2s3_0), .val (.ref qc), .val (.int 0), .val (.int 3), .val .null, .unset] [])) t
    exact k)
  obtain ⟨T4, X4, e4, st4⟩ := getS2 X2 hx hZ hown (host := "") (Or.inl (own_w hw 58 rfl)) Via.refl e2 S_COMPACT_STRINGS (g := (mkF m 27 #[.val (.ref q2s3_0), .val (.ref qc), .val (.int 0), .val (.int 3), .val .null, .unset] [])) rfl (hb hby d2_27)
  have P4 : own_Go p e below S0 (T4.setTop (mkF m 30 #[.val (.ref q2s3_0), .val (.ref qc), .val (.int 0), .val (.int 3), .val .null, .unset] [(.int zc)])) := fun t k => P3 t (st4 _ k)
  have c5 : ¬ (zc = (0 : Int32)) := hcs
  have P6 : own_Go p e below S0 (T4.setTop (mkF m 36 #[.val (.ref q2s3_0), .val (.ref qc), .val (.int 0), .val (.int 3), .val .null, .unset] [(.int 3), (.int 0), (.ref qc)])) := fun t k => P4 t (by
    refine XS.ifNo X4.here hx rfl (hb hby d2_30) rfl ((if0 _ _).trans (feq c5).1) ?_
    refine XS.aloadN X4.here hx rfl (hb hby d2_33) rfl rfl ?_
    refine XS.iloadN X4.here hx rfl (hb hby d2_34) rfl ?_
    refine XS.iloadN X4.here hx rfl (hb hby d2_35) rfl ?_
    show Steps p.tables e below (T4.setTop (mkF m 36 #[.val (.ref q2s3_0), .val (.ref qc), .val (.int 0), .val (.int 3), .val .null, .unset] [(.int 3), (.int 0), (.ref qc)])) t
    exact k)
  obtain ⟨_, _, ⟨T7, L7, k7, n7⟩, -, X7, ⟨Lc7, hQ7, l7, y7, z7⟩, st7⟩ := Jvm.LawKit.callS X4 hx (y := (⟨"java/lang/StringUTF16", "compress", "([CII)[B"⟩ : MethodName)) hown (mvT hZ (own_w hw 87 rfl)) (mvT hZ (own_w hw 88 rfl)) (mvT hZ (own_w hw 89 rfl)) (mvT hZ (own_w hw 90 rfl)) (by decide) (backOf (W := 0) (rm17s3 l Z a0 hw [] qc kc x0 x1 x2 h0 n0 Z0 A_qc hx0 hx1 hx2) hZ (own_w hw 90 rfl) (own_w hw 89 rfl) (by decide) (by decide)) (g := (mkF m 36 #[.val (.ref q2s3_0), .val (.ref qc), .val (.int 0), .val (.int 3), .val .null, .unset] [(.int 3), (.int 0), (.ref qc)])) rfl (by rw [hml]; rfl) (argsL := [(.ref qc), (.int 0), (.int 3)]) (rest := []) (lenOf pd_1 rfl) rfl (by show 2 * 0 + _ ≤ _; exact Nat.le_of_eq rfl) (hb hby d2_36) (fun _ _ => ⟨rfl, e4, (by decide : 0 + 1 ≤ _), (by decide : 0 + 3 ≤ _)⟩)
  dsimp only [Pt.U, Pt.locs, Pt.cells, Pt.slots] at X7 l7 y7 z7 st7 hQ7
  subst l7 y7 z7
  obtain ⟨b2_7, k2_7, rfl, N7q, Kc7, sz_b2_7, F7_0⟩ := hQ7
  have N7 := Fr.app N0 N7q
  have ne_q2s3_0_b2_7 : q2s3_0 ≠ b2_7 := Nat.ne_of_lt (Nat.lt_of_lt_of_le E_q2s3_0.lt sz_b2_7)
  have ne_qc_b2_7 : qc ≠ b2_7 := Nat.ne_of_lt (Nat.lt_of_lt_of_le A_qc.lt sz_b2_7)
  have g_b2_7 : n0 ≤ b2_7 := Nat.le_trans Z0 sz_b2_7
  have o_b2_7 : h0.size ≤ b2_7 := sz_b2_7
  have K7 : Keep h0 T7.heap [q2s3_0] := Keep.trans (Keep.refl h0 [q2s3_0]) Kc7 all0
  have P7 : own_Go p e below S0 (T7.setTop (mkF m 39 #[.val (.ref q2s3_0), .val (.ref qc), .val (.int 0), .val (.int 3), .val .null, .unset] [(.ref b2_7)])) := fun t k => P6 t (st7 _ k)
  have P8 : own_Go p e below S0 (T7.setTop (mkF m 45 #[.val (.ref q2s3_0), .val (.ref qc), .val (.int 0), .val (.int 3), .val .null, .val (.ref b2_7)] [(.int 3), (.ref b2_7), (.ref q2s3_0)])) := fun t k => P7 t (by
    refine XS.astore X7.here hx rfl (hb hby d2_39) rfl rfl (l' := #[.val (.ref q2s3_0), .val (.ref qc), .val (.int 0), .val (.int 3), .val .null, .val (.ref b2_7)]) rfl ?_
    refine XS.aloadN X7.here hx rfl (hb hby d2_41) rfl rfl ?_
    refine XS.aload X7.here hx rfl (hb hby d2_42) rfl rfl ?_
    refine XS.iloadN X7.here hx rfl (hb hby d2_44) rfl ?_
    show Steps p.tables e below (T7.setTop (mkF m 45 #[.val (.ref q2s3_0), .val (.ref qc), .val (.int 0), .val (.int 3), .val .null, .val (.ref b2_7)] [(.int 3), (.ref b2_7), (.ref q2s3_0)])) t
    exact k)
  obtain ⟨_, _, ⟨T9, L9, k9, n9⟩, -, X9, ⟨Lc9, hQ9, l9, y9, z9⟩, st9⟩ := Jvm.LawKit.callS X7 hx (y := (⟨"java/lang/StringUTF16", "coderFromArrayLen", "([BI)B"⟩ : MethodName)) hown (mvT hZ (own_w hw 94 rfl)) (mvT hZ (own_w hw 95 rfl)) (mvT hZ (own_w hw 89 rfl)) (mvT hZ (own_w hw 96 rfl)) (by decide) (backOf (W := 1) (rm19s3 l Z a0 hw [] b2_7 k2_7 (nar .byte (x0.toInt8.toInt32)) (nar .byte (x1.toInt8.toInt32)) (nar .byte (x2.toInt8.toInt32)) T7.heap n0 (Nat.le_trans Z0 K7.1) F7_0) hZ (own_w hw 96 rfl) (own_w hw 89 rfl) (by decide) (by decide)) (g := (mkF m 45 #[.val (.ref q2s3_0), .val (.ref qc), .val (.int 0), .val (.int 3), .val .null, .val (.ref b2_7)] [(.int 3), (.ref b2_7), (.ref q2s3_0)])) rfl (by rw [hml]; rfl) (argsL := [(.ref b2_7), (.int 3)]) (rest := [(.ref q2s3_0)]) (lenOf pd_2 rfl) rfl (by show 2 * 0 + _ ≤ _; exact Nat.le_of_eq rfl) (hb hby d2_45) (fun _ _ => ⟨rfl, rfl, (by decide : 1 + 0 ≤ _), (by decide : 3 + 0 ≤ _)⟩)
  dsimp only [Pt.U, Pt.locs, Pt.cells, Pt.slots] at X9 l9 y9 z9 st9 hQ9
  subst l9 y9 z9
  obtain ⟨rfl, N9q, e9⟩ := hQ9
  have N9 := Fr.app N7 N9q
  have P9 : own_Go p e below S0 (T9.setTop (mkF m 48 #[.val (.ref q2s3_0), .val (.ref qc), .val (.int 0), .val (.int 3), .val .null, .val (.ref b2_7)] [(.int 0), (.ref q2s3_0)])) := fun t k => P8 t (st9 _ k)
  have F10 : Exa Z T7.heap q2s3_0 "java/lang/String" := E_q2s3_0.keep Kc7
  have F11 : Fld Z T7.heap q2s3_0 "java/lang/String" "coder" "B" u2s3_q2s3_0_coder := F_q2s3_0_coder.keep Kc7 nin0
  obtain ⟨T12, h12, X12, e12, W12, st12⟩ := putFN X9 hx hZ hown (own_w hw 25 rfl) Via.refl e9 F11 F10 (Or.inr ⟨(own_w hw 21 rfl), rfl, hnm⟩) (own_w hw 6 rfl) (ty := .byte) (v' := (.int 0)) (by decide) rfl (by decide) (g := (mkF m 48 #[.val (.ref q2s3_0), .val (.ref qc), .val (.int 0), .val (.int 3), .val .null, .val (.ref b2_7)] [(.int 0), (.ref q2s3_0)])) rfl rfl (hb hby d2_48)
  have K12 : Keep h0 h12 [q2s3_0] := K7.wr W12 (Or.inl (by simp))
  have N12 := Fr.snoc X12 N9 g_q2s3_0
  have F12w : Fld Z h12 q2s3_0 "java/lang/String" "coder" "B" (.int 0) := F11.same W12
  have P12 : own_Go p e below S0 (T12.setTop (mkF m 51 #[.val (.ref q2s3_0), .val (.ref qc), .val (.int 0), .val (.int 3), .val .null, .val (.ref b2_7)] [])) := fun t k => P9 t (st12 _ k)
  have F13 : Exa Z h12 q2s3_0 "java/lang/String" := F10.wr W12
  have F14 : Fld Z T7.heap q2s3_0 "java/lang/String" "value" "[B" u2s3_q2s3_0_value := F_q2s3_0_value.keep Kc7 nin0
  have F15 : Fld Z h12 q2s3_0 "java/lang/String" "value" "[B" u2s3_q2s3_0_value := F14.other W12 (Or.inr (slot_ne (Or.inr (own_w hw 20 rfl)) (Or.inr (own_w hw 21 rfl)) (by decide) (t := (.array .byte)) (t' := .byte) (by decide) (by decide)))
  have P16 : own_Go p e below S0 (T12.setTop (mkF m 54 #[.val (.ref q2s3_0), .val (.ref qc), .val (.int 0), .val (.int 3), .val .null, .val (.ref b2_7)] [(.ref b2_7), (.ref q2s3_0)])) := fun t k => P12 t (by
    refine XS.aloadN X12.here hx rfl (hb hby d2_51) rfl rfl ?_
    refine XS.aload X12.here hx rfl (hb hby d2_52) rfl rfl ?_
    show Steps p.tables e below (T12.setTop (mkF m 54 #[.val (.ref q2s3_0), .val (.ref qc), .val (.int 0), .val (.int 3), .val .null, .val (.ref b2_7)] [(.ref b2_7), (.ref q2s3_0)])) t
    exact k)
  obtain ⟨T17, h17, X17, e17, W17, st17⟩ := putF X12 hx hZ hown (host := "") (Or.inl (own_w hw 24 rfl)) Via.refl e12 F15 F13 (Or.inr ⟨(own_w hw 20 rfl), rfl, hnm⟩) (own_w hw 6 rfl) (ty := (.array .byte)) (by decide) rfl rfl (g := (mkF m 54 #[.val (.ref q2s3_0), .val (.ref qc), .val (.int 0), .val (.int 3), .val .null, .val (.ref b2_7)] [(.ref b2_7), (.ref q2s3_0)])) rfl rfl (hb hby d2_54)
  have K17 : Keep h0 h17 [q2s3_0] := K12.wr W17 (Or.inl (by simp))
  have N17 := Fr.snoc X17 N12 g_q2s3_0
  have F17w : Fld Z h17 q2s3_0 "java/lang/String" "value" "[B" (.ref b2_7) := F15.same W17
  have P17 : own_Go p e below S0 (T17.setTop (mkF m 57 #[.val (.ref q2s3_0), .val (.ref qc), .val (.int 0), .val (.int 3), .val .null, .val (.ref b2_7)] [])) := fun t k => P16 t (st17 _ k)
  have F18 : Arv Z h12 b2_7 k2_7 .byte (3 : Int32) [(.int (nar .byte (x0.toInt8.toInt32))), (.int (nar .byte (x1.toInt8.toInt32))), (.int (nar .byte (x2.toInt8.toInt32)))] (.int 0) := F7_0.other W12 (Ne.symm ne_q2s3_0_b2_7)
  have F19 : Arv Z h17 b2_7 k2_7 .byte (3 : Int32) [(.int (nar .byte (x0.toInt8.toInt32))), (.int (nar .byte (x1.toInt8.toInt32))), (.int (nar .byte (x2.toInt8.toInt32)))] (.int 0) := F18.other W17 (Ne.symm ne_q2s3_0_b2_7)
  have F20 : Fld Z h17 q2s3_0 "java/lang/String" "coder" "B" (.int 0) := F12w.other W17 (Or.inr (slot_ne (Or.inr (own_w hw 21 rfl)) (Or.inr (own_w hw 20 rfl)) (by decide) (t := .byte) (t' := (.array .byte)) (by decide) (by decide)))
  obtain ⟨fs, hr, hrun, hended, hW, hsame⟩ := X17.leave (v := none) (fun _ => rfl) (BodyLoose.notSynchronized Bd)
  refine ⟨_, _, own_from hE0 (P17 _ ?_), hrun, hended, _, _, rfl, ?_, ⟨_, rfl⟩, hW, hsame.mono (by decide) (by decide)⟩
  · show Steps p.tables e below (T17.setTop (mkF m 57 #[.val (.ref q2s3_0), .val (.ref qc), .val (.int 0), .val (.int 3), .val .null, .val (.ref b2_7)] [])) _
    exact X17.returnOut hx Bd.returns (hb hby d2_57) hr
  · show Q2s3 Z q2s3_0 qc kc zc x0 x1 x2 u2s3_q2s3_0_coder u2s3_q2s3_0_value h0 n0 _ T17.heap _
    rw [e17]
    exact ⟨b2_7, k2_7, rfl, N17, K17, o_b2_7, F19, F20, F17w⟩
theorem ef_1s3 (m : MethodId) (q1s3_0 : Addr) (qc : Addr) : entryFrame m #[(.ref q1s3_0), (.ref qc)] 2 = mkF m 0 #[.val (.ref q1s3_0), .val (.ref qc)] [] := by first | (simp [entryFrame, mkF, argsToLocals, Value.category]; done) | rfl
def Q1s3 (Z : State) (q1s3_0 : Addr) (qc : Addr) (kc : ClassId) (zc : Int32) (x0 : Int32) (x1 : Int32) (x2 : Int32) (u1s3_q1s3_0_coder : Value) (u1s3_q1s3_0_value : Value) (h0 : Heap) (n0 : Nat) (v : Option Value) (h : Heap) (L : List Loc) : Prop := ∃ (b2_7_3 : Addr) (k2_7_3 : ClassId), v = none ∧ Fr n0 L ∧ Keep h0 h [q1s3_0] ∧ h0.size ≤ b2_7_3 ∧ Arv Z h b2_7_3 k2_7_3 .byte (3 : Int32) [(.int (nar .byte (x0.toInt8.toInt32))), (.int (nar .byte (x1.toInt8.toInt32))), (.int (nar .byte (x2.toInt8.toInt32)))] (.int 0) ∧ Fld Z h q1s3_0 "java/lang/String" "coder" "B" (.int 0) ∧ Fld Z h q1s3_0 "java/lang/String" "value" "[B" (.ref b2_7_3)
set_option maxRecDepth 65536 in
set_option maxHeartbeats 40000000 in
theorem rm1s3 (l : Launch) (Z : State) (a0 : Array Value) (hw : ∀ d ∈ tables_1, d.before a0 Z = true) (ws : List Jvm.Cond) (q1s3_0 : Addr) (qc : Addr) (kc : ClassId) (zc : Int32) (x0 : Int32) (x1 : Int32) (x2 : Int32) (u1s3_q1s3_0_coder : Value) (u1s3_q1s3_0_value : Value) (h0 : Heap) (n0 : Nat) (Z0 : n0 ≤ h0.size) (E_q1s3_0 : Exa Z h0 q1s3_0 "java/lang/String") (A_qc : Arv Z h0 qc kc .char (3 : Int32) [(.int x0), (.int x1), (.int x2)] (.int 0)) (S_COMPACT_STRINGS : Sta Z h0 "java/lang/String" "COMPACT_STRINGS" "Z" (.int zc)) (hcs : ¬ (zc = (0 : Int32))) (hx0 : ¬ ((255 : Int32) < x0)) (hx1 : ¬ ((255 : Int32) < x1)) (hx2 : ¬ ((255 : Int32) < x2)) (F_q1s3_0_coder : Fld Z h0 q1s3_0 "java/lang/String" "coder" "B" u1s3_q1s3_0_coder) (g_q1s3_0 : n0 ≤ q1s3_0) (F_q1s3_0_value : Fld Z h0 q1s3_0 "java/lang/String" "value" "[B" u1s3_q1s3_0_value) :
    MetFree l (⟨"java/lang/String", "<init>", "([C)V"⟩ : MethodName) (head1 (Jvm.Cond.code (⟨"java/lang/String", "<init>", "([C)V"⟩ : MethodName) jdk_42_method_3_code 2 none :: ws) ({ frames := 3, cells := 1, slots := 3, locals := 52 } : Room)) (fun a U => a = #[(.ref q1s3_0), (.ref qc)] ∧ Z.Warmed39 U.vm ∧ U.heap = h0) (fun _ _ _ _ _ => True) (fun _ U o U' => ∃ v L, o = .returned v ∧ Q1s3 Z q1s3_0 qc kc zc x0 x1 x2 u1s3_q1s3_0_coder u1s3_q1s3_0_value h0 n0 v U'.heap L ∧ FrameEnd U o U' L ({ frames := 3, cells := 1, slots := 3, locals := 52 } : Room).cells ({ frames := 3, cells := 1, slots := 3, locals := 52 } : Room).slots) := by
  refine MetFree.of_bodySF (plainFor_of_name pn_2) hisR ?_
  intro p e s m args below meth c s₁ Bd hml0 hP hK
  obtain ⟨rfl, hZ, hh⟩ := hP
  have hx := Bd.exec
  have hby := Bd.bytes
  have hml : c.maxLocals = 2 := hml0
  have hown : s.vm.findClass "java/lang/String" = some m.cls := findClass_of_methodNamed Bd.named
  have hnm := (name_of_methodNamed Bd.named Bd.method).1
  have X0 : Stand p l e ({ frames := 3, cells := 1, slots := 3, locals := 52 } : Room) s m #[(.ref q1s3_0), (.ref qc)] below meth c s₁ [] 0 0 := Stand.of_body Bd
  have e0 : s₁.heap = h0 := by rw [← hh, Bd.state]; rfl
  have N0 := Fr.nil n0
  obtain ⟨S0, hE0⟩ : ∃ z, z = s₁.setTop (entryFrame m #[(.ref q1s3_0), (.ref qc)] 2) := ⟨_, rfl⟩
  have P0 : own_Go p e below S0 (s₁.setTop (mkF m 0 #[.val (.ref q1s3_0), .val (.ref qc)] [])) := fun t k => by rw [hE0]; exact castTop (ef_1s3 m q1s3_0 qc) k
  obtain ⟨cl1, Ar1, q1, Sz1, Nn1, Hh1, Gg1⟩ := id A_qc
  have P2 : own_Go p e below S0 (s₁.setTop (mkF m 6 #[.val (.ref q1s3_0), .val (.ref qc)] [.null, (.int 3), (.int 0), (.ref qc), (.ref q1s3_0)])) := fun t k => P0 t (by
    refine XS.aloadN X0.here hx rfl (hb hby d1_0) rfl rfl ?_
    refine XS.aloadN X0.here hx rfl (hb hby d1_1) rfl rfl ?_
    refine XS.iconst X0.here hx rfl (hb hby d1_2) ?_
    refine XS.aloadN X0.here hx rfl (hb hby d1_3) rfl rfl ?_
    show Steps p.tables e below (s₁.setTop (mkF m 4 #[.val (.ref q1s3_0), .val (.ref qc)] [(.ref qc), (.int 0), (.ref qc), (.ref q1s3_0)])) t
    refine X0.arraylength hx (by rw [e0]; exact Ar1.1) (State.isArrayOf_alike hZ.alike Ar1.2.1) (g := (mkF m 4 #[.val (.ref q1s3_0), .val (.ref qc)] [(.ref qc), (.int 0), (.ref qc), (.ref q1s3_0)])) rfl rfl (hb hby d1_4) _ ?_
    rw [len_of Sz1 Nn1]
    refine XS.aconstNull X0.here hx rfl (hb hby d1_5) ?_
    show Steps p.tables e below (s₁.setTop (mkF m 6 #[.val (.ref q1s3_0), .val (.ref qc)] [.null, (.int 3), (.int 0), (.ref qc), (.ref q1s3_0)])) t
    exact k)
  obtain ⟨_, _, ⟨T3, L3, k3, n3⟩, -, X3, ⟨Lc3, hQ3, l3, y3, z3⟩, st3⟩ := X0.specialBack hx (y := (⟨"java/lang/String", "<init>", "([CIILjava/lang/Void;)V"⟩ : MethodName)) rfl hown (mvT hZ (own_w hw 11 rfl)) (mvT hZ (own_w hw 12 rfl)) (mvT hZ (own_w hw 14 rfl)) (by decide) (backOf (W := 0) (rm2s3 l Z a0 hw [] q1s3_0 qc kc zc x0 x1 x2 u1s3_q1s3_0_coder u1s3_q1s3_0_value h0 n0 Z0 E_q1s3_0 A_qc S_COMPACT_STRINGS hcs hx0 hx1 hx2 F_q1s3_0_coder g_q1s3_0 F_q1s3_0_value) hZ (own_w hw 14 rfl) (own_w hw 7 rfl) (by decide) (by decide)) (g := (mkF m 6 #[.val (.ref q1s3_0), .val (.ref qc)] [.null, (.int 3), (.int 0), (.ref qc), (.ref q1s3_0)])) rfl (by rw [hml]; rfl) (Steps.refl _) (a := q1s3_0) (argsL := [(.ref qc), (.int 0), (.int 3), .null]) (rest := []) (lenOf pd_3 rfl) rfl (by show 2 * 0 + _ ≤ _; exact Nat.le_of_eq rfl) (hb hby d1_6) (fun _ _ => ⟨rfl, e0, (by decide : 0 + 1 ≤ _), (by decide : 0 + 3 ≤ _)⟩)
  dsimp only [Pt.U, Pt.locs, Pt.cells, Pt.slots] at X3 l3 y3 z3 st3 hQ3
  subst l3 y3 z3
  obtain ⟨b2_7_3, k2_7_3, rfl, N3q, Kc3, sz_b2_7_3, F3_0, F3_1, F3_2⟩ := hQ3
  have N3 := Fr.app N0 N3q
  have ne_q1s3_0_b2_7_3 : q1s3_0 ≠ b2_7_3 := Nat.ne_of_lt (Nat.lt_of_lt_of_le E_q1s3_0.lt sz_b2_7_3)
  have ne_qc_b2_7_3 : qc ≠ b2_7_3 := Nat.ne_of_lt (Nat.lt_of_lt_of_le A_qc.lt sz_b2_7_3)
  have g_b2_7_3 : n0 ≤ b2_7_3 := Nat.le_trans Z0 sz_b2_7_3
  have o_b2_7_3 : h0.size ≤ b2_7_3 := sz_b2_7_3
  have K3 : Keep h0 T3.heap [q1s3_0] := Keep.trans (Keep.refl h0 [q1s3_0]) Kc3 (allS (Or.inl (by simp)) all0)
  have P3 : own_Go p e below S0 (T3.setTop (mkF m 9 #[.val (.ref q1s3_0), .val (.ref qc)] [])) := fun t k => P2 t (st3.trans k)
  obtain ⟨fs, hr, hrun, hended, hW, hsame⟩ := X3.leave (v := none) (fun _ => rfl) (BodyLoose.notSynchronized Bd)
  refine ⟨_, _, own_from hE0 (P3 _ ?_), hrun, hended, _, _, rfl, ?_, ⟨_, rfl⟩, hW, hsame.mono (by decide) (by decide)⟩
  · show Steps p.tables e below (T3.setTop (mkF m 9 #[.val (.ref q1s3_0), .val (.ref qc)] [])) _
    exact X3.returnOut hx Bd.returns (hb hby d1_9) hr
  · show Q1s3 Z q1s3_0 qc kc zc x0 x1 x2 u1s3_q1s3_0_coder u1s3_q1s3_0_value h0 n0 _ T3.heap _
    exact ⟨b2_7_3, k2_7_3, rfl, N3, K3, o_b2_7_3, F3_0, F3_1, F3_2⟩
theorem ef_18s4 (m : MethodId) (qc : Addr) (qb : Addr) : entryFrame m #[(.ref qc), (.int 0), (.ref qb), (.int 0), (.int 4)] 7 = mkF m 0 #[.val (.ref qc), .val (.int 0), .val (.ref qb), .val (.int 0), .val (.int 4), .unset, .unset] [] := by first | (simp [entryFrame, mkF, argsToLocals, Value.category]; done) | rfl
def Q18s4 (Z : State) (qc : Addr) (qb : Addr) (kc : ClassId) (kb : ClassId) (x0 : Int32) (x1 : Int32) (x2 : Int32) (x3 : Int32) (h0 : Heap) (n0 : Nat) (v : Option Value) (h : Heap) (L : List Loc) : Prop := v = some (.int 4) ∧ Fr n0 L ∧ Keep h0 h [qb] ∧ Arv Z h qb kb .byte (4 : Int32) [(.int (nar .byte (x0.toInt8.toInt32))), (.int (nar .byte (x1.toInt8.toInt32))), (.int (nar .byte (x2.toInt8.toInt32))), (.int (nar .byte (x3.toInt8.toInt32)))] (.int 0)
set_option maxRecDepth 65536 in
set_option maxHeartbeats 40000000 in
theorem rm18s4 (l : Launch) (Z : State) (a0 : Array Value) (hw : ∀ d ∈ tables_1, d.before a0 Z = true) (ws : List Jvm.Cond) (qc : Addr) (qb : Addr) (kc : ClassId) (kb : ClassId) (x0 : Int32) (x1 : Int32) (x2 : Int32) (x3 : Int32) (h0 : Heap) (n0 : Nat) (Z0 : n0 ≤ h0.size) (A_qc : Arv Z h0 qc kc .char (4 : Int32) [(.int x0), (.int x1), (.int x2), (.int x3)] (.int 0)) (A_qb : Arv Z h0 qb kb .byte (4 : Int32) [(.int 0), (.int 0), (.int 0), (.int 0)] (.int 0)) (hx0 : ¬ ((255 : Int32) < x0)) (hx1 : ¬ ((255 : Int32) < x1)) (hx2 : ¬ ((255 : Int32) < x2)) (hx3 : ¬ ((255 : Int32) < x3)) (g_qb : n0 ≤ qb) (hne_qc_qb : qc ≠ qb) :
    MetFree l (⟨"java/lang/StringUTF16", "compress", "([CI[BII)I"⟩ : MethodName) (head1 (Jvm.Cond.code (⟨"java/lang/StringUTF16", "compress", "([CI[BII)I"⟩ : MethodName) jdk_52_method_21_code 7 (some .int) :: ws) ({ frames := 0, cells := 0, slots := 0, locals := 0 } : Room)) (fun a U => a = #[(.ref qc), (.int 0), (.ref qb), (.int 0), (.int 4)] ∧ Z.Warmed39 U.vm ∧ U.heap = h0) (fun _ _ _ _ _ => True) (fun _ U o U' => ∃ v L, o = .returned v ∧ Q18s4 Z qc qb kc kb x0 x1 x2 x3 h0 n0 v U'.heap L ∧ FrameEnd U o U' L ({ frames := 0, cells := 0, slots := 0, locals := 0 } : Room).cells ({ frames := 0, cells := 0, slots := 0, locals := 0 } : Room).slots) := by
  refine MetFree.of_bodySF (plainFor_of_name pn_18) hisR ?_
  intro p e s m args below meth c s₁ Bd hml0 hP hK
  obtain ⟨rfl, hZ, hh⟩ := hP
  have hx := Bd.exec
  have hby := Bd.bytes
  have hml : c.maxLocals = 7 := hml0
  have hown : s.vm.findClass "java/lang/StringUTF16" = some m.cls := findClass_of_methodNamed Bd.named
  have hnm := (name_of_methodNamed Bd.named Bd.method).1
  have X0 : Stand p l e ({ frames := 0, cells := 0, slots := 0, locals := 0 } : Room) s m #[(.ref qc), (.int 0), (.ref qb), (.int 0), (.int 4)] below meth c s₁ [] 0 0 := Stand.of_body Bd
  have e0 : s₁.heap = h0 := by rw [← hh, Bd.state]; rfl
  have N0 := Fr.nil n0
  obtain ⟨S0, hE0⟩ : ∃ z, z = s₁.setTop (entryFrame m #[(.ref qc), (.int 0), (.ref qb), (.int 0), (.int 4)] 7) := ⟨_, rfl⟩
  have P0 : own_Go p e below S0 (s₁.setTop (mkF m 0 #[.val (.ref qc), .val (.int 0), .val (.ref qb), .val (.int 0), .val (.int 4), .unset, .unset] [])) := fun t k => by rw [hE0]; exact castTop (ef_18s4 m qc qb) k
  obtain ⟨cl1, Ar1, q1, Sz1, Nn1, Hh1, Gg1⟩ := id A_qc
  have hin1 : ¬ ((0 : Int32) < 0 ∨ cl1.slots.size ≤ ((0 : Int32)).toNatClampNeg) := inb_of Sz1 ⟨by decide, by decide⟩
  have hat1 : cl1.slots[((0 : Int32)).toNatClampNeg]? = some (.int x0) := Has.at Hh1 hin1 rfl
  have c2 : ¬ ((255 : Int32) < x0) := hx0
  have P3 : own_Go p e below S0 (s₁.setTop (mkF m 31 #[.val (.ref qc), .val (.int 0), .val (.ref qb), .val (.int 0), .val (.int 4), .val (.int 0), .val (.int x0)] [(.int (x0.toInt8.toInt32)), (.int 0), (.ref qb)])) := fun t k => P0 t (by
    refine XS.iconst X0.here hx rfl (hb hby d18_0) ?_
    refine XS.istore X0.here hx rfl (hb hby d18_1) rfl (l' := #[.val (.ref qc), .val (.int 0), .val (.ref qb), .val (.int 0), .val (.int 4), .val (.int 0), .unset]) rfl ?_
    refine XS.iload X0.here hx rfl (hb hby d18_3) rfl ?_
    refine XS.iload X0.here hx rfl (hb hby d18_5) rfl ?_
    refine XS.icmpNo X0.here hx rfl (hb hby d18_7) rfl (tlt (by decide)).2.1 ?_
    refine XS.aloadN X0.here hx rfl (hb hby d18_10) rfl rfl ?_
    show Steps p.tables e below (s₁.setTop (mkF m 11 #[.val (.ref qc), .val (.int 0), .val (.ref qb), .val (.int 0), .val (.int 4), .val (.int 0), .unset] [(.ref qc)])) t
    refine XS.iloadN X0.here hx rfl (hb hby d18_11) rfl ?_
    show Steps p.tables e below (s₁.setTop (mkF m 12 #[.val (.ref qc), .val (.int 0), .val (.ref qb), .val (.int 0), .val (.int 4), .val (.int 0), .unset] [(.int 0), (.ref qc)])) t
    refine X0.caload hx (j := (0 : Int32)) (v := (.int x0)) (by rw [e0]; exact Ar1.1) (State.isArrayOf_alike hZ.alike Ar1.2.1) Ar1.2.2 hin1 hat1 (g := (mkF m 12 #[.val (.ref qc), .val (.int 0), .val (.ref qb), .val (.int 0), .val (.int 4), .val (.int 0), .unset] [(.int 0), (.ref qc)])) rfl rfl (hb hby d18_12) _ ?_
    refine XS.istore X0.here hx rfl (hb hby d18_13) rfl (l' := #[.val (.ref qc), .val (.int 0), .val (.ref qb), .val (.int 0), .val (.int 4), .val (.int 0), .val (.int x0)]) rfl ?_
    refine XS.iload X0.here hx rfl (hb hby d18_15) rfl ?_
    refine XS.sipush X0.here hx rfl (hb hby d18_17) ?_
    refine XS.icmpYes X0.here hx rfl (pc0 := 20) (pc' := 26) rfl (hb hby d18_20) rfl (flt c2).2.2.2 (by decide) (by decide) ?_
    show Steps p.tables e below (s₁.setTop (mkF m 26 #[.val (.ref qc), .val (.int 0), .val (.ref qb), .val (.int 0), .val (.int 4), .val (.int 0), .val (.int x0)] [])) t
    refine XS.aloadN X0.here hx rfl (hb hby d18_26) rfl rfl ?_
    refine XS.iloadN X0.here hx rfl (hb hby d18_27) rfl ?_
    refine XS.iload X0.here hx rfl (hb hby d18_28) rfl ?_
    refine XS.i2b X0.here hx rfl (hb hby d18_30) rfl ?_
    show Steps p.tables e below (s₁.setTop (mkF m 31 #[.val (.ref qc), .val (.int 0), .val (.ref qb), .val (.int 0), .val (.int 4), .val (.int 0), .val (.int x0)] [(.int (x0.toInt8.toInt32)), (.int 0), (.ref qb)])) t
    exact k)
  obtain ⟨cl5, Ar5, q5, Sz5, Nn5, Hh5, Gg5⟩ := id A_qb
  have hin5 : ¬ ((0 : Int32) < 0 ∨ cl5.slots.size ≤ ((0 : Int32)).toNatClampNeg) := inb_of Sz5 ⟨by decide, by decide⟩
  obtain ⟨T4, h4, X4, e4, W4, st4⟩ := stB X0 hx hZ e0 Ar5 (j := (0 : Int32)) hin5 (g := (mkF m 31 #[.val (.ref qc), .val (.int 0), .val (.ref qb), .val (.int 0), .val (.int 4), .val (.int 0), .val (.int x0)] [(.int (x0.toInt8.toInt32)), (.int 0), (.ref qb)])) rfl rfl (hb hby d18_31)
  have K4 : Keep h0 h4 [qb] := (Keep.refl h0 [qb]).wr W4 (Or.inl (by simp))
  have N4 := Fr.snoc X4 N0 g_qb
  have V4 : Arv Z h4 qb kb .byte (4 : Int32) [(.int (nar .byte (x0.toInt8.toInt32))), (.int 0), (.int 0), (.int 0)] (.int 0) := Arv.set Ar5 q5 Sz5 Nn5 Hh5 Gg5 (fits_nar_byte _) W4 0 rfl (Nat.le_of_ble_eq_true rfl)
  have P4 : own_Go p e below S0 (T4.setTop (mkF m 32 #[.val (.ref qc), .val (.int 0), .val (.ref qb), .val (.int 0), .val (.int 4), .val (.int 0), .val (.int x0)] [])) := fun t k => P3 t (st4 _ k)
  have F6 : Arv Z h4 qc kc .char (4 : Int32) [(.int x0), (.int x1), (.int x2), (.int x3)] (.int 0) := A_qc.other W4 hne_qc_qb
  obtain ⟨cl7, Ar7, q7, Sz7, Nn7, Hh7, Gg7⟩ := id F6
  have hin7 : ¬ ((1 : Int32) < 0 ∨ cl7.slots.size ≤ ((1 : Int32)).toNatClampNeg) := inb_of Sz7 ⟨by decide, by decide⟩
  have hat7 : cl7.slots[((1 : Int32)).toNatClampNeg]? = some (.int x1) := Has.at Hh7 hin7 rfl
  have c8 : ¬ ((255 : Int32) < x1) := hx1
  have P9 : own_Go p e below S0 (T4.setTop (mkF m 31 #[.val (.ref qc), .val (.int 1), .val (.ref qb), .val (.int 1), .val (.int 4), .val (.int 1), .val (.int x1)] [(.int (x1.toInt8.toInt32)), (.int 1), (.ref qb)])) := fun t k => P4 t (by
    refine XS.iinc X4.here hx rfl (hb hby d18_32) rfl (l' := #[.val (.ref qc), .val (.int 1), .val (.ref qb), .val (.int 0), .val (.int 4), .val (.int 0), .val (.int x0)]) rfl ?_
    refine XS.iinc X4.here hx rfl (hb hby d18_35) rfl (l' := #[.val (.ref qc), .val (.int 1), .val (.ref qb), .val (.int 1), .val (.int 4), .val (.int 0), .val (.int x0)]) rfl ?_
    refine XS.iinc X4.here hx rfl (hb hby d18_38) rfl (l' := #[.val (.ref qc), .val (.int 1), .val (.ref qb), .val (.int 1), .val (.int 4), .val (.int 1), .val (.int x0)]) rfl ?_
    refine XS.goto X4.here hx rfl (pc0 := 41) (pc' := 3) rfl (hb hby d18_41) (by decide) (by decide) ?_
    refine XS.iload X4.here hx rfl (hb hby d18_3) rfl ?_
    refine XS.iload X4.here hx rfl (hb hby d18_5) rfl ?_
    show Steps p.tables e below (T4.setTop (mkF m 7 #[.val (.ref qc), .val (.int 1), .val (.ref qb), .val (.int 1), .val (.int 4), .val (.int 1), .val (.int x0)] [(.int 4), (.int 1)])) t
    refine XS.icmpNo X4.here hx rfl (hb hby d18_7) rfl (tlt (by decide)).2.1 ?_
    refine XS.aloadN X4.here hx rfl (hb hby d18_10) rfl rfl ?_
    refine XS.iloadN X4.here hx rfl (hb hby d18_11) rfl ?_
    show Steps p.tables e below (T4.setTop (mkF m 12 #[.val (.ref qc), .val (.int 1), .val (.ref qb), .val (.int 1), .val (.int 4), .val (.int 1), .val (.int x0)] [(.int 1), (.ref qc)])) t
    refine X4.caload hx (j := (1 : Int32)) (v := (.int x1)) (by rw [e4]; exact Ar7.1) (State.isArrayOf_alike hZ.alike Ar7.2.1) Ar7.2.2 hin7 hat7 (g := (mkF m 12 #[.val (.ref qc), .val (.int 1), .val (.ref qb), .val (.int 1), .val (.int 4), .val (.int 1), .val (.int x0)] [(.int 1), (.ref qc)])) rfl rfl (hb hby d18_12) _ ?_
    refine XS.istore X4.here hx rfl (hb hby d18_13) rfl (l' := #[.val (.ref qc), .val (.int 1), .val (.ref qb), .val (.int 1), .val (.int 4), .val (.int 1), .val (.int x1)]) rfl ?_
    refine XS.iload X4.here hx rfl (hb hby d18_15) rfl ?_
    show Steps p.tables e below (T4.setTop (mkF m 17 #[.val (.ref qc), .val (.int 1), .val (.ref qb), .val (.int 1), .val (.int 4), .val (.int 1), .val (.int x1)] [(.int x1)])) t
    refine XS.sipush X4.here hx rfl (hb hby d18_17) ?_
    refine XS.icmpYes X4.here hx rfl (pc0 := 20) (pc' := 26) rfl (hb hby d18_20) rfl (flt c8).2.2.2 (by decide) (by decide) ?_
    refine XS.aloadN X4.here hx rfl (hb hby d18_26) rfl rfl ?_
    refine XS.iloadN X4.here hx rfl (hb hby d18_27) rfl ?_
    refine XS.iload X4.here hx rfl (hb hby d18_28) rfl ?_
    refine XS.i2b X4.here hx rfl (hb hby d18_30) rfl ?_
    show Steps p.tables e below (T4.setTop (mkF m 31 #[.val (.ref qc), .val (.int 1), .val (.ref qb), .val (.int 1), .val (.int 4), .val (.int 1), .val (.int x1)] [(.int (x1.toInt8.toInt32)), (.int 1), (.ref qb)])) t
    exact k)
  obtain ⟨cl11, Ar11, q11, Sz11, Nn11, Hh11, Gg11⟩ := id V4
  have hin11 : ¬ ((1 : Int32) < 0 ∨ cl11.slots.size ≤ ((1 : Int32)).toNatClampNeg) := inb_of Sz11 ⟨by decide, by decide⟩
  obtain ⟨T10, h10, X10, e10, W10, st10⟩ := stB X4 hx hZ e4 Ar11 (j := (1 : Int32)) hin11 (g := (mkF m 31 #[.val (.ref qc), .val (.int 1), .val (.ref qb), .val (.int 1), .val (.int 4), .val (.int 1), .val (.int x1)] [(.int (x1.toInt8.toInt32)), (.int 1), (.ref qb)])) rfl rfl (hb hby d18_31)
  have K10 : Keep h0 h10 [qb] := K4.wr W10 (Or.inl (by simp))
  have N10 := Fr.snoc X10 N4 g_qb
  have V10 : Arv Z h10 qb kb .byte (4 : Int32) [(.int (nar .byte (x0.toInt8.toInt32))), (.int (nar .byte (x1.toInt8.toInt32))), (.int 0), (.int 0)] (.int 0) := Arv.set Ar11 q11 Sz11 Nn11 Hh11 Gg11 (fits_nar_byte _) W10 1 rfl (Nat.le_of_ble_eq_true rfl)
  have P10 : own_Go p e below S0 (T10.setTop (mkF m 32 #[.val (.ref qc), .val (.int 1), .val (.ref qb), .val (.int 1), .val (.int 4), .val (.int 1), .val (.int x1)] [])) := fun t k => P9 t (st10 _ k)
  have F12 : Arv Z h10 qc kc .char (4 : Int32) [(.int x0), (.int x1), (.int x2), (.int x3)] (.int 0) := F6.other W10 hne_qc_qb
  obtain ⟨cl13, Ar13, q13, Sz13, Nn13, Hh13, Gg13⟩ := id F12
  have hin13 : ¬ ((2 : Int32) < 0 ∨ cl13.slots.size ≤ ((2 : Int32)).toNatClampNeg) := inb_of Sz13 ⟨by decide, by decide⟩
  have hat13 : cl13.slots[((2 : Int32)).toNatClampNeg]? = some (.int x2) := Has.at Hh13 hin13 rfl
  have c14 : ¬ ((255 : Int32) < x2) := hx2
  have P15 : own_Go p e below S0 (T10.setTop (mkF m 31 #[.val (.ref qc), .val (.int 2), .val (.ref qb), .val (.int 2), .val (.int 4), .val (.int 2), .val (.int x2)] [(.int (x2.toInt8.toInt32)), (.int 2), (.ref qb)])) := fun t k => P10 t (by
    refine XS.iinc X10.here hx rfl (hb hby d18_32) rfl (l' := #[.val (.ref qc), .val (.int 2), .val (.ref qb), .val (.int 1), .val (.int 4), .val (.int 1), .val (.int x1)]) rfl ?_
    refine XS.iinc X10.here hx rfl (hb hby d18_35) rfl (l' := #[.val (.ref qc), .val (.int 2), .val (.ref qb), .val (.int 2), .val (.int 4), .val (.int 1), .val (.int x1)]) rfl ?_
    refine XS.iinc X10.here hx rfl (hb hby d18_38) rfl (l' := #[.val (.ref qc), .val (.int 2), .val (.ref qb), .val (.int 2), .val (.int 4), .val (.int 2), .val (.int x1)]) rfl ?_
    refine XS.goto X10.here hx rfl (pc0 := 41) (pc' := 3) rfl (hb hby d18_41) (by decide) (by decide) ?_
    refine XS.iload X10.here hx rfl (hb hby d18_3) rfl ?_
    refine XS.iload X10.here hx rfl (hb hby d18_5) rfl ?_
    show Steps p.tables e below (T10.setTop (mkF m 7 #[.val (.ref qc), .val (.int 2), .val (.ref qb), .val (.int 2), .val (.int 4), .val (.int 2), .val (.int x1)] [(.int 4), (.int 2)])) t
    refine XS.icmpNo X10.here hx rfl (hb hby d18_7) rfl (tlt (by decide)).2.1 ?_
    refine XS.aloadN X10.here hx rfl (hb hby d18_10) rfl rfl ?_
    refine XS.iloadN X10.here hx rfl (hb hby d18_11) rfl ?_
    show Steps p.tables e below (T10.setTop (mkF m 12 #[.val (.ref qc), .val (.int 2), .val (.ref qb), .val (.int 2), .val (.int 4), .val (.int 2), .val (.int x1)] [(.int 2), (.ref qc)])) t
    refine X10.caload hx (j := (2 : Int32)) (v := (.int x2)) (by rw [e10]; exact Ar13.1) (State.isArrayOf_alike hZ.alike Ar13.2.1) Ar13.2.2 hin13 hat13 (g := (mkF m 12 #[.val (.ref qc), .val (.int 2), .val (.ref qb), .val (.int 2), .val (.int 4), .val (.int 2), .val (.int x1)] [(.int 2), (.ref qc)])) rfl rfl (hb hby d18_12) _ ?_
    refine XS.istore X10.here hx rfl (hb hby d18_13) rfl (l' := #[.val (.ref qc), .val (.int 2), .val (.ref qb), .val (.int 2), .val (.int 4), .val (.int 2), .val (.int x2)]) rfl ?_
    refine XS.iload X10.here hx rfl (hb hby d18_15) rfl ?_
    show Steps p.tables e below (T10.setTop (mkF m 17 #[.val (.ref qc), .val (.int 2), .val (.ref qb), .val (.int 2), .val (.int 4), .val (.int 2), .val (.int x2)] [(.int x2)])) t
    refine XS.sipush X10.here hx rfl (hb hby d18_17) ?_
    refine XS.icmpYes X10.here hx rfl (pc0 := 20) (pc' := 26) rfl (hb hby d18_20) rfl (flt c14).2.2.2 (by decide) (by decide) ?_
    refine XS.aloadN X10.here hx rfl (hb hby d18_26) rfl rfl ?_
    refine XS.iloadN X10.here hx rfl (hb hby d18_27) rfl ?_
    refine XS.iload X10.here hx rfl (hb hby d18_28) rfl ?_
    refine XS.i2b X10.here hx rfl (hb hby d18_30) rfl ?_
    show Steps p.tables e below (T10.setTop (mkF m 31 #[.val (.ref qc), .val (.int 2), .val (.ref qb), .val (.int 2), .val (.int 4), .val (.int 2), .val (.int x2)] [(.int (x2.toInt8.toInt32)), (.int 2), (.ref qb)])) t
    exact k)
  obtain ⟨cl17, Ar17, q17, Sz17, Nn17, Hh17, Gg17⟩ := id V10
  have hin17 : ¬ ((2 : Int32) < 0 ∨ cl17.slots.size ≤ ((2 : Int32)).toNatClampNeg) := inb_of Sz17 ⟨by decide, by decide⟩
  obtain ⟨T16, h16, X16, e16, W16, st16⟩ := stB X10 hx hZ e10 Ar17 (j := (2 : Int32)) hin17 (g := (mkF m 31 #[.val (.ref qc), .val (.int 2), .val (.ref qb), .val (.int 2), .val (.int 4), .val (.int 2), .val (.int x2)] [(.int (x2.toInt8.toInt32)), (.int 2), (.ref qb)])) rfl rfl (hb hby d18_31)
  have K16 : Keep h0 h16 [qb] := K10.wr W16 (Or.inl (by simp))
  have N16 := Fr.snoc X16 N10 g_qb
  have V16 : Arv Z h16 qb kb .byte (4 : Int32) [(.int (nar .byte (x0.toInt8.toInt32))), (.int (nar .byte (x1.toInt8.toInt32))), (.int (nar .byte (x2.toInt8.toInt32))), (.int 0)] (.int 0) := Arv.set Ar17 q17 Sz17 Nn17 Hh17 Gg17 (fits_nar_byte _) W16 2 rfl (Nat.le_of_ble_eq_true rfl)
  have P16 : own_Go p e below S0 (T16.setTop (mkF m 32 #[.val (.ref qc), .val (.int 2), .val (.ref qb), .val (.int 2), .val (.int 4), .val (.int 2), .val (.int x2)] [])) := fun t k => P15 t (st16 _ k)
  have F18 : Arv Z h16 qc kc .char (4 : Int32) [(.int x0), (.int x1), (.int x2), (.int x3)] (.int 0) := F12.other W16 hne_qc_qb
  obtain ⟨cl19, Ar19, q19, Sz19, Nn19, Hh19, Gg19⟩ := id F18
  have hin19 : ¬ ((3 : Int32) < 0 ∨ cl19.slots.size ≤ ((3 : Int32)).toNatClampNeg) := inb_of Sz19 ⟨by decide, by decide⟩
  have hat19 : cl19.slots[((3 : Int32)).toNatClampNeg]? = some (.int x3) := Has.at Hh19 hin19 rfl
  have c20 : ¬ ((255 : Int32) < x3) := hx3
  have P21 : own_Go p e below S0 (T16.setTop (mkF m 31 #[.val (.ref qc), .val (.int 3), .val (.ref qb), .val (.int 3), .val (.int 4), .val (.int 3), .val (.int x3)] [(.int (x3.toInt8.toInt32)), (.int 3), (.ref qb)])) := fun t k => P16 t (by
    refine XS.iinc X16.here hx rfl (hb hby d18_32) rfl (l' := #[.val (.ref qc), .val (.int 3), .val (.ref qb), .val (.int 2), .val (.int 4), .val (.int 2), .val (.int x2)]) rfl ?_
    refine XS.iinc X16.here hx rfl (hb hby d18_35) rfl (l' := #[.val (.ref qc), .val (.int 3), .val (.ref qb), .val (.int 3), .val (.int 4), .val (.int 2), .val (.int x2)]) rfl ?_
    refine XS.iinc X16.here hx rfl (hb hby d18_38) rfl (l' := #[.val (.ref qc), .val (.int 3), .val (.ref qb), .val (.int 3), .val (.int 4), .val (.int 3), .val (.int x2)]) rfl ?_
    refine XS.goto X16.here hx rfl (pc0 := 41) (pc' := 3) rfl (hb hby d18_41) (by decide) (by decide) ?_
    refine XS.iload X16.here hx rfl (hb hby d18_3) rfl ?_
    refine XS.iload X16.here hx rfl (hb hby d18_5) rfl ?_
    show Steps p.tables e below (T16.setTop (mkF m 7 #[.val (.ref qc), .val (.int 3), .val (.ref qb), .val (.int 3), .val (.int 4), .val (.int 3), .val (.int x2)] [(.int 4), (.int 3)])) t
    refine XS.icmpNo X16.here hx rfl (hb hby d18_7) rfl (tlt (by decide)).2.1 ?_
    refine XS.aloadN X16.here hx rfl (hb hby d18_10) rfl rfl ?_
    refine XS.iloadN X16.here hx rfl (hb hby d18_11) rfl ?_
    show Steps p.tables e below (T16.setTop (mkF m 12 #[.val (.ref qc), .val (.int 3), .val (.ref qb), .val (.int 3), .val (.int 4), .val (.int 3), .val (.int x2)] [(.int 3), (.ref qc)])) t
    refine X16.caload hx (j := (3 : Int32)) (v := (.int x3)) (by rw [e16]; exact Ar19.1) (State.isArrayOf_alike hZ.alike Ar19.2.1) Ar19.2.2 hin19 hat19 (g := (mkF m 12 #[.val (.ref qc), .val (.int 3), .val (.ref qb), .val (.int 3), .val (.int 4), .val (.int 3), .val (.int x2)] [(.int 3), (.ref qc)])) rfl rfl (hb hby d18_12) _ ?_
    refine XS.istore X16.here hx rfl (hb hby d18_13) rfl (l' := #[.val (.ref qc), .val (.int 3), .val (.ref qb), .val (.int 3), .val (.int 4), .val (.int 3), .val (.int x3)]) rfl ?_
    refine XS.iload X16.here hx rfl (hb hby d18_15) rfl ?_
    show Steps p.tables e below (T16.setTop (mkF m 17 #[.val (.ref qc), .val (.int 3), .val (.ref qb), .val (.int 3), .val (.int 4), .val (.int 3), .val (.int x3)] [(.int x3)])) t
    refine XS.sipush X16.here hx rfl (hb hby d18_17) ?_
    refine XS.icmpYes X16.here hx rfl (pc0 := 20) (pc' := 26) rfl (hb hby d18_20) rfl (flt c20).2.2.2 (by decide) (by decide) ?_
    refine XS.aloadN X16.here hx rfl (hb hby d18_26) rfl rfl ?_
    refine XS.iloadN X16.here hx rfl (hb hby d18_27) rfl ?_
    refine XS.iload X16.here hx rfl (hb hby d18_28) rfl ?_
    refine XS.i2b X16.here hx rfl (hb hby d18_30) rfl ?_
    show Steps p.tables e below (T16.setTop (mkF m 31 #[.val (.ref qc), .val (.int 3), .val (.ref qb), .val (.int 3), .val (.int 4), .val (.int 3), .val (.int x3)] [(.int (x3.toInt8.toInt32)), (.int 3), (.ref qb)])) t
    exact k)
  obtain ⟨cl23, Ar23, q23, Sz23, Nn23, Hh23, Gg23⟩ := id V16
  have hin23 : ¬ ((3 : Int32) < 0 ∨ cl23.slots.size ≤ ((3 : Int32)).toNatClampNeg) := inb_of Sz23 ⟨by decide, by decide⟩
  obtain ⟨T22, h22, X22, e22, W22, st22⟩ := stB X16 hx hZ e16 Ar23 (j := (3 : Int32)) hin23 (g := (mkF m 31 #[.val (.ref qc), .val (.int 3), .val (.ref qb), .val (.int 3), .val (.int 4), .val (.int 3), .val (.int x3)] [(.int (x3.toInt8.toInt32)), (.int 3), (.ref qb)])) rfl rfl (hb hby d18_31)
  have K22 : Keep h0 h22 [qb] := K16.wr W22 (Or.inl (by simp))
  have N22 := Fr.snoc X22 N16 g_qb
  have V22 : Arv Z h22 qb kb .byte (4 : Int32) [(.int (nar .byte (x0.toInt8.toInt32))), (.int (nar .byte (x1.toInt8.toInt32))), (.int (nar .byte (x2.toInt8.toInt32))), (.int (nar .byte (x3.toInt8.toInt32)))] (.int 0) := Arv.set Ar23 q23 Sz23 Nn23 Hh23 Gg23 (fits_nar_byte _) W22 3 rfl (Nat.le_of_ble_eq_true rfl)
  have P22 : own_Go p e below S0 (T22.setTop (mkF m 32 #[.val (.ref qc), .val (.int 3), .val (.ref qb), .val (.int 3), .val (.int 4), .val (.int 3), .val (.int x3)] [])) := fun t k => P21 t (st22 _ k)
  have P24 : own_Go p e below S0 (T22.setTop (mkF m 46 #[.val (.ref qc), .val (.int 4), .val (.ref qb), .val (.int 4), .val (.int 4), .val (.int 4), .val (.int x3)] [(.int 4)])) := fun t k => P22 t (by
    refine XS.iinc X22.here hx rfl (hb hby d18_32) rfl (l' := #[.val (.ref qc), .val (.int 4), .val (.ref qb), .val (.int 3), .val (.int 4), .val (.int 3), .val (.int x3)]) rfl ?_
    refine XS.iinc X22.here hx rfl (hb hby d18_35) rfl (l' := #[.val (.ref qc), .val (.int 4), .val (.ref qb), .val (.int 4), .val (.int 4), .val (.int 3), .val (.int x3)]) rfl ?_
    refine XS.iinc X22.here hx rfl (hb hby d18_38) rfl (l' := #[.val (.ref qc), .val (.int 4), .val (.ref qb), .val (.int 4), .val (.int 4), .val (.int 4), .val (.int x3)]) rfl ?_
    refine XS.goto X22.here hx rfl (pc0 := 41) (pc' := 3) rfl (hb hby d18_41) (by decide) (by decide) ?_
    refine XS.iload X22.here hx rfl (hb hby d18_3) rfl ?_
    refine XS.iload X22.here hx rfl (hb hby d18_5) rfl ?_
    show Steps p.tables e below (T22.setTop (mkF m 7 #[.val (.ref qc), .val (.int 4), .val (.ref qb), .val (.int 4), .val (.int 4), .val (.int 4), .val (.int x3)] [(.int 4), (.int 4)])) t
    refine XS.icmpYes X22.here hx rfl (pc0 := 7) (pc' := 44) rfl (hb hby d18_7) rfl (flt (by decide)).2.1 (by decide) (by decide) ?_
    refine XS.iload X22.here hx rfl (hb hby d18_44) rfl ?_
    show Steps p.tables e below (T22.setTop (mkF m 46 #[.val (.ref qc), .val (.int 4), .val (.ref qb), .val (.int 4), .val (.int 4), .val (.int 4), .val (.int x3)] [(.int 4)])) t
    exact k)
  obtain ⟨fs, hr, hrun, hended, hW, hsame⟩ := X22.leave (v := some (.int 4)) (fun h => by rw [Bd.returns] at h; cases h) (BodyLoose.notSynchronized Bd)
  refine ⟨_, _, own_from hE0 (P24 _ ?_), hrun, hended, _, _, rfl, ?_, ⟨_, rfl⟩, hW, hsame.mono (by decide) (by decide)⟩
  · show Steps p.tables e below (T22.setTop (mkF m 46 #[.val (.ref qc), .val (.int 4), .val (.ref qb), .val (.int 4), .val (.int 4), .val (.int 4), .val (.int x3)] [(.int 4)])) _
    exact retI X22 hx Bd.returns (hb hby d18_46) hr
  · show Q18s4 Z qc qb kc kb x0 x1 x2 x3 h0 n0 _ T22.heap _
    rw [e22]
    exact ⟨rfl, N22, K22, V22⟩
theorem ef_17s4 (m : MethodId) (qc : Addr) : entryFrame m #[(.ref qc), (.int 0), (.int 4)] 6 = mkF m 0 #[.val (.ref qc), .val (.int 0), .val (.int 4), .unset, .unset, .unset] [] := by first | (simp [entryFrame, mkF, argsToLocals, Value.category]; done) | rfl
def Q17s4 (Z : State) (qc : Addr) (kc : ClassId) (x0 : Int32) (x1 : Int32) (x2 : Int32) (x3 : Int32) (h0 : Heap) (n0 : Nat) (v : Option Value) (h : Heap) (L : List Loc) : Prop := ∃ (b2 : Addr) (k2 : ClassId), v = some (.ref b2) ∧ Fr n0 L ∧ Keep h0 h [] ∧ h0.size ≤ b2 ∧ Arv Z h b2 k2 .byte (4 : Int32) [(.int (nar .byte (x0.toInt8.toInt32))), (.int (nar .byte (x1.toInt8.toInt32))), (.int (nar .byte (x2.toInt8.toInt32))), (.int (nar .byte (x3.toInt8.toInt32)))] (.int 0)
set_option maxRecDepth 65536 in
set_option maxHeartbeats 40000000 in
theorem rm17s4 (l : Launch) (Z : State) (a0 : Array Value) (hw : ∀ d ∈ tables_1, d.before a0 Z = true) (ws : List Jvm.Cond) (qc : Addr) (kc : ClassId) (x0 : Int32) (x1 : Int32) (x2 : Int32) (x3 : Int32) (h0 : Heap) (n0 : Nat) (Z0 : n0 ≤ h0.size) (A_qc : Arv Z h0 qc kc .char (4 : Int32) [(.int x0), (.int x1), (.int x2), (.int x3)] (.int 0)) (hx0 : ¬ ((255 : Int32) < x0)) (hx1 : ¬ ((255 : Int32) < x1)) (hx2 : ¬ ((255 : Int32) < x2)) (hx3 : ¬ ((255 : Int32) < x3)) :
    MetFree l (⟨"java/lang/StringUTF16", "compress", "([CII)[B"⟩ : MethodName) (head1 (Jvm.Cond.code (⟨"java/lang/StringUTF16", "compress", "([CII)[B"⟩ : MethodName) jdk_52_method_16_code 6 (some (.array .byte)) :: ws) ({ frames := 1, cells := 1, slots := 4, locals := 18 } : Room)) (fun a U => a = #[(.ref qc), (.int 0), (.int 4)] ∧ Z.Warmed39 U.vm ∧ U.heap = h0) (fun _ _ _ _ _ => True) (fun _ U o U' => ∃ v L, o = .returned v ∧ Q17s4 Z qc kc x0 x1 x2 x3 h0 n0 v U'.heap L ∧ FrameEnd U o U' L ({ frames := 1, cells := 1, slots := 4, locals := 18 } : Room).cells ({ frames := 1, cells := 1, slots := 4, locals := 18 } : Room).slots) := by
  refine MetFree.of_bodySF (plainFor_of_name pn_18) hisR ?_
  intro p e s m args below meth c s₁ Bd hml0 hP hK
  obtain ⟨rfl, hZ, hh⟩ := hP
  have hx := Bd.exec
  have hby := Bd.bytes
  have hml : c.maxLocals = 6 := hml0
  have hown : s.vm.findClass "java/lang/StringUTF16" = some m.cls := findClass_of_methodNamed Bd.named
  have hnm := (name_of_methodNamed Bd.named Bd.method).1
  have X0 : Stand p l e ({ frames := 1, cells := 1, slots := 4, locals := 18 } : Room) s m #[(.ref qc), (.int 0), (.int 4)] below meth c s₁ [] 0 0 := Stand.of_body Bd
  have e0 : s₁.heap = h0 := by rw [← hh, Bd.state]; rfl
  have N0 := Fr.nil n0
  obtain ⟨S0, hE0⟩ : ∃ z, z = s₁.setTop (entryFrame m #[(.ref qc), (.int 0), (.int 4)] 6) := ⟨_, rfl⟩
  have P0 : own_Go p e below S0 (s₁.setTop (mkF m 0 #[.val (.ref qc), .val (.int 0), .val (.int 4), .unset, .unset, .unset] [])) := fun t k => by rw [hE0]; exact castTop (ef_17s4 m qc) k
  have P1 : own_Go p e below S0 (s₁.setTop (mkF m 1 #[.val (.ref qc), .val (.int 0), .val (.int 4), .unset, .unset, .unset] [(.int 4)])) := fun t k => P0 t (by
    refine XS.iloadN X0.here hx rfl (hb hby d17_0) rfl ?_
    show Steps p.tables e below (s₁.setTop (mkF m 1 #[.val (.ref qc), .val (.int 0), .val (.int 4), .unset, .unset, .unset] [(.int 4)])) t
    exact k)
  obtain ⟨T2, h2, k2, X2, e2, E2, A2, st2⟩ := newP X0 hx hZ (own_w hw 19 rfl) e0 (g := (mkF m 1 #[.val (.ref qc), .val (.int 0), .val (.int 4), .unset, .unset, .unset] [(.int 4)])) rfl (hb hby d17_1) rfl (by decide) (cap := 4) (by decide) (by decide) (by decide) (by decide)
  obtain ⟨b2, g2⟩ : ∃ z, z = h0.size := ⟨_, rfl⟩
  rw [← g2] at A2 st2
  have sz_b2 : h0.size ≤ b2 := Nat.le_of_eq g2.symm
  have ne_qc_b2 : qc ≠ b2 := Nat.ne_of_lt (Nat.lt_of_lt_of_le A_qc.lt sz_b2)
  have g_b2 : n0 ≤ b2 := Nat.le_trans Z0 sz_b2
  have o_b2 : h0.size ≤ b2 := sz_b2
  have K2 : Keep h0 h2 [] := (Keep.refl h0 []).ext E2
  have V2 : Arv Z h2 b2 k2 .byte (4 : Int32) [(.int 0), (.int 0), (.int 0), (.int 0)] (.int 0) := (Arv.new A2 (by decide)).pad (pad_rep [] (.int 0) 4)
  have P2 : own_Go p e below S0 (T2.setTop (mkF m 3 #[.val (.ref qc), .val (.int 0), .val (.int 4), .unset, .unset, .unset] [(.ref b2)])) := fun t k => P1 t (st2 _ k)
  have F3 : Arv Z h2 qc kc .char (4 : Int32) [(.int x0), (.int x1), (.int x2), (.int x3)] (.int 0) := A_qc.ext E2
  have P4 : own_Go p e below S0 (T2.setTop (mkF m 9 #[.val (.ref qc), .val (.int 0), .val (.int 4), .val (.ref b2), .unset, .unset] [(.int 4), (.int 0), (.ref b2), (.int 0), (.ref qc)])) := fun t k => P2 t (by
    refine XS.astoreN X2.here hx rfl (hb hby d17_3) rfl rfl (l' := #[.val (.ref qc), .val (.int 0), .val (.int 4), .val (.ref b2), .unset, .unset]) rfl ?_
    refine XS.aloadN X2.here hx rfl (hb hby d17_4) rfl rfl ?_
    refine XS.iloadN X2.here hx rfl (hb hby d17_5) rfl ?_
    refine XS.aloadN X2.here hx rfl (hb hby d17_6) rfl rfl ?_
    refine XS.iconst X2.here hx rfl (hb hby d17_7) ?_
    refine XS.iloadN X2.here hx rfl (hb hby d17_8) rfl ?_
    show Steps p.tables e below (T2.setTop (mkF m 9 #[.val (.ref qc), .val (.int 0), .val (.int 4), .val (.ref b2), .unset, .unset] [(.int 4), (.int 0), (.ref b2), (.int 0), (.ref qc)])) t
    exact k)
  obtain ⟨_, _, ⟨T5, L5, k5, n5⟩, -, X5, ⟨Lc5, hQ5, l5, y5, z5⟩, st5⟩ := Jvm.LawKit.callS X2 hx (y := (⟨"java/lang/StringUTF16", "compress", "([CI[BII)I"⟩ : MethodName)) hown (mvT hZ (own_w hw 91 rfl)) (mvT hZ (own_w hw 92 rfl)) (mvT hZ (own_w hw 89 rfl)) (mvT hZ (own_w hw 93 rfl)) (by decide) (backOf (W := 0) (rm18s4 l Z a0 hw [] qc b2 kc k2 x0 x1 x2 x3 h2 n0 (Nat.le_trans Z0 K2.1) F3 V2 hx0 hx1 hx2 hx3 g_b2 ne_qc_b2) hZ (own_w hw 93 rfl) (own_w hw 89 rfl) (by decide) (by decide)) (g := (mkF m 9 #[.val (.ref qc), .val (.int 0), .val (.int 4), .val (.ref b2), .unset, .unset] [(.int 4), (.int 0), (.ref b2), (.int 0), (.ref qc)])) rfl (by rw [hml]; rfl) (argsL := [(.ref qc), (.int 0), (.ref b2), (.int 0), (.int 4)]) (rest := []) (lenOf pd_0 rfl) rfl (by show 2 * 0 + _ ≤ _; exact Nat.le_of_eq rfl) (hb hby d17_9) (fun _ _ => ⟨rfl, e2, (by decide : 1 + 0 ≤ _), (by decide : 4 + 0 ≤ _)⟩)
  dsimp only [Pt.U, Pt.locs, Pt.cells, Pt.slots] at X5 l5 y5 z5 st5 hQ5
  subst l5 y5 z5
  obtain ⟨rfl, N5q, Kc5, F5_0⟩ := hQ5
  have N5 := Fr.app N0 N5q
  have K5 : Keep h0 T5.heap [] := Keep.trans K2 Kc5 (allS (Or.inr o_b2) all0)
  have P5 : own_Go p e below S0 (T5.setTop (mkF m 12 #[.val (.ref qc), .val (.int 0), .val (.int 4), .val (.ref b2), .unset, .unset] [(.int 4)])) := fun t k => P4 t (st5 _ k)
  have P6 : own_Go p e below S0 (T5.setTop (mkF m 58 #[.val (.ref qc), .val (.int 0), .val (.int 4), .val (.ref b2), .val (.int 4), .unset] [(.ref b2)])) := fun t k => P5 t (by
    refine XS.istore X5.here hx rfl (hb hby d17_12) rfl (l' := #[.val (.ref qc), .val (.int 0), .val (.int 4), .val (.ref b2), .val (.int 4), .unset]) rfl ?_
    refine XS.iload X5.here hx rfl (hb hby d17_14) rfl ?_
    refine XS.iloadN X5.here hx rfl (hb hby d17_16) rfl ?_
    refine XS.icmpYes X5.here hx rfl (pc0 := 17) (pc' := 57) rfl (hb hby d17_17) rfl (teq (by decide)).1 (by decide) (by decide) ?_
    refine XS.aloadN X5.here hx rfl (hb hby d17_57) rfl rfl ?_
    show Steps p.tables e below (T5.setTop (mkF m 58 #[.val (.ref qc), .val (.int 0), .val (.int 4), .val (.ref b2), .val (.int 4), .unset] [(.ref b2)])) t
    exact k)
  obtain ⟨fs, hr, hrun, hended, hW, hsame⟩ := X5.leave (v := some (.ref b2)) (fun h => by rw [Bd.returns] at h; cases h) (BodyLoose.notSynchronized Bd)
  refine ⟨_, _, own_from hE0 (P6 _ ?_), hrun, hended, _, _, rfl, ?_, ⟨_, rfl⟩, hW, hsame.mono (by decide) (by decide)⟩
  · show Steps p.tables e below (T5.setTop (mkF m 58 #[.val (.ref qc), .val (.int 0), .val (.int 4), .val (.ref b2), .val (.int 4), .unset] [(.ref b2)])) _
    jvm_step X5.here [X5.here.top, hx, (hb hby d17_58), X5.method', Bd.returns, Value.isRef, FieldType.isReference]
    first | (intro acts; rw [hr _ acts rfl rfl rfl]) | rw [hr _ _ rfl rfl rfl]
    exact Steps.refl _
  · show Q17s4 Z qc kc x0 x1 x2 x3 h0 n0 _ T5.heap _
    exact ⟨b2, k2, rfl, N5, K5, o_b2, F5_0⟩
theorem ef_19s4 (m : MethodId) (qb : Addr) : entryFrame m #[(.ref qb), (.int 4)] 2 = mkF m 0 #[.val (.ref qb), .val (.int 4)] [] := by first | (simp [entryFrame, mkF, argsToLocals, Value.category]; done) | rfl
def Q19s4 (Z : State) (qb : Addr) (kb : ClassId) (y0 : Int32) (y1 : Int32) (y2 : Int32) (y3 : Int32) (h0 : Heap) (n0 : Nat) (v : Option Value) (h : Heap) (L : List Loc) : Prop := v = some (.int 0) ∧ Fr n0 L ∧ h = h0
set_option maxRecDepth 65536 in
set_option maxHeartbeats 40000000 in
theorem rm19s4 (l : Launch) (Z : State) (a0 : Array Value) (hw : ∀ d ∈ tables_1, d.before a0 Z = true) (ws : List Jvm.Cond) (qb : Addr) (kb : ClassId) (y0 : Int32) (y1 : Int32) (y2 : Int32) (y3 : Int32) (h0 : Heap) (n0 : Nat) (Z0 : n0 ≤ h0.size) (A_qb : Arv Z h0 qb kb .byte (4 : Int32) [(.int y0), (.int y1), (.int y2), (.int y3)] (.int 0)) :
    MetFree l (⟨"java/lang/StringUTF16", "coderFromArrayLen", "([BI)B"⟩ : MethodName) (head1 (Jvm.Cond.code (⟨"java/lang/StringUTF16", "coderFromArrayLen", "([BI)B"⟩ : MethodName) jdk_52_method_15_code 2 (some .byte) :: ws) ({ frames := 0, cells := 0, slots := 0, locals := 0 } : Room)) (fun a U => a = #[(.ref qb), (.int 4)] ∧ Z.Warmed39 U.vm ∧ U.heap = h0) (fun _ _ _ _ _ => True) (fun _ U o U' => ∃ v L, o = .returned v ∧ Q19s4 Z qb kb y0 y1 y2 y3 h0 n0 v U'.heap L ∧ FrameEnd U o U' L ({ frames := 0, cells := 0, slots := 0, locals := 0 } : Room).cells ({ frames := 0, cells := 0, slots := 0, locals := 0 } : Room).slots) := by
  refine MetFree.of_bodySF (plainFor_of_name pn_18) hisR ?_
  intro p e s m args below meth c s₁ Bd hml0 hP hK
  obtain ⟨rfl, hZ, hh⟩ := hP
  have hx := Bd.exec
  have hby := Bd.bytes
  have hml : c.maxLocals = 2 := hml0
  have hown : s.vm.findClass "java/lang/StringUTF16" = some m.cls := findClass_of_methodNamed Bd.named
  have hnm := (name_of_methodNamed Bd.named Bd.method).1
  have X0 : Stand p l e ({ frames := 0, cells := 0, slots := 0, locals := 0 } : Room) s m #[(.ref qb), (.int 4)] below meth c s₁ [] 0 0 := Stand.of_body Bd
  have e0 : s₁.heap = h0 := by rw [← hh, Bd.state]; rfl
  have N0 := Fr.nil n0
  obtain ⟨S0, hE0⟩ : ∃ z, z = s₁.setTop (entryFrame m #[(.ref qb), (.int 4)] 2) := ⟨_, rfl⟩
  have P0 : own_Go p e below S0 (s₁.setTop (mkF m 0 #[.val (.ref qb), .val (.int 4)] [])) := fun t k => by rw [hE0]; exact castTop (ef_19s4 m qb) k
  obtain ⟨cl1, Ar1, q1, Sz1, Nn1, Hh1, Gg1⟩ := id A_qb
  have P2 : own_Go p e below S0 (s₁.setTop (mkF m 8 #[.val (.ref qb), .val (.int 4)] [(.int 0)])) := fun t k => P0 t (by
    refine XS.iloadN X0.here hx rfl (hb hby d19_0) rfl ?_
    refine XS.aloadN X0.here hx rfl (hb hby d19_1) rfl rfl ?_
    show Steps p.tables e below (s₁.setTop (mkF m 2 #[.val (.ref qb), .val (.int 4)] [(.ref qb), (.int 4)])) t
    refine X0.arraylength hx (by rw [e0]; exact Ar1.1) (State.isArrayOf_alike hZ.alike Ar1.2.1) (g := (mkF m 2 #[.val (.ref qb), .val (.int 4)] [(.ref qb), (.int 4)])) rfl rfl (hb hby d19_2) _ ?_
    rw [len_of Sz1 Nn1]
    refine XS.isub X0.here hx rfl (hb hby d19_3) rfl ?_
    refine XS.bipush X0.here hx rfl (hb hby d19_4) ?_
    refine XS.iushr X0.here hx rfl (hb hby d19_6) rfl ?_
    show Steps p.tables e below (s₁.setTop (mkF m 7 #[.val (.ref qb), .val (.int 4)] [(.int 0)])) t
    refine XS.i2b X0.here hx rfl (hb hby d19_7) rfl ?_
    show Steps p.tables e below (s₁.setTop (mkF m 8 #[.val (.ref qb), .val (.int 4)] [(.int 0)])) t
    exact k)
  obtain ⟨fs, hr, hrun, hended, hW, hsame⟩ := X0.leave (v := some (.int 0)) (fun h => by rw [Bd.returns] at h; cases h) (BodyLoose.notSynchronized Bd)
  refine ⟨_, _, own_from hE0 (P2 _ ?_), hrun, hended, _, _, rfl, ?_, ⟨_, rfl⟩, hW, hsame.mono (by decide) (by decide)⟩
  · show Steps p.tables e below (s₁.setTop (mkF m 8 #[.val (.ref qb), .val (.int 4)] [(.int 0)])) _
    exact retN X0 hx (t := .byte) Bd.returns (by simp) (hb hby d19_8) hr
  · show Q19s4 Z qb kb y0 y1 y2 y3 h0 n0 _ s₁.heap _
    rw [e0]
    exact ⟨rfl, N0, rfl⟩
theorem ef_2s4 (m : MethodId) (q2s4_0 : Addr) (qc : Addr) : entryFrame m #[(.ref q2s4_0), (.ref qc), (.int 0), (.int 4), .null] 6 = mkF m 0 #[.val (.ref q2s4_0), .val (.ref qc), .val (.int 0), .val (.int 4), .val .null, .unset] [] := by first | (simp [entryFrame, mkF, argsToLocals, Value.category]; done) | rfl
def Q2s4 (Z : State) (q2s4_0 : Addr) (qc : Addr) (kc : ClassId) (zc : Int32) (x0 : Int32) (x1 : Int32) (x2 : Int32) (x3 : Int32) (u2s4_q2s4_0_coder : Value) (u2s4_q2s4_0_value : Value) (h0 : Heap) (n0 : Nat) (v : Option Value) (h : Heap) (L : List Loc) : Prop := ∃ (b2_7 : Addr) (k2_7 : ClassId), v = none ∧ Fr n0 L ∧ Keep h0 h [q2s4_0] ∧ h0.size ≤ b2_7 ∧ Arv Z h b2_7 k2_7 .byte (4 : Int32) [(.int (nar .byte (x0.toInt8.toInt32))), (.int (nar .byte (x1.toInt8.toInt32))), (.int (nar .byte (x2.toInt8.toInt32))), (.int (nar .byte (x3.toInt8.toInt32)))] (.int 0) ∧ Fld Z h q2s4_0 "java/lang/String" "coder" "B" (.int 0) ∧ Fld Z h q2s4_0 "java/lang/String" "value" "[B" (.ref b2_7)
set_option maxRecDepth 65536 in
set_option maxHeartbeats 40000000 in
theorem rm2s4 (l : Launch) (Z : State) (a0 : Array Value) (hw : ∀ d ∈ tables_1, d.before a0 Z = true) (ws : List Jvm.Cond) (q2s4_0 : Addr) (qc : Addr) (kc : ClassId) (zc : Int32) (x0 : Int32) (x1 : Int32) (x2 : Int32) (x3 : Int32) (u2s4_q2s4_0_coder : Value) (u2s4_q2s4_0_value : Value) (h0 : Heap) (n0 : Nat) (Z0 : n0 ≤ h0.size) (E_q2s4_0 : Exa Z h0 q2s4_0 "java/lang/String") (A_qc : Arv Z h0 qc kc .char (4 : Int32) [(.int x0), (.int x1), (.int x2), (.int x3)] (.int 0)) (S_COMPACT_STRINGS : Sta Z h0 "java/lang/String" "COMPACT_STRINGS" "Z" (.int zc)) (hcs : ¬ (zc = (0 : Int32))) (hx0 : ¬ ((255 : Int32) < x0)) (hx1 : ¬ ((255 : Int32) < x1)) (hx2 : ¬ ((255 : Int32) < x2)) (hx3 : ¬ ((255 : Int32) < x3)) (F_q2s4_0_coder : Fld Z h0 q2s4_0 "java/lang/String" "coder" "B" u2s4_q2s4_0_coder) (g_q2s4_0 : n0 ≤ q2s4_0) (F_q2s4_0_value : Fld Z h0 q2s4_0 "java/lang/String" "value" "[B" u2s4_q2s4_0_value) :
    MetFree l (⟨"java/lang/String", "<init>", "([CIILjava/lang/Void;)V"⟩ : MethodName) (head1 (Jvm.Cond.code (⟨"java/lang/String", "<init>", "([CIILjava/lang/Void;)V"⟩ : MethodName) jdk_42_method_149_code 6 none :: ws) ({ frames := 2, cells := 1, slots := 4, locals := 35 } : Room)) (fun a U => a = #[(.ref q2s4_0), (.ref qc), (.int 0), (.int 4), .null] ∧ Z.Warmed39 U.vm ∧ U.heap = h0) (fun _ _ _ _ _ => True) (fun _ U o U' => ∃ v L, o = .returned v ∧ Q2s4 Z q2s4_0 qc kc zc x0 x1 x2 x3 u2s4_q2s4_0_coder u2s4_q2s4_0_value h0 n0 v U'.heap L ∧ FrameEnd U o U' L ({ frames := 2, cells := 1, slots := 4, locals := 35 } : Room).cells ({ frames := 2, cells := 1, slots := 4, locals := 35 } : Room).slots) := by
  refine MetFree.of_bodySF (plainFor_of_name pn_2) hisR ?_
  intro p e s m args below meth c s₁ Bd hml0 hP hK
  obtain ⟨rfl, hZ, hh⟩ := hP
  have hx := Bd.exec
  have hby := Bd.bytes
  have hml : c.maxLocals = 6 := hml0
  have hown : s.vm.findClass "java/lang/String" = some m.cls := findClass_of_methodNamed Bd.named
  have hnm := (name_of_methodNamed Bd.named Bd.method).1
  have X0 : Stand p l e ({ frames := 2, cells := 1, slots := 4, locals := 35 } : Room) s m #[(.ref q2s4_0), (.ref qc), (.int 0), (.int 4), .null] below meth c s₁ [] 0 0 := Stand.of_body Bd
  have e0 : s₁.heap = h0 := by rw [← hh, Bd.state]; rfl
  have N0 := Fr.nil n0
  obtain ⟨S0, hE0⟩ : ∃ z, z = s₁.setTop (entryFrame m #[(.ref q2s4_0), (.ref qc), (.int 0), (.int 4), .null] 6) := ⟨_, rfl⟩
  have P0 : own_Go p e below S0 (s₁.setTop (mkF m 0 #[.val (.ref q2s4_0), .val (.ref qc), .val (.int 0), .val (.int 4), .val .null, .unset] [])) := fun t k => by rw [hE0]; exact castTop (ef_2s4 m q2s4_0 qc) k
  have P1 : own_Go p e below S0 (s₁.setTop (mkF m 1 #[.val (.ref q2s4_0), .val (.ref qc), .val (.int 0), .val (.int 4), .val .null, .unset] [(.ref q2s4_0)])) := fun t k => P0 t (by
    refine XS.aloadN X0.here hx rfl (hb hby d2_0) rfl rfl ?_
    show Steps p.tables e below (s₁.setTop (mkF m 1 #[.val (.ref q2s4_0), .val (.ref qc), .val (.int 0), .val (.int 4), .val .null, .unset] [(.ref q2s4_0)])) t
    exact k)
  obtain ⟨T2, X2, e2, st2⟩ := initO X0 hx hZ hown (own_w hw 15 rfl) (own_w hw 16 rfl) (own_w hw 17 rfl) e0 (g := (mkF m 1 #[.val (.ref q2s4_0), .val (.ref qc), .val (.int 0), .val (.int 4), .val .null, .unset] [(.ref q2s4_0)])) rfl (by rw [hml]; rfl) rfl (hb hby d2_1) (by decide) (W := 0) (by show 2 * 0 + _ ≤ _; exact Nat.le_of_eq rfl) (by decide)
  have P2 : own_Go p e below S0 (T2.setTop (mkF m 4 #[.val (.ref q2s4_0), .val (.ref qc), .val (.int 0), .val (.int 4), .val .null, .unset] [])) := fun t k => P1 t (st2 _ k)
  have P3 : own_Go p e below S0 (T2.setTop (mkF m 27 #[.val (.ref q2s4_0), .val (.ref qc), .val (.int 0), .val (.int 4), .val .null, .unset] [])) := fun t k => P2 t (by
    refine XS.iloadN X2.here hx rfl (hb hby d2_4) rfl ?_
    refine XS.ifYes X2.here hx rfl (pc0 := 5) (pc' := 27) rfl (hb hby d2_5) rfl ((if0 _ _).trans (feq (by decide)).2) (by decide) (by decide) ?_
    show Steps p.tables e below (T2.setTop (mkF m 27 #[.val (.ref q2s4_0), .val (.ref qc), .val (.int 0), .val (.int 4), .val .null, .unset] [])) t
    exact k)
  obtain ⟨T4, X4, e4, st4⟩ := getS2 X2 hx hZ hown (host := "") (Or.inl (own_w hw 58 rfl)) Via.refl e2 S_COMPACT_STRINGS (g := (mkF m 27 #[.val (.ref q2s4_0), .val (.ref qc), .val (.int 0), .val (.int 4), .val .null, .unset] [])) rfl (hb hby d2_27)
  have P4 : own_Go p e below S0 (T4.setTop (mkF m 30 #[.val (.ref q2s4_0), .val (.ref qc), .val (.int 0), .val (.int 4), .val .null, .unset] [(.int zc)])) := fun t k => P3 t (st4 _ k)
  have c5 : ¬ (zc = (0 : Int32)) := hcs
  have P6 : own_Go p e below S0 (T4.setTop (mkF m 36 #[.val (.ref q2s4_0), .val (.ref qc), .val (.int 0), .val (.int 4), .val .null, .unset] [(.int 4), (.int 0), (.ref qc)])) := fun t k => P4 t (by
    refine XS.ifNo X4.here hx rfl (hb hby d2_30) rfl ((if0 _ _).trans (feq c5).1) ?_
    refine XS.aloadN X4.here hx rfl (hb hby d2_33) rfl rfl ?_
    refine XS.iloadN X4.here hx rfl (hb hby d2_34) rfl ?_
    refine XS.iloadN X4.here hx rfl (hb hby d2_35) rfl ?_
    show Steps p.tables e below (T4.setTop (mkF m 36 #[.val (.ref q2s4_0), .val (.ref qc), .val (.int 0), .val (.int 4), .val .null, .unset] [(.int 4), (.int 0), (.ref qc)])) t
    exact k)
  obtain ⟨_, _, ⟨T7, L7, k7, n7⟩, -, X7, ⟨Lc7, hQ7, l7, y7, z7⟩, st7⟩ := Jvm.LawKit.callS X4 hx (y := (⟨"java/lang/StringUTF16", "compress", "([CII)[B"⟩ : MethodName)) hown (mvT hZ (own_w hw 87 rfl)) (mvT hZ (own_w hw 88 rfl)) (mvT hZ (own_w hw 89 rfl)) (mvT hZ (own_w hw 90 rfl)) (by decide) (backOf (W := 0) (rm17s4 l Z a0 hw [] qc kc x0 x1 x2 x3 h0 n0 Z0 A_qc hx0 hx1 hx2 hx3) hZ (own_w hw 90 rfl) (own_w hw 89 rfl) (by decide) (by decide)) (g := (mkF m 36 #[.val (.ref q2s4_0), .val (.ref qc), .val (.int 0), .val (.int 4), .val .null, .unset] [(.int 4), (.int 0), (.ref qc)])) rfl (by rw [hml]; rfl) (argsL := [(.ref qc), (.int 0), (.int 4)]) (rest := []) (lenOf pd_1 rfl) rfl (by show 2 * 0 + _ ≤ _; exact Nat.le_of_eq rfl) (hb hby d2_36) (fun _ _ => ⟨rfl, e4, (by decide : 0 + 1 ≤ _), (by decide : 0 + 4 ≤ _)⟩)
  dsimp only [Pt.U, Pt.locs, Pt.cells, Pt.slots] at X7 l7 y7 z7 st7 hQ7
  subst l7 y7 z7
  obtain ⟨b2_7, k2_7, rfl, N7q, Kc7, sz_b2_7, F7_0⟩ := hQ7
  have N7 := Fr.app N0 N7q
  have ne_q2s4_0_b2_7 : q2s4_0 ≠ b2_7 := Nat.ne_of_lt (Nat.lt_of_lt_of_le E_q2s4_0.lt sz_b2_7)
  have ne_qc_b2_7 : qc ≠ b2_7 := Nat.ne_of_lt (Nat.lt_of_lt_of_le A_qc.lt sz_b2_7)
  have g_b2_7 : n0 ≤ b2_7 := Nat.le_trans Z0 sz_b2_7
  have o_b2_7 : h0.size ≤ b2_7 := sz_b2_7
  have K7 : Keep h0 T7.heap [q2s4_0] := Keep.trans (Keep.refl h0 [q2s4_0]) Kc7 all0
  have P7 : own_Go p e below S0 (T7.setTop (mkF m 39 #[.val (.ref q2s4_0), .val (.ref qc), .val (.int 0), .val (.int 4), .val .null, .unset] [(.ref b2_7)])) := fun t k => P6 t (st7 _ k)
  have P8 : own_Go p e below S0 (T7.setTop (mkF m 45 #[.val (.ref q2s4_0), .val (.ref qc), .val (.int 0), .val (.int 4), .val .null, .val (.ref b2_7)] [(.int 4), (.ref b2_7), (.ref q2s4_0)])) := fun t k => P7 t (by
    refine XS.astore X7.here hx rfl (hb hby d2_39) rfl rfl (l' := #[.val (.ref q2s4_0), .val (.ref qc), .val (.int 0), .val (.int 4), .val .null, .val (.ref b2_7)]) rfl ?_
    refine XS.aloadN X7.here hx rfl (hb hby d2_41) rfl rfl ?_
    refine XS.aload X7.here hx rfl (hb hby d2_42) rfl rfl ?_
    refine XS.iloadN X7.here hx rfl (hb hby d2_44) rfl ?_
    show Steps p.tables e below (T7.setTop (mkF m 45 #[.val (.ref q2s4_0), .val (.ref qc), .val (.int 0), .val (.int 4), .val .null, .val (.ref b2_7)] [(.int 4), (.ref b2_7), (.ref q2s4_0)])) t
    exact k)
  obtain ⟨_, _, ⟨T9, L9, k9, n9⟩, -, X9, ⟨Lc9, hQ9, l9, y9, z9⟩, st9⟩ := Jvm.LawKit.callS X7 hx (y := (⟨"java/lang/StringUTF16", "coderFromArrayLen", "([BI)B"⟩ : MethodName)) hown (mvT hZ (own_w hw 94 rfl)) (mvT hZ (own_w hw 95 rfl)) (mvT hZ (own_w hw 89 rfl)) (mvT hZ (own_w hw 96 rfl)) (by decide) (backOf (W := 1) (rm19s4 l Z a0 hw [] b2_7 k2_7 (nar .byte (x0.toInt8.toInt32)) (nar .byte (x1.toInt8.toInt32)) (nar .byte (x2.toInt8.toInt32)) (nar .byte (x3.toInt8.toInt32)) T7.heap n0 (Nat.le_trans Z0 K7.1) F7_0) hZ (own_w hw 96 rfl) (own_w hw 89 rfl) (by decide) (by decide)) (g := (mkF m 45 #[.val (.ref q2s4_0), .val (.ref qc), .val (.int 0), .val (.int 4), .val .null, .val (.ref b2_7)] [(.int 4), (.ref b2_7), (.ref q2s4_0)])) rfl (by rw [hml]; rfl) (argsL := [(.ref b2_7), (.int 4)]) (rest := [(.ref q2s4_0)]) (lenOf pd_2 rfl) rfl (by show 2 * 0 + _ ≤ _; exact Nat.le_of_eq rfl) (hb hby d2_45) (fun _ _ => ⟨rfl, rfl, (by decide : 1 + 0 ≤ _), (by decide : 4 + 0 ≤ _)⟩)
  dsimp only [Pt.U, Pt.locs, Pt.cells, Pt.slots] at X9 l9 y9 z9 st9 hQ9
  subst l9 y9 z9
  obtain ⟨rfl, N9q, e9⟩ := hQ9
  have N9 := Fr.app N7 N9q
  have P9 : own_Go p e below S0 (T9.setTop (mkF m 48 #[.val (.ref q2s4_0), .val (.ref qc), .val (.int 0), .val (.int 4), .val .null, .val (.ref b2_7)] [(.int 0), (.ref q2s4_0)])) := fun t k => P8 t (st9 _ k)
  have F10 : Exa Z T7.heap q2s4_0 "java/lang/String" := E_q2s4_0.keep Kc7
  have F11 : Fld Z T7.heap q2s4_0 "java/lang/String" "coder" "B" u2s4_q2s4_0_coder := F_q2s4_0_coder.keep Kc7 nin0
  obtain ⟨T12, h12, X12, e12, W12, st12⟩ := putFN X9 hx hZ hown (own_w hw 25 rfl) Via.refl e9 F11 F10 (Or.inr ⟨(own_w hw 21 rfl), rfl, hnm⟩) (own_w hw 6 rfl) (ty := .byte) (v' := (.int 0)) (by decide) rfl (by decide) (g := (mkF m 48 #[.val (.ref q2s4_0), .val (.ref qc), .val (.int 0), .val (.int 4), .val .null, .val (.ref b2_7)] [(.int 0), (.ref q2s4_0)])) rfl rfl (hb hby d2_48)
  have K12 : Keep h0 h12 [q2s4_0] := K7.wr W12 (Or.inl (by simp))
  have N12 := Fr.snoc X12 N9 g_q2s4_0
  have F12w : Fld Z h12 q2s4_0 "java/lang/String" "coder" "B" (.int 0) := F11.same W12
  have P12 : own_Go p e below S0 (T12.setTop (mkF m 51 #[.val (.ref q2s4_0), .val (.ref qc), .val (.int 0), .val (.int 4), .val .null, .val (.ref b2_7)] [])) := fun t k => P9 t (st12 _ k)
  have F13 : Exa Z h12 q2s4_0 "java/lang/String" := F10.wr W12
  have F14 : Fld Z T7.heap q2s4_0 "java/lang/String" "value" "[B" u2s4_q2s4_0_value := F_q2s4_0_value.keep Kc7 nin0
  have F15 : Fld Z h12 q2s4_0 "java/lang/String" "value" "[B" u2s4_q2s4_0_value := F14.other W12 (Or.inr (slot_ne (Or.inr (own_w hw 20 rfl)) (Or.inr (own_w hw 21 rfl)) (by decide) (t := (.array .byte)) (t' := .byte) (by decide) (by decide)))
  have P16 : own_Go p e below S0 (T12.setTop (mkF m 54 #[.val (.ref q2s4_0), .val (.ref qc), .val (.int 0), .val (.int 4), .val .null, .val (.ref b2_7)] [(.ref b2_7), (.ref q2s4_0)])) := fun t k => P12 t (by
    refine XS.aloadN X12.here hx rfl (hb hby d2_51) rfl rfl ?_
    refine XS.aload X12.here hx rfl (hb hby d2_52) rfl rfl ?_
    show Steps p.tables e below (T12.setTop (mkF m 54 #[.val (.ref q2s4_0), .val (.ref qc), .val (.int 0), .val (.int 4), .val .null, .val (.ref b2_7)] [(.ref b2_7), (.ref q2s4_0)])) t
    exact k)
  obtain ⟨T17, h17, X17, e17, W17, st17⟩ := putF X12 hx hZ hown (host := "") (Or.inl (own_w hw 24 rfl)) Via.refl e12 F15 F13 (Or.inr ⟨(own_w hw 20 rfl), rfl, hnm⟩) (own_w hw 6 rfl) (ty := (.array .byte)) (by decide) rfl rfl (g := (mkF m 54 #[.val (.ref q2s4_0), .val (.ref qc), .val (.int 0), .val (.int 4), .val .null, .val (.ref b2_7)] [(.ref b2_7), (.ref q2s4_0)])) rfl rfl (hb hby d2_54)
  have K17 : Keep h0 h17 [q2s4_0] := K12.wr W17 (Or.inl (by simp))
  have N17 := Fr.snoc X17 N12 g_q2s4_0
  have F17w : Fld Z h17 q2s4_0 "java/lang/String" "value" "[B" (.ref b2_7) := F15.same W17
  have P17 : own_Go p e below S0 (T17.setTop (mkF m 57 #[.val (.ref q2s4_0), .val (.ref qc), .val (.int 0), .val (.int 4), .val .null, .val (.ref b2_7)] [])) := fun t k => P16 t (st17 _ k)
  have F18 : Arv Z h12 b2_7 k2_7 .byte (4 : Int32) [(.int (nar .byte (x0.toInt8.toInt32))), (.int (nar .byte (x1.toInt8.toInt32))), (.int (nar .byte (x2.toInt8.toInt32))), (.int (nar .byte (x3.toInt8.toInt32)))] (.int 0) := F7_0.other W12 (Ne.symm ne_q2s4_0_b2_7)
  have F19 : Arv Z h17 b2_7 k2_7 .byte (4 : Int32) [(.int (nar .byte (x0.toInt8.toInt32))), (.int (nar .byte (x1.toInt8.toInt32))), (.int (nar .byte (x2.toInt8.toInt32))), (.int (nar .byte (x3.toInt8.toInt32)))] (.int 0) := F18.other W17 (Ne.symm ne_q2s4_0_b2_7)
  have F20 : Fld Z h17 q2s4_0 "java/lang/String" "coder" "B" (.int 0) := F12w.other W17 (Or.inr (slot_ne (Or.inr (own_w hw 21 rfl)) (Or.inr (own_w hw 20 rfl)) (by decide) (t := .byte) (t' := (.array .byte)) (by decide) (by decide)))
  obtain ⟨fs, hr, hrun, hended, hW, hsame⟩ := X17.leave (v := none) (fun _ => rfl) (BodyLoose.notSynchronized Bd)
  refine ⟨_, _, own_from hE0 (P17 _ ?_), hrun, hended, _, _, rfl, ?_, ⟨_, rfl⟩, hW, hsame.mono (by decide) (by decide)⟩
  · show Steps p.tables e below (T17.setTop (mkF m 57 #[.val (.ref q2s4_0), .val (.ref qc), .val (.int 0), .val (.int 4), .val .null, .val (.ref b2_7)] [])) _
    exact X17.returnOut hx Bd.returns (hb hby d2_57) hr
  · show Q2s4 Z q2s4_0 qc kc zc x0 x1 x2 x3 u2s4_q2s4_0_coder u2s4_q2s4_0_value h0 n0 _ T17.heap _
    rw [e17]
    exact ⟨b2_7, k2_7, rfl, N17, K17, o_b2_7, F19, F20, F17w⟩
theorem ef_1s4 (m : MethodId) (q1s4_0 : Addr) (qc : Addr) : entryFrame m #[(.ref q1s4_0), (.ref qc)] 2 = mkF m 0 #[.val (.ref q1s4_0), .val (.ref qc)] [] := by first | (simp [entryFrame, mkF, argsToLocals, Value.category]; done) | rfl
def Q1s4 (Z : State) (q1s4_0 : Addr) (qc : Addr) (kc : ClassId) (zc : Int32) (x0 : Int32) (x1 : Int32) (x2 : Int32) (x3 : Int32) (u1s4_q1s4_0_coder : Value) (u1s4_q1s4_0_value : Value) (h0 : Heap) (n0 : Nat) (v : Option Value) (h : Heap) (L : List Loc) : Prop := ∃ (b2_7_3 : Addr) (k2_7_3 : ClassId), v = none ∧ Fr n0 L ∧ Keep h0 h [q1s4_0] ∧ h0.size ≤ b2_7_3 ∧ Arv Z h b2_7_3 k2_7_3 .byte (4 : Int32) [(.int (nar .byte (x0.toInt8.toInt32))), (.int (nar .byte (x1.toInt8.toInt32))), (.int (nar .byte (x2.toInt8.toInt32))), (.int (nar .byte (x3.toInt8.toInt32)))] (.int 0) ∧ Fld Z h q1s4_0 "java/lang/String" "coder" "B" (.int 0) ∧ Fld Z h q1s4_0 "java/lang/String" "value" "[B" (.ref b2_7_3)
set_option maxRecDepth 65536 in
set_option maxHeartbeats 40000000 in
theorem rm1s4 (l : Launch) (Z : State) (a0 : Array Value) (hw : ∀ d ∈ tables_1, d.before a0 Z = true) (ws : List Jvm.Cond) (q1s4_0 : Addr) (qc : Addr) (kc : ClassId) (zc : Int32) (x0 : Int32) (x1 : Int32) (x2 : Int32) (x3 : Int32) (u1s4_q1s4_0_coder : Value) (u1s4_q1s4_0_value : Value) (h0 : Heap) (n0 : Nat) (Z0 : n0 ≤ h0.size) (E_q1s4_0 : Exa Z h0 q1s4_0 "java/lang/String") (A_qc : Arv Z h0 qc kc .char (4 : Int32) [(.int x0), (.int x1), (.int x2), (.int x3)] (.int 0)) (S_COMPACT_STRINGS : Sta Z h0 "java/lang/String" "COMPACT_STRINGS" "Z" (.int zc)) (hcs : ¬ (zc = (0 : Int32))) (hx0 : ¬ ((255 : Int32) < x0)) (hx1 : ¬ ((255 : Int32) < x1)) (hx2 : ¬ ((255 : Int32) < x2)) (hx3 : ¬ ((255 : Int32) < x3)) (F_q1s4_0_coder : Fld Z h0 q1s4_0 "java/lang/String" "coder" "B" u1s4_q1s4_0_coder) (g_q1s4_0 : n0 ≤ q1s4_0) (F_q1s4_0_value : Fld Z h0 q1s4_0 "java/lang/String" "value" "[B" u1s4_q1s4_0_value) :
    MetFree l (⟨"java/lang/String", "<init>", "([C)V"⟩ : MethodName) (head1 (Jvm.Cond.code (⟨"java/lang/String", "<init>", "([C)V"⟩ : MethodName) jdk_42_method_3_code 2 none :: ws) ({ frames := 3, cells := 1, slots := 4, locals := 52 } : Room)) (fun a U => a = #[(.ref q1s4_0), (.ref qc)] ∧ Z.Warmed39 U.vm ∧ U.heap = h0) (fun _ _ _ _ _ => True) (fun _ U o U' => ∃ v L, o = .returned v ∧ Q1s4 Z q1s4_0 qc kc zc x0 x1 x2 x3 u1s4_q1s4_0_coder u1s4_q1s4_0_value h0 n0 v U'.heap L ∧ FrameEnd U o U' L ({ frames := 3, cells := 1, slots := 4, locals := 52 } : Room).cells ({ frames := 3, cells := 1, slots := 4, locals := 52 } : Room).slots) := by
  refine MetFree.of_bodySF (plainFor_of_name pn_2) hisR ?_
  intro p e s m args below meth c s₁ Bd hml0 hP hK
  obtain ⟨rfl, hZ, hh⟩ := hP
  have hx := Bd.exec
  have hby := Bd.bytes
  have hml : c.maxLocals = 2 := hml0
  have hown : s.vm.findClass "java/lang/String" = some m.cls := findClass_of_methodNamed Bd.named
  have hnm := (name_of_methodNamed Bd.named Bd.method).1
  have X0 : Stand p l e ({ frames := 3, cells := 1, slots := 4, locals := 52 } : Room) s m #[(.ref q1s4_0), (.ref qc)] below meth c s₁ [] 0 0 := Stand.of_body Bd
  have e0 : s₁.heap = h0 := by rw [← hh, Bd.state]; rfl
  have N0 := Fr.nil n0
  obtain ⟨S0, hE0⟩ : ∃ z, z = s₁.setTop (entryFrame m #[(.ref q1s4_0), (.ref qc)] 2) := ⟨_, rfl⟩
  have P0 : own_Go p e below S0 (s₁.setTop (mkF m 0 #[.val (.ref q1s4_0), .val (.ref qc)] [])) := fun t k => by rw [hE0]; exact castTop (ef_1s4 m q1s4_0 qc) k
  obtain ⟨cl1, Ar1, q1, Sz1, Nn1, Hh1, Gg1⟩ := id A_qc
  have P2 : own_Go p e below S0 (s₁.setTop (mkF m 6 #[.val (.ref q1s4_0), .val (.ref qc)] [.null, (.int 4), (.int 0), (.ref qc), (.ref q1s4_0)])) := fun t k => P0 t (by
    refine XS.aloadN X0.here hx rfl (hb hby d1_0) rfl rfl ?_
    refine XS.aloadN X0.here hx rfl (hb hby d1_1) rfl rfl ?_
    refine XS.iconst X0.here hx rfl (hb hby d1_2) ?_
    refine XS.aloadN X0.here hx rfl (hb hby d1_3) rfl rfl ?_
    show Steps p.tables e below (s₁.setTop (mkF m 4 #[.val (.ref q1s4_0), .val (.ref qc)] [(.ref qc), (.int 0), (.ref qc), (.ref q1s4_0)])) t
    refine X0.arraylength hx (by rw [e0]; exact Ar1.1) (State.isArrayOf_alike hZ.alike Ar1.2.1) (g := (mkF m 4 #[.val (.ref q1s4_0), .val (.ref qc)] [(.ref qc), (.int 0), (.ref qc), (.ref q1s4_0)])) rfl rfl (hb hby d1_4) _ ?_
    rw [len_of Sz1 Nn1]
    refine XS.aconstNull X0.here hx rfl (hb hby d1_5) ?_
    show Steps p.tables e below (s₁.setTop (mkF m 6 #[.val (.ref q1s4_0), .val (.ref qc)] [.null, (.int 4), (.int 0), (.ref qc), (.ref q1s4_0)])) t
    exact k)
  obtain ⟨_, _, ⟨T3, L3, k3, n3⟩, -, X3, ⟨Lc3, hQ3, l3, y3, z3⟩, st3⟩ := X0.specialBack hx (y := (⟨"java/lang/String", "<init>", "([CIILjava/lang/Void;)V"⟩ : MethodName)) rfl hown (mvT hZ (own_w hw 11 rfl)) (mvT hZ (own_w hw 12 rfl)) (mvT hZ (own_w hw 14 rfl)) (by decide) (backOf (W := 0) (rm2s4 l Z a0 hw [] q1s4_0 qc kc zc x0 x1 x2 x3 u1s4_q1s4_0_coder u1s4_q1s4_0_value h0 n0 Z0 E_q1s4_0 A_qc S_COMPACT_STRINGS hcs hx0 hx1 hx2 hx3 F_q1s4_0_coder g_q1s4_0 F_q1s4_0_value) hZ (own_w hw 14 rfl) (own_w hw 7 rfl) (by decide) (by decide)) (g := (mkF m 6 #[.val (.ref q1s4_0), .val (.ref qc)] [.null, (.int 4), (.int 0), (.ref qc), (.ref q1s4_0)])) rfl (by rw [hml]; rfl) (Steps.refl _) (a := q1s4_0) (argsL := [(.ref qc), (.int 0), (.int 4), .null]) (rest := []) (lenOf pd_3 rfl) rfl (by show 2 * 0 + _ ≤ _; exact Nat.le_of_eq rfl) (hb hby d1_6) (fun _ _ => ⟨rfl, e0, (by decide : 0 + 1 ≤ _), (by decide : 0 + 4 ≤ _)⟩)
  dsimp only [Pt.U, Pt.locs, Pt.cells, Pt.slots] at X3 l3 y3 z3 st3 hQ3
  subst l3 y3 z3
  obtain ⟨b2_7_3, k2_7_3, rfl, N3q, Kc3, sz_b2_7_3, F3_0, F3_1, F3_2⟩ := hQ3
  have N3 := Fr.app N0 N3q
  have ne_q1s4_0_b2_7_3 : q1s4_0 ≠ b2_7_3 := Nat.ne_of_lt (Nat.lt_of_lt_of_le E_q1s4_0.lt sz_b2_7_3)
  have ne_qc_b2_7_3 : qc ≠ b2_7_3 := Nat.ne_of_lt (Nat.lt_of_lt_of_le A_qc.lt sz_b2_7_3)
  have g_b2_7_3 : n0 ≤ b2_7_3 := Nat.le_trans Z0 sz_b2_7_3
  have o_b2_7_3 : h0.size ≤ b2_7_3 := sz_b2_7_3
  have K3 : Keep h0 T3.heap [q1s4_0] := Keep.trans (Keep.refl h0 [q1s4_0]) Kc3 (allS (Or.inl (by simp)) all0)
  have P3 : own_Go p e below S0 (T3.setTop (mkF m 9 #[.val (.ref q1s4_0), .val (.ref qc)] [])) := fun t k => P2 t (st3.trans k)
  obtain ⟨fs, hr, hrun, hended, hW, hsame⟩ := X3.leave (v := none) (fun _ => rfl) (BodyLoose.notSynchronized Bd)
  refine ⟨_, _, own_from hE0 (P3 _ ?_), hrun, hended, _, _, rfl, ?_, ⟨_, rfl⟩, hW, hsame.mono (by decide) (by decide)⟩
  · show Steps p.tables e below (T3.setTop (mkF m 9 #[.val (.ref q1s4_0), .val (.ref qc)] [])) _
    exact X3.returnOut hx Bd.returns (hb hby d1_9) hr
  · show Q1s4 Z q1s4_0 qc kc zc x0 x1 x2 x3 u1s4_q1s4_0_coder u1s4_q1s4_0_value h0 n0 _ T3.heap _
    exact ⟨b2_7_3, k2_7_3, rfl, N3, K3, o_b2_7_3, F3_0, F3_1, F3_2⟩
theorem d2_8 : decode jdk_42_method_149_code 8 = .ok (.aload_n 0, 1) := by decide +kernel
theorem d2_9 : decode jdk_42_method_149_code 9 = .ok (.ldc 7, 2) := by decide +kernel
theorem d2_11 : decode jdk_42_method_149_code 11 = .ok (.getfield 9, 3) := by decide +kernel
theorem d2_14 : decode jdk_42_method_149_code 14 = .ok (.putfield 9, 3) := by decide +kernel
theorem d2_17 : decode jdk_42_method_149_code 17 = .ok (.aload_n 0, 1) := by decide +kernel
theorem d2_18 : decode jdk_42_method_149_code 18 = .ok (.ldc 7, 2) := by decide +kernel
theorem d2_20 : decode jdk_42_method_149_code 20 = .ok (.getfield 15, 3) := by decide +kernel
theorem d2_23 : decode jdk_42_method_149_code 23 = .ok (.putfield 15, 3) := by decide +kernel
theorem d2_26 : decode jdk_42_method_149_code 26 = .ok (.return_, 1) := by decide +kernel
theorem ef_2z (m : MethodId) (q2z_0 : Addr) (qc : Addr) : entryFrame m #[(.ref q2z_0), (.ref qc), (.int 0), (.int 0), .null] 6 = mkF m 0 #[.val (.ref q2z_0), .val (.ref qc), .val (.int 0), .val (.int 0), .val .null, .unset] [] := by first | (simp [entryFrame, mkF, argsToLocals, Value.category]; done) | rfl
def Q2z (Z : State) (q2z_0 : Addr) (qc : Addr) (u2z_q2z_0_value : Value) (u2z_q2z_0_coder : Value) (h0 : Heap) (n0 : Nat) (v : Option Value) (h : Heap) (L : List Loc) : Prop := ∃ (bo : Addr) (ko : ClassId), v = none ∧ Fr n0 L ∧ Keep h0 h [q2z_0] ∧ Fld Z h q2z_0 "java/lang/String" "value" "[B" (.ref bo) ∧ Fld Z h q2z_0 "java/lang/String" "coder" "B" (.int 0) ∧ Arv Z h bo ko .byte (0 : Int32) [] (.int 0)
set_option maxRecDepth 65536 in
set_option maxHeartbeats 40000000 in
theorem rm2z (l : Launch) (Z : State) (a0 : Array Value) (hw : ∀ d ∈ tables_1, d.before a0 Z = true) (ws : List Jvm.Cond) (q2z_0 : Addr) (qc : Addr) (u2z_q2z_0_value : Value) (u2z_q2z_0_coder : Value) (h0 : Heap) (n0 : Nat) (Z0 : n0 ≤ h0.size) (E_q2z_0 : Exa Z h0 q2z_0 "java/lang/String") (F_q2z_0_value : Fld Z h0 q2z_0 "java/lang/String" "value" "[B" u2z_q2z_0_value) (g_q2z_0 : n0 ≤ q2z_0) (F_q2z_0_coder : Fld Z h0 q2z_0 "java/lang/String" "coder" "B" u2z_q2z_0_coder) :
    MetFree l (⟨"java/lang/String", "<init>", "([CIILjava/lang/Void;)V"⟩ : MethodName) (head1 (Jvm.Cond.code (⟨"java/lang/String", "<init>", "([CIILjava/lang/Void;)V"⟩ : MethodName) jdk_42_method_149_code 6 none :: ws) ({ frames := 1, cells := 2, slots := 4, locals := 12 } : Room)) (fun a U => a = #[(.ref q2z_0), (.ref qc), (.int 0), (.int 0), .null] ∧ Z.Warmed39 U.vm ∧ U.heap = h0 ∧ CHv Z own_EL U.vm h0 ∧ Safe Z own_EL U.vm h0 q2z_0) (fun _ _ _ _ _ => True) (fun _ U o U' => ∃ v L, o = .returned v ∧ Q2z Z q2z_0 qc u2z_q2z_0_value u2z_q2z_0_coder h0 n0 v U'.heap L ∧ ReturnedEndW U o U' L ({ frames := 1, cells := 2, slots := 4, locals := 12 } : Room).cells ({ frames := 1, cells := 2, slots := 4, locals := 12 } : Room).slots) := by
  refine MetFree.of_bodySF (plainFor_of_name pn_2) hisR ?_
  intro p e s m args below meth c s₁ Bd hml0 hP hK
  obtain ⟨rfl, hZ, hh, hC0, hSf0⟩ := hP
  have hx := Bd.exec
  have hby := Bd.bytes
  have hml : c.maxLocals = 6 := hml0
  have hown : s.vm.findClass "java/lang/String" = some m.cls := findClass_of_methodNamed Bd.named
  have hnm := (name_of_methodNamed Bd.named Bd.method).1
  have X0 : Stand p l e ({ frames := 1, cells := 2, slots := 4, locals := 12 } : Room) (s.setVm s.vm) m #[(.ref q2z_0), (.ref qc), (.int 0), (.int 0), .null] below meth c s₁ [] 0 0 := Stand.of_body Bd
  have e0 : s₁.heap = h0 := by rw [← hh, Bd.state]; rfl
  have N0 := Fr.nil n0
  have hS0 : s.Since s.vm h0.size := (State.WarmedH.refl s).since _
  obtain ⟨S0, hE0⟩ : ∃ z, z = s₁.setTop (entryFrame m #[(.ref q2z_0), (.ref qc), (.int 0), (.int 0), .null] 6) := ⟨_, rfl⟩
  have P0 : own_Go p e below S0 (s₁.setTop (mkF m 0 #[.val (.ref q2z_0), .val (.ref qc), .val (.int 0), .val (.int 0), .val .null, .unset] [])) := fun t k => by rw [hE0]; exact castTop (ef_2z m q2z_0 qc) k
  have P1 : own_Go p e below S0 (s₁.setTop (mkF m 1 #[.val (.ref q2z_0), .val (.ref qc), .val (.int 0), .val (.int 0), .val .null, .unset] [(.ref q2z_0)])) := fun t k => P0 t (by
    refine XS.aloadN X0.here hx rfl (hb hby d2_0) rfl rfl ?_
    show Steps p.tables e below (s₁.setTop (mkF m 1 #[.val (.ref q2z_0), .val (.ref qc), .val (.int 0), .val (.int 0), .val .null, .unset] [(.ref q2z_0)])) t
    exact k)
  obtain ⟨T2, X2, e2, st2⟩ := initO X0 hx hZ hown (own_w hw 15 rfl) (own_w hw 16 rfl) (own_w hw 17 rfl) e0 (g := (mkF m 1 #[.val (.ref q2z_0), .val (.ref qc), .val (.int 0), .val (.int 0), .val .null, .unset] [(.ref q2z_0)])) rfl (by rw [hml]; rfl) rfl (hb hby d2_1) (by decide) (W := 0) (by show 2 * 0 + _ ≤ _; exact Nat.le_of_eq rfl) (by decide)
  have P2 : own_Go p e below S0 (T2.setTop (mkF m 4 #[.val (.ref q2z_0), .val (.ref qc), .val (.int 0), .val (.int 0), .val .null, .unset] [])) := fun t k => P1 t (st2 _ k)
  have P3 : own_Go p e below S0 (T2.setTop (mkF m 9 #[.val (.ref q2z_0), .val (.ref qc), .val (.int 0), .val (.int 0), .val .null, .unset] [(.ref q2z_0)])) := fun t k => P2 t (by
    refine XS.iloadN X2.here hx rfl (hb hby d2_4) rfl ?_
    refine XS.ifNo X2.here hx rfl (hb hby d2_5) rfl ((if0 _ _).trans (teq (by decide)).2) ?_
    refine XS.aloadN X2.here hx rfl (hb hby d2_8) rfl rfl ?_
    show Steps p.tables e below (T2.setTop (mkF m 9 #[.val (.ref q2z_0), .val (.ref qc), .val (.int 0), .val (.int 0), .val .null, .unset] [(.ref q2z_0)])) t
    exact k)
  obtain ⟨a4, T4, h4, kk4, a4b, k4, X4, e4, E4, hS4, hk4q, hZ4, hown4, Ea4, Fc4, Fv4, Av4, -, -, hCr4, hL4, hne4, st4⟩ := ldcCH X2 hx hZ hown (own_w hw 18 rfl) (own_wS hw) e2 hS0 (Nat.le_refl _) (own_EW hw) (by decide) hC0 (vs := []) (z := (0 : Int32)) ⟨by decide, rfl⟩ (by decide) rfl (g := (mkF m 9 #[.val (.ref q2z_0), .val (.ref qc), .val (.int 0), .val (.int 0), .val .null, .unset] [(.ref q2z_0)])) rfl (hb hby d2_9) (n := 0) (by decide) (by decide) (by decide) (by decide)
  have hsf4 := hCr4.safe E_q2z_0.lt hSf0
  have K4 : Keep h0 h4 [q2z_0] := (Keep.refl h0 [q2z_0]).ext E4
  have P4 : own_Go p e below S0 (T4.setTop (mkF m 11 #[.val (.ref q2z_0), .val (.ref qc), .val (.int 0), .val (.int 0), .val .null, .unset] [(.ref a4), (.ref q2z_0)])) := fun t k => P3 t (st4 _ k)
  obtain ⟨T5, X5, e5, st5⟩ := getF X4 hx hZ4 hown4 (host := "") (Or.inl (own_w hw 24 rfl)) Via.refl e4 Fv4 (g := (mkF m 11 #[.val (.ref q2z_0), .val (.ref qc), .val (.int 0), .val (.int 0), .val .null, .unset] [(.ref a4), (.ref q2z_0)])) rfl rfl (hb hby d2_11)
  have P5 : own_Go p e below S0 (T5.setTop (mkF m 14 #[.val (.ref q2z_0), .val (.ref qc), .val (.int 0), .val (.int 0), .val .null, .unset] [(.ref a4b), (.ref q2z_0)])) := fun t k => P4 t (st5 _ k)
  have F6 : Exa Z h4 q2z_0 "java/lang/String" := E_q2z_0.ext E4
  have F7 : Fld Z h4 q2z_0 "java/lang/String" "value" "[B" u2z_q2z_0_value := F_q2z_0_value.ext E4
  obtain ⟨T8, h8, X8, e8, W8, st8⟩ := putF X5 hx hZ4 hown4 (host := "") (Or.inl (own_w hw 24 rfl)) Via.refl e5 F7 F6 (Or.inr ⟨(own_w hw 20 rfl), rfl, hnm⟩) (own_w hw 6 rfl) (ty := (.array .byte)) (by decide) rfl rfl (g := (mkF m 14 #[.val (.ref q2z_0), .val (.ref qc), .val (.int 0), .val (.int 0), .val .null, .unset] [(.ref a4b), (.ref q2z_0)])) rfl rfl (hb hby d2_14)
  have hk8 : kk4 ≤ h8.size := Nat.le_trans hk4q (Keep.of_wr W8).1
  have K8 : Keep h0 h8 [q2z_0] := K4.wr W8 (Or.inl (by simp))
  have N8 := Fr.snoc X8 N0 g_q2z_0
  have F8w : Fld Z h8 q2z_0 "java/lang/String" "value" "[B" (.ref a4b) := F7.same W8
  have P8 : own_Go p e below S0 (T8.setTop (mkF m 17 #[.val (.ref q2z_0), .val (.ref qc), .val (.int 0), .val (.int 0), .val .null, .unset] [])) := fun t k => P5 t (st8 _ k)
  have F9 : Fld Z h8 a4 "java/lang/String" "coder" "B" (.int 0) := Fc4.other W8 (Or.inl (Ne.symm (hne4 _ hsf4).1))
  have P10 : own_Go p e below S0 (T8.setTop (mkF m 20 #[.val (.ref q2z_0), .val (.ref qc), .val (.int 0), .val (.int 0), .val .null, .unset] [(.ref a4), (.ref q2z_0)])) := fun t k => P8 t (by
    refine XS.aloadN X8.here hx rfl (hb hby d2_17) rfl rfl ?_
    show Steps p.tables e below (T8.setTop (mkF m 18 #[.val (.ref q2z_0), .val (.ref qc), .val (.int 0), .val (.int 0), .val .null, .unset] [(.ref q2z_0)])) t
    refine ldcAgain X8 hx hZ4 hown4 (own_w hw 18 rfl) hL4 (g := (mkF m 18 #[.val (.ref q2z_0), .val (.ref qc), .val (.int 0), .val (.int 0), .val .null, .unset] [(.ref q2z_0)])) rfl (hb hby d2_18) _ ?_
    show Steps p.tables e below (T8.setTop (mkF m 20 #[.val (.ref q2z_0), .val (.ref qc), .val (.int 0), .val (.int 0), .val .null, .unset] [(.ref a4), (.ref q2z_0)])) t
    exact k)
  obtain ⟨T11, X11, e11, st11⟩ := getF X8 hx hZ4 hown4 (host := "") (Or.inl (own_w hw 25 rfl)) Via.refl e8 F9 (g := (mkF m 20 #[.val (.ref q2z_0), .val (.ref qc), .val (.int 0), .val (.int 0), .val .null, .unset] [(.ref a4), (.ref q2z_0)])) rfl rfl (hb hby d2_20)
  have P11 : own_Go p e below S0 (T11.setTop (mkF m 23 #[.val (.ref q2z_0), .val (.ref qc), .val (.int 0), .val (.int 0), .val .null, .unset] [(.int 0), (.ref q2z_0)])) := fun t k => P10 t (st11 _ k)
  have F12 : Exa Z h8 q2z_0 "java/lang/String" := F6.wr W8
  have F13 : Fld Z h4 q2z_0 "java/lang/String" "coder" "B" u2z_q2z_0_coder := F_q2z_0_coder.ext E4
  have F14 : Fld Z h8 q2z_0 "java/lang/String" "coder" "B" u2z_q2z_0_coder := F13.other W8 (Or.inr (slot_ne (Or.inr (own_w hw 21 rfl)) (Or.inr (own_w hw 20 rfl)) (by decide) (t := .byte) (t' := (.array .byte)) (by decide) (by decide)))
  obtain ⟨T15, h15, X15, e15, W15, st15⟩ := putFN X11 hx hZ4 hown4 (own_w hw 25 rfl) Via.refl e11 F14 F12 (Or.inr ⟨(own_w hw 21 rfl), rfl, hnm⟩) (own_w hw 6 rfl) (ty := .byte) (v' := (.int 0)) (by decide) rfl (by decide) (g := (mkF m 23 #[.val (.ref q2z_0), .val (.ref qc), .val (.int 0), .val (.int 0), .val .null, .unset] [(.int 0), (.ref q2z_0)])) rfl rfl (hb hby d2_23)
  have hk15 : kk4 ≤ h15.size := Nat.le_trans hk8 (Keep.of_wr W15).1
  have K15 : Keep h0 h15 [q2z_0] := K8.wr W15 (Or.inl (by simp))
  have N15 := Fr.snoc X15 N8 g_q2z_0
  have F15w : Fld Z h15 q2z_0 "java/lang/String" "coder" "B" (.int 0) := F14.same W15
  have P15 : own_Go p e below S0 (T15.setTop (mkF m 26 #[.val (.ref q2z_0), .val (.ref qc), .val (.int 0), .val (.int 0), .val .null, .unset] [])) := fun t k => P11 t (st15 _ k)
  have F16 : Arv Z h8 a4b k4 .byte (0 : Int32) [] (.int 0) := Av4.other W8 (Ne.symm (hne4 _ hsf4).2)
  have F17 : Arv Z h15 a4b k4 .byte (0 : Int32) [] (.int 0) := F16.other W15 (Ne.symm (hne4 _ hsf4).2)
  have F18 : Fld Z h15 q2z_0 "java/lang/String" "value" "[B" (.ref a4b) := F8w.other W15 (Or.inr (slot_ne (Or.inr (own_w hw 20 rfl)) (Or.inr (own_w hw 21 rfl)) (by decide) (t := (.array .byte)) (t' := .byte) (by decide) (by decide)))
  obtain ⟨fs, hr, hrun, hended, hend⟩ := X15.leaveW hS4 (by rw [e15]; exact hk15) (v := none) (fun _ => rfl) (BodyLoose.notSynchronized Bd)
  refine ⟨_, _, own_from hE0 (P15 _ ?_), hrun, hended, _, _, rfl, ?_, hend.1, hend.2.1, hend.2.2.1, hend.2.2.2.mono (by decide) (by decide)⟩
  · show Steps p.tables e below (T15.setTop (mkF m 26 #[.val (.ref q2z_0), .val (.ref qc), .val (.int 0), .val (.int 0), .val .null, .unset] [])) _
    exact X15.returnOut hx Bd.returns (hb hby d2_26) hr
  · show Q2z Z q2z_0 qc u2z_q2z_0_value u2z_q2z_0_coder h0 n0 _ T15.heap _
    rw [e15]
    exact ⟨a4b, k4, rfl, N15, K15, F18, F15w, F17⟩
theorem ef_1z (m : MethodId) (q1z_0 : Addr) (qc : Addr) : entryFrame m #[(.ref q1z_0), (.ref qc)] 2 = mkF m 0 #[.val (.ref q1z_0), .val (.ref qc)] [] := by first | (simp [entryFrame, mkF, argsToLocals, Value.category]; done) | rfl
def Q1z (Z : State) (q1z_0 : Addr) (qc : Addr) (kc : ClassId) (u1z_q1z_0_value : Value) (u1z_q1z_0_coder : Value) (h0 : Heap) (n0 : Nat) (v : Option Value) (h : Heap) (L : List Loc) : Prop := ∃ (bo : Addr) (ko : ClassId), v = none ∧ Fr n0 L ∧ Keep h0 h [q1z_0] ∧ Fld Z h q1z_0 "java/lang/String" "value" "[B" (.ref bo) ∧ Fld Z h q1z_0 "java/lang/String" "coder" "B" (.int 0) ∧ Arv Z h bo ko .byte (0 : Int32) [] (.int 0)
set_option maxRecDepth 65536 in
set_option maxHeartbeats 40000000 in
theorem rm1z (l : Launch) (Z : State) (a0 : Array Value) (hw : ∀ d ∈ tables_1, d.before a0 Z = true) (ws : List Jvm.Cond) (q1z_0 : Addr) (qc : Addr) (kc : ClassId) (u1z_q1z_0_value : Value) (u1z_q1z_0_coder : Value) (h0 : Heap) (n0 : Nat) (Z0 : n0 ≤ h0.size) (A_qc : Arv Z h0 qc kc .char (0 : Int32) [] (.int 0)) (E_q1z_0 : Exa Z h0 q1z_0 "java/lang/String") (F_q1z_0_value : Fld Z h0 q1z_0 "java/lang/String" "value" "[B" u1z_q1z_0_value) (g_q1z_0 : n0 ≤ q1z_0) (F_q1z_0_coder : Fld Z h0 q1z_0 "java/lang/String" "coder" "B" u1z_q1z_0_coder) :
    MetFree l (⟨"java/lang/String", "<init>", "([C)V"⟩ : MethodName) (head1 (Jvm.Cond.code (⟨"java/lang/String", "<init>", "([C)V"⟩ : MethodName) jdk_42_method_3_code 2 none :: ws) ({ frames := 2, cells := 2, slots := 4, locals := 29 } : Room)) (fun a U => a = #[(.ref q1z_0), (.ref qc)] ∧ Z.Warmed39 U.vm ∧ U.heap = h0 ∧ CHv Z own_EL U.vm h0 ∧ Safe Z own_EL U.vm h0 q1z_0) (fun _ _ _ _ _ => True) (fun _ U o U' => ∃ v L, o = .returned v ∧ Q1z Z q1z_0 qc kc u1z_q1z_0_value u1z_q1z_0_coder h0 n0 v U'.heap L ∧ ReturnedEndW U o U' L ({ frames := 2, cells := 2, slots := 4, locals := 29 } : Room).cells ({ frames := 2, cells := 2, slots := 4, locals := 29 } : Room).slots) := by
  refine MetFree.of_bodySF (plainFor_of_name pn_2) hisR ?_
  intro p e s m args below meth c s₁ Bd hml0 hP hK
  obtain ⟨rfl, hZ, hh, hC0, hSf0⟩ := hP
  have hx := Bd.exec
  have hby := Bd.bytes
  have hml : c.maxLocals = 2 := hml0
  have hown : s.vm.findClass "java/lang/String" = some m.cls := findClass_of_methodNamed Bd.named
  have hnm := (name_of_methodNamed Bd.named Bd.method).1
  have X0 : Stand p l e ({ frames := 2, cells := 2, slots := 4, locals := 29 } : Room) (s.setVm s.vm) m #[(.ref q1z_0), (.ref qc)] below meth c s₁ [] 0 0 := Stand.of_body Bd
  have e0 : s₁.heap = h0 := by rw [← hh, Bd.state]; rfl
  have N0 := Fr.nil n0
  have hS0 : s.Since s.vm h0.size := (State.WarmedH.refl s).since _
  obtain ⟨S0, hE0⟩ : ∃ z, z = s₁.setTop (entryFrame m #[(.ref q1z_0), (.ref qc)] 2) := ⟨_, rfl⟩
  have P0 : own_Go p e below S0 (s₁.setTop (mkF m 0 #[.val (.ref q1z_0), .val (.ref qc)] [])) := fun t k => by rw [hE0]; exact castTop (ef_1z m q1z_0 qc) k
  obtain ⟨cl1, Ar1, q1, Sz1, Nn1, Hh1, Gg1⟩ := id A_qc
  have P2 : own_Go p e below S0 (s₁.setTop (mkF m 6 #[.val (.ref q1z_0), .val (.ref qc)] [.null, (.int 0), (.int 0), (.ref qc), (.ref q1z_0)])) := fun t k => P0 t (by
    refine XS.aloadN X0.here hx rfl (hb hby d1_0) rfl rfl ?_
    refine XS.aloadN X0.here hx rfl (hb hby d1_1) rfl rfl ?_
    refine XS.iconst X0.here hx rfl (hb hby d1_2) ?_
    refine XS.aloadN X0.here hx rfl (hb hby d1_3) rfl rfl ?_
    show Steps p.tables e below (s₁.setTop (mkF m 4 #[.val (.ref q1z_0), .val (.ref qc)] [(.ref qc), (.int 0), (.ref qc), (.ref q1z_0)])) t
    refine X0.arraylength hx (by rw [e0]; exact Ar1.1) (State.isArrayOf_alike hZ.alike Ar1.2.1) (g := (mkF m 4 #[.val (.ref q1z_0), .val (.ref qc)] [(.ref qc), (.int 0), (.ref qc), (.ref q1z_0)])) rfl rfl (hb hby d1_4) _ ?_
    rw [len_of Sz1 Nn1]
    refine XS.aconstNull X0.here hx rfl (hb hby d1_5) ?_
    show Steps p.tables e below (s₁.setTop (mkF m 6 #[.val (.ref q1z_0), .val (.ref qc)] [.null, (.int 0), (.int 0), (.ref qc), (.ref q1z_0)])) t
    exact k)
  obtain ⟨_, _, ⟨T3, L3, k3, n3⟩, -, X3, hSq3, hgr3, ⟨Lc3, hQ3, l3, y3, z3⟩, st3⟩ := X0.specialBackS hx (y := (⟨"java/lang/String", "<init>", "([CIILjava/lang/Void;)V"⟩ : MethodName)) rfl hown (mvT hZ (own_w hw 11 rfl)) (mvT hZ (own_w hw 12 rfl)) (mvT hZ (own_w hw 14 rfl)) (by decide) (own_backOfSC (W := 0) (rm2z l Z a0 hw [] q1z_0 qc u1z_q1z_0_value u1z_q1z_0_coder h0 n0 Z0 E_q1z_0 F_q1z_0_value g_q1z_0 F_q1z_0_coder) hZ (own_w hw 14 rfl) (own_w hw 7 rfl) (by decide) (by decide) (own_EW hw) hC0 E_q1z_0.lt hSf0) (g := (mkF m 6 #[.val (.ref q1z_0), .val (.ref qc)] [.null, (.int 0), (.int 0), (.ref qc), (.ref q1z_0)])) rfl (by rw [hml]; rfl) (Steps.refl _) (a := q1z_0) (argsL := [(.ref qc), (.int 0), (.int 0), .null]) (rest := []) (lenOf pd_3 rfl) rfl (by show 2 * 0 + _ ≤ _; exact Nat.le_of_eq rfl) (hb hby d1_6) (fun _ _ => ⟨rfl, e0, (by decide : 0 + 2 ≤ _), (by decide : 0 + 4 ≤ _)⟩)
  dsimp only [Pt.U, Pt.locs, Pt.cells, Pt.slots] at X3 l3 y3 z3 st3 hQ3 hSq3 hgr3
  subst l3 y3 z3
  obtain ⟨hS3, hZ3, hown3⟩ := own_fold hS0 hSq3 (Nat.le_trans (Nat.le_refl _) (by rw [← e0]; exact hgr3)) hZ hown
  replace X3 := own_flat X3
  obtain ⟨bo_3, ko_3, rfl, N3q, Kc3, F3_0, F3_1, F3_2⟩ := hQ3
  have N3 := Fr.app N0 N3q
  have K3 : Keep h0 T3.heap [q1z_0] := Keep.trans (Keep.refl h0 [q1z_0]) Kc3 (allS (Or.inl (by simp)) all0)
  have P3 : own_Go p e below S0 (T3.setTop (mkF m 9 #[.val (.ref q1z_0), .val (.ref qc)] [])) := fun t k => P2 t (st3.trans k)
  obtain ⟨fs, hr, hrun, hended, hend⟩ := X3.leaveW hS3 (Nat.le_refl _) (v := none) (fun _ => rfl) (BodyLoose.notSynchronized Bd)
  refine ⟨_, _, own_from hE0 (P3 _ ?_), hrun, hended, _, _, rfl, ?_, hend.1, hend.2.1, hend.2.2.1, hend.2.2.2.mono (by decide) (by decide)⟩
  · show Steps p.tables e below (T3.setTop (mkF m 9 #[.val (.ref q1z_0), .val (.ref qc)] [])) _
    exact X3.returnOut hx Bd.returns (hb hby d1_9) hr
  · show Q1z Z q1z_0 qc kc u1z_q1z_0_value u1z_q1z_0_coder h0 n0 _ T3.heap _
    exact ⟨bo_3, ko_3, rfl, N3, K3, F3_0, F3_1, F3_2⟩
theorem pn_5 : plainName "java/util/Objects" = true := by first | (simp [plainName, overriddenIn]; done) | decide +kernel
theorem d5_0 : decode jdk_31_method_11_code 0 = .ok (.aload_n 0, 1) := by decide +kernel
theorem d5_1 : decode jdk_31_method_11_code 1 = .ok (.ifnonnull 12, 3) := by decide +kernel
theorem d5_13 : decode jdk_31_method_11_code 13 = .ok (.aload_n 0, 1) := by decide +kernel
theorem d5_14 : decode jdk_31_method_11_code 14 = .ok (.areturn, 1) := by decide +kernel
theorem ef_5 (m : MethodId) (q5_0 : Addr) (q5_1 : Addr) : entryFrame m #[(.ref q5_0), (.ref q5_1)] 2 = mkF m 0 #[.val (.ref q5_0), .val (.ref q5_1)] [] := by first | (simp [entryFrame, mkF, argsToLocals, Value.category]; done) | rfl
def Q5 (Z : State) (q5_0 : Addr) (q5_1 : Addr) (h0 : Heap) (n0 : Nat) (v : Option Value) (h : Heap) (L : List Loc) : Prop := v = some (.ref q5_0) ∧ Fr n0 L ∧ h = h0
set_option maxRecDepth 65536 in
set_option maxHeartbeats 40000000 in
theorem rm5 (l : Launch) (Z : State) (a0 : Array Value) (hw : ∀ d ∈ tables_1, d.before a0 Z = true) (ws : List Jvm.Cond) (q5_0 : Addr) (q5_1 : Addr) (h0 : Heap) (n0 : Nat) (Z0 : n0 ≤ h0.size) :
    MetFree l (⟨"java/util/Objects", "requireNonNull", "(Ljava/lang/Object;Ljava/lang/String;)Ljava/lang/Object;"⟩ : MethodName) (head1 (Jvm.Cond.code (⟨"java/util/Objects", "requireNonNull", "(Ljava/lang/Object;Ljava/lang/String;)Ljava/lang/Object;"⟩ : MethodName) jdk_31_method_11_code 2 (some (.object "java/lang/Object")) :: ws) ({ frames := 0, cells := 0, slots := 0, locals := 0 } : Room)) (fun a U => a = #[(.ref q5_0), (.ref q5_1)] ∧ Z.Warmed39 U.vm ∧ U.heap = h0) (fun _ _ _ _ _ => True) (fun _ U o U' => ∃ v L, o = .returned v ∧ Q5 Z q5_0 q5_1 h0 n0 v U'.heap L ∧ FrameEnd U o U' L ({ frames := 0, cells := 0, slots := 0, locals := 0 } : Room).cells ({ frames := 0, cells := 0, slots := 0, locals := 0 } : Room).slots) := by
  refine MetFree.of_bodySF (plainFor_of_name pn_5) hisR ?_
  intro p e s m args below meth c s₁ Bd hml0 hP hK
  obtain ⟨rfl, hZ, hh⟩ := hP
  have hx := Bd.exec
  have hby := Bd.bytes
  have hml : c.maxLocals = 2 := hml0
  have hown : s.vm.findClass "java/util/Objects" = some m.cls := findClass_of_methodNamed Bd.named
  have hnm := (name_of_methodNamed Bd.named Bd.method).1
  have X0 : Stand p l e ({ frames := 0, cells := 0, slots := 0, locals := 0 } : Room) s m #[(.ref q5_0), (.ref q5_1)] below meth c s₁ [] 0 0 := Stand.of_body Bd
  have e0 : s₁.heap = h0 := by rw [← hh, Bd.state]; rfl
  have N0 := Fr.nil n0
  obtain ⟨S0, hE0⟩ : ∃ z, z = s₁.setTop (entryFrame m #[(.ref q5_0), (.ref q5_1)] 2) := ⟨_, rfl⟩
  have P0 : own_Go p e below S0 (s₁.setTop (mkF m 0 #[.val (.ref q5_0), .val (.ref q5_1)] [])) := fun t k => by rw [hE0]; exact castTop (ef_5 m q5_0 q5_1) k
  have P1 : own_Go p e below S0 (s₁.setTop (mkF m 14 #[.val (.ref q5_0), .val (.ref q5_1)] [(.ref q5_0)])) := fun t k => P0 t (by
    refine XS.aloadN X0.here hx rfl (hb hby d5_0) rfl rfl ?_
    refine XS.ifnonnullYes X0.here hx rfl (pc0 := 1) (pc' := 13) rfl (hb hby d5_1) rfl (by decide) (by decide) ?_
    refine XS.aloadN X0.here hx rfl (hb hby d5_13) rfl rfl ?_
    show Steps p.tables e below (s₁.setTop (mkF m 14 #[.val (.ref q5_0), .val (.ref q5_1)] [(.ref q5_0)])) t
    exact k)
  obtain ⟨fs, hr, hrun, hended, hW, hsame⟩ := X0.leave (v := some (.ref q5_0)) (fun h => by rw [Bd.returns] at h; cases h) (BodyLoose.notSynchronized Bd)
  refine ⟨_, _, own_from hE0 (P1 _ ?_), hrun, hended, _, _, rfl, ?_, ⟨_, rfl⟩, hW, hsame.mono (by decide) (by decide)⟩
  · show Steps p.tables e below (s₁.setTop (mkF m 14 #[.val (.ref q5_0), .val (.ref q5_1)] [(.ref q5_0)])) _
    jvm_step X0.here [X0.here.top, hx, (hb hby d5_14), X0.method', Bd.returns, Value.isRef, FieldType.isReference]
    first | (intro acts; rw [hr _ acts rfl rfl rfl]) | rw [hr _ _ rfl rfl rfl]
    exact Steps.refl _
  · show Q5 Z q5_0 q5_1 h0 n0 _ s₁.heap _
    rw [e0]
    exact ⟨rfl, N0, rfl⟩
theorem pd_4 : parseMethodDescriptor "(Ljava/lang/Object;Ljava/lang/String;)Ljava/lang/Object;" = some ⟨[(.object "java/lang/Object"), (.object "java/lang/String")], some (.object "java/lang/Object")⟩ := by decide +kernel
theorem pn_4 : plainName "com/example/strict_acl/strictacl/NamePattern" = true := by first | (simp [plainName, overriddenIn]; done) | decide +kernel
theorem d4_0 : decode prog_25_method_1_code 0 = .ok (.aload_n 0, 1) := by decide +kernel
theorem d4_1 : decode prog_25_method_1_code 1 = .ok (.invokespecial 1, 3) := by decide +kernel
theorem d4_4 : decode prog_25_method_1_code 4 = .ok (.aload_n 0, 1) := by decide +kernel
theorem d4_5 : decode prog_25_method_1_code 5 = .ok (.aload_n 1, 1) := by decide +kernel
theorem d4_6 : decode prog_25_method_1_code 6 = .ok (.ldc 7, 2) := by decide +kernel
theorem d4_8 : decode prog_25_method_1_code 8 = .ok (.invokestatic 9, 3) := by decide +kernel
theorem d4_11 : decode prog_25_method_1_code 11 = .ok (.checkcast 15, 3) := by decide +kernel
theorem d4_14 : decode prog_25_method_1_code 14 = .ok (.putfield 17, 3) := by decide +kernel
theorem d4_17 : decode prog_25_method_1_code 17 = .ok (.return_, 1) := by decide +kernel
theorem ef_4 (m : MethodId) (q4_0 : Addr) (qs : Addr) : entryFrame m #[(.ref q4_0), (.ref qs)] 2 = mkF m 0 #[.val (.ref q4_0), .val (.ref qs)] [] := by first | (simp [entryFrame, mkF, argsToLocals, Value.category]; done) | rfl
def Q4 (Z : State) (q4_0 : Addr) (qs : Addr) (u4_q4_0_pattern : Value) (h0 : Heap) (n0 : Nat) (v : Option Value) (h : Heap) (L : List Loc) : Prop := v = none ∧ Fr n0 L ∧ Keep h0 h [q4_0] ∧ Fld Z h q4_0 "com/example/strict_acl/strictacl/NamePattern" "pattern" "Ljava/lang/String;" (.ref qs)
set_option maxRecDepth 65536 in
set_option maxHeartbeats 40000000 in
theorem rm4 (l : Launch) (Z : State) (a0 : Array Value) (hw : ∀ d ∈ tables_1, d.before a0 Z = true) (ws : List Jvm.Cond) (q4_0 : Addr) (qs : Addr) (u4_q4_0_pattern : Value) (h0 : Heap) (n0 : Nat) (Z0 : n0 ≤ h0.size) (E_qs : Exa Z h0 qs "java/lang/String") (E_q4_0 : Exa Z h0 q4_0 "com/example/strict_acl/strictacl/NamePattern") (F_q4_0_pattern : Fld Z h0 q4_0 "com/example/strict_acl/strictacl/NamePattern" "pattern" "Ljava/lang/String;" u4_q4_0_pattern) (g_q4_0 : n0 ≤ q4_0) :
    MetFree l (⟨"com/example/strict_acl/strictacl/NamePattern", "<init>", "(Ljava/lang/String;)V"⟩ : MethodName) (head1 (Jvm.Cond.code (⟨"com/example/strict_acl/strictacl/NamePattern", "<init>", "(Ljava/lang/String;)V"⟩ : MethodName) prog_25_method_1_code 2 none :: ws) ({ frames := 1, cells := 2, slots := 32, locals := 14 } : Room)) (fun a U => a = #[(.ref q4_0), (.ref qs)] ∧ Z.Warmed39 U.vm ∧ U.heap = h0) (fun _ _ _ _ _ => True) (fun _ U o U' => ∃ v L, o = .returned v ∧ Q4 Z q4_0 qs u4_q4_0_pattern h0 n0 v U'.heap L ∧ ReturnedEndW U o U' L ({ frames := 1, cells := 2, slots := 32, locals := 14 } : Room).cells ({ frames := 1, cells := 2, slots := 32, locals := 14 } : Room).slots) := by
  refine MetFree.of_bodySF (plainFor_of_name pn_4) hisR ?_
  intro p e s m args below meth c s₁ Bd hml0 hP hK
  obtain ⟨rfl, hZ, hh⟩ := hP
  have hx := Bd.exec
  have hby := Bd.bytes
  have hml : c.maxLocals = 2 := hml0
  have hown : s.vm.findClass "com/example/strict_acl/strictacl/NamePattern" = some m.cls := findClass_of_methodNamed Bd.named
  have hnm := (name_of_methodNamed Bd.named Bd.method).1
  have X0 : Stand p l e ({ frames := 1, cells := 2, slots := 32, locals := 14 } : Room) (s.setVm s.vm) m #[(.ref q4_0), (.ref qs)] below meth c s₁ [] 0 0 := Stand.of_body Bd
  have e0 : s₁.heap = h0 := by rw [← hh, Bd.state]; rfl
  have N0 := Fr.nil n0
  have hS0 : s.Since s.vm h0.size := (State.WarmedH.refl s).since _
  obtain ⟨S0, hE0⟩ : ∃ z, z = s₁.setTop (entryFrame m #[(.ref q4_0), (.ref qs)] 2) := ⟨_, rfl⟩
  have P0 : own_Go p e below S0 (s₁.setTop (mkF m 0 #[.val (.ref q4_0), .val (.ref qs)] [])) := fun t k => by rw [hE0]; exact castTop (ef_4 m q4_0 qs) k
  have P1 : own_Go p e below S0 (s₁.setTop (mkF m 1 #[.val (.ref q4_0), .val (.ref qs)] [(.ref q4_0)])) := fun t k => P0 t (by
    refine XS.aloadN X0.here hx rfl (hb hby d4_0) rfl rfl ?_
    show Steps p.tables e below (s₁.setTop (mkF m 1 #[.val (.ref q4_0), .val (.ref qs)] [(.ref q4_0)])) t
    exact k)
  obtain ⟨T2, X2, e2, st2⟩ := initO X0 hx hZ hown (own_w hw 29 rfl) (own_w hw 16 rfl) (own_w hw 17 rfl) e0 (g := (mkF m 1 #[.val (.ref q4_0), .val (.ref qs)] [(.ref q4_0)])) rfl (by rw [hml]; rfl) rfl (hb hby d4_1) (by decide) (W := 0) (by show 2 * 0 + _ ≤ _; exact Nat.le_of_eq rfl) (by decide)
  have P2 : own_Go p e below S0 (T2.setTop (mkF m 4 #[.val (.ref q4_0), .val (.ref qs)] [])) := fun t k => P1 t (st2 _ k)
  have P3 : own_Go p e below S0 (T2.setTop (mkF m 6 #[.val (.ref q4_0), .val (.ref qs)] [(.ref qs), (.ref q4_0)])) := fun t k => P2 t (by
    refine XS.aloadN X2.here hx rfl (hb hby d4_4) rfl rfl ?_
    refine XS.aloadN X2.here hx rfl (hb hby d4_5) rfl rfl ?_
    show Steps p.tables e below (T2.setTop (mkF m 6 #[.val (.ref q4_0), .val (.ref qs)] [(.ref qs), (.ref q4_0)])) t
    exact k)
  obtain ⟨a4, T4, h4, kk4, X4, e4, E4, hS4, hk4q, hZ4, hown4, st4⟩ := ldcS X2 hx hZ hown (own_w hw 30 rfl) (own_wS hw) e2 hS0 (Nat.le_refl _) (g := (mkF m 6 #[.val (.ref q4_0), .val (.ref qs)] [(.ref qs), (.ref q4_0)])) rfl (hb hby d4_6) (n := 28) (by decide) (by decide) (by decide) (by decide)
  have K4 : Keep h0 h4 [q4_0] := (Keep.refl h0 [q4_0]).ext E4
  have P4 : own_Go p e below S0 (T4.setTop (mkF m 8 #[.val (.ref q4_0), .val (.ref qs)] [(.ref a4), (.ref qs), (.ref q4_0)])) := fun t k => P3 t (st4 _ k)
  obtain ⟨_, _, ⟨T5, L5, k5, n5⟩, -, X5, ⟨Lc5, hQ5, l5, y5, z5⟩, st5⟩ := Jvm.LawKit.callS X4 hx (y := (⟨"java/util/Objects", "requireNonNull", "(Ljava/lang/Object;Ljava/lang/String;)Ljava/lang/Object;"⟩ : MethodName)) hown4 (mvT hZ4 (own_w hw 31 rfl)) (mvT hZ4 (own_w hw 32 rfl)) (mvT hZ4 (own_w hw 33 rfl)) (mvT hZ4 (own_w hw 34 rfl)) (by decide) (backOf (W := 1) (rm5 l Z a0 hw [] qs a4 h4 n0 (Nat.le_trans Z0 K4.1)) hZ4 (own_w hw 34 rfl) (own_w hw 33 rfl) (by decide) (by decide)) (g := (mkF m 8 #[.val (.ref q4_0), .val (.ref qs)] [(.ref a4), (.ref qs), (.ref q4_0)])) rfl (by rw [hml]; rfl) (argsL := [(.ref qs), (.ref a4)]) (rest := [(.ref q4_0)]) (lenOf pd_4 rfl) rfl (by show 2 * 0 + _ ≤ _; exact Nat.le_of_eq rfl) (hb hby d4_8) (fun _ _ => ⟨rfl, e4, (by decide : 2 + 0 ≤ _), (by decide : 32 + 0 ≤ _)⟩)
  dsimp only [Pt.U, Pt.locs, Pt.cells, Pt.slots] at X5 l5 y5 z5 st5 hQ5
  subst l5 y5 z5
  obtain ⟨rfl, N5q, e5⟩ := hQ5
  have N5 := Fr.app N0 N5q
  have P5 : own_Go p e below S0 (T5.setTop (mkF m 11 #[.val (.ref q4_0), .val (.ref qs)] [(.ref qs), (.ref q4_0)])) := fun t k => P4 t (st5 _ k)
  have F6 : Exa Z h4 qs "java/lang/String" := E_qs.ext E4
  obtain ⟨T7, X7, e7, st7⟩ := castY X5 hx hZ4 hown4 (own_w hw 35 rfl) e5 (Ins.self F6) (g := (mkF m 11 #[.val (.ref q4_0), .val (.ref qs)] [(.ref qs), (.ref q4_0)])) rfl rfl (hb hby d4_11)
  have P7 : own_Go p e below S0 (T7.setTop (mkF m 14 #[.val (.ref q4_0), .val (.ref qs)] [(.ref qs), (.ref q4_0)])) := fun t k => P5 t (st7 _ k)
  have F8 : Exa Z h4 q4_0 "com/example/strict_acl/strictacl/NamePattern" := E_q4_0.ext E4
  have F9 : Fld Z h4 q4_0 "com/example/strict_acl/strictacl/NamePattern" "pattern" "Ljava/lang/String;" u4_q4_0_pattern := F_q4_0_pattern.ext E4
  obtain ⟨T10, h10, X10, e10, W10, st10⟩ := putF X7 hx hZ4 hown4 (host := "") (Or.inl (own_w hw 36 rfl)) Via.refl e7 F9 F8 (Or.inr ⟨(own_w hw 37 rfl), rfl, hnm⟩) (own_w hw 3 rfl) (ty := (.object "java/lang/String")) (by decide) rfl rfl (g := (mkF m 14 #[.val (.ref q4_0), .val (.ref qs)] [(.ref qs), (.ref q4_0)])) rfl rfl (hb hby d4_14)
  have hk10 : kk4 ≤ h10.size := Nat.le_trans hk4q (Keep.of_wr W10).1
  have K10 : Keep h0 h10 [q4_0] := K4.wr W10 (Or.inl (by simp))
  have N10 := Fr.snoc X10 N5 g_q4_0
  have F10w : Fld Z h10 q4_0 "com/example/strict_acl/strictacl/NamePattern" "pattern" "Ljava/lang/String;" (.ref qs) := F9.same W10
  have P10 : own_Go p e below S0 (T10.setTop (mkF m 17 #[.val (.ref q4_0), .val (.ref qs)] [])) := fun t k => P7 t (st10 _ k)
  obtain ⟨fs, hr, hrun, hended, hend⟩ := X10.leaveW hS4 (by rw [e10]; exact hk10) (v := none) (fun _ => rfl) (BodyLoose.notSynchronized Bd)
  refine ⟨_, _, own_from hE0 (P10 _ ?_), hrun, hended, _, _, rfl, ?_, hend.1, hend.2.1, hend.2.2.1, hend.2.2.2.mono (by decide) (by decide)⟩
  · show Steps p.tables e below (T10.setTop (mkF m 17 #[.val (.ref q4_0), .val (.ref qs)] [])) _
    exact X10.returnOut hx Bd.returns (hb hby d4_17) hr
  · show Q4 Z q4_0 qs u4_q4_0_pattern h0 n0 _ T10.heap _
    rw [e10]
    exact ⟨rfl, N10, K10, F10w⟩
theorem pn_16 : plainName "com/example/strict_acl/strictacl/NamePatternIsLiteralPinLaw" = true := by first | (simp [plainName, overriddenIn]; done) | decide +kernel
theorem d16_0 : decode method_3_code 0 = .ok (.iload_n 0, 1) := by decide +kernel
theorem d16_1 : decode method_3_code 1 = .ok (.bipush 42, 2) := by decide +kernel
theorem d16_3 : decode method_3_code 3 = .ok (.if_icmp .eq 9, 3) := by decide +kernel
theorem d16_6 : decode method_3_code 6 = .ok (.iload_n 0, 1) := by decide +kernel
theorem d16_7 : decode method_3_code 7 = .ok (.bipush 63, 2) := by decide +kernel
theorem d16_9 : decode method_3_code 9 = .ok (.if_icmp .ne 7, 3) := by decide +kernel
theorem d16_12 : decode method_3_code 12 = .ok (.iconst 1, 1) := by decide +kernel
theorem d16_13 : decode method_3_code 13 = .ok (.goto 4, 3) := by decide +kernel
theorem d16_16 : decode method_3_code 16 = .ok (.iconst 0, 1) := by decide +kernel
theorem d16_17 : decode method_3_code 17 = .ok (.ireturn, 1) := by decide +kernel
theorem ef_16 (m : MethodId) (q16_0 : Int32) : entryFrame m #[(.int q16_0)] 1 = mkF m 0 #[.val (.int q16_0)] [] := by first | (simp [entryFrame, mkF, argsToLocals, Value.category]; done) | rfl
def own_wild (q16_0 : Int32) : Int32 := (if q16_0 = (42 : Int32) then (1 : Int32) else (if q16_0 = (63 : Int32) then (1 : Int32) else (0 : Int32)))
def Q16 (Z : State) (q16_0 : Int32) (h0 : Heap) (n0 : Nat) (v : Option Value) (h : Heap) (L : List Loc) : Prop := v = some (.int (own_wild q16_0)) ∧ Fr n0 L ∧ h = h0
set_option maxRecDepth 65536 in
set_option maxHeartbeats 40000000 in
theorem rm16 (l : Launch) (Z : State) (a0 : Array Value) (hw : ∀ d ∈ tables_1, d.before a0 Z = true) (ws : List Jvm.Cond) (q16_0 : Int32) (h0 : Heap) (n0 : Nat) (Z0 : n0 ≤ h0.size) :
    MetFree l (⟨"com/example/strict_acl/strictacl/NamePatternIsLiteralPinLaw", "wild", "(C)Z"⟩ : MethodName) (head1 (Jvm.Cond.code (⟨"com/example/strict_acl/strictacl/NamePatternIsLiteralPinLaw", "wild", "(C)Z"⟩ : MethodName) method_3_code 1 (some .boolean) :: ws) ({ frames := 0, cells := 0, slots := 0, locals := 0 } : Room)) (fun a U => a = #[(.int q16_0)] ∧ Z.Warmed39 U.vm ∧ U.heap = h0) (fun _ _ _ _ _ => True) (fun _ U o U' => ∃ v L, o = .returned v ∧ Q16 Z q16_0 h0 n0 v U'.heap L ∧ FrameEnd U o U' L ({ frames := 0, cells := 0, slots := 0, locals := 0 } : Room).cells ({ frames := 0, cells := 0, slots := 0, locals := 0 } : Room).slots) := by
  refine MetFree.of_bodySF (plainFor_of_name pn_16) hisR ?_
  intro p e s m args below meth c s₁ Bd hml0 hP hK
  obtain ⟨rfl, hZ, hh⟩ := hP
  have hx := Bd.exec
  have hby := Bd.bytes
  have hml : c.maxLocals = 1 := hml0
  have hown : s.vm.findClass "com/example/strict_acl/strictacl/NamePatternIsLiteralPinLaw" = some m.cls := findClass_of_methodNamed Bd.named
  have hnm := (name_of_methodNamed Bd.named Bd.method).1
  have X0 : Stand p l e ({ frames := 0, cells := 0, slots := 0, locals := 0 } : Room) s m #[(.int q16_0)] below meth c s₁ [] 0 0 := Stand.of_body Bd
  have e0 : s₁.heap = h0 := by rw [← hh, Bd.state]; rfl
  have N0 := Fr.nil n0
  obtain ⟨S0, hE0⟩ : ∃ z, z = s₁.setTop (entryFrame m #[(.int q16_0)] 1) := ⟨_, rfl⟩
  have P0 : own_Go p e below S0 (s₁.setTop (mkF m 0 #[.val (.int q16_0)] [])) := fun t k => by rw [hE0]; exact castTop (ef_16 m q16_0) k
  have P1 : own_Go p e below S0 (s₁.setTop (mkF m 3 #[.val (.int q16_0)] [(.int 42), (.int q16_0)])) := fun t k => P0 t (by
    refine XS.iloadN X0.here hx rfl (hb hby d16_0) rfl ?_
    refine XS.bipush X0.here hx rfl (hb hby d16_1) ?_
    show Steps p.tables e below (s₁.setTop (mkF m 3 #[.val (.int q16_0)] [(.int 42), (.int q16_0)])) t
    exact k)
  by_cases c2 : q16_0 = (42 : Int32)
  · skip
    have P3 : own_Go p e below S0 (s₁.setTop (mkF m 17 #[.val (.int q16_0)] [(.int 1)])) := fun t k => P1 t (by
      refine XS.icmpYes X0.here hx rfl (pc0 := 3) (pc' := 12) rfl (hb hby d16_3) rfl (teq c2).1 (by decide) (by decide) ?_
      refine XS.iconst X0.here hx rfl (hb hby d16_12) ?_
      refine XS.goto X0.here hx rfl (pc0 := 13) (pc' := 17) rfl (hb hby d16_13) (by decide) (by decide) ?_
      show Steps p.tables e below (s₁.setTop (mkF m 17 #[.val (.int q16_0)] [(.int 1)])) t
      exact k)
    obtain ⟨fs, hr, hrun, hended, hW, hsame⟩ := X0.leave (v := some (.int 1)) (fun h => by rw [Bd.returns] at h; cases h) (BodyLoose.notSynchronized Bd)
    refine ⟨_, _, own_from hE0 (P3 _ ?_), hrun, hended, _, _, rfl, ?_, ⟨_, rfl⟩, hW, hsame.mono (by decide) (by decide)⟩
    · show Steps p.tables e below (s₁.setTop (mkF m 17 #[.val (.int q16_0)] [(.int 1)])) _
      exact retN X0 hx (t := .boolean) Bd.returns (by simp) (hb hby d16_17) hr
    · show Q16 Z q16_0 h0 n0 _ s₁.heap _
      rw [e0]
      exact ⟨(congrArg (fun z => some (Value.int z)) (Eq.symm (if_pos c2))), N0, rfl⟩
  · skip
    have P4 : own_Go p e below S0 (s₁.setTop (mkF m 9 #[.val (.int q16_0)] [(.int 63), (.int q16_0)])) := fun t k => P1 t (by
      refine XS.icmpNo X0.here hx rfl (hb hby d16_3) rfl (feq c2).1 ?_
      refine XS.iloadN X0.here hx rfl (hb hby d16_6) rfl ?_
      refine XS.bipush X0.here hx rfl (hb hby d16_7) ?_
      show Steps p.tables e below (s₁.setTop (mkF m 9 #[.val (.int q16_0)] [(.int 63), (.int q16_0)])) t
      exact k)
    by_cases c5 : q16_0 = (63 : Int32)
    · skip
      have P6 : own_Go p e below S0 (s₁.setTop (mkF m 17 #[.val (.int q16_0)] [(.int 1)])) := fun t k => P4 t (by
        refine XS.icmpNo X0.here hx rfl (hb hby d16_9) rfl (teq c5).2 ?_
        refine XS.iconst X0.here hx rfl (hb hby d16_12) ?_
        refine XS.goto X0.here hx rfl (pc0 := 13) (pc' := 17) rfl (hb hby d16_13) (by decide) (by decide) ?_
        show Steps p.tables e below (s₁.setTop (mkF m 17 #[.val (.int q16_0)] [(.int 1)])) t
        exact k)
      obtain ⟨fs, hr, hrun, hended, hW, hsame⟩ := X0.leave (v := some (.int 1)) (fun h => by rw [Bd.returns] at h; cases h) (BodyLoose.notSynchronized Bd)
      refine ⟨_, _, own_from hE0 (P6 _ ?_), hrun, hended, _, _, rfl, ?_, ⟨_, rfl⟩, hW, hsame.mono (by decide) (by decide)⟩
      · show Steps p.tables e below (s₁.setTop (mkF m 17 #[.val (.int q16_0)] [(.int 1)])) _
        exact retN X0 hx (t := .boolean) Bd.returns (by simp) (hb hby d16_17) hr
      · show Q16 Z q16_0 h0 n0 _ s₁.heap _
        rw [e0]
        exact ⟨(congrArg (fun z => some (Value.int z)) (Eq.symm (Eq.trans (if_neg c2) (if_pos c5)))), N0, rfl⟩
    · skip
      have P7 : own_Go p e below S0 (s₁.setTop (mkF m 17 #[.val (.int q16_0)] [(.int 0)])) := fun t k => P4 t (by
        refine XS.icmpYes X0.here hx rfl (pc0 := 9) (pc' := 16) rfl (hb hby d16_9) rfl (feq c5).2 (by decide) (by decide) ?_
        refine XS.iconst X0.here hx rfl (hb hby d16_16) ?_
        show Steps p.tables e below (s₁.setTop (mkF m 17 #[.val (.int q16_0)] [(.int 0)])) t
        exact k)
      obtain ⟨fs, hr, hrun, hended, hW, hsame⟩ := X0.leave (v := some (.int 0)) (fun h => by rw [Bd.returns] at h; cases h) (BodyLoose.notSynchronized Bd)
      refine ⟨_, _, own_from hE0 (P7 _ ?_), hrun, hended, _, _, rfl, ?_, ⟨_, rfl⟩, hW, hsame.mono (by decide) (by decide)⟩
      · show Steps p.tables e below (s₁.setTop (mkF m 17 #[.val (.int q16_0)] [(.int 0)])) _
        exact retN X0 hx (t := .boolean) Bd.returns (by simp) (hb hby d16_17) hr
      · show Q16 Z q16_0 h0 n0 _ s₁.heap _
        rw [e0]
        exact ⟨(congrArg (fun z => some (Value.int z)) (Eq.symm (Eq.trans (if_neg c2) (if_neg c5)))), N0, rfl⟩
theorem d9_0 : decode jdk_42_method_154_code 0 = .ok (.getstatic 38, 3) := by decide +kernel
theorem d9_3 : decode jdk_42_method_154_code 3 = .ok (.ifCond .eq 14, 3) := by decide +kernel
theorem d9_6 : decode jdk_42_method_154_code 6 = .ok (.aload_n 0, 1) := by decide +kernel
theorem d9_7 : decode jdk_42_method_154_code 7 = .ok (.getfield 15, 3) := by decide +kernel
theorem d9_10 : decode jdk_42_method_154_code 10 = .ok (.ifCond .ne 7, 3) := by decide +kernel
theorem d9_13 : decode jdk_42_method_154_code 13 = .ok (.iconst 1, 1) := by decide +kernel
theorem d9_14 : decode jdk_42_method_154_code 14 = .ok (.goto 4, 3) := by decide +kernel
theorem d9_18 : decode jdk_42_method_154_code 18 = .ok (.ireturn, 1) := by decide +kernel
theorem ef_9 (m : MethodId) (q9_0 : Addr) : entryFrame m #[(.ref q9_0)] 1 = mkF m 0 #[.val (.ref q9_0)] [] := by first | (simp [entryFrame, mkF, argsToLocals, Value.category]; done) | rfl
def Q9 (Z : State) (q9_0 : Addr) (zc : Int32) (h0 : Heap) (n0 : Nat) (v : Option Value) (h : Heap) (L : List Loc) : Prop := v = some (.int 1) ∧ Fr n0 L ∧ h = h0
set_option maxRecDepth 65536 in
set_option maxHeartbeats 40000000 in
theorem rm9 (l : Launch) (Z : State) (a0 : Array Value) (hw : ∀ d ∈ tables_1, d.before a0 Z = true) (ws : List Jvm.Cond) (q9_0 : Addr) (zc : Int32) (h0 : Heap) (n0 : Nat) (Z0 : n0 ≤ h0.size) (S_COMPACT_STRINGS : Sta Z h0 "java/lang/String" "COMPACT_STRINGS" "Z" (.int zc)) (hcs : ¬ (zc = (0 : Int32))) (F_q9_0_coder : Fld Z h0 q9_0 "java/lang/String" "coder" "B" (.int 0)) :
    MetFree l (⟨"java/lang/String", "isLatin1", "()Z"⟩ : MethodName) (head1 (Jvm.Cond.code (⟨"java/lang/String", "isLatin1", "()Z"⟩ : MethodName) jdk_42_method_154_code 1 (some .boolean) :: ws) ({ frames := 0, cells := 0, slots := 0, locals := 0 } : Room)) (fun a U => a = #[(.ref q9_0)] ∧ Z.Warmed39 U.vm ∧ U.heap = h0) (fun _ _ _ _ _ => True) (fun _ U o U' => ∃ v L, o = .returned v ∧ Q9 Z q9_0 zc h0 n0 v U'.heap L ∧ FrameEnd U o U' L ({ frames := 0, cells := 0, slots := 0, locals := 0 } : Room).cells ({ frames := 0, cells := 0, slots := 0, locals := 0 } : Room).slots) := by
  refine MetFree.of_bodySF (plainFor_of_name pn_2) hisR ?_
  intro p e s m args below meth c s₁ Bd hml0 hP hK
  obtain ⟨rfl, hZ, hh⟩ := hP
  have hx := Bd.exec
  have hby := Bd.bytes
  have hml : c.maxLocals = 1 := hml0
  have hown : s.vm.findClass "java/lang/String" = some m.cls := findClass_of_methodNamed Bd.named
  have hnm := (name_of_methodNamed Bd.named Bd.method).1
  have X0 : Stand p l e ({ frames := 0, cells := 0, slots := 0, locals := 0 } : Room) s m #[(.ref q9_0)] below meth c s₁ [] 0 0 := Stand.of_body Bd
  have e0 : s₁.heap = h0 := by rw [← hh, Bd.state]; rfl
  have N0 := Fr.nil n0
  obtain ⟨S0, hE0⟩ : ∃ z, z = s₁.setTop (entryFrame m #[(.ref q9_0)] 1) := ⟨_, rfl⟩
  have P0 : own_Go p e below S0 (s₁.setTop (mkF m 0 #[.val (.ref q9_0)] [])) := fun t k => by rw [hE0]; exact castTop (ef_9 m q9_0) k
  obtain ⟨T1, X1, e1, st1⟩ := getS2 X0 hx hZ hown (host := "") (Or.inl (own_w hw 58 rfl)) Via.refl e0 S_COMPACT_STRINGS (g := (mkF m 0 #[.val (.ref q9_0)] [])) rfl (hb hby d9_0)
  have P1 : own_Go p e below S0 (T1.setTop (mkF m 3 #[.val (.ref q9_0)] [(.int zc)])) := fun t k => P0 t (st1 _ k)
  have c2 : ¬ (zc = (0 : Int32)) := hcs
  have P3 : own_Go p e below S0 (T1.setTop (mkF m 7 #[.val (.ref q9_0)] [(.ref q9_0)])) := fun t k => P1 t (by
    refine XS.ifNo X1.here hx rfl (hb hby d9_3) rfl ((if0 _ _).trans (feq c2).1) ?_
    refine XS.aloadN X1.here hx rfl (hb hby d9_6) rfl rfl ?_
    show Steps p.tables e below (T1.setTop (mkF m 7 #[.val (.ref q9_0)] [(.ref q9_0)])) t
    exact k)
  obtain ⟨T4, X4, e4, st4⟩ := getF X1 hx hZ hown (host := "") (Or.inl (own_w hw 25 rfl)) Via.refl e1 F_q9_0_coder (g := (mkF m 7 #[.val (.ref q9_0)] [(.ref q9_0)])) rfl rfl (hb hby d9_7)
  have P4 : own_Go p e below S0 (T4.setTop (mkF m 10 #[.val (.ref q9_0)] [(.int 0)])) := fun t k => P3 t (st4 _ k)
  have P5 : own_Go p e below S0 (T4.setTop (mkF m 18 #[.val (.ref q9_0)] [(.int 1)])) := fun t k => P4 t (by
    refine XS.ifNo X4.here hx rfl (hb hby d9_10) rfl ((if0 _ _).trans (teq (by decide)).2) ?_
    refine XS.iconst X4.here hx rfl (hb hby d9_13) ?_
    refine XS.goto X4.here hx rfl (pc0 := 14) (pc' := 18) rfl (hb hby d9_14) (by decide) (by decide) ?_
    show Steps p.tables e below (T4.setTop (mkF m 18 #[.val (.ref q9_0)] [(.int 1)])) t
    exact k)
  obtain ⟨fs, hr, hrun, hended, hW, hsame⟩ := X4.leave (v := some (.int 1)) (fun h => by rw [Bd.returns] at h; cases h) (BodyLoose.notSynchronized Bd)
  refine ⟨_, _, own_from hE0 (P5 _ ?_), hrun, hended, _, _, rfl, ?_, ⟨_, rfl⟩, hW, hsame.mono (by decide) (by decide)⟩
  · show Steps p.tables e below (T4.setTop (mkF m 18 #[.val (.ref q9_0)] [(.int 1)])) _
    exact retN X4 hx (t := .boolean) Bd.returns (by simp) (hb hby d9_18) hr
  · show Q9 Z q9_0 zc h0 n0 _ T4.heap _
    rw [e4]
    exact ⟨rfl, N0, rfl⟩
theorem d11_0 : decode jdk_42_method_152_code 0 = .ok (.getstatic 38, 3) := by decide +kernel
theorem d11_3 : decode jdk_42_method_152_code 3 = .ok (.ifCond .eq 10, 3) := by decide +kernel
theorem d11_6 : decode jdk_42_method_152_code 6 = .ok (.aload_n 0, 1) := by decide +kernel
theorem d11_7 : decode jdk_42_method_152_code 7 = .ok (.getfield 15, 3) := by decide +kernel
theorem d11_10 : decode jdk_42_method_152_code 10 = .ok (.goto 4, 3) := by decide +kernel
theorem d11_14 : decode jdk_42_method_152_code 14 = .ok (.ireturn, 1) := by decide +kernel
theorem ef_11 (m : MethodId) (q11_0 : Addr) : entryFrame m #[(.ref q11_0)] 1 = mkF m 0 #[.val (.ref q11_0)] [] := by first | (simp [entryFrame, mkF, argsToLocals, Value.category]; done) | rfl
def Q11 (Z : State) (q11_0 : Addr) (zc : Int32) (h0 : Heap) (n0 : Nat) (v : Option Value) (h : Heap) (L : List Loc) : Prop := v = some (.int 0) ∧ Fr n0 L ∧ h = h0
set_option maxRecDepth 65536 in
set_option maxHeartbeats 40000000 in
theorem rm11 (l : Launch) (Z : State) (a0 : Array Value) (hw : ∀ d ∈ tables_1, d.before a0 Z = true) (ws : List Jvm.Cond) (q11_0 : Addr) (zc : Int32) (h0 : Heap) (n0 : Nat) (Z0 : n0 ≤ h0.size) (S_COMPACT_STRINGS : Sta Z h0 "java/lang/String" "COMPACT_STRINGS" "Z" (.int zc)) (hcs : ¬ (zc = (0 : Int32))) (F_q11_0_coder : Fld Z h0 q11_0 "java/lang/String" "coder" "B" (.int 0)) :
    MetFree l (⟨"java/lang/String", "coder", "()B"⟩ : MethodName) (head1 (Jvm.Cond.code (⟨"java/lang/String", "coder", "()B"⟩ : MethodName) jdk_42_method_152_code 1 (some .byte) :: ws) ({ frames := 0, cells := 0, slots := 0, locals := 0 } : Room)) (fun a U => a = #[(.ref q11_0)] ∧ Z.Warmed39 U.vm ∧ U.heap = h0) (fun _ _ _ _ _ => True) (fun _ U o U' => ∃ v L, o = .returned v ∧ Q11 Z q11_0 zc h0 n0 v U'.heap L ∧ FrameEnd U o U' L ({ frames := 0, cells := 0, slots := 0, locals := 0 } : Room).cells ({ frames := 0, cells := 0, slots := 0, locals := 0 } : Room).slots) := by
  refine MetFree.of_bodySF (plainFor_of_name pn_2) hisR ?_
  intro p e s m args below meth c s₁ Bd hml0 hP hK
  obtain ⟨rfl, hZ, hh⟩ := hP
  have hx := Bd.exec
  have hby := Bd.bytes
  have hml : c.maxLocals = 1 := hml0
  have hown : s.vm.findClass "java/lang/String" = some m.cls := findClass_of_methodNamed Bd.named
  have hnm := (name_of_methodNamed Bd.named Bd.method).1
  have X0 : Stand p l e ({ frames := 0, cells := 0, slots := 0, locals := 0 } : Room) s m #[(.ref q11_0)] below meth c s₁ [] 0 0 := Stand.of_body Bd
  have e0 : s₁.heap = h0 := by rw [← hh, Bd.state]; rfl
  have N0 := Fr.nil n0
  obtain ⟨S0, hE0⟩ : ∃ z, z = s₁.setTop (entryFrame m #[(.ref q11_0)] 1) := ⟨_, rfl⟩
  have P0 : own_Go p e below S0 (s₁.setTop (mkF m 0 #[.val (.ref q11_0)] [])) := fun t k => by rw [hE0]; exact castTop (ef_11 m q11_0) k
  obtain ⟨T1, X1, e1, st1⟩ := getS2 X0 hx hZ hown (host := "") (Or.inl (own_w hw 58 rfl)) Via.refl e0 S_COMPACT_STRINGS (g := (mkF m 0 #[.val (.ref q11_0)] [])) rfl (hb hby d11_0)
  have P1 : own_Go p e below S0 (T1.setTop (mkF m 3 #[.val (.ref q11_0)] [(.int zc)])) := fun t k => P0 t (st1 _ k)
  have c2 : ¬ (zc = (0 : Int32)) := hcs
  have P3 : own_Go p e below S0 (T1.setTop (mkF m 7 #[.val (.ref q11_0)] [(.ref q11_0)])) := fun t k => P1 t (by
    refine XS.ifNo X1.here hx rfl (hb hby d11_3) rfl ((if0 _ _).trans (feq c2).1) ?_
    refine XS.aloadN X1.here hx rfl (hb hby d11_6) rfl rfl ?_
    show Steps p.tables e below (T1.setTop (mkF m 7 #[.val (.ref q11_0)] [(.ref q11_0)])) t
    exact k)
  obtain ⟨T4, X4, e4, st4⟩ := getF X1 hx hZ hown (host := "") (Or.inl (own_w hw 25 rfl)) Via.refl e1 F_q11_0_coder (g := (mkF m 7 #[.val (.ref q11_0)] [(.ref q11_0)])) rfl rfl (hb hby d11_7)
  have P4 : own_Go p e below S0 (T4.setTop (mkF m 10 #[.val (.ref q11_0)] [(.int 0)])) := fun t k => P3 t (st4 _ k)
  have P5 : own_Go p e below S0 (T4.setTop (mkF m 14 #[.val (.ref q11_0)] [(.int 0)])) := fun t k => P4 t (by
    refine XS.goto X4.here hx rfl (pc0 := 10) (pc' := 14) rfl (hb hby d11_10) (by decide) (by decide) ?_
    show Steps p.tables e below (T4.setTop (mkF m 14 #[.val (.ref q11_0)] [(.int 0)])) t
    exact k)
  obtain ⟨fs, hr, hrun, hended, hW, hsame⟩ := X4.leave (v := some (.int 0)) (fun h => by rw [Bd.returns] at h; cases h) (BodyLoose.notSynchronized Bd)
  refine ⟨_, _, own_from hE0 (P5 _ ?_), hrun, hended, _, _, rfl, ?_, ⟨_, rfl⟩, hW, hsame.mono (by decide) (by decide)⟩
  · show Steps p.tables e below (T4.setTop (mkF m 14 #[.val (.ref q11_0)] [(.int 0)])) _
    exact retN X4 hx (t := .byte) Bd.returns (by simp) (hb hby d11_14) hr
  · show Q11 Z q11_0 zc h0 n0 _ T4.heap _
    rw [e4]
    exact ⟨rfl, N0, rfl⟩
theorem pn_13 : plainName "java/lang/StringLatin1" = true := by first | (simp [plainName, overriddenIn]; done) | decide +kernel
theorem d13_0 : decode jdk_43_method_4_code 0 = .ok (.iload_n 0, 1) := by decide +kernel
theorem d13_1 : decode jdk_43_method_4_code 1 = .ok (.ifCond .lt 14, 3) := by decide +kernel
theorem d13_4 : decode jdk_43_method_4_code 4 = .ok (.iload_n 0, 1) := by decide +kernel
theorem d13_5 : decode jdk_43_method_4_code 5 = .ok (.sipush 255, 3) := by decide +kernel
theorem d13_8 : decode jdk_43_method_4_code 8 = .ok (.if_icmp .gt 7, 3) := by decide +kernel
theorem d13_11 : decode jdk_43_method_4_code 11 = .ok (.iconst 1, 1) := by decide +kernel
theorem d13_12 : decode jdk_43_method_4_code 12 = .ok (.goto 4, 3) := by decide +kernel
theorem d13_16 : decode jdk_43_method_4_code 16 = .ok (.ireturn, 1) := by decide +kernel
theorem ef_13c42 (m : MethodId)  : entryFrame m #[(.int 42)] 1 = mkF m 0 #[.val (.int 42)] [] := by first | (simp [entryFrame, mkF, argsToLocals, Value.category]; done) | rfl
def Q13c42 (Z : State)  (h0 : Heap) (n0 : Nat) (v : Option Value) (h : Heap) (L : List Loc) : Prop := v = some (.int 1) ∧ Fr n0 L ∧ h = h0
set_option maxRecDepth 65536 in
set_option maxHeartbeats 40000000 in
theorem rm13c42 (l : Launch) (Z : State) (a0 : Array Value) (hw : ∀ d ∈ tables_1, d.before a0 Z = true) (ws : List Jvm.Cond)  (h0 : Heap) (n0 : Nat) (Z0 : n0 ≤ h0.size) :
    MetFree l (⟨"java/lang/StringLatin1", "canEncode", "(I)Z"⟩ : MethodName) (head1 (Jvm.Cond.code (⟨"java/lang/StringLatin1", "canEncode", "(I)Z"⟩ : MethodName) jdk_43_method_4_code 1 (some .boolean) :: ws) ({ frames := 0, cells := 0, slots := 0, locals := 0 } : Room)) (fun a U => a = #[(.int 42)] ∧ Z.Warmed39 U.vm ∧ U.heap = h0) (fun _ _ _ _ _ => True) (fun _ U o U' => ∃ v L, o = .returned v ∧ Q13c42 Z  h0 n0 v U'.heap L ∧ FrameEnd U o U' L ({ frames := 0, cells := 0, slots := 0, locals := 0 } : Room).cells ({ frames := 0, cells := 0, slots := 0, locals := 0 } : Room).slots) := by
  refine MetFree.of_bodySF (plainFor_of_name pn_13) hisR ?_
  intro p e s m args below meth c s₁ Bd hml0 hP hK
  obtain ⟨rfl, hZ, hh⟩ := hP
  have hx := Bd.exec
  have hby := Bd.bytes
  have hml : c.maxLocals = 1 := hml0
  have hown : s.vm.findClass "java/lang/StringLatin1" = some m.cls := findClass_of_methodNamed Bd.named
  have hnm := (name_of_methodNamed Bd.named Bd.method).1
  have X0 : Stand p l e ({ frames := 0, cells := 0, slots := 0, locals := 0 } : Room) s m #[(.int 42)] below meth c s₁ [] 0 0 := Stand.of_body Bd
  have e0 : s₁.heap = h0 := by rw [← hh, Bd.state]; rfl
  have N0 := Fr.nil n0
  obtain ⟨S0, hE0⟩ : ∃ z, z = s₁.setTop (entryFrame m #[(.int 42)] 1) := ⟨_, rfl⟩
  have P0 : own_Go p e below S0 (s₁.setTop (mkF m 0 #[.val (.int 42)] [])) := fun t k => by rw [hE0]; exact castTop (ef_13c42 m ) k
  have P1 : own_Go p e below S0 (s₁.setTop (mkF m 16 #[.val (.int 42)] [(.int 1)])) := fun t k => P0 t (by
    refine XS.iloadN X0.here hx rfl (hb hby d13_0) rfl ?_
    refine XS.ifNo X0.here hx rfl (hb hby d13_1) rfl ((if0 _ _).trans (flt (by decide)).1) ?_
    refine XS.iloadN X0.here hx rfl (hb hby d13_4) rfl ?_
    refine XS.sipush X0.here hx rfl (hb hby d13_5) ?_
    refine XS.icmpNo X0.here hx rfl (hb hby d13_8) rfl (flt (by decide)).2.2.1 ?_
    refine XS.iconst X0.here hx rfl (hb hby d13_11) ?_
    show Steps p.tables e below (s₁.setTop (mkF m 12 #[.val (.int 42)] [(.int 1)])) t
    refine XS.goto X0.here hx rfl (pc0 := 12) (pc' := 16) rfl (hb hby d13_12) (by decide) (by decide) ?_
    show Steps p.tables e below (s₁.setTop (mkF m 16 #[.val (.int 42)] [(.int 1)])) t
    exact k)
  obtain ⟨fs, hr, hrun, hended, hW, hsame⟩ := X0.leave (v := some (.int 1)) (fun h => by rw [Bd.returns] at h; cases h) (BodyLoose.notSynchronized Bd)
  refine ⟨_, _, own_from hE0 (P1 _ ?_), hrun, hended, _, _, rfl, ?_, ⟨_, rfl⟩, hW, hsame.mono (by decide) (by decide)⟩
  · show Steps p.tables e below (s₁.setTop (mkF m 16 #[.val (.int 42)] [(.int 1)])) _
    exact retN X0 hx (t := .boolean) Bd.returns (by simp) (hb hby d13_16) hr
  · show Q13c42 Z  h0 n0 _ s₁.heap _
    rw [e0]
    exact ⟨rfl, N0, rfl⟩
theorem ef_13c63 (m : MethodId)  : entryFrame m #[(.int 63)] 1 = mkF m 0 #[.val (.int 63)] [] := by first | (simp [entryFrame, mkF, argsToLocals, Value.category]; done) | rfl
def Q13c63 (Z : State)  (h0 : Heap) (n0 : Nat) (v : Option Value) (h : Heap) (L : List Loc) : Prop := v = some (.int 1) ∧ Fr n0 L ∧ h = h0
set_option maxRecDepth 65536 in
set_option maxHeartbeats 40000000 in
theorem rm13c63 (l : Launch) (Z : State) (a0 : Array Value) (hw : ∀ d ∈ tables_1, d.before a0 Z = true) (ws : List Jvm.Cond)  (h0 : Heap) (n0 : Nat) (Z0 : n0 ≤ h0.size) :
    MetFree l (⟨"java/lang/StringLatin1", "canEncode", "(I)Z"⟩ : MethodName) (head1 (Jvm.Cond.code (⟨"java/lang/StringLatin1", "canEncode", "(I)Z"⟩ : MethodName) jdk_43_method_4_code 1 (some .boolean) :: ws) ({ frames := 0, cells := 0, slots := 0, locals := 0 } : Room)) (fun a U => a = #[(.int 63)] ∧ Z.Warmed39 U.vm ∧ U.heap = h0) (fun _ _ _ _ _ => True) (fun _ U o U' => ∃ v L, o = .returned v ∧ Q13c63 Z  h0 n0 v U'.heap L ∧ FrameEnd U o U' L ({ frames := 0, cells := 0, slots := 0, locals := 0 } : Room).cells ({ frames := 0, cells := 0, slots := 0, locals := 0 } : Room).slots) := by
  refine MetFree.of_bodySF (plainFor_of_name pn_13) hisR ?_
  intro p e s m args below meth c s₁ Bd hml0 hP hK
  obtain ⟨rfl, hZ, hh⟩ := hP
  have hx := Bd.exec
  have hby := Bd.bytes
  have hml : c.maxLocals = 1 := hml0
  have hown : s.vm.findClass "java/lang/StringLatin1" = some m.cls := findClass_of_methodNamed Bd.named
  have hnm := (name_of_methodNamed Bd.named Bd.method).1
  have X0 : Stand p l e ({ frames := 0, cells := 0, slots := 0, locals := 0 } : Room) s m #[(.int 63)] below meth c s₁ [] 0 0 := Stand.of_body Bd
  have e0 : s₁.heap = h0 := by rw [← hh, Bd.state]; rfl
  have N0 := Fr.nil n0
  obtain ⟨S0, hE0⟩ : ∃ z, z = s₁.setTop (entryFrame m #[(.int 63)] 1) := ⟨_, rfl⟩
  have P0 : own_Go p e below S0 (s₁.setTop (mkF m 0 #[.val (.int 63)] [])) := fun t k => by rw [hE0]; exact castTop (ef_13c63 m ) k
  have P1 : own_Go p e below S0 (s₁.setTop (mkF m 16 #[.val (.int 63)] [(.int 1)])) := fun t k => P0 t (by
    refine XS.iloadN X0.here hx rfl (hb hby d13_0) rfl ?_
    refine XS.ifNo X0.here hx rfl (hb hby d13_1) rfl ((if0 _ _).trans (flt (by decide)).1) ?_
    refine XS.iloadN X0.here hx rfl (hb hby d13_4) rfl ?_
    refine XS.sipush X0.here hx rfl (hb hby d13_5) ?_
    refine XS.icmpNo X0.here hx rfl (hb hby d13_8) rfl (flt (by decide)).2.2.1 ?_
    refine XS.iconst X0.here hx rfl (hb hby d13_11) ?_
    show Steps p.tables e below (s₁.setTop (mkF m 12 #[.val (.int 63)] [(.int 1)])) t
    refine XS.goto X0.here hx rfl (pc0 := 12) (pc' := 16) rfl (hb hby d13_12) (by decide) (by decide) ?_
    show Steps p.tables e below (s₁.setTop (mkF m 16 #[.val (.int 63)] [(.int 1)])) t
    exact k)
  obtain ⟨fs, hr, hrun, hended, hW, hsame⟩ := X0.leave (v := some (.int 1)) (fun h => by rw [Bd.returns] at h; cases h) (BodyLoose.notSynchronized Bd)
  refine ⟨_, _, own_from hE0 (P1 _ ?_), hrun, hended, _, _, rfl, ?_, ⟨_, rfl⟩, hW, hsame.mono (by decide) (by decide)⟩
  · show Steps p.tables e below (s₁.setTop (mkF m 16 #[.val (.int 63)] [(.int 1)])) _
    exact retN X0 hx (t := .boolean) Bd.returns (by simp) (hb hby d13_16) hr
  · show Q13c63 Z  h0 n0 _ s₁.heap _
    rw [e0]
    exact ⟨rfl, N0, rfl⟩
theorem d14_0 : decode jdk_29_method_65_code 0 = .ok (.iload_n 0, 1) := by decide +kernel
theorem d14_1 : decode jdk_29_method_65_code 1 = .ok (.iload_n 1, 1) := by decide +kernel
theorem d14_2 : decode jdk_29_method_65_code 2 = .ok (.if_icmp .lt 7, 3) := by decide +kernel
theorem d14_5 : decode jdk_29_method_65_code 5 = .ok (.iload_n 0, 1) := by decide +kernel
theorem d14_6 : decode jdk_29_method_65_code 6 = .ok (.goto 4, 3) := by decide +kernel
theorem d14_10 : decode jdk_29_method_65_code 10 = .ok (.ireturn, 1) := by decide +kernel
theorem ef_14 (m : MethodId)  : entryFrame m #[(.int 0), (.int 0)] 2 = mkF m 0 #[.val (.int 0), .val (.int 0)] [] := by first | (simp [entryFrame, mkF, argsToLocals, Value.category]; done) | rfl
def Q14 (Z : State)  (h0 : Heap) (n0 : Nat) (v : Option Value) (h : Heap) (L : List Loc) : Prop := v = some (.int 0) ∧ Fr n0 L ∧ h = h0
set_option maxRecDepth 65536 in
set_option maxHeartbeats 40000000 in
theorem rm14 (l : Launch) (Z : State) (a0 : Array Value) (hw : ∀ d ∈ tables_1, d.before a0 Z = true) (ws : List Jvm.Cond)  (h0 : Heap) (n0 : Nat) (Z0 : n0 ≤ h0.size) :
    MetFree l (⟨"java/lang/Math", "max", "(II)I"⟩ : MethodName) (head1 (Jvm.Cond.code (⟨"java/lang/Math", "max", "(II)I"⟩ : MethodName) jdk_29_method_65_code 2 (some .int) :: ws) ({ frames := 0, cells := 0, slots := 0, locals := 0 } : Room)) (fun a U => a = #[(.int 0), (.int 0)] ∧ Z.Warmed39 U.vm ∧ U.heap = h0) (fun _ _ _ _ _ => True) (fun _ U o U' => ∃ v L, o = .returned v ∧ Q14 Z  h0 n0 v U'.heap L ∧ FrameEnd U o U' L ({ frames := 0, cells := 0, slots := 0, locals := 0 } : Room).cells ({ frames := 0, cells := 0, slots := 0, locals := 0 } : Room).slots) := by
  refine MetFree.of_bodySF (Jvm.Free.JP.mathPlain rfl (by decide +kernel)) hisR ?_
  intro p e s m args below meth c s₁ Bd hml0 hP hK
  obtain ⟨rfl, hZ, hh⟩ := hP
  have hx := Bd.exec
  have hby := Bd.bytes
  have hml : c.maxLocals = 2 := hml0
  have hown : s.vm.findClass "java/lang/Math" = some m.cls := findClass_of_methodNamed Bd.named
  have hnm := (name_of_methodNamed Bd.named Bd.method).1
  have X0 : Stand p l e ({ frames := 0, cells := 0, slots := 0, locals := 0 } : Room) s m #[(.int 0), (.int 0)] below meth c s₁ [] 0 0 := Stand.of_body Bd
  have e0 : s₁.heap = h0 := by rw [← hh, Bd.state]; rfl
  have N0 := Fr.nil n0
  obtain ⟨S0, hE0⟩ : ∃ z, z = s₁.setTop (entryFrame m #[(.int 0), (.int 0)] 2) := ⟨_, rfl⟩
  have P0 : own_Go p e below S0 (s₁.setTop (mkF m 0 #[.val (.int 0), .val (.int 0)] [])) := fun t k => by rw [hE0]; exact castTop (ef_14 m ) k
  have P1 : own_Go p e below S0 (s₁.setTop (mkF m 10 #[.val (.int 0), .val (.int 0)] [(.int 0)])) := fun t k => P0 t (by
    refine XS.iloadN X0.here hx rfl (hb hby d14_0) rfl ?_
    refine XS.iloadN X0.here hx rfl (hb hby d14_1) rfl ?_
    refine XS.icmpNo X0.here hx rfl (hb hby d14_2) rfl (flt (by decide)).1 ?_
    refine XS.iloadN X0.here hx rfl (hb hby d14_5) rfl ?_
    refine XS.goto X0.here hx rfl (pc0 := 6) (pc' := 10) rfl (hb hby d14_6) (by decide) (by decide) ?_
    show Steps p.tables e below (s₁.setTop (mkF m 10 #[.val (.int 0), .val (.int 0)] [(.int 0)])) t
    exact k)
  obtain ⟨fs, hr, hrun, hended, hW, hsame⟩ := X0.leave (v := some (.int 0)) (fun h => by rw [Bd.returns] at h; cases h) (BodyLoose.notSynchronized Bd)
  refine ⟨_, _, own_from hE0 (P1 _ ?_), hrun, hended, _, _, rfl, ?_, ⟨_, rfl⟩, hW, hsame.mono (by decide) (by decide)⟩
  · show Steps p.tables e below (s₁.setTop (mkF m 10 #[.val (.int 0), .val (.int 0)] [(.int 0)])) _
    exact retI X0 hx Bd.returns (hb hby d14_10) hr
  · show Q14 Z  h0 n0 _ s₁.heap _
    rw [e0]
    exact ⟨rfl, N0, rfl⟩
theorem d15_0 : decode jdk_29_method_69_code 0 = .ok (.iload_n 0, 1) := by decide +kernel
theorem d15_1 : decode jdk_29_method_69_code 1 = .ok (.iload_n 1, 1) := by decide +kernel
theorem d15_2 : decode jdk_29_method_69_code 2 = .ok (.if_icmp .gt 7, 3) := by decide +kernel
theorem d15_5 : decode jdk_29_method_69_code 5 = .ok (.iload_n 0, 1) := by decide +kernel
theorem d15_6 : decode jdk_29_method_69_code 6 = .ok (.goto 4, 3) := by decide +kernel
theorem d15_10 : decode jdk_29_method_69_code 10 = .ok (.ireturn, 1) := by decide +kernel
theorem ef_15n0 (m : MethodId)  : entryFrame m #[(.int 0), (.int 0)] 2 = mkF m 0 #[.val (.int 0), .val (.int 0)] [] := by first | (simp [entryFrame, mkF, argsToLocals, Value.category]; done) | rfl
def Q15n0 (Z : State)  (h0 : Heap) (n0 : Nat) (v : Option Value) (h : Heap) (L : List Loc) : Prop := v = some (.int 0) ∧ Fr n0 L ∧ h = h0
set_option maxRecDepth 65536 in
set_option maxHeartbeats 40000000 in
theorem rm15n0 (l : Launch) (Z : State) (a0 : Array Value) (hw : ∀ d ∈ tables_1, d.before a0 Z = true) (ws : List Jvm.Cond)  (h0 : Heap) (n0 : Nat) (Z0 : n0 ≤ h0.size) :
    MetFree l (⟨"java/lang/Math", "min", "(II)I"⟩ : MethodName) (head1 (Jvm.Cond.code (⟨"java/lang/Math", "min", "(II)I"⟩ : MethodName) jdk_29_method_69_code 2 (some .int) :: ws) ({ frames := 0, cells := 0, slots := 0, locals := 0 } : Room)) (fun a U => a = #[(.int 0), (.int 0)] ∧ Z.Warmed39 U.vm ∧ U.heap = h0) (fun _ _ _ _ _ => True) (fun _ U o U' => ∃ v L, o = .returned v ∧ Q15n0 Z  h0 n0 v U'.heap L ∧ FrameEnd U o U' L ({ frames := 0, cells := 0, slots := 0, locals := 0 } : Room).cells ({ frames := 0, cells := 0, slots := 0, locals := 0 } : Room).slots) := by
  refine MetFree.of_bodySF (Jvm.Free.JP.mathPlain rfl (by decide +kernel)) hisR ?_
  intro p e s m args below meth c s₁ Bd hml0 hP hK
  obtain ⟨rfl, hZ, hh⟩ := hP
  have hx := Bd.exec
  have hby := Bd.bytes
  have hml : c.maxLocals = 2 := hml0
  have hown : s.vm.findClass "java/lang/Math" = some m.cls := findClass_of_methodNamed Bd.named
  have hnm := (name_of_methodNamed Bd.named Bd.method).1
  have X0 : Stand p l e ({ frames := 0, cells := 0, slots := 0, locals := 0 } : Room) s m #[(.int 0), (.int 0)] below meth c s₁ [] 0 0 := Stand.of_body Bd
  have e0 : s₁.heap = h0 := by rw [← hh, Bd.state]; rfl
  have N0 := Fr.nil n0
  obtain ⟨S0, hE0⟩ : ∃ z, z = s₁.setTop (entryFrame m #[(.int 0), (.int 0)] 2) := ⟨_, rfl⟩
  have P0 : own_Go p e below S0 (s₁.setTop (mkF m 0 #[.val (.int 0), .val (.int 0)] [])) := fun t k => by rw [hE0]; exact castTop (ef_15n0 m ) k
  have P1 : own_Go p e below S0 (s₁.setTop (mkF m 10 #[.val (.int 0), .val (.int 0)] [(.int 0)])) := fun t k => P0 t (by
    refine XS.iloadN X0.here hx rfl (hb hby d15_0) rfl ?_
    refine XS.iloadN X0.here hx rfl (hb hby d15_1) rfl ?_
    refine XS.icmpNo X0.here hx rfl (hb hby d15_2) rfl (flt (by decide)).2.2.1 ?_
    refine XS.iloadN X0.here hx rfl (hb hby d15_5) rfl ?_
    refine XS.goto X0.here hx rfl (pc0 := 6) (pc' := 10) rfl (hb hby d15_6) (by decide) (by decide) ?_
    show Steps p.tables e below (s₁.setTop (mkF m 10 #[.val (.int 0), .val (.int 0)] [(.int 0)])) t
    exact k)
  obtain ⟨fs, hr, hrun, hended, hW, hsame⟩ := X0.leave (v := some (.int 0)) (fun h => by rw [Bd.returns] at h; cases h) (BodyLoose.notSynchronized Bd)
  refine ⟨_, _, own_from hE0 (P1 _ ?_), hrun, hended, _, _, rfl, ?_, ⟨_, rfl⟩, hW, hsame.mono (by decide) (by decide)⟩
  · show Steps p.tables e below (s₁.setTop (mkF m 10 #[.val (.int 0), .val (.int 0)] [(.int 0)])) _
    exact retI X0 hx Bd.returns (hb hby d15_10) hr
  · show Q15n0 Z  h0 n0 _ s₁.heap _
    rw [e0]
    exact ⟨rfl, N0, rfl⟩
theorem pd_5 : parseMethodDescriptor "()B" = some ⟨[], some .byte⟩ := by decide +kernel
theorem d10_0 : decode jdk_42_method_54_code 0 = .ok (.aload_n 0, 1) := by decide +kernel
theorem d10_1 : decode jdk_42_method_54_code 1 = .ok (.getfield 9, 3) := by decide +kernel
theorem d10_4 : decode jdk_42_method_54_code 4 = .ok (.arraylength, 1) := by decide +kernel
theorem d10_5 : decode jdk_42_method_54_code 5 = .ok (.aload_n 0, 1) := by decide +kernel
theorem d10_6 : decode jdk_42_method_54_code 6 = .ok (.invokevirtual 335, 3) := by decide +kernel
theorem d10_9 : decode jdk_42_method_54_code 9 = .ok (.ishr, 1) := by decide +kernel
theorem d10_10 : decode jdk_42_method_54_code 10 = .ok (.ireturn, 1) := by decide +kernel
theorem ef_10n0 (m : MethodId) (q10n0_0 : Addr) : entryFrame m #[(.ref q10n0_0)] 1 = mkF m 0 #[.val (.ref q10n0_0)] [] := by first | (simp [entryFrame, mkF, argsToLocals, Value.category]; done) | rfl
def Q10n0 (Z : State) (q10n0_0 : Addr) (qb : Addr) (kb : ClassId) (zc : Int32) (h0 : Heap) (n0 : Nat) (v : Option Value) (h : Heap) (L : List Loc) : Prop := v = some (.int 0) ∧ Fr n0 L ∧ h = h0
set_option maxRecDepth 65536 in
set_option maxHeartbeats 40000000 in
theorem rm10n0 (l : Launch) (Z : State) (a0 : Array Value) (hw : ∀ d ∈ tables_1, d.before a0 Z = true) (ws : List Jvm.Cond) (q10n0_0 : Addr) (qb : Addr) (kb : ClassId) (zc : Int32) (h0 : Heap) (n0 : Nat) (Z0 : n0 ≤ h0.size) (F_q10n0_0_value : Fld Z h0 q10n0_0 "java/lang/String" "value" "[B" (.ref qb)) (A_qb : Arv Z h0 qb kb .byte (0 : Int32) [] (.int 0)) (S_COMPACT_STRINGS : Sta Z h0 "java/lang/String" "COMPACT_STRINGS" "Z" (.int zc)) (hcs : ¬ (zc = (0 : Int32))) (F_q10n0_0_coder : Fld Z h0 q10n0_0 "java/lang/String" "coder" "B" (.int 0)) (E_q10n0_0 : Exa Z h0 q10n0_0 "java/lang/String") :
    MetFree l (⟨"java/lang/String", "length", "()I"⟩ : MethodName) (head1 (Jvm.Cond.code (⟨"java/lang/String", "length", "()I"⟩ : MethodName) jdk_42_method_54_code 1 (some .int) :: ws) ({ frames := 1, cells := 0, slots := 0, locals := 13 } : Room)) (fun a U => a = #[(.ref q10n0_0)] ∧ Z.Warmed39 U.vm ∧ U.heap = h0) (fun _ _ _ _ _ => True) (fun _ U o U' => ∃ v L, o = .returned v ∧ Q10n0 Z q10n0_0 qb kb zc h0 n0 v U'.heap L ∧ FrameEnd U o U' L ({ frames := 1, cells := 0, slots := 0, locals := 13 } : Room).cells ({ frames := 1, cells := 0, slots := 0, locals := 13 } : Room).slots) := by
  refine MetFree.of_bodySF (plainFor_of_name pn_2) hisR ?_
  intro p e s m args below meth c s₁ Bd hml0 hP hK
  obtain ⟨rfl, hZ, hh⟩ := hP
  have hx := Bd.exec
  have hby := Bd.bytes
  have hml : c.maxLocals = 1 := hml0
  have hown : s.vm.findClass "java/lang/String" = some m.cls := findClass_of_methodNamed Bd.named
  have hnm := (name_of_methodNamed Bd.named Bd.method).1
  have X0 : Stand p l e ({ frames := 1, cells := 0, slots := 0, locals := 13 } : Room) s m #[(.ref q10n0_0)] below meth c s₁ [] 0 0 := Stand.of_body Bd
  have e0 : s₁.heap = h0 := by rw [← hh, Bd.state]; rfl
  have N0 := Fr.nil n0
  obtain ⟨S0, hE0⟩ : ∃ z, z = s₁.setTop (entryFrame m #[(.ref q10n0_0)] 1) := ⟨_, rfl⟩
  have P0 : own_Go p e below S0 (s₁.setTop (mkF m 0 #[.val (.ref q10n0_0)] [])) := fun t k => by rw [hE0]; exact castTop (ef_10n0 m q10n0_0) k
  have P1 : own_Go p e below S0 (s₁.setTop (mkF m 1 #[.val (.ref q10n0_0)] [(.ref q10n0_0)])) := fun t k => P0 t (by
    refine XS.aloadN X0.here hx rfl (hb hby d10_0) rfl rfl ?_
    show Steps p.tables e below (s₁.setTop (mkF m 1 #[.val (.ref q10n0_0)] [(.ref q10n0_0)])) t
    exact k)
  obtain ⟨T2, X2, e2, st2⟩ := getF X0 hx hZ hown (host := "") (Or.inl (own_w hw 24 rfl)) Via.refl e0 F_q10n0_0_value (g := (mkF m 1 #[.val (.ref q10n0_0)] [(.ref q10n0_0)])) rfl rfl (hb hby d10_1)
  have P2 : own_Go p e below S0 (T2.setTop (mkF m 4 #[.val (.ref q10n0_0)] [(.ref qb)])) := fun t k => P1 t (st2 _ k)
  obtain ⟨cl3, Ar3, q3, Sz3, Nn3, Hh3, Gg3⟩ := id A_qb
  have P4 : own_Go p e below S0 (T2.setTop (mkF m 6 #[.val (.ref q10n0_0)] [(.ref q10n0_0), (.int 0)])) := fun t k => P2 t (by
    show Steps p.tables e below (T2.setTop (mkF m 4 #[.val (.ref q10n0_0)] [(.ref qb)])) t
    refine X2.arraylength hx (by rw [e2]; exact Ar3.1) (State.isArrayOf_alike hZ.alike Ar3.2.1) (g := (mkF m 4 #[.val (.ref q10n0_0)] [(.ref qb)])) rfl rfl (hb hby d10_4) _ ?_
    rw [len_of Sz3 Nn3]
    refine XS.aloadN X2.here hx rfl (hb hby d10_5) rfl rfl ?_
    show Steps p.tables e below (T2.setTop (mkF m 6 #[.val (.ref q10n0_0)] [(.ref q10n0_0), (.int 0)])) t
    exact k)
  obtain ⟨cq5, kq5, q5a, q5b, q5c⟩ := isOf hZ e2 E_q10n0_0
  obtain ⟨_, _, ⟨T5, L5, k5, n5⟩, -, X5, ⟨Lc5, hQ5, l5, y5, z5⟩, st5⟩ := X2.virtualBack hx (y := (⟨"java/lang/String", "coder", "()B"⟩ : MethodName)) (z := (⟨"java/lang/String", "coder", "()B"⟩ : MethodName)) hown (mvT hZ (own_w hw 64 rfl)) (mvT hZ (own_w hw 65 rfl)) (notFace_of_selects (args := #[]) (mvT hZ (own_w hw 67 rfl))) (mvT hZ (own_w hw 67 rfl)) (mvT hZ (own_w hw 66 rfl)) (by decide) (backOf (W := 1) (rm11 l Z a0 hw [] q10n0_0 zc h0 n0 Z0 S_COMPACT_STRINGS hcs F_q10n0_0_coder) hZ (own_w hw 68 rfl) (own_w hw 7 rfl) (by decide) (by decide)) q5a q5c (g := (mkF m 6 #[.val (.ref q10n0_0)] [(.ref q10n0_0), (.int 0)])) rfl (by rw [hml]; rfl) (Steps.refl _) (argsL := []) (rest := [(.int 0)]) (lenOf pd_5 rfl) rfl (by show 2 * 0 + _ ≤ _; exact Nat.le_of_eq rfl) (hb hby d10_6) (fun _ _ => ⟨rfl, e2, (by decide : 0 + 0 ≤ _), (by decide : 0 + 0 ≤ _)⟩)
  dsimp only [Pt.U, Pt.locs, Pt.cells, Pt.slots] at X5 l5 y5 z5 st5 hQ5
  subst l5 y5 z5
  obtain ⟨rfl, N5q, e5⟩ := hQ5
  have N5 := Fr.app N0 N5q
  have P5 : own_Go p e below S0 (T5.setTop (mkF m 9 #[.val (.ref q10n0_0)] [(.int 0), (.int 0)])) := fun t k => P4 t (st5.trans k)
  have P6 : own_Go p e below S0 (T5.setTop (mkF m 10 #[.val (.ref q10n0_0)] [(.int 0)])) := fun t k => P5 t (by
    refine XS.ishr X5.here hx rfl (hb hby d10_9) rfl ?_
    show Steps p.tables e below (T5.setTop (mkF m 10 #[.val (.ref q10n0_0)] [(.int 0)])) t
    exact k)
  obtain ⟨fs, hr, hrun, hended, hW, hsame⟩ := X5.leave (v := some (.int 0)) (fun h => by rw [Bd.returns] at h; cases h) (BodyLoose.notSynchronized Bd)
  refine ⟨_, _, own_from hE0 (P6 _ ?_), hrun, hended, _, _, rfl, ?_, ⟨_, rfl⟩, hW, hsame.mono (by decide) (by decide)⟩
  · show Steps p.tables e below (T5.setTop (mkF m 10 #[.val (.ref q10n0_0)] [(.int 0)])) _
    exact retI X5 hx Bd.returns (hb hby d10_10) hr
  · show Q10n0 Z q10n0_0 qb kb zc h0 n0 _ T5.heap _
    rw [e5]
    exact ⟨rfl, N5, rfl⟩
theorem pd_6 : parseMethodDescriptor "(I)Z" = some ⟨[.int], some .boolean⟩ := by decide +kernel
theorem pd_7 : parseMethodDescriptor "(II)I" = some ⟨[.int, .int], some .int⟩ := by decide +kernel
theorem d12_0 : decode jdk_43_method_22_code 0 = .ok (.iload_n 1, 1) := by decide +kernel
theorem d12_1 : decode jdk_43_method_22_code 1 = .ok (.invokestatic 88, 3) := by decide +kernel
theorem d12_4 : decode jdk_43_method_22_code 4 = .ok (.ifCond .ne 5, 3) := by decide +kernel
theorem d12_9 : decode jdk_43_method_22_code 9 = .ok (.iload_n 2, 1) := by decide +kernel
theorem d12_10 : decode jdk_43_method_22_code 10 = .ok (.iconst 0, 1) := by decide +kernel
theorem d12_11 : decode jdk_43_method_22_code 11 = .ok (.invokestatic 92, 3) := by decide +kernel
theorem d12_14 : decode jdk_43_method_22_code 14 = .ok (.istore_n 2, 1) := by decide +kernel
theorem d12_15 : decode jdk_43_method_22_code 15 = .ok (.iload_n 3, 1) := by decide +kernel
theorem d12_16 : decode jdk_43_method_22_code 16 = .ok (.aload_n 0, 1) := by decide +kernel
theorem d12_17 : decode jdk_43_method_22_code 17 = .ok (.arraylength, 1) := by decide +kernel
theorem d12_18 : decode jdk_43_method_22_code 18 = .ok (.invokestatic 38, 3) := by decide +kernel
theorem d12_21 : decode jdk_43_method_22_code 21 = .ok (.istore_n 3, 1) := by decide +kernel
theorem d12_22 : decode jdk_43_method_22_code 22 = .ok (.iload_n 2, 1) := by decide +kernel
theorem d12_23 : decode jdk_43_method_22_code 23 = .ok (.iload_n 3, 1) := by decide +kernel
theorem d12_24 : decode jdk_43_method_22_code 24 = .ok (.if_icmp .lt 5, 3) := by decide +kernel
theorem d12_27 : decode jdk_43_method_22_code 27 = .ok (.iconst (-1), 1) := by decide +kernel
theorem d12_28 : decode jdk_43_method_22_code 28 = .ok (.ireturn, 1) := by decide +kernel
theorem ef_12n0c42 (m : MethodId) (qb : Addr) : entryFrame m #[(.ref qb), (.int 42), (.int 0), (.int 0)] 4 = mkF m 0 #[.val (.ref qb), .val (.int 42), .val (.int 0), .val (.int 0)] [] := by first | (simp [entryFrame, mkF, argsToLocals, Value.category]; done) | rfl
def Q12n0c42 (Z : State) (qb : Addr) (kb : ClassId) (h0 : Heap) (n0 : Nat) (v : Option Value) (h : Heap) (L : List Loc) : Prop := v = some (.int (-1)) ∧ Fr n0 L ∧ h = h0
set_option maxRecDepth 65536 in
set_option maxHeartbeats 40000000 in
theorem rm12n0c42 (l : Launch) (Z : State) (a0 : Array Value) (hw : ∀ d ∈ tables_1, d.before a0 Z = true) (ws : List Jvm.Cond) (qb : Addr) (kb : ClassId) (h0 : Heap) (n0 : Nat) (Z0 : n0 ≤ h0.size) (A_qb : Arv Z h0 qb kb .byte (0 : Int32) [] (.int 0)) :
    MetFree l (⟨"java/lang/StringLatin1", "indexOf", "([BIII)I"⟩ : MethodName) (head1 (Jvm.Cond.code (⟨"java/lang/StringLatin1", "indexOf", "([BIII)I"⟩ : MethodName) jdk_43_method_22_code 4 (some .int) :: ws) ({ frames := 1, cells := 0, slots := 0, locals := 13 } : Room)) (fun a U => a = #[(.ref qb), (.int 42), (.int 0), (.int 0)] ∧ Z.Warmed39 U.vm ∧ U.heap = h0) (fun _ _ _ _ _ => True) (fun _ U o U' => ∃ v L, o = .returned v ∧ Q12n0c42 Z qb kb h0 n0 v U'.heap L ∧ FrameEnd U o U' L ({ frames := 1, cells := 0, slots := 0, locals := 13 } : Room).cells ({ frames := 1, cells := 0, slots := 0, locals := 13 } : Room).slots) := by
  refine MetFree.of_bodySF (plainFor_of_name pn_13) hisR ?_
  intro p e s m args below meth c s₁ Bd hml0 hP hK
  obtain ⟨rfl, hZ, hh⟩ := hP
  have hx := Bd.exec
  have hby := Bd.bytes
  have hml : c.maxLocals = 4 := hml0
  have hown : s.vm.findClass "java/lang/StringLatin1" = some m.cls := findClass_of_methodNamed Bd.named
  have hnm := (name_of_methodNamed Bd.named Bd.method).1
  have X0 : Stand p l e ({ frames := 1, cells := 0, slots := 0, locals := 13 } : Room) s m #[(.ref qb), (.int 42), (.int 0), (.int 0)] below meth c s₁ [] 0 0 := Stand.of_body Bd
  have e0 : s₁.heap = h0 := by rw [← hh, Bd.state]; rfl
  have N0 := Fr.nil n0
  obtain ⟨S0, hE0⟩ : ∃ z, z = s₁.setTop (entryFrame m #[(.ref qb), (.int 42), (.int 0), (.int 0)] 4) := ⟨_, rfl⟩
  have P0 : own_Go p e below S0 (s₁.setTop (mkF m 0 #[.val (.ref qb), .val (.int 42), .val (.int 0), .val (.int 0)] [])) := fun t k => by rw [hE0]; exact castTop (ef_12n0c42 m qb) k
  have P1 : own_Go p e below S0 (s₁.setTop (mkF m 1 #[.val (.ref qb), .val (.int 42), .val (.int 0), .val (.int 0)] [(.int 42)])) := fun t k => P0 t (by
    refine XS.iloadN X0.here hx rfl (hb hby d12_0) rfl ?_
    show Steps p.tables e below (s₁.setTop (mkF m 1 #[.val (.ref qb), .val (.int 42), .val (.int 0), .val (.int 0)] [(.int 42)])) t
    exact k)
  obtain ⟨_, _, ⟨T2, L2, k2, n2⟩, -, X2, ⟨Lc2, hQ2, l2, y2, z2⟩, st2⟩ := Jvm.LawKit.callS X0 hx (y := (⟨"java/lang/StringLatin1", "canEncode", "(I)Z"⟩ : MethodName)) hown (mvT hZ (own_w hw 73 rfl)) (mvT hZ (own_w hw 74 rfl)) (mvT hZ (own_w hw 71 rfl)) (mvT hZ (own_w hw 75 rfl)) (by decide) (backOf (W := 0) (rm13c42 l Z a0 hw []  h0 n0 Z0) hZ (own_w hw 75 rfl) (own_w hw 71 rfl) (by decide) (by decide)) (g := (mkF m 1 #[.val (.ref qb), .val (.int 42), .val (.int 0), .val (.int 0)] [(.int 42)])) rfl (by rw [hml]; rfl) (argsL := [(.int 42)]) (rest := []) (lenOf pd_6 rfl) rfl (by show 2 * 0 + _ ≤ _; exact Nat.le_of_eq rfl) (hb hby d12_1) (fun _ _ => ⟨rfl, e0, (by decide : 0 + 0 ≤ _), (by decide : 0 + 0 ≤ _)⟩)
  dsimp only [Pt.U, Pt.locs, Pt.cells, Pt.slots] at X2 l2 y2 z2 st2 hQ2
  subst l2 y2 z2
  obtain ⟨rfl, N2q, e2⟩ := hQ2
  have N2 := Fr.app N0 N2q
  have P2 : own_Go p e below S0 (T2.setTop (mkF m 4 #[.val (.ref qb), .val (.int 42), .val (.int 0), .val (.int 0)] [(.int 1)])) := fun t k => P1 t (st2 _ k)
  have P3 : own_Go p e below S0 (T2.setTop (mkF m 11 #[.val (.ref qb), .val (.int 42), .val (.int 0), .val (.int 0)] [(.int 0), (.int 0)])) := fun t k => P2 t (by
    refine XS.ifYes X2.here hx rfl (pc0 := 4) (pc' := 9) rfl (hb hby d12_4) rfl ((if0 _ _).trans (feq (by decide)).2) (by decide) (by decide) ?_
    refine XS.iloadN X2.here hx rfl (hb hby d12_9) rfl ?_
    refine XS.iconst X2.here hx rfl (hb hby d12_10) ?_
    show Steps p.tables e below (T2.setTop (mkF m 11 #[.val (.ref qb), .val (.int 42), .val (.int 0), .val (.int 0)] [(.int 0), (.int 0)])) t
    exact k)
  obtain ⟨_, _, ⟨T4, L4, k4, n4⟩, -, X4, ⟨Lc4, hQ4, l4, y4, z4⟩, st4⟩ := Jvm.LawKit.callS X2 hx (y := (⟨"java/lang/Math", "max", "(II)I"⟩ : MethodName)) hown (mvT hZ (own_w hw 76 rfl)) (mvT hZ (own_w hw 77 rfl)) (mvT hZ (own_w hw 78 rfl)) (mvT hZ (own_w hw 79 rfl)) (by decide) (backOf (W := 0) (rm14 l Z a0 hw []  h0 n0 Z0) hZ (own_w hw 79 rfl) (own_w hw 78 rfl) (by decide) (by decide)) (g := (mkF m 11 #[.val (.ref qb), .val (.int 42), .val (.int 0), .val (.int 0)] [(.int 0), (.int 0)])) rfl (by rw [hml]; rfl) (argsL := [(.int 0), (.int 0)]) (rest := []) (lenOf pd_7 rfl) rfl (by show 2 * 0 + _ ≤ _; exact Nat.le_of_eq rfl) (hb hby d12_11) (fun _ _ => ⟨rfl, e2, (by decide : 0 + 0 ≤ _), (by decide : 0 + 0 ≤ _)⟩)
  dsimp only [Pt.U, Pt.locs, Pt.cells, Pt.slots] at X4 l4 y4 z4 st4 hQ4
  subst l4 y4 z4
  obtain ⟨rfl, N4q, e4⟩ := hQ4
  have N4 := Fr.app N2 N4q
  have P4 : own_Go p e below S0 (T4.setTop (mkF m 14 #[.val (.ref qb), .val (.int 42), .val (.int 0), .val (.int 0)] [(.int 0)])) := fun t k => P3 t (st4 _ k)
  obtain ⟨cl5, Ar5, q5, Sz5, Nn5, Hh5, Gg5⟩ := id A_qb
  have P6 : own_Go p e below S0 (T4.setTop (mkF m 18 #[.val (.ref qb), .val (.int 42), .val (.int 0), .val (.int 0)] [(.int 0), (.int 0)])) := fun t k => P4 t (by
    refine XS.istoreN X4.here hx rfl (hb hby d12_14) rfl (l' := #[.val (.ref qb), .val (.int 42), .val (.int 0), .val (.int 0)]) rfl ?_
    refine XS.iloadN X4.here hx rfl (hb hby d12_15) rfl ?_
    refine XS.aloadN X4.here hx rfl (hb hby d12_16) rfl rfl ?_
    show Steps p.tables e below (T4.setTop (mkF m 17 #[.val (.ref qb), .val (.int 42), .val (.int 0), .val (.int 0)] [(.ref qb), (.int 0)])) t
    refine X4.arraylength hx (by rw [e4]; exact Ar5.1) (State.isArrayOf_alike hZ.alike Ar5.2.1) (g := (mkF m 17 #[.val (.ref qb), .val (.int 42), .val (.int 0), .val (.int 0)] [(.ref qb), (.int 0)])) rfl rfl (hb hby d12_17) _ ?_
    rw [len_of Sz5 Nn5]
    show Steps p.tables e below (T4.setTop (mkF m 18 #[.val (.ref qb), .val (.int 42), .val (.int 0), .val (.int 0)] [(.int 0), (.int 0)])) t
    exact k)
  obtain ⟨_, _, ⟨T7, L7, k7, n7⟩, -, X7, ⟨Lc7, hQ7, l7, y7, z7⟩, st7⟩ := Jvm.LawKit.callS X4 hx (y := (⟨"java/lang/Math", "min", "(II)I"⟩ : MethodName)) hown (mvT hZ (own_w hw 80 rfl)) (mvT hZ (own_w hw 81 rfl)) (mvT hZ (own_w hw 78 rfl)) (mvT hZ (own_w hw 82 rfl)) (by decide) (backOf (W := 0) (rm15n0 l Z a0 hw []  h0 n0 Z0) hZ (own_w hw 82 rfl) (own_w hw 78 rfl) (by decide) (by decide)) (g := (mkF m 18 #[.val (.ref qb), .val (.int 42), .val (.int 0), .val (.int 0)] [(.int 0), (.int 0)])) rfl (by rw [hml]; rfl) (argsL := [(.int 0), (.int 0)]) (rest := []) (lenOf pd_7 rfl) rfl (by show 2 * 0 + _ ≤ _; exact Nat.le_of_eq rfl) (hb hby d12_18) (fun _ _ => ⟨rfl, e4, (by decide : 0 + 0 ≤ _), (by decide : 0 + 0 ≤ _)⟩)
  dsimp only [Pt.U, Pt.locs, Pt.cells, Pt.slots] at X7 l7 y7 z7 st7 hQ7
  subst l7 y7 z7
  obtain ⟨rfl, N7q, e7⟩ := hQ7
  have N7 := Fr.app N4 N7q
  have P7 : own_Go p e below S0 (T7.setTop (mkF m 21 #[.val (.ref qb), .val (.int 42), .val (.int 0), .val (.int 0)] [(.int 0)])) := fun t k => P6 t (st7 _ k)
  have P8 : own_Go p e below S0 (T7.setTop (mkF m 28 #[.val (.ref qb), .val (.int 42), .val (.int 0), .val (.int 0)] [(.int (-1))])) := fun t k => P7 t (by
    refine XS.istoreN X7.here hx rfl (hb hby d12_21) rfl (l' := #[.val (.ref qb), .val (.int 42), .val (.int 0), .val (.int 0)]) rfl ?_
    refine XS.iloadN X7.here hx rfl (hb hby d12_22) rfl ?_
    refine XS.iloadN X7.here hx rfl (hb hby d12_23) rfl ?_
    refine XS.icmpNo X7.here hx rfl (hb hby d12_24) rfl (flt (by decide)).1 ?_
    refine XS.iconst X7.here hx rfl (hb hby d12_27) ?_
    show Steps p.tables e below (T7.setTop (mkF m 28 #[.val (.ref qb), .val (.int 42), .val (.int 0), .val (.int 0)] [(.int (-1))])) t
    exact k)
  obtain ⟨fs, hr, hrun, hended, hW, hsame⟩ := X7.leave (v := some (.int (-1))) (fun h => by rw [Bd.returns] at h; cases h) (BodyLoose.notSynchronized Bd)
  refine ⟨_, _, own_from hE0 (P8 _ ?_), hrun, hended, _, _, rfl, ?_, ⟨_, rfl⟩, hW, hsame.mono (by decide) (by decide)⟩
  · show Steps p.tables e below (T7.setTop (mkF m 28 #[.val (.ref qb), .val (.int 42), .val (.int 0), .val (.int 0)] [(.int (-1))])) _
    exact retI X7 hx Bd.returns (hb hby d12_28) hr
  · show Q12n0c42 Z qb kb h0 n0 _ T7.heap _
    rw [e7]
    exact ⟨rfl, N7, rfl⟩
theorem pd_8 : parseMethodDescriptor "()Z" = some ⟨[], some .boolean⟩ := by decide +kernel
theorem pd_9 : parseMethodDescriptor "()I" = some ⟨[], some .int⟩ := by decide +kernel
theorem pd_10 : parseMethodDescriptor "([BIII)I" = some ⟨[(.array .byte), .int, .int, .int], some .int⟩ := by decide +kernel
theorem d8_0 : decode jdk_42_method_80_code 0 = .ok (.aload_n 0, 1) := by decide +kernel
theorem d8_1 : decode jdk_42_method_80_code 1 = .ok (.invokevirtual 492, 3) := by decide +kernel
theorem d8_4 : decode jdk_42_method_80_code 4 = .ok (.ifCond .eq 19, 3) := by decide +kernel
theorem d8_7 : decode jdk_42_method_80_code 7 = .ok (.aload_n 0, 1) := by decide +kernel
theorem d8_8 : decode jdk_42_method_80_code 8 = .ok (.getfield 9, 3) := by decide +kernel
theorem d8_11 : decode jdk_42_method_80_code 11 = .ok (.iload_n 1, 1) := by decide +kernel
theorem d8_12 : decode jdk_42_method_80_code 12 = .ok (.iload_n 2, 1) := by decide +kernel
theorem d8_13 : decode jdk_42_method_80_code 13 = .ok (.aload_n 0, 1) := by decide +kernel
theorem d8_14 : decode jdk_42_method_80_code 14 = .ok (.invokevirtual 505, 3) := by decide +kernel
theorem d8_17 : decode jdk_42_method_80_code 17 = .ok (.invokestatic 637, 3) := by decide +kernel
theorem d8_20 : decode jdk_42_method_80_code 20 = .ok (.goto 16, 3) := by decide +kernel
theorem d8_36 : decode jdk_42_method_80_code 36 = .ok (.ireturn, 1) := by decide +kernel
theorem ef_8n0c42 (m : MethodId) (q8n0c42_0 : Addr) : entryFrame m #[(.ref q8n0c42_0), (.int 42), (.int 0)] 3 = mkF m 0 #[.val (.ref q8n0c42_0), .val (.int 42), .val (.int 0)] [] := by first | (simp [entryFrame, mkF, argsToLocals, Value.category]; done) | rfl
def Q8n0c42 (Z : State) (q8n0c42_0 : Addr) (qb : Addr) (kb : ClassId) (zc : Int32) (h0 : Heap) (n0 : Nat) (v : Option Value) (h : Heap) (L : List Loc) : Prop := v = some (.int (-1)) ∧ Fr n0 L ∧ h = h0
set_option maxRecDepth 65536 in
set_option maxHeartbeats 40000000 in
theorem rm8n0c42 (l : Launch) (Z : State) (a0 : Array Value) (hw : ∀ d ∈ tables_1, d.before a0 Z = true) (ws : List Jvm.Cond) (q8n0c42_0 : Addr) (qb : Addr) (kb : ClassId) (zc : Int32) (h0 : Heap) (n0 : Nat) (Z0 : n0 ≤ h0.size) (F_q8n0c42_0_value : Fld Z h0 q8n0c42_0 "java/lang/String" "value" "[B" (.ref qb)) (A_qb : Arv Z h0 qb kb .byte (0 : Int32) [] (.int 0)) (S_COMPACT_STRINGS : Sta Z h0 "java/lang/String" "COMPACT_STRINGS" "Z" (.int zc)) (hcs : ¬ (zc = (0 : Int32))) (F_q8n0c42_0_coder : Fld Z h0 q8n0c42_0 "java/lang/String" "coder" "B" (.int 0)) (E_q8n0c42_0 : Exa Z h0 q8n0c42_0 "java/lang/String") :
    MetFree l (⟨"java/lang/String", "indexOf", "(II)I"⟩ : MethodName) (head1 (Jvm.Cond.code (⟨"java/lang/String", "indexOf", "(II)I"⟩ : MethodName) jdk_42_method_80_code 3 (some .int) :: ws) ({ frames := 2, cells := 0, slots := 0, locals := 28 } : Room)) (fun a U => a = #[(.ref q8n0c42_0), (.int 42), (.int 0)] ∧ Z.Warmed39 U.vm ∧ U.heap = h0) (fun _ _ _ _ _ => True) (fun _ U o U' => ∃ v L, o = .returned v ∧ Q8n0c42 Z q8n0c42_0 qb kb zc h0 n0 v U'.heap L ∧ FrameEnd U o U' L ({ frames := 2, cells := 0, slots := 0, locals := 28 } : Room).cells ({ frames := 2, cells := 0, slots := 0, locals := 28 } : Room).slots) := by
  refine MetFree.of_bodySF (plainFor_of_name pn_2) hisR ?_
  intro p e s m args below meth c s₁ Bd hml0 hP hK
  obtain ⟨rfl, hZ, hh⟩ := hP
  have hx := Bd.exec
  have hby := Bd.bytes
  have hml : c.maxLocals = 3 := hml0
  have hown : s.vm.findClass "java/lang/String" = some m.cls := findClass_of_methodNamed Bd.named
  have hnm := (name_of_methodNamed Bd.named Bd.method).1
  have X0 : Stand p l e ({ frames := 2, cells := 0, slots := 0, locals := 28 } : Room) s m #[(.ref q8n0c42_0), (.int 42), (.int 0)] below meth c s₁ [] 0 0 := Stand.of_body Bd
  have e0 : s₁.heap = h0 := by rw [← hh, Bd.state]; rfl
  have N0 := Fr.nil n0
  obtain ⟨S0, hE0⟩ : ∃ z, z = s₁.setTop (entryFrame m #[(.ref q8n0c42_0), (.int 42), (.int 0)] 3) := ⟨_, rfl⟩
  have P0 : own_Go p e below S0 (s₁.setTop (mkF m 0 #[.val (.ref q8n0c42_0), .val (.int 42), .val (.int 0)] [])) := fun t k => by rw [hE0]; exact castTop (ef_8n0c42 m q8n0c42_0) k
  have P1 : own_Go p e below S0 (s₁.setTop (mkF m 1 #[.val (.ref q8n0c42_0), .val (.int 42), .val (.int 0)] [(.ref q8n0c42_0)])) := fun t k => P0 t (by
    refine XS.aloadN X0.here hx rfl (hb hby d8_0) rfl rfl ?_
    show Steps p.tables e below (s₁.setTop (mkF m 1 #[.val (.ref q8n0c42_0), .val (.int 42), .val (.int 0)] [(.ref q8n0c42_0)])) t
    exact k)
  obtain ⟨cq2, kq2, q2a, q2b, q2c⟩ := isOf hZ e0 E_q8n0c42_0
  obtain ⟨_, _, ⟨T2, L2, k2, n2⟩, -, X2, ⟨Lc2, hQ2, l2, y2, z2⟩, st2⟩ := X0.virtualBack hx (y := (⟨"java/lang/String", "isLatin1", "()Z"⟩ : MethodName)) (z := (⟨"java/lang/String", "isLatin1", "()Z"⟩ : MethodName)) hown (mvT hZ (own_w hw 53 rfl)) (mvT hZ (own_w hw 54 rfl)) (notFace_of_selects (args := #[]) (mvT hZ (own_w hw 56 rfl))) (mvT hZ (own_w hw 56 rfl)) (mvT hZ (own_w hw 55 rfl)) (by decide) (backOf (W := 0) (rm9 l Z a0 hw [] q8n0c42_0 zc h0 n0 Z0 S_COMPACT_STRINGS hcs F_q8n0c42_0_coder) hZ (own_w hw 57 rfl) (own_w hw 7 rfl) (by decide) (by decide)) q2a q2c (g := (mkF m 1 #[.val (.ref q8n0c42_0), .val (.int 42), .val (.int 0)] [(.ref q8n0c42_0)])) rfl (by rw [hml]; rfl) (Steps.refl _) (argsL := []) (rest := []) (lenOf pd_8 rfl) rfl (by show 2 * 0 + _ ≤ _; exact Nat.le_of_eq rfl) (hb hby d8_1) (fun _ _ => ⟨rfl, e0, (by decide : 0 + 0 ≤ _), (by decide : 0 + 0 ≤ _)⟩)
  dsimp only [Pt.U, Pt.locs, Pt.cells, Pt.slots] at X2 l2 y2 z2 st2 hQ2
  subst l2 y2 z2
  obtain ⟨rfl, N2q, e2⟩ := hQ2
  have N2 := Fr.app N0 N2q
  have P2 : own_Go p e below S0 (T2.setTop (mkF m 4 #[.val (.ref q8n0c42_0), .val (.int 42), .val (.int 0)] [(.int 1)])) := fun t k => P1 t (st2.trans k)
  have P3 : own_Go p e below S0 (T2.setTop (mkF m 8 #[.val (.ref q8n0c42_0), .val (.int 42), .val (.int 0)] [(.ref q8n0c42_0)])) := fun t k => P2 t (by
    refine XS.ifNo X2.here hx rfl (hb hby d8_4) rfl ((if0 _ _).trans (feq (by decide)).1) ?_
    refine XS.aloadN X2.here hx rfl (hb hby d8_7) rfl rfl ?_
    show Steps p.tables e below (T2.setTop (mkF m 8 #[.val (.ref q8n0c42_0), .val (.int 42), .val (.int 0)] [(.ref q8n0c42_0)])) t
    exact k)
  obtain ⟨T4, X4, e4, st4⟩ := getF X2 hx hZ hown (host := "") (Or.inl (own_w hw 24 rfl)) Via.refl e2 F_q8n0c42_0_value (g := (mkF m 8 #[.val (.ref q8n0c42_0), .val (.int 42), .val (.int 0)] [(.ref q8n0c42_0)])) rfl rfl (hb hby d8_8)
  have P4 : own_Go p e below S0 (T4.setTop (mkF m 11 #[.val (.ref q8n0c42_0), .val (.int 42), .val (.int 0)] [(.ref qb)])) := fun t k => P3 t (st4 _ k)
  have P5 : own_Go p e below S0 (T4.setTop (mkF m 14 #[.val (.ref q8n0c42_0), .val (.int 42), .val (.int 0)] [(.ref q8n0c42_0), (.int 0), (.int 42), (.ref qb)])) := fun t k => P4 t (by
    refine XS.iloadN X4.here hx rfl (hb hby d8_11) rfl ?_
    refine XS.iloadN X4.here hx rfl (hb hby d8_12) rfl ?_
    refine XS.aloadN X4.here hx rfl (hb hby d8_13) rfl rfl ?_
    show Steps p.tables e below (T4.setTop (mkF m 14 #[.val (.ref q8n0c42_0), .val (.int 42), .val (.int 0)] [(.ref q8n0c42_0), (.int 0), (.int 42), (.ref qb)])) t
    exact k)
  obtain ⟨cq6, kq6, q6a, q6b, q6c⟩ := isOf hZ e4 E_q8n0c42_0
  obtain ⟨_, _, ⟨T6, L6, k6, n6⟩, -, X6, ⟨Lc6, hQ6, l6, y6, z6⟩, st6⟩ := X4.virtualBack hx (y := (⟨"java/lang/String", "length", "()I"⟩ : MethodName)) (z := (⟨"java/lang/String", "length", "()I"⟩ : MethodName)) hown (mvT hZ (own_w hw 59 rfl)) (mvT hZ (own_w hw 60 rfl)) (notFace_of_selects (args := #[]) (mvT hZ (own_w hw 62 rfl))) (mvT hZ (own_w hw 62 rfl)) (mvT hZ (own_w hw 61 rfl)) (by decide) (backOf (W := 3) (rm10n0 l Z a0 hw [] q8n0c42_0 qb kb zc h0 n0 Z0 F_q8n0c42_0_value A_qb S_COMPACT_STRINGS hcs F_q8n0c42_0_coder E_q8n0c42_0) hZ (own_w hw 63 rfl) (own_w hw 7 rfl) (by decide) (by decide)) q6a q6c (g := (mkF m 14 #[.val (.ref q8n0c42_0), .val (.int 42), .val (.int 0)] [(.ref q8n0c42_0), (.int 0), (.int 42), (.ref qb)])) rfl (by rw [hml]; rfl) (Steps.refl _) (argsL := []) (rest := [(.int 0), (.int 42), (.ref qb)]) (lenOf pd_9 rfl) rfl (by show 2 * 0 + _ ≤ _; exact Nat.le_of_eq rfl) (hb hby d8_14) (fun _ _ => ⟨rfl, e4, (by decide : 0 + 0 ≤ _), (by decide : 0 + 0 ≤ _)⟩)
  dsimp only [Pt.U, Pt.locs, Pt.cells, Pt.slots] at X6 l6 y6 z6 st6 hQ6
  subst l6 y6 z6
  obtain ⟨rfl, N6q, e6⟩ := hQ6
  have N6 := Fr.app N2 N6q
  have P6 : own_Go p e below S0 (T6.setTop (mkF m 17 #[.val (.ref q8n0c42_0), .val (.int 42), .val (.int 0)] [(.int 0), (.int 0), (.int 42), (.ref qb)])) := fun t k => P5 t (st6.trans k)
  obtain ⟨_, _, ⟨T7, L7, k7, n7⟩, -, X7, ⟨Lc7, hQ7, l7, y7, z7⟩, st7⟩ := Jvm.LawKit.callS X6 hx (y := (⟨"java/lang/StringLatin1", "indexOf", "([BIII)I"⟩ : MethodName)) hown (mvT hZ (own_w hw 69 rfl)) (mvT hZ (own_w hw 70 rfl)) (mvT hZ (own_w hw 71 rfl)) (mvT hZ (own_w hw 72 rfl)) (by decide) (backOf (W := 0) (rm12n0c42 l Z a0 hw [] qb kb h0 n0 Z0 A_qb) hZ (own_w hw 72 rfl) (own_w hw 71 rfl) (by decide) (by decide)) (g := (mkF m 17 #[.val (.ref q8n0c42_0), .val (.int 42), .val (.int 0)] [(.int 0), (.int 0), (.int 42), (.ref qb)])) rfl (by rw [hml]; rfl) (argsL := [(.ref qb), (.int 42), (.int 0), (.int 0)]) (rest := []) (lenOf pd_10 rfl) rfl (by show 2 * 0 + _ ≤ _; exact Nat.le_of_eq rfl) (hb hby d8_17) (fun _ _ => ⟨rfl, e6, (by decide : 0 + 0 ≤ _), (by decide : 0 + 0 ≤ _)⟩)
  dsimp only [Pt.U, Pt.locs, Pt.cells, Pt.slots] at X7 l7 y7 z7 st7 hQ7
  subst l7 y7 z7
  obtain ⟨rfl, N7q, e7⟩ := hQ7
  have N7 := Fr.app N6 N7q
  have P7 : own_Go p e below S0 (T7.setTop (mkF m 20 #[.val (.ref q8n0c42_0), .val (.int 42), .val (.int 0)] [(.int (-1))])) := fun t k => P6 t (st7 _ k)
  have P8 : own_Go p e below S0 (T7.setTop (mkF m 36 #[.val (.ref q8n0c42_0), .val (.int 42), .val (.int 0)] [(.int (-1))])) := fun t k => P7 t (by
    refine XS.goto X7.here hx rfl (pc0 := 20) (pc' := 36) rfl (hb hby d8_20) (by decide) (by decide) ?_
    show Steps p.tables e below (T7.setTop (mkF m 36 #[.val (.ref q8n0c42_0), .val (.int 42), .val (.int 0)] [(.int (-1))])) t
    exact k)
  obtain ⟨fs, hr, hrun, hended, hW, hsame⟩ := X7.leave (v := some (.int (-1))) (fun h => by rw [Bd.returns] at h; cases h) (BodyLoose.notSynchronized Bd)
  refine ⟨_, _, own_from hE0 (P8 _ ?_), hrun, hended, _, _, rfl, ?_, ⟨_, rfl⟩, hW, hsame.mono (by decide) (by decide)⟩
  · show Steps p.tables e below (T7.setTop (mkF m 36 #[.val (.ref q8n0c42_0), .val (.int 42), .val (.int 0)] [(.int (-1))])) _
    exact retI X7 hx Bd.returns (hb hby d8_36) hr
  · show Q8n0c42 Z q8n0c42_0 qb kb zc h0 n0 _ T7.heap _
    rw [e7]
    exact ⟨rfl, N7, rfl⟩
theorem d7_0 : decode jdk_42_method_79_code 0 = .ok (.aload_n 0, 1) := by decide +kernel
theorem d7_1 : decode jdk_42_method_79_code 1 = .ok (.iload_n 1, 1) := by decide +kernel
theorem d7_2 : decode jdk_42_method_79_code 2 = .ok (.iconst 0, 1) := by decide +kernel
theorem d7_3 : decode jdk_42_method_79_code 3 = .ok (.invokevirtual 633, 3) := by decide +kernel
theorem d7_6 : decode jdk_42_method_79_code 6 = .ok (.ireturn, 1) := by decide +kernel
theorem ef_7n0c42 (m : MethodId) (q7n0c42_0 : Addr) : entryFrame m #[(.ref q7n0c42_0), (.int 42)] 2 = mkF m 0 #[.val (.ref q7n0c42_0), .val (.int 42)] [] := by first | (simp [entryFrame, mkF, argsToLocals, Value.category]; done) | rfl
def Q7n0c42 (Z : State) (q7n0c42_0 : Addr) (qb : Addr) (kb : ClassId) (zc : Int32) (h0 : Heap) (n0 : Nat) (v : Option Value) (h : Heap) (L : List Loc) : Prop := v = some (.int (-1)) ∧ Fr n0 L ∧ h = h0
set_option maxRecDepth 65536 in
set_option maxHeartbeats 40000000 in
theorem rm7n0c42 (l : Launch) (Z : State) (a0 : Array Value) (hw : ∀ d ∈ tables_1, d.before a0 Z = true) (ws : List Jvm.Cond) (q7n0c42_0 : Addr) (qb : Addr) (kb : ClassId) (zc : Int32) (h0 : Heap) (n0 : Nat) (Z0 : n0 ≤ h0.size) (F_q7n0c42_0_value : Fld Z h0 q7n0c42_0 "java/lang/String" "value" "[B" (.ref qb)) (A_qb : Arv Z h0 qb kb .byte (0 : Int32) [] (.int 0)) (S_COMPACT_STRINGS : Sta Z h0 "java/lang/String" "COMPACT_STRINGS" "Z" (.int zc)) (hcs : ¬ (zc = (0 : Int32))) (F_q7n0c42_0_coder : Fld Z h0 q7n0c42_0 "java/lang/String" "coder" "B" (.int 0)) (E_q7n0c42_0 : Exa Z h0 q7n0c42_0 "java/lang/String") :
    MetFree l (⟨"java/lang/String", "indexOf", "(I)I"⟩ : MethodName) (head1 (Jvm.Cond.code (⟨"java/lang/String", "indexOf", "(I)I"⟩ : MethodName) jdk_42_method_79_code 2 (some .int) :: ws) ({ frames := 3, cells := 0, slots := 0, locals := 42 } : Room)) (fun a U => a = #[(.ref q7n0c42_0), (.int 42)] ∧ Z.Warmed39 U.vm ∧ U.heap = h0) (fun _ _ _ _ _ => True) (fun _ U o U' => ∃ v L, o = .returned v ∧ Q7n0c42 Z q7n0c42_0 qb kb zc h0 n0 v U'.heap L ∧ FrameEnd U o U' L ({ frames := 3, cells := 0, slots := 0, locals := 42 } : Room).cells ({ frames := 3, cells := 0, slots := 0, locals := 42 } : Room).slots) := by
  refine MetFree.of_bodySF (plainFor_of_name pn_2) hisR ?_
  intro p e s m args below meth c s₁ Bd hml0 hP hK
  obtain ⟨rfl, hZ, hh⟩ := hP
  have hx := Bd.exec
  have hby := Bd.bytes
  have hml : c.maxLocals = 2 := hml0
  have hown : s.vm.findClass "java/lang/String" = some m.cls := findClass_of_methodNamed Bd.named
  have hnm := (name_of_methodNamed Bd.named Bd.method).1
  have X0 : Stand p l e ({ frames := 3, cells := 0, slots := 0, locals := 42 } : Room) s m #[(.ref q7n0c42_0), (.int 42)] below meth c s₁ [] 0 0 := Stand.of_body Bd
  have e0 : s₁.heap = h0 := by rw [← hh, Bd.state]; rfl
  have N0 := Fr.nil n0
  obtain ⟨S0, hE0⟩ : ∃ z, z = s₁.setTop (entryFrame m #[(.ref q7n0c42_0), (.int 42)] 2) := ⟨_, rfl⟩
  have P0 : own_Go p e below S0 (s₁.setTop (mkF m 0 #[.val (.ref q7n0c42_0), .val (.int 42)] [])) := fun t k => by rw [hE0]; exact castTop (ef_7n0c42 m q7n0c42_0) k
  have P1 : own_Go p e below S0 (s₁.setTop (mkF m 3 #[.val (.ref q7n0c42_0), .val (.int 42)] [(.int 0), (.int 42), (.ref q7n0c42_0)])) := fun t k => P0 t (by
    refine XS.aloadN X0.here hx rfl (hb hby d7_0) rfl rfl ?_
    refine XS.iloadN X0.here hx rfl (hb hby d7_1) rfl ?_
    refine XS.iconst X0.here hx rfl (hb hby d7_2) ?_
    show Steps p.tables e below (s₁.setTop (mkF m 3 #[.val (.ref q7n0c42_0), .val (.int 42)] [(.int 0), (.int 42), (.ref q7n0c42_0)])) t
    exact k)
  obtain ⟨cq2, kq2, q2a, q2b, q2c⟩ := isOf hZ e0 E_q7n0c42_0
  obtain ⟨_, _, ⟨T2, L2, k2, n2⟩, -, X2, ⟨Lc2, hQ2, l2, y2, z2⟩, st2⟩ := X0.virtualBack hx (y := (⟨"java/lang/String", "indexOf", "(II)I"⟩ : MethodName)) (z := (⟨"java/lang/String", "indexOf", "(II)I"⟩ : MethodName)) hown (mvT hZ (own_w hw 48 rfl)) (mvT hZ (own_w hw 49 rfl)) (notFace_of_selects (args := #[]) (mvT hZ (own_w hw 51 rfl))) (mvT hZ (own_w hw 51 rfl)) (mvT hZ (own_w hw 50 rfl)) (by decide) (backOf (W := 0) (rm8n0c42 l Z a0 hw [] q7n0c42_0 qb kb zc h0 n0 Z0 F_q7n0c42_0_value A_qb S_COMPACT_STRINGS hcs F_q7n0c42_0_coder E_q7n0c42_0) hZ (own_w hw 52 rfl) (own_w hw 7 rfl) (by decide) (by decide)) q2a q2c (g := (mkF m 3 #[.val (.ref q7n0c42_0), .val (.int 42)] [(.int 0), (.int 42), (.ref q7n0c42_0)])) rfl (by rw [hml]; rfl) (Steps.refl _) (argsL := [(.int 42), (.int 0)]) (rest := []) (lenOf pd_7 rfl) rfl (by show 2 * 0 + _ ≤ _; exact Nat.le_of_eq rfl) (hb hby d7_3) (fun _ _ => ⟨rfl, e0, (by decide : 0 + 0 ≤ _), (by decide : 0 + 0 ≤ _)⟩)
  dsimp only [Pt.U, Pt.locs, Pt.cells, Pt.slots] at X2 l2 y2 z2 st2 hQ2
  subst l2 y2 z2
  obtain ⟨rfl, N2q, e2⟩ := hQ2
  have N2 := Fr.app N0 N2q
  have P2 : own_Go p e below S0 (T2.setTop (mkF m 6 #[.val (.ref q7n0c42_0), .val (.int 42)] [(.int (-1))])) := fun t k => P1 t (st2.trans k)
  obtain ⟨fs, hr, hrun, hended, hW, hsame⟩ := X2.leave (v := some (.int (-1))) (fun h => by rw [Bd.returns] at h; cases h) (BodyLoose.notSynchronized Bd)
  refine ⟨_, _, own_from hE0 (P2 _ ?_), hrun, hended, _, _, rfl, ?_, ⟨_, rfl⟩, hW, hsame.mono (by decide) (by decide)⟩
  · show Steps p.tables e below (T2.setTop (mkF m 6 #[.val (.ref q7n0c42_0), .val (.int 42)] [(.int (-1))])) _
    exact retI X2 hx Bd.returns (hb hby d7_6) hr
  · show Q7n0c42 Z q7n0c42_0 qb kb zc h0 n0 _ T2.heap _
    rw [e2]
    exact ⟨rfl, N2, rfl⟩
theorem ef_12n0c63 (m : MethodId) (qb : Addr) : entryFrame m #[(.ref qb), (.int 63), (.int 0), (.int 0)] 4 = mkF m 0 #[.val (.ref qb), .val (.int 63), .val (.int 0), .val (.int 0)] [] := by first | (simp [entryFrame, mkF, argsToLocals, Value.category]; done) | rfl
def Q12n0c63 (Z : State) (qb : Addr) (kb : ClassId) (h0 : Heap) (n0 : Nat) (v : Option Value) (h : Heap) (L : List Loc) : Prop := v = some (.int (-1)) ∧ Fr n0 L ∧ h = h0
set_option maxRecDepth 65536 in
set_option maxHeartbeats 40000000 in
theorem rm12n0c63 (l : Launch) (Z : State) (a0 : Array Value) (hw : ∀ d ∈ tables_1, d.before a0 Z = true) (ws : List Jvm.Cond) (qb : Addr) (kb : ClassId) (h0 : Heap) (n0 : Nat) (Z0 : n0 ≤ h0.size) (A_qb : Arv Z h0 qb kb .byte (0 : Int32) [] (.int 0)) :
    MetFree l (⟨"java/lang/StringLatin1", "indexOf", "([BIII)I"⟩ : MethodName) (head1 (Jvm.Cond.code (⟨"java/lang/StringLatin1", "indexOf", "([BIII)I"⟩ : MethodName) jdk_43_method_22_code 4 (some .int) :: ws) ({ frames := 1, cells := 0, slots := 0, locals := 13 } : Room)) (fun a U => a = #[(.ref qb), (.int 63), (.int 0), (.int 0)] ∧ Z.Warmed39 U.vm ∧ U.heap = h0) (fun _ _ _ _ _ => True) (fun _ U o U' => ∃ v L, o = .returned v ∧ Q12n0c63 Z qb kb h0 n0 v U'.heap L ∧ FrameEnd U o U' L ({ frames := 1, cells := 0, slots := 0, locals := 13 } : Room).cells ({ frames := 1, cells := 0, slots := 0, locals := 13 } : Room).slots) := by
  refine MetFree.of_bodySF (plainFor_of_name pn_13) hisR ?_
  intro p e s m args below meth c s₁ Bd hml0 hP hK
  obtain ⟨rfl, hZ, hh⟩ := hP
  have hx := Bd.exec
  have hby := Bd.bytes
  have hml : c.maxLocals = 4 := hml0
  have hown : s.vm.findClass "java/lang/StringLatin1" = some m.cls := findClass_of_methodNamed Bd.named
  have hnm := (name_of_methodNamed Bd.named Bd.method).1
  have X0 : Stand p l e ({ frames := 1, cells := 0, slots := 0, locals := 13 } : Room) s m #[(.ref qb), (.int 63), (.int 0), (.int 0)] below meth c s₁ [] 0 0 := Stand.of_body Bd
  have e0 : s₁.heap = h0 := by rw [← hh, Bd.state]; rfl
  have N0 := Fr.nil n0
  obtain ⟨S0, hE0⟩ : ∃ z, z = s₁.setTop (entryFrame m #[(.ref qb), (.int 63), (.int 0), (.int 0)] 4) := ⟨_, rfl⟩
  have P0 : own_Go p e below S0 (s₁.setTop (mkF m 0 #[.val (.ref qb), .val (.int 63), .val (.int 0), .val (.int 0)] [])) := fun t k => by rw [hE0]; exact castTop (ef_12n0c63 m qb) k
  have P1 : own_Go p e below S0 (s₁.setTop (mkF m 1 #[.val (.ref qb), .val (.int 63), .val (.int 0), .val (.int 0)] [(.int 63)])) := fun t k => P0 t (by
    refine XS.iloadN X0.here hx rfl (hb hby d12_0) rfl ?_
    show Steps p.tables e below (s₁.setTop (mkF m 1 #[.val (.ref qb), .val (.int 63), .val (.int 0), .val (.int 0)] [(.int 63)])) t
    exact k)
  obtain ⟨_, _, ⟨T2, L2, k2, n2⟩, -, X2, ⟨Lc2, hQ2, l2, y2, z2⟩, st2⟩ := Jvm.LawKit.callS X0 hx (y := (⟨"java/lang/StringLatin1", "canEncode", "(I)Z"⟩ : MethodName)) hown (mvT hZ (own_w hw 73 rfl)) (mvT hZ (own_w hw 74 rfl)) (mvT hZ (own_w hw 71 rfl)) (mvT hZ (own_w hw 75 rfl)) (by decide) (backOf (W := 0) (rm13c63 l Z a0 hw []  h0 n0 Z0) hZ (own_w hw 75 rfl) (own_w hw 71 rfl) (by decide) (by decide)) (g := (mkF m 1 #[.val (.ref qb), .val (.int 63), .val (.int 0), .val (.int 0)] [(.int 63)])) rfl (by rw [hml]; rfl) (argsL := [(.int 63)]) (rest := []) (lenOf pd_6 rfl) rfl (by show 2 * 0 + _ ≤ _; exact Nat.le_of_eq rfl) (hb hby d12_1) (fun _ _ => ⟨rfl, e0, (by decide : 0 + 0 ≤ _), (by decide : 0 + 0 ≤ _)⟩)
  dsimp only [Pt.U, Pt.locs, Pt.cells, Pt.slots] at X2 l2 y2 z2 st2 hQ2
  subst l2 y2 z2
  obtain ⟨rfl, N2q, e2⟩ := hQ2
  have N2 := Fr.app N0 N2q
  have P2 : own_Go p e below S0 (T2.setTop (mkF m 4 #[.val (.ref qb), .val (.int 63), .val (.int 0), .val (.int 0)] [(.int 1)])) := fun t k => P1 t (st2 _ k)
  have P3 : own_Go p e below S0 (T2.setTop (mkF m 11 #[.val (.ref qb), .val (.int 63), .val (.int 0), .val (.int 0)] [(.int 0), (.int 0)])) := fun t k => P2 t (by
    refine XS.ifYes X2.here hx rfl (pc0 := 4) (pc' := 9) rfl (hb hby d12_4) rfl ((if0 _ _).trans (feq (by decide)).2) (by decide) (by decide) ?_
    refine XS.iloadN X2.here hx rfl (hb hby d12_9) rfl ?_
    refine XS.iconst X2.here hx rfl (hb hby d12_10) ?_
    show Steps p.tables e below (T2.setTop (mkF m 11 #[.val (.ref qb), .val (.int 63), .val (.int 0), .val (.int 0)] [(.int 0), (.int 0)])) t
    exact k)
  obtain ⟨_, _, ⟨T4, L4, k4, n4⟩, -, X4, ⟨Lc4, hQ4, l4, y4, z4⟩, st4⟩ := Jvm.LawKit.callS X2 hx (y := (⟨"java/lang/Math", "max", "(II)I"⟩ : MethodName)) hown (mvT hZ (own_w hw 76 rfl)) (mvT hZ (own_w hw 77 rfl)) (mvT hZ (own_w hw 78 rfl)) (mvT hZ (own_w hw 79 rfl)) (by decide) (backOf (W := 0) (rm14 l Z a0 hw []  h0 n0 Z0) hZ (own_w hw 79 rfl) (own_w hw 78 rfl) (by decide) (by decide)) (g := (mkF m 11 #[.val (.ref qb), .val (.int 63), .val (.int 0), .val (.int 0)] [(.int 0), (.int 0)])) rfl (by rw [hml]; rfl) (argsL := [(.int 0), (.int 0)]) (rest := []) (lenOf pd_7 rfl) rfl (by show 2 * 0 + _ ≤ _; exact Nat.le_of_eq rfl) (hb hby d12_11) (fun _ _ => ⟨rfl, e2, (by decide : 0 + 0 ≤ _), (by decide : 0 + 0 ≤ _)⟩)
  dsimp only [Pt.U, Pt.locs, Pt.cells, Pt.slots] at X4 l4 y4 z4 st4 hQ4
  subst l4 y4 z4
  obtain ⟨rfl, N4q, e4⟩ := hQ4
  have N4 := Fr.app N2 N4q
  have P4 : own_Go p e below S0 (T4.setTop (mkF m 14 #[.val (.ref qb), .val (.int 63), .val (.int 0), .val (.int 0)] [(.int 0)])) := fun t k => P3 t (st4 _ k)
  obtain ⟨cl5, Ar5, q5, Sz5, Nn5, Hh5, Gg5⟩ := id A_qb
  have P6 : own_Go p e below S0 (T4.setTop (mkF m 18 #[.val (.ref qb), .val (.int 63), .val (.int 0), .val (.int 0)] [(.int 0), (.int 0)])) := fun t k => P4 t (by
    refine XS.istoreN X4.here hx rfl (hb hby d12_14) rfl (l' := #[.val (.ref qb), .val (.int 63), .val (.int 0), .val (.int 0)]) rfl ?_
    refine XS.iloadN X4.here hx rfl (hb hby d12_15) rfl ?_
    refine XS.aloadN X4.here hx rfl (hb hby d12_16) rfl rfl ?_
    show Steps p.tables e below (T4.setTop (mkF m 17 #[.val (.ref qb), .val (.int 63), .val (.int 0), .val (.int 0)] [(.ref qb), (.int 0)])) t
    refine X4.arraylength hx (by rw [e4]; exact Ar5.1) (State.isArrayOf_alike hZ.alike Ar5.2.1) (g := (mkF m 17 #[.val (.ref qb), .val (.int 63), .val (.int 0), .val (.int 0)] [(.ref qb), (.int 0)])) rfl rfl (hb hby d12_17) _ ?_
    rw [len_of Sz5 Nn5]
    show Steps p.tables e below (T4.setTop (mkF m 18 #[.val (.ref qb), .val (.int 63), .val (.int 0), .val (.int 0)] [(.int 0), (.int 0)])) t
    exact k)
  obtain ⟨_, _, ⟨T7, L7, k7, n7⟩, -, X7, ⟨Lc7, hQ7, l7, y7, z7⟩, st7⟩ := Jvm.LawKit.callS X4 hx (y := (⟨"java/lang/Math", "min", "(II)I"⟩ : MethodName)) hown (mvT hZ (own_w hw 80 rfl)) (mvT hZ (own_w hw 81 rfl)) (mvT hZ (own_w hw 78 rfl)) (mvT hZ (own_w hw 82 rfl)) (by decide) (backOf (W := 0) (rm15n0 l Z a0 hw []  h0 n0 Z0) hZ (own_w hw 82 rfl) (own_w hw 78 rfl) (by decide) (by decide)) (g := (mkF m 18 #[.val (.ref qb), .val (.int 63), .val (.int 0), .val (.int 0)] [(.int 0), (.int 0)])) rfl (by rw [hml]; rfl) (argsL := [(.int 0), (.int 0)]) (rest := []) (lenOf pd_7 rfl) rfl (by show 2 * 0 + _ ≤ _; exact Nat.le_of_eq rfl) (hb hby d12_18) (fun _ _ => ⟨rfl, e4, (by decide : 0 + 0 ≤ _), (by decide : 0 + 0 ≤ _)⟩)
  dsimp only [Pt.U, Pt.locs, Pt.cells, Pt.slots] at X7 l7 y7 z7 st7 hQ7
  subst l7 y7 z7
  obtain ⟨rfl, N7q, e7⟩ := hQ7
  have N7 := Fr.app N4 N7q
  have P7 : own_Go p e below S0 (T7.setTop (mkF m 21 #[.val (.ref qb), .val (.int 63), .val (.int 0), .val (.int 0)] [(.int 0)])) := fun t k => P6 t (st7 _ k)
  have P8 : own_Go p e below S0 (T7.setTop (mkF m 28 #[.val (.ref qb), .val (.int 63), .val (.int 0), .val (.int 0)] [(.int (-1))])) := fun t k => P7 t (by
    refine XS.istoreN X7.here hx rfl (hb hby d12_21) rfl (l' := #[.val (.ref qb), .val (.int 63), .val (.int 0), .val (.int 0)]) rfl ?_
    refine XS.iloadN X7.here hx rfl (hb hby d12_22) rfl ?_
    refine XS.iloadN X7.here hx rfl (hb hby d12_23) rfl ?_
    refine XS.icmpNo X7.here hx rfl (hb hby d12_24) rfl (flt (by decide)).1 ?_
    refine XS.iconst X7.here hx rfl (hb hby d12_27) ?_
    show Steps p.tables e below (T7.setTop (mkF m 28 #[.val (.ref qb), .val (.int 63), .val (.int 0), .val (.int 0)] [(.int (-1))])) t
    exact k)
  obtain ⟨fs, hr, hrun, hended, hW, hsame⟩ := X7.leave (v := some (.int (-1))) (fun h => by rw [Bd.returns] at h; cases h) (BodyLoose.notSynchronized Bd)
  refine ⟨_, _, own_from hE0 (P8 _ ?_), hrun, hended, _, _, rfl, ?_, ⟨_, rfl⟩, hW, hsame.mono (by decide) (by decide)⟩
  · show Steps p.tables e below (T7.setTop (mkF m 28 #[.val (.ref qb), .val (.int 63), .val (.int 0), .val (.int 0)] [(.int (-1))])) _
    exact retI X7 hx Bd.returns (hb hby d12_28) hr
  · show Q12n0c63 Z qb kb h0 n0 _ T7.heap _
    rw [e7]
    exact ⟨rfl, N7, rfl⟩
theorem ef_8n0c63 (m : MethodId) (q8n0c63_0 : Addr) : entryFrame m #[(.ref q8n0c63_0), (.int 63), (.int 0)] 3 = mkF m 0 #[.val (.ref q8n0c63_0), .val (.int 63), .val (.int 0)] [] := by first | (simp [entryFrame, mkF, argsToLocals, Value.category]; done) | rfl
def Q8n0c63 (Z : State) (q8n0c63_0 : Addr) (qb : Addr) (kb : ClassId) (zc : Int32) (h0 : Heap) (n0 : Nat) (v : Option Value) (h : Heap) (L : List Loc) : Prop := v = some (.int (-1)) ∧ Fr n0 L ∧ h = h0
set_option maxRecDepth 65536 in
set_option maxHeartbeats 40000000 in
theorem rm8n0c63 (l : Launch) (Z : State) (a0 : Array Value) (hw : ∀ d ∈ tables_1, d.before a0 Z = true) (ws : List Jvm.Cond) (q8n0c63_0 : Addr) (qb : Addr) (kb : ClassId) (zc : Int32) (h0 : Heap) (n0 : Nat) (Z0 : n0 ≤ h0.size) (F_q8n0c63_0_value : Fld Z h0 q8n0c63_0 "java/lang/String" "value" "[B" (.ref qb)) (A_qb : Arv Z h0 qb kb .byte (0 : Int32) [] (.int 0)) (S_COMPACT_STRINGS : Sta Z h0 "java/lang/String" "COMPACT_STRINGS" "Z" (.int zc)) (hcs : ¬ (zc = (0 : Int32))) (F_q8n0c63_0_coder : Fld Z h0 q8n0c63_0 "java/lang/String" "coder" "B" (.int 0)) (E_q8n0c63_0 : Exa Z h0 q8n0c63_0 "java/lang/String") :
    MetFree l (⟨"java/lang/String", "indexOf", "(II)I"⟩ : MethodName) (head1 (Jvm.Cond.code (⟨"java/lang/String", "indexOf", "(II)I"⟩ : MethodName) jdk_42_method_80_code 3 (some .int) :: ws) ({ frames := 2, cells := 0, slots := 0, locals := 28 } : Room)) (fun a U => a = #[(.ref q8n0c63_0), (.int 63), (.int 0)] ∧ Z.Warmed39 U.vm ∧ U.heap = h0) (fun _ _ _ _ _ => True) (fun _ U o U' => ∃ v L, o = .returned v ∧ Q8n0c63 Z q8n0c63_0 qb kb zc h0 n0 v U'.heap L ∧ FrameEnd U o U' L ({ frames := 2, cells := 0, slots := 0, locals := 28 } : Room).cells ({ frames := 2, cells := 0, slots := 0, locals := 28 } : Room).slots) := by
  refine MetFree.of_bodySF (plainFor_of_name pn_2) hisR ?_
  intro p e s m args below meth c s₁ Bd hml0 hP hK
  obtain ⟨rfl, hZ, hh⟩ := hP
  have hx := Bd.exec
  have hby := Bd.bytes
  have hml : c.maxLocals = 3 := hml0
  have hown : s.vm.findClass "java/lang/String" = some m.cls := findClass_of_methodNamed Bd.named
  have hnm := (name_of_methodNamed Bd.named Bd.method).1
  have X0 : Stand p l e ({ frames := 2, cells := 0, slots := 0, locals := 28 } : Room) s m #[(.ref q8n0c63_0), (.int 63), (.int 0)] below meth c s₁ [] 0 0 := Stand.of_body Bd
  have e0 : s₁.heap = h0 := by rw [← hh, Bd.state]; rfl
  have N0 := Fr.nil n0
  obtain ⟨S0, hE0⟩ : ∃ z, z = s₁.setTop (entryFrame m #[(.ref q8n0c63_0), (.int 63), (.int 0)] 3) := ⟨_, rfl⟩
  have P0 : own_Go p e below S0 (s₁.setTop (mkF m 0 #[.val (.ref q8n0c63_0), .val (.int 63), .val (.int 0)] [])) := fun t k => by rw [hE0]; exact castTop (ef_8n0c63 m q8n0c63_0) k
  have P1 : own_Go p e below S0 (s₁.setTop (mkF m 1 #[.val (.ref q8n0c63_0), .val (.int 63), .val (.int 0)] [(.ref q8n0c63_0)])) := fun t k => P0 t (by
    refine XS.aloadN X0.here hx rfl (hb hby d8_0) rfl rfl ?_
    show Steps p.tables e below (s₁.setTop (mkF m 1 #[.val (.ref q8n0c63_0), .val (.int 63), .val (.int 0)] [(.ref q8n0c63_0)])) t
    exact k)
  obtain ⟨cq2, kq2, q2a, q2b, q2c⟩ := isOf hZ e0 E_q8n0c63_0
  obtain ⟨_, _, ⟨T2, L2, k2, n2⟩, -, X2, ⟨Lc2, hQ2, l2, y2, z2⟩, st2⟩ := X0.virtualBack hx (y := (⟨"java/lang/String", "isLatin1", "()Z"⟩ : MethodName)) (z := (⟨"java/lang/String", "isLatin1", "()Z"⟩ : MethodName)) hown (mvT hZ (own_w hw 53 rfl)) (mvT hZ (own_w hw 54 rfl)) (notFace_of_selects (args := #[]) (mvT hZ (own_w hw 56 rfl))) (mvT hZ (own_w hw 56 rfl)) (mvT hZ (own_w hw 55 rfl)) (by decide) (backOf (W := 0) (rm9 l Z a0 hw [] q8n0c63_0 zc h0 n0 Z0 S_COMPACT_STRINGS hcs F_q8n0c63_0_coder) hZ (own_w hw 57 rfl) (own_w hw 7 rfl) (by decide) (by decide)) q2a q2c (g := (mkF m 1 #[.val (.ref q8n0c63_0), .val (.int 63), .val (.int 0)] [(.ref q8n0c63_0)])) rfl (by rw [hml]; rfl) (Steps.refl _) (argsL := []) (rest := []) (lenOf pd_8 rfl) rfl (by show 2 * 0 + _ ≤ _; exact Nat.le_of_eq rfl) (hb hby d8_1) (fun _ _ => ⟨rfl, e0, (by decide : 0 + 0 ≤ _), (by decide : 0 + 0 ≤ _)⟩)
  dsimp only [Pt.U, Pt.locs, Pt.cells, Pt.slots] at X2 l2 y2 z2 st2 hQ2
  subst l2 y2 z2
  obtain ⟨rfl, N2q, e2⟩ := hQ2
  have N2 := Fr.app N0 N2q
  have P2 : own_Go p e below S0 (T2.setTop (mkF m 4 #[.val (.ref q8n0c63_0), .val (.int 63), .val (.int 0)] [(.int 1)])) := fun t k => P1 t (st2.trans k)
  have P3 : own_Go p e below S0 (T2.setTop (mkF m 8 #[.val (.ref q8n0c63_0), .val (.int 63), .val (.int 0)] [(.ref q8n0c63_0)])) := fun t k => P2 t (by
    refine XS.ifNo X2.here hx rfl (hb hby d8_4) rfl ((if0 _ _).trans (feq (by decide)).1) ?_
    refine XS.aloadN X2.here hx rfl (hb hby d8_7) rfl rfl ?_
    show Steps p.tables e below (T2.setTop (mkF m 8 #[.val (.ref q8n0c63_0), .val (.int 63), .val (.int 0)] [(.ref q8n0c63_0)])) t
    exact k)
  obtain ⟨T4, X4, e4, st4⟩ := getF X2 hx hZ hown (host := "") (Or.inl (own_w hw 24 rfl)) Via.refl e2 F_q8n0c63_0_value (g := (mkF m 8 #[.val (.ref q8n0c63_0), .val (.int 63), .val (.int 0)] [(.ref q8n0c63_0)])) rfl rfl (hb hby d8_8)
  have P4 : own_Go p e below S0 (T4.setTop (mkF m 11 #[.val (.ref q8n0c63_0), .val (.int 63), .val (.int 0)] [(.ref qb)])) := fun t k => P3 t (st4 _ k)
  have P5 : own_Go p e below S0 (T4.setTop (mkF m 14 #[.val (.ref q8n0c63_0), .val (.int 63), .val (.int 0)] [(.ref q8n0c63_0), (.int 0), (.int 63), (.ref qb)])) := fun t k => P4 t (by
    refine XS.iloadN X4.here hx rfl (hb hby d8_11) rfl ?_
    refine XS.iloadN X4.here hx rfl (hb hby d8_12) rfl ?_
    refine XS.aloadN X4.here hx rfl (hb hby d8_13) rfl rfl ?_
    show Steps p.tables e below (T4.setTop (mkF m 14 #[.val (.ref q8n0c63_0), .val (.int 63), .val (.int 0)] [(.ref q8n0c63_0), (.int 0), (.int 63), (.ref qb)])) t
    exact k)
  obtain ⟨cq6, kq6, q6a, q6b, q6c⟩ := isOf hZ e4 E_q8n0c63_0
  obtain ⟨_, _, ⟨T6, L6, k6, n6⟩, -, X6, ⟨Lc6, hQ6, l6, y6, z6⟩, st6⟩ := X4.virtualBack hx (y := (⟨"java/lang/String", "length", "()I"⟩ : MethodName)) (z := (⟨"java/lang/String", "length", "()I"⟩ : MethodName)) hown (mvT hZ (own_w hw 59 rfl)) (mvT hZ (own_w hw 60 rfl)) (notFace_of_selects (args := #[]) (mvT hZ (own_w hw 62 rfl))) (mvT hZ (own_w hw 62 rfl)) (mvT hZ (own_w hw 61 rfl)) (by decide) (backOf (W := 3) (rm10n0 l Z a0 hw [] q8n0c63_0 qb kb zc h0 n0 Z0 F_q8n0c63_0_value A_qb S_COMPACT_STRINGS hcs F_q8n0c63_0_coder E_q8n0c63_0) hZ (own_w hw 63 rfl) (own_w hw 7 rfl) (by decide) (by decide)) q6a q6c (g := (mkF m 14 #[.val (.ref q8n0c63_0), .val (.int 63), .val (.int 0)] [(.ref q8n0c63_0), (.int 0), (.int 63), (.ref qb)])) rfl (by rw [hml]; rfl) (Steps.refl _) (argsL := []) (rest := [(.int 0), (.int 63), (.ref qb)]) (lenOf pd_9 rfl) rfl (by show 2 * 0 + _ ≤ _; exact Nat.le_of_eq rfl) (hb hby d8_14) (fun _ _ => ⟨rfl, e4, (by decide : 0 + 0 ≤ _), (by decide : 0 + 0 ≤ _)⟩)
  dsimp only [Pt.U, Pt.locs, Pt.cells, Pt.slots] at X6 l6 y6 z6 st6 hQ6
  subst l6 y6 z6
  obtain ⟨rfl, N6q, e6⟩ := hQ6
  have N6 := Fr.app N2 N6q
  have P6 : own_Go p e below S0 (T6.setTop (mkF m 17 #[.val (.ref q8n0c63_0), .val (.int 63), .val (.int 0)] [(.int 0), (.int 0), (.int 63), (.ref qb)])) := fun t k => P5 t (st6.trans k)
  obtain ⟨_, _, ⟨T7, L7, k7, n7⟩, -, X7, ⟨Lc7, hQ7, l7, y7, z7⟩, st7⟩ := Jvm.LawKit.callS X6 hx (y := (⟨"java/lang/StringLatin1", "indexOf", "([BIII)I"⟩ : MethodName)) hown (mvT hZ (own_w hw 69 rfl)) (mvT hZ (own_w hw 70 rfl)) (mvT hZ (own_w hw 71 rfl)) (mvT hZ (own_w hw 72 rfl)) (by decide) (backOf (W := 0) (rm12n0c63 l Z a0 hw [] qb kb h0 n0 Z0 A_qb) hZ (own_w hw 72 rfl) (own_w hw 71 rfl) (by decide) (by decide)) (g := (mkF m 17 #[.val (.ref q8n0c63_0), .val (.int 63), .val (.int 0)] [(.int 0), (.int 0), (.int 63), (.ref qb)])) rfl (by rw [hml]; rfl) (argsL := [(.ref qb), (.int 63), (.int 0), (.int 0)]) (rest := []) (lenOf pd_10 rfl) rfl (by show 2 * 0 + _ ≤ _; exact Nat.le_of_eq rfl) (hb hby d8_17) (fun _ _ => ⟨rfl, e6, (by decide : 0 + 0 ≤ _), (by decide : 0 + 0 ≤ _)⟩)
  dsimp only [Pt.U, Pt.locs, Pt.cells, Pt.slots] at X7 l7 y7 z7 st7 hQ7
  subst l7 y7 z7
  obtain ⟨rfl, N7q, e7⟩ := hQ7
  have N7 := Fr.app N6 N7q
  have P7 : own_Go p e below S0 (T7.setTop (mkF m 20 #[.val (.ref q8n0c63_0), .val (.int 63), .val (.int 0)] [(.int (-1))])) := fun t k => P6 t (st7 _ k)
  have P8 : own_Go p e below S0 (T7.setTop (mkF m 36 #[.val (.ref q8n0c63_0), .val (.int 63), .val (.int 0)] [(.int (-1))])) := fun t k => P7 t (by
    refine XS.goto X7.here hx rfl (pc0 := 20) (pc' := 36) rfl (hb hby d8_20) (by decide) (by decide) ?_
    show Steps p.tables e below (T7.setTop (mkF m 36 #[.val (.ref q8n0c63_0), .val (.int 63), .val (.int 0)] [(.int (-1))])) t
    exact k)
  obtain ⟨fs, hr, hrun, hended, hW, hsame⟩ := X7.leave (v := some (.int (-1))) (fun h => by rw [Bd.returns] at h; cases h) (BodyLoose.notSynchronized Bd)
  refine ⟨_, _, own_from hE0 (P8 _ ?_), hrun, hended, _, _, rfl, ?_, ⟨_, rfl⟩, hW, hsame.mono (by decide) (by decide)⟩
  · show Steps p.tables e below (T7.setTop (mkF m 36 #[.val (.ref q8n0c63_0), .val (.int 63), .val (.int 0)] [(.int (-1))])) _
    exact retI X7 hx Bd.returns (hb hby d8_36) hr
  · show Q8n0c63 Z q8n0c63_0 qb kb zc h0 n0 _ T7.heap _
    rw [e7]
    exact ⟨rfl, N7, rfl⟩
theorem ef_7n0c63 (m : MethodId) (q7n0c63_0 : Addr) : entryFrame m #[(.ref q7n0c63_0), (.int 63)] 2 = mkF m 0 #[.val (.ref q7n0c63_0), .val (.int 63)] [] := by first | (simp [entryFrame, mkF, argsToLocals, Value.category]; done) | rfl
def Q7n0c63 (Z : State) (q7n0c63_0 : Addr) (qb : Addr) (kb : ClassId) (zc : Int32) (h0 : Heap) (n0 : Nat) (v : Option Value) (h : Heap) (L : List Loc) : Prop := v = some (.int (-1)) ∧ Fr n0 L ∧ h = h0
set_option maxRecDepth 65536 in
set_option maxHeartbeats 40000000 in
theorem rm7n0c63 (l : Launch) (Z : State) (a0 : Array Value) (hw : ∀ d ∈ tables_1, d.before a0 Z = true) (ws : List Jvm.Cond) (q7n0c63_0 : Addr) (qb : Addr) (kb : ClassId) (zc : Int32) (h0 : Heap) (n0 : Nat) (Z0 : n0 ≤ h0.size) (F_q7n0c63_0_value : Fld Z h0 q7n0c63_0 "java/lang/String" "value" "[B" (.ref qb)) (A_qb : Arv Z h0 qb kb .byte (0 : Int32) [] (.int 0)) (S_COMPACT_STRINGS : Sta Z h0 "java/lang/String" "COMPACT_STRINGS" "Z" (.int zc)) (hcs : ¬ (zc = (0 : Int32))) (F_q7n0c63_0_coder : Fld Z h0 q7n0c63_0 "java/lang/String" "coder" "B" (.int 0)) (E_q7n0c63_0 : Exa Z h0 q7n0c63_0 "java/lang/String") :
    MetFree l (⟨"java/lang/String", "indexOf", "(I)I"⟩ : MethodName) (head1 (Jvm.Cond.code (⟨"java/lang/String", "indexOf", "(I)I"⟩ : MethodName) jdk_42_method_79_code 2 (some .int) :: ws) ({ frames := 3, cells := 0, slots := 0, locals := 42 } : Room)) (fun a U => a = #[(.ref q7n0c63_0), (.int 63)] ∧ Z.Warmed39 U.vm ∧ U.heap = h0) (fun _ _ _ _ _ => True) (fun _ U o U' => ∃ v L, o = .returned v ∧ Q7n0c63 Z q7n0c63_0 qb kb zc h0 n0 v U'.heap L ∧ FrameEnd U o U' L ({ frames := 3, cells := 0, slots := 0, locals := 42 } : Room).cells ({ frames := 3, cells := 0, slots := 0, locals := 42 } : Room).slots) := by
  refine MetFree.of_bodySF (plainFor_of_name pn_2) hisR ?_
  intro p e s m args below meth c s₁ Bd hml0 hP hK
  obtain ⟨rfl, hZ, hh⟩ := hP
  have hx := Bd.exec
  have hby := Bd.bytes
  have hml : c.maxLocals = 2 := hml0
  have hown : s.vm.findClass "java/lang/String" = some m.cls := findClass_of_methodNamed Bd.named
  have hnm := (name_of_methodNamed Bd.named Bd.method).1
  have X0 : Stand p l e ({ frames := 3, cells := 0, slots := 0, locals := 42 } : Room) s m #[(.ref q7n0c63_0), (.int 63)] below meth c s₁ [] 0 0 := Stand.of_body Bd
  have e0 : s₁.heap = h0 := by rw [← hh, Bd.state]; rfl
  have N0 := Fr.nil n0
  obtain ⟨S0, hE0⟩ : ∃ z, z = s₁.setTop (entryFrame m #[(.ref q7n0c63_0), (.int 63)] 2) := ⟨_, rfl⟩
  have P0 : own_Go p e below S0 (s₁.setTop (mkF m 0 #[.val (.ref q7n0c63_0), .val (.int 63)] [])) := fun t k => by rw [hE0]; exact castTop (ef_7n0c63 m q7n0c63_0) k
  have P1 : own_Go p e below S0 (s₁.setTop (mkF m 3 #[.val (.ref q7n0c63_0), .val (.int 63)] [(.int 0), (.int 63), (.ref q7n0c63_0)])) := fun t k => P0 t (by
    refine XS.aloadN X0.here hx rfl (hb hby d7_0) rfl rfl ?_
    refine XS.iloadN X0.here hx rfl (hb hby d7_1) rfl ?_
    refine XS.iconst X0.here hx rfl (hb hby d7_2) ?_
    show Steps p.tables e below (s₁.setTop (mkF m 3 #[.val (.ref q7n0c63_0), .val (.int 63)] [(.int 0), (.int 63), (.ref q7n0c63_0)])) t
    exact k)
  obtain ⟨cq2, kq2, q2a, q2b, q2c⟩ := isOf hZ e0 E_q7n0c63_0
  obtain ⟨_, _, ⟨T2, L2, k2, n2⟩, -, X2, ⟨Lc2, hQ2, l2, y2, z2⟩, st2⟩ := X0.virtualBack hx (y := (⟨"java/lang/String", "indexOf", "(II)I"⟩ : MethodName)) (z := (⟨"java/lang/String", "indexOf", "(II)I"⟩ : MethodName)) hown (mvT hZ (own_w hw 48 rfl)) (mvT hZ (own_w hw 49 rfl)) (notFace_of_selects (args := #[]) (mvT hZ (own_w hw 51 rfl))) (mvT hZ (own_w hw 51 rfl)) (mvT hZ (own_w hw 50 rfl)) (by decide) (backOf (W := 0) (rm8n0c63 l Z a0 hw [] q7n0c63_0 qb kb zc h0 n0 Z0 F_q7n0c63_0_value A_qb S_COMPACT_STRINGS hcs F_q7n0c63_0_coder E_q7n0c63_0) hZ (own_w hw 52 rfl) (own_w hw 7 rfl) (by decide) (by decide)) q2a q2c (g := (mkF m 3 #[.val (.ref q7n0c63_0), .val (.int 63)] [(.int 0), (.int 63), (.ref q7n0c63_0)])) rfl (by rw [hml]; rfl) (Steps.refl _) (argsL := [(.int 63), (.int 0)]) (rest := []) (lenOf pd_7 rfl) rfl (by show 2 * 0 + _ ≤ _; exact Nat.le_of_eq rfl) (hb hby d7_3) (fun _ _ => ⟨rfl, e0, (by decide : 0 + 0 ≤ _), (by decide : 0 + 0 ≤ _)⟩)
  dsimp only [Pt.U, Pt.locs, Pt.cells, Pt.slots] at X2 l2 y2 z2 st2 hQ2
  subst l2 y2 z2
  obtain ⟨rfl, N2q, e2⟩ := hQ2
  have N2 := Fr.app N0 N2q
  have P2 : own_Go p e below S0 (T2.setTop (mkF m 6 #[.val (.ref q7n0c63_0), .val (.int 63)] [(.int (-1))])) := fun t k => P1 t (st2.trans k)
  obtain ⟨fs, hr, hrun, hended, hW, hsame⟩ := X2.leave (v := some (.int (-1))) (fun h => by rw [Bd.returns] at h; cases h) (BodyLoose.notSynchronized Bd)
  refine ⟨_, _, own_from hE0 (P2 _ ?_), hrun, hended, _, _, rfl, ?_, ⟨_, rfl⟩, hW, hsame.mono (by decide) (by decide)⟩
  · show Steps p.tables e below (T2.setTop (mkF m 6 #[.val (.ref q7n0c63_0), .val (.int 63)] [(.int (-1))])) _
    exact retI X2 hx Bd.returns (hb hby d7_6) hr
  · show Q7n0c63 Z q7n0c63_0 qb kb zc h0 n0 _ T2.heap _
    rw [e2]
    exact ⟨rfl, N2, rfl⟩
theorem pd_11 : parseMethodDescriptor "(I)I" = some ⟨[.int], some .int⟩ := by decide +kernel
theorem d6_0 : decode prog_25_method_4_code 0 = .ok (.aload_n 0, 1) := by decide +kernel
theorem d6_1 : decode prog_25_method_4_code 1 = .ok (.getfield 17, 3) := by decide +kernel
theorem d6_4 : decode prog_25_method_4_code 4 = .ok (.bipush 42, 2) := by decide +kernel
theorem d6_6 : decode prog_25_method_4_code 6 = .ok (.invokevirtual 43, 3) := by decide +kernel
theorem d6_9 : decode prog_25_method_4_code 9 = .ok (.ifCond .ge 19, 3) := by decide +kernel
theorem d6_12 : decode prog_25_method_4_code 12 = .ok (.aload_n 0, 1) := by decide +kernel
theorem d6_13 : decode prog_25_method_4_code 13 = .ok (.getfield 17, 3) := by decide +kernel
theorem d6_16 : decode prog_25_method_4_code 16 = .ok (.bipush 63, 2) := by decide +kernel
theorem d6_18 : decode prog_25_method_4_code 18 = .ok (.invokevirtual 43, 3) := by decide +kernel
theorem d6_21 : decode prog_25_method_4_code 21 = .ok (.ifCond .ge 7, 3) := by decide +kernel
theorem d6_24 : decode prog_25_method_4_code 24 = .ok (.iconst 1, 1) := by decide +kernel
theorem d6_25 : decode prog_25_method_4_code 25 = .ok (.goto 4, 3) := by decide +kernel
theorem d6_29 : decode prog_25_method_4_code 29 = .ok (.ireturn, 1) := by decide +kernel
theorem ef_6n0 (m : MethodId) (q6n0_0 : Addr) : entryFrame m #[(.ref q6n0_0)] 1 = mkF m 0 #[.val (.ref q6n0_0)] [] := by first | (simp [entryFrame, mkF, argsToLocals, Value.category]; done) | rfl
def Q6n0 (Z : State) (q6n0_0 : Addr) (qs : Addr) (qb : Addr) (kb : ClassId) (zc : Int32) (h0 : Heap) (n0 : Nat) (v : Option Value) (h : Heap) (L : List Loc) : Prop := v = some (.int 1) ∧ Fr n0 L ∧ h = h0
set_option maxRecDepth 65536 in
set_option maxHeartbeats 40000000 in
theorem rm6n0 (l : Launch) (Z : State) (a0 : Array Value) (hw : ∀ d ∈ tables_1, d.before a0 Z = true) (ws : List Jvm.Cond) (q6n0_0 : Addr) (qs : Addr) (qb : Addr) (kb : ClassId) (zc : Int32) (h0 : Heap) (n0 : Nat) (Z0 : n0 ≤ h0.size) (F_q6n0_0_pattern : Fld Z h0 q6n0_0 "com/example/strict_acl/strictacl/NamePattern" "pattern" "Ljava/lang/String;" (.ref qs)) (F_qs_value : Fld Z h0 qs "java/lang/String" "value" "[B" (.ref qb)) (A_qb : Arv Z h0 qb kb .byte (0 : Int32) [] (.int 0)) (S_COMPACT_STRINGS : Sta Z h0 "java/lang/String" "COMPACT_STRINGS" "Z" (.int zc)) (hcs : ¬ (zc = (0 : Int32))) (F_qs_coder : Fld Z h0 qs "java/lang/String" "coder" "B" (.int 0)) (E_qs : Exa Z h0 qs "java/lang/String") :
    MetFree l (⟨"com/example/strict_acl/strictacl/NamePattern", "isLiteral", "()Z"⟩ : MethodName) (head1 (Jvm.Cond.code (⟨"com/example/strict_acl/strictacl/NamePattern", "isLiteral", "()Z"⟩ : MethodName) prog_25_method_4_code 1 (some .boolean) :: ws) ({ frames := 4, cells := 0, slots := 0, locals := 55 } : Room)) (fun a U => a = #[(.ref q6n0_0)] ∧ Z.Warmed39 U.vm ∧ U.heap = h0) (fun _ _ _ _ _ => True) (fun _ U o U' => ∃ v L, o = .returned v ∧ Q6n0 Z q6n0_0 qs qb kb zc h0 n0 v U'.heap L ∧ FrameEnd U o U' L ({ frames := 4, cells := 0, slots := 0, locals := 55 } : Room).cells ({ frames := 4, cells := 0, slots := 0, locals := 55 } : Room).slots) := by
  refine MetFree.of_bodySF (plainFor_of_name pn_4) hisR ?_
  intro p e s m args below meth c s₁ Bd hml0 hP hK
  obtain ⟨rfl, hZ, hh⟩ := hP
  have hx := Bd.exec
  have hby := Bd.bytes
  have hml : c.maxLocals = 1 := hml0
  have hown : s.vm.findClass "com/example/strict_acl/strictacl/NamePattern" = some m.cls := findClass_of_methodNamed Bd.named
  have hnm := (name_of_methodNamed Bd.named Bd.method).1
  have X0 : Stand p l e ({ frames := 4, cells := 0, slots := 0, locals := 55 } : Room) s m #[(.ref q6n0_0)] below meth c s₁ [] 0 0 := Stand.of_body Bd
  have e0 : s₁.heap = h0 := by rw [← hh, Bd.state]; rfl
  have N0 := Fr.nil n0
  obtain ⟨S0, hE0⟩ : ∃ z, z = s₁.setTop (entryFrame m #[(.ref q6n0_0)] 1) := ⟨_, rfl⟩
  have P0 : own_Go p e below S0 (s₁.setTop (mkF m 0 #[.val (.ref q6n0_0)] [])) := fun t k => by rw [hE0]; exact castTop (ef_6n0 m q6n0_0) k
  have P1 : own_Go p e below S0 (s₁.setTop (mkF m 1 #[.val (.ref q6n0_0)] [(.ref q6n0_0)])) := fun t k => P0 t (by
    refine XS.aloadN X0.here hx rfl (hb hby d6_0) rfl rfl ?_
    show Steps p.tables e below (s₁.setTop (mkF m 1 #[.val (.ref q6n0_0)] [(.ref q6n0_0)])) t
    exact k)
  obtain ⟨T2, X2, e2, st2⟩ := getF X0 hx hZ hown (host := "") (Or.inl (own_w hw 36 rfl)) Via.refl e0 F_q6n0_0_pattern (g := (mkF m 1 #[.val (.ref q6n0_0)] [(.ref q6n0_0)])) rfl rfl (hb hby d6_1)
  have P2 : own_Go p e below S0 (T2.setTop (mkF m 4 #[.val (.ref q6n0_0)] [(.ref qs)])) := fun t k => P1 t (st2 _ k)
  have P3 : own_Go p e below S0 (T2.setTop (mkF m 6 #[.val (.ref q6n0_0)] [(.int 42), (.ref qs)])) := fun t k => P2 t (by
    refine XS.bipush X2.here hx rfl (hb hby d6_4) ?_
    show Steps p.tables e below (T2.setTop (mkF m 6 #[.val (.ref q6n0_0)] [(.int 42), (.ref qs)])) t
    exact k)
  obtain ⟨cq4, kq4, q4a, q4b, q4c⟩ := isOf hZ e2 E_qs
  obtain ⟨_, _, ⟨T4, L4, k4, n4⟩, -, X4, ⟨Lc4, hQ4, l4, y4, z4⟩, st4⟩ := X2.virtualBack hx (y := (⟨"java/lang/String", "indexOf", "(I)I"⟩ : MethodName)) (z := (⟨"java/lang/String", "indexOf", "(I)I"⟩ : MethodName)) hown (mvT hZ (own_w hw 43 rfl)) (mvT hZ (own_w hw 44 rfl)) (notFace_of_selects (args := #[]) (mvT hZ (own_w hw 46 rfl))) (mvT hZ (own_w hw 46 rfl)) (mvT hZ (own_w hw 45 rfl)) (by decide) (backOf (W := 0) (rm7n0c42 l Z a0 hw [] qs qb kb zc h0 n0 Z0 F_qs_value A_qb S_COMPACT_STRINGS hcs F_qs_coder E_qs) hZ (own_w hw 47 rfl) (own_w hw 7 rfl) (by decide) (by decide)) q4a q4c (g := (mkF m 6 #[.val (.ref q6n0_0)] [(.int 42), (.ref qs)])) rfl (by rw [hml]; rfl) (Steps.refl _) (argsL := [(.int 42)]) (rest := []) (lenOf pd_11 rfl) rfl (by show 2 * 0 + _ ≤ _; exact Nat.le_of_eq rfl) (hb hby d6_6) (fun _ _ => ⟨rfl, e2, (by decide : 0 + 0 ≤ _), (by decide : 0 + 0 ≤ _)⟩)
  dsimp only [Pt.U, Pt.locs, Pt.cells, Pt.slots] at X4 l4 y4 z4 st4 hQ4
  subst l4 y4 z4
  obtain ⟨rfl, N4q, e4⟩ := hQ4
  have N4 := Fr.app N0 N4q
  have P4 : own_Go p e below S0 (T4.setTop (mkF m 9 #[.val (.ref q6n0_0)] [(.int (-1))])) := fun t k => P3 t (st4.trans k)
  have P5 : own_Go p e below S0 (T4.setTop (mkF m 13 #[.val (.ref q6n0_0)] [(.ref q6n0_0)])) := fun t k => P4 t (by
    refine XS.ifNo X4.here hx rfl (hb hby d6_9) rfl ((if0 _ _).trans (tlt (by decide)).2.1) ?_
    refine XS.aloadN X4.here hx rfl (hb hby d6_12) rfl rfl ?_
    show Steps p.tables e below (T4.setTop (mkF m 13 #[.val (.ref q6n0_0)] [(.ref q6n0_0)])) t
    exact k)
  obtain ⟨T6, X6, e6, st6⟩ := getF X4 hx hZ hown (host := "") (Or.inl (own_w hw 36 rfl)) Via.refl e4 F_q6n0_0_pattern (g := (mkF m 13 #[.val (.ref q6n0_0)] [(.ref q6n0_0)])) rfl rfl (hb hby d6_13)
  have P6 : own_Go p e below S0 (T6.setTop (mkF m 16 #[.val (.ref q6n0_0)] [(.ref qs)])) := fun t k => P5 t (st6 _ k)
  have P7 : own_Go p e below S0 (T6.setTop (mkF m 18 #[.val (.ref q6n0_0)] [(.int 63), (.ref qs)])) := fun t k => P6 t (by
    refine XS.bipush X6.here hx rfl (hb hby d6_16) ?_
    show Steps p.tables e below (T6.setTop (mkF m 18 #[.val (.ref q6n0_0)] [(.int 63), (.ref qs)])) t
    exact k)
  obtain ⟨cq8, kq8, q8a, q8b, q8c⟩ := isOf hZ e6 E_qs
  obtain ⟨_, _, ⟨T8, L8, k8, n8⟩, -, X8, ⟨Lc8, hQ8, l8, y8, z8⟩, st8⟩ := X6.virtualBack hx (y := (⟨"java/lang/String", "indexOf", "(I)I"⟩ : MethodName)) (z := (⟨"java/lang/String", "indexOf", "(I)I"⟩ : MethodName)) hown (mvT hZ (own_w hw 43 rfl)) (mvT hZ (own_w hw 44 rfl)) (notFace_of_selects (args := #[]) (mvT hZ (own_w hw 46 rfl))) (mvT hZ (own_w hw 46 rfl)) (mvT hZ (own_w hw 45 rfl)) (by decide) (backOf (W := 0) (rm7n0c63 l Z a0 hw [] qs qb kb zc h0 n0 Z0 F_qs_value A_qb S_COMPACT_STRINGS hcs F_qs_coder E_qs) hZ (own_w hw 47 rfl) (own_w hw 7 rfl) (by decide) (by decide)) q8a q8c (g := (mkF m 18 #[.val (.ref q6n0_0)] [(.int 63), (.ref qs)])) rfl (by rw [hml]; rfl) (Steps.refl _) (argsL := [(.int 63)]) (rest := []) (lenOf pd_11 rfl) rfl (by show 2 * 0 + _ ≤ _; exact Nat.le_of_eq rfl) (hb hby d6_18) (fun _ _ => ⟨rfl, e6, (by decide : 0 + 0 ≤ _), (by decide : 0 + 0 ≤ _)⟩)
  dsimp only [Pt.U, Pt.locs, Pt.cells, Pt.slots] at X8 l8 y8 z8 st8 hQ8
  subst l8 y8 z8
  obtain ⟨rfl, N8q, e8⟩ := hQ8
  have N8 := Fr.app N4 N8q
  have P8 : own_Go p e below S0 (T8.setTop (mkF m 21 #[.val (.ref q6n0_0)] [(.int (-1))])) := fun t k => P7 t (st8.trans k)
  have P9 : own_Go p e below S0 (T8.setTop (mkF m 29 #[.val (.ref q6n0_0)] [(.int 1)])) := fun t k => P8 t (by
    refine XS.ifNo X8.here hx rfl (hb hby d6_21) rfl ((if0 _ _).trans (tlt (by decide)).2.1) ?_
    refine XS.iconst X8.here hx rfl (hb hby d6_24) ?_
    refine XS.goto X8.here hx rfl (pc0 := 25) (pc' := 29) rfl (hb hby d6_25) (by decide) (by decide) ?_
    show Steps p.tables e below (T8.setTop (mkF m 29 #[.val (.ref q6n0_0)] [(.int 1)])) t
    exact k)
  obtain ⟨fs, hr, hrun, hended, hW, hsame⟩ := X8.leave (v := some (.int 1)) (fun h => by rw [Bd.returns] at h; cases h) (BodyLoose.notSynchronized Bd)
  refine ⟨_, _, own_from hE0 (P9 _ ?_), hrun, hended, _, _, rfl, ?_, ⟨_, rfl⟩, hW, hsame.mono (by decide) (by decide)⟩
  · show Steps p.tables e below (T8.setTop (mkF m 29 #[.val (.ref q6n0_0)] [(.int 1)])) _
    exact retN X8 hx (t := .boolean) Bd.returns (by simp) (hb hby d6_29) hr
  · show Q6n0 Z q6n0_0 qs qb kb zc h0 n0 _ T8.heap _
    rw [e8]
    exact ⟨rfl, N8, rfl⟩
theorem ef_15n1 (m : MethodId)  : entryFrame m #[(.int 1), (.int 1)] 2 = mkF m 0 #[.val (.int 1), .val (.int 1)] [] := by first | (simp [entryFrame, mkF, argsToLocals, Value.category]; done) | rfl
def Q15n1 (Z : State)  (h0 : Heap) (n0 : Nat) (v : Option Value) (h : Heap) (L : List Loc) : Prop := v = some (.int 1) ∧ Fr n0 L ∧ h = h0
set_option maxRecDepth 65536 in
set_option maxHeartbeats 40000000 in
theorem rm15n1 (l : Launch) (Z : State) (a0 : Array Value) (hw : ∀ d ∈ tables_1, d.before a0 Z = true) (ws : List Jvm.Cond)  (h0 : Heap) (n0 : Nat) (Z0 : n0 ≤ h0.size) :
    MetFree l (⟨"java/lang/Math", "min", "(II)I"⟩ : MethodName) (head1 (Jvm.Cond.code (⟨"java/lang/Math", "min", "(II)I"⟩ : MethodName) jdk_29_method_69_code 2 (some .int) :: ws) ({ frames := 0, cells := 0, slots := 0, locals := 0 } : Room)) (fun a U => a = #[(.int 1), (.int 1)] ∧ Z.Warmed39 U.vm ∧ U.heap = h0) (fun _ _ _ _ _ => True) (fun _ U o U' => ∃ v L, o = .returned v ∧ Q15n1 Z  h0 n0 v U'.heap L ∧ FrameEnd U o U' L ({ frames := 0, cells := 0, slots := 0, locals := 0 } : Room).cells ({ frames := 0, cells := 0, slots := 0, locals := 0 } : Room).slots) := by
  refine MetFree.of_bodySF (Jvm.Free.JP.mathPlain rfl (by decide +kernel)) hisR ?_
  intro p e s m args below meth c s₁ Bd hml0 hP hK
  obtain ⟨rfl, hZ, hh⟩ := hP
  have hx := Bd.exec
  have hby := Bd.bytes
  have hml : c.maxLocals = 2 := hml0
  have hown : s.vm.findClass "java/lang/Math" = some m.cls := findClass_of_methodNamed Bd.named
  have hnm := (name_of_methodNamed Bd.named Bd.method).1
  have X0 : Stand p l e ({ frames := 0, cells := 0, slots := 0, locals := 0 } : Room) s m #[(.int 1), (.int 1)] below meth c s₁ [] 0 0 := Stand.of_body Bd
  have e0 : s₁.heap = h0 := by rw [← hh, Bd.state]; rfl
  have N0 := Fr.nil n0
  obtain ⟨S0, hE0⟩ : ∃ z, z = s₁.setTop (entryFrame m #[(.int 1), (.int 1)] 2) := ⟨_, rfl⟩
  have P0 : own_Go p e below S0 (s₁.setTop (mkF m 0 #[.val (.int 1), .val (.int 1)] [])) := fun t k => by rw [hE0]; exact castTop (ef_15n1 m ) k
  have P1 : own_Go p e below S0 (s₁.setTop (mkF m 10 #[.val (.int 1), .val (.int 1)] [(.int 1)])) := fun t k => P0 t (by
    refine XS.iloadN X0.here hx rfl (hb hby d15_0) rfl ?_
    refine XS.iloadN X0.here hx rfl (hb hby d15_1) rfl ?_
    refine XS.icmpNo X0.here hx rfl (hb hby d15_2) rfl (flt (by decide)).2.2.1 ?_
    refine XS.iloadN X0.here hx rfl (hb hby d15_5) rfl ?_
    refine XS.goto X0.here hx rfl (pc0 := 6) (pc' := 10) rfl (hb hby d15_6) (by decide) (by decide) ?_
    show Steps p.tables e below (s₁.setTop (mkF m 10 #[.val (.int 1), .val (.int 1)] [(.int 1)])) t
    exact k)
  obtain ⟨fs, hr, hrun, hended, hW, hsame⟩ := X0.leave (v := some (.int 1)) (fun h => by rw [Bd.returns] at h; cases h) (BodyLoose.notSynchronized Bd)
  refine ⟨_, _, own_from hE0 (P1 _ ?_), hrun, hended, _, _, rfl, ?_, ⟨_, rfl⟩, hW, hsame.mono (by decide) (by decide)⟩
  · show Steps p.tables e below (s₁.setTop (mkF m 10 #[.val (.int 1), .val (.int 1)] [(.int 1)])) _
    exact retI X0 hx Bd.returns (hb hby d15_10) hr
  · show Q15n1 Z  h0 n0 _ s₁.heap _
    rw [e0]
    exact ⟨rfl, N0, rfl⟩
theorem ef_10n1 (m : MethodId) (q10n1_0 : Addr) : entryFrame m #[(.ref q10n1_0)] 1 = mkF m 0 #[.val (.ref q10n1_0)] [] := by first | (simp [entryFrame, mkF, argsToLocals, Value.category]; done) | rfl
def Q10n1 (Z : State) (q10n1_0 : Addr) (qb : Addr) (kb : ClassId) (y0 : Int32) (zc : Int32) (h0 : Heap) (n0 : Nat) (v : Option Value) (h : Heap) (L : List Loc) : Prop := v = some (.int 1) ∧ Fr n0 L ∧ h = h0
set_option maxRecDepth 65536 in
set_option maxHeartbeats 40000000 in
theorem rm10n1 (l : Launch) (Z : State) (a0 : Array Value) (hw : ∀ d ∈ tables_1, d.before a0 Z = true) (ws : List Jvm.Cond) (q10n1_0 : Addr) (qb : Addr) (kb : ClassId) (y0 : Int32) (zc : Int32) (h0 : Heap) (n0 : Nat) (Z0 : n0 ≤ h0.size) (F_q10n1_0_value : Fld Z h0 q10n1_0 "java/lang/String" "value" "[B" (.ref qb)) (A_qb : Arv Z h0 qb kb .byte (1 : Int32) [(.int y0)] (.int 0)) (S_COMPACT_STRINGS : Sta Z h0 "java/lang/String" "COMPACT_STRINGS" "Z" (.int zc)) (hcs : ¬ (zc = (0 : Int32))) (F_q10n1_0_coder : Fld Z h0 q10n1_0 "java/lang/String" "coder" "B" (.int 0)) (E_q10n1_0 : Exa Z h0 q10n1_0 "java/lang/String") :
    MetFree l (⟨"java/lang/String", "length", "()I"⟩ : MethodName) (head1 (Jvm.Cond.code (⟨"java/lang/String", "length", "()I"⟩ : MethodName) jdk_42_method_54_code 1 (some .int) :: ws) ({ frames := 1, cells := 0, slots := 0, locals := 13 } : Room)) (fun a U => a = #[(.ref q10n1_0)] ∧ Z.Warmed39 U.vm ∧ U.heap = h0) (fun _ _ _ _ _ => True) (fun _ U o U' => ∃ v L, o = .returned v ∧ Q10n1 Z q10n1_0 qb kb y0 zc h0 n0 v U'.heap L ∧ FrameEnd U o U' L ({ frames := 1, cells := 0, slots := 0, locals := 13 } : Room).cells ({ frames := 1, cells := 0, slots := 0, locals := 13 } : Room).slots) := by
  refine MetFree.of_bodySF (plainFor_of_name pn_2) hisR ?_
  intro p e s m args below meth c s₁ Bd hml0 hP hK
  obtain ⟨rfl, hZ, hh⟩ := hP
  have hx := Bd.exec
  have hby := Bd.bytes
  have hml : c.maxLocals = 1 := hml0
  have hown : s.vm.findClass "java/lang/String" = some m.cls := findClass_of_methodNamed Bd.named
  have hnm := (name_of_methodNamed Bd.named Bd.method).1
  have X0 : Stand p l e ({ frames := 1, cells := 0, slots := 0, locals := 13 } : Room) s m #[(.ref q10n1_0)] below meth c s₁ [] 0 0 := Stand.of_body Bd
  have e0 : s₁.heap = h0 := by rw [← hh, Bd.state]; rfl
  have N0 := Fr.nil n0
  obtain ⟨S0, hE0⟩ : ∃ z, z = s₁.setTop (entryFrame m #[(.ref q10n1_0)] 1) := ⟨_, rfl⟩
  have P0 : own_Go p e below S0 (s₁.setTop (mkF m 0 #[.val (.ref q10n1_0)] [])) := fun t k => by rw [hE0]; exact castTop (ef_10n1 m q10n1_0) k
  have P1 : own_Go p e below S0 (s₁.setTop (mkF m 1 #[.val (.ref q10n1_0)] [(.ref q10n1_0)])) := fun t k => P0 t (by
    refine XS.aloadN X0.here hx rfl (hb hby d10_0) rfl rfl ?_
    show Steps p.tables e below (s₁.setTop (mkF m 1 #[.val (.ref q10n1_0)] [(.ref q10n1_0)])) t
    exact k)
  obtain ⟨T2, X2, e2, st2⟩ := getF X0 hx hZ hown (host := "") (Or.inl (own_w hw 24 rfl)) Via.refl e0 F_q10n1_0_value (g := (mkF m 1 #[.val (.ref q10n1_0)] [(.ref q10n1_0)])) rfl rfl (hb hby d10_1)
  have P2 : own_Go p e below S0 (T2.setTop (mkF m 4 #[.val (.ref q10n1_0)] [(.ref qb)])) := fun t k => P1 t (st2 _ k)
  obtain ⟨cl3, Ar3, q3, Sz3, Nn3, Hh3, Gg3⟩ := id A_qb
  have P4 : own_Go p e below S0 (T2.setTop (mkF m 6 #[.val (.ref q10n1_0)] [(.ref q10n1_0), (.int 1)])) := fun t k => P2 t (by
    show Steps p.tables e below (T2.setTop (mkF m 4 #[.val (.ref q10n1_0)] [(.ref qb)])) t
    refine X2.arraylength hx (by rw [e2]; exact Ar3.1) (State.isArrayOf_alike hZ.alike Ar3.2.1) (g := (mkF m 4 #[.val (.ref q10n1_0)] [(.ref qb)])) rfl rfl (hb hby d10_4) _ ?_
    rw [len_of Sz3 Nn3]
    refine XS.aloadN X2.here hx rfl (hb hby d10_5) rfl rfl ?_
    show Steps p.tables e below (T2.setTop (mkF m 6 #[.val (.ref q10n1_0)] [(.ref q10n1_0), (.int 1)])) t
    exact k)
  obtain ⟨cq5, kq5, q5a, q5b, q5c⟩ := isOf hZ e2 E_q10n1_0
  obtain ⟨_, _, ⟨T5, L5, k5, n5⟩, -, X5, ⟨Lc5, hQ5, l5, y5, z5⟩, st5⟩ := X2.virtualBack hx (y := (⟨"java/lang/String", "coder", "()B"⟩ : MethodName)) (z := (⟨"java/lang/String", "coder", "()B"⟩ : MethodName)) hown (mvT hZ (own_w hw 64 rfl)) (mvT hZ (own_w hw 65 rfl)) (notFace_of_selects (args := #[]) (mvT hZ (own_w hw 67 rfl))) (mvT hZ (own_w hw 67 rfl)) (mvT hZ (own_w hw 66 rfl)) (by decide) (backOf (W := 1) (rm11 l Z a0 hw [] q10n1_0 zc h0 n0 Z0 S_COMPACT_STRINGS hcs F_q10n1_0_coder) hZ (own_w hw 68 rfl) (own_w hw 7 rfl) (by decide) (by decide)) q5a q5c (g := (mkF m 6 #[.val (.ref q10n1_0)] [(.ref q10n1_0), (.int 1)])) rfl (by rw [hml]; rfl) (Steps.refl _) (argsL := []) (rest := [(.int 1)]) (lenOf pd_5 rfl) rfl (by show 2 * 0 + _ ≤ _; exact Nat.le_of_eq rfl) (hb hby d10_6) (fun _ _ => ⟨rfl, e2, (by decide : 0 + 0 ≤ _), (by decide : 0 + 0 ≤ _)⟩)
  dsimp only [Pt.U, Pt.locs, Pt.cells, Pt.slots] at X5 l5 y5 z5 st5 hQ5
  subst l5 y5 z5
  obtain ⟨rfl, N5q, e5⟩ := hQ5
  have N5 := Fr.app N0 N5q
  have P5 : own_Go p e below S0 (T5.setTop (mkF m 9 #[.val (.ref q10n1_0)] [(.int 0), (.int 1)])) := fun t k => P4 t (st5.trans k)
  have P6 : own_Go p e below S0 (T5.setTop (mkF m 10 #[.val (.ref q10n1_0)] [(.int 1)])) := fun t k => P5 t (by
    refine XS.ishr X5.here hx rfl (hb hby d10_9) rfl ?_
    show Steps p.tables e below (T5.setTop (mkF m 10 #[.val (.ref q10n1_0)] [(.int 1)])) t
    exact k)
  obtain ⟨fs, hr, hrun, hended, hW, hsame⟩ := X5.leave (v := some (.int 1)) (fun h => by rw [Bd.returns] at h; cases h) (BodyLoose.notSynchronized Bd)
  refine ⟨_, _, own_from hE0 (P6 _ ?_), hrun, hended, _, _, rfl, ?_, ⟨_, rfl⟩, hW, hsame.mono (by decide) (by decide)⟩
  · show Steps p.tables e below (T5.setTop (mkF m 10 #[.val (.ref q10n1_0)] [(.int 1)])) _
    exact retI X5 hx Bd.returns (hb hby d10_10) hr
  · show Q10n1 Z q10n1_0 qb kb y0 zc h0 n0 _ T5.heap _
    rw [e5]
    exact ⟨rfl, N5, rfl⟩
theorem d20_0 : decode jdk_43_method_23_code 0 = .ok (.iload_n 1, 1) := by decide +kernel
theorem d20_1 : decode jdk_43_method_23_code 1 = .ok (.i2b, 1) := by decide +kernel
theorem d20_2 : decode jdk_43_method_23_code 2 = .ok (.istore 4, 2) := by decide +kernel
theorem d20_4 : decode jdk_43_method_23_code 4 = .ok (.iload_n 2, 1) := by decide +kernel
theorem d20_5 : decode jdk_43_method_23_code 5 = .ok (.istore 5, 2) := by decide +kernel
theorem d20_7 : decode jdk_43_method_23_code 7 = .ok (.iload 5, 2) := by decide +kernel
theorem d20_9 : decode jdk_43_method_23_code 9 = .ok (.iload_n 3, 1) := by decide +kernel
theorem d20_10 : decode jdk_43_method_23_code 10 = .ok (.if_icmp .ge 21, 3) := by decide +kernel
theorem d20_13 : decode jdk_43_method_23_code 13 = .ok (.aload_n 0, 1) := by decide +kernel
theorem d20_14 : decode jdk_43_method_23_code 14 = .ok (.iload 5, 2) := by decide +kernel
theorem d20_16 : decode jdk_43_method_23_code 16 = .ok (.baload, 1) := by decide +kernel
theorem d20_17 : decode jdk_43_method_23_code 17 = .ok (.iload 4, 2) := by decide +kernel
theorem d20_19 : decode jdk_43_method_23_code 19 = .ok (.if_icmp .ne 6, 3) := by decide +kernel
theorem d20_22 : decode jdk_43_method_23_code 22 = .ok (.iload 5, 2) := by decide +kernel
theorem d20_24 : decode jdk_43_method_23_code 24 = .ok (.ireturn, 1) := by decide +kernel
theorem d20_25 : decode jdk_43_method_23_code 25 = .ok (.iinc 5 1, 3) := by decide +kernel
theorem d20_28 : decode jdk_43_method_23_code 28 = .ok (.goto (-21), 3) := by decide +kernel
theorem d20_31 : decode jdk_43_method_23_code 31 = .ok (.iconst (-1), 1) := by decide +kernel
theorem d20_32 : decode jdk_43_method_23_code 32 = .ok (.ireturn, 1) := by decide +kernel
theorem ef_20n1c42 (m : MethodId) (qb : Addr) : entryFrame m #[(.ref qb), (.int 42), (.int 0), (.int 1)] 6 = mkF m 0 #[.val (.ref qb), .val (.int 42), .val (.int 0), .val (.int 1), .unset, .unset] [] := by first | (simp [entryFrame, mkF, argsToLocals, Value.category]; done) | rfl
def r20n1c42 (y0 : Int32) : Int32 := (if y0 = (42 : Int32) then (0 : Int32) else (-1 : Int32))
def Q20n1c42 (Z : State) (qb : Addr) (kb : ClassId) (y0 : Int32) (h0 : Heap) (n0 : Nat) (v : Option Value) (h : Heap) (L : List Loc) : Prop := v = some (.int (r20n1c42 y0)) ∧ Fr n0 L ∧ h = h0
set_option maxRecDepth 65536 in
set_option maxHeartbeats 40000000 in
theorem rm20n1c42 (l : Launch) (Z : State) (a0 : Array Value) (hw : ∀ d ∈ tables_1, d.before a0 Z = true) (ws : List Jvm.Cond) (qb : Addr) (kb : ClassId) (y0 : Int32) (h0 : Heap) (n0 : Nat) (Z0 : n0 ≤ h0.size) (A_qb : Arv Z h0 qb kb .byte (1 : Int32) [(.int y0)] (.int 0)) :
    MetFree l (⟨"java/lang/StringLatin1", "indexOfChar", "([BIII)I"⟩ : MethodName) (head1 (Jvm.Cond.code (⟨"java/lang/StringLatin1", "indexOfChar", "([BIII)I"⟩ : MethodName) jdk_43_method_23_code 6 (some .int) :: ws) ({ frames := 0, cells := 0, slots := 0, locals := 0 } : Room)) (fun a U => a = #[(.ref qb), (.int 42), (.int 0), (.int 1)] ∧ Z.Warmed39 U.vm ∧ U.heap = h0) (fun _ _ _ _ _ => True) (fun _ U o U' => ∃ v L, o = .returned v ∧ Q20n1c42 Z qb kb y0 h0 n0 v U'.heap L ∧ FrameEnd U o U' L ({ frames := 0, cells := 0, slots := 0, locals := 0 } : Room).cells ({ frames := 0, cells := 0, slots := 0, locals := 0 } : Room).slots) := by
  refine MetFree.of_bodySF (plainFor_of_name pn_13) hisR ?_
  intro p e s m args below meth c s₁ Bd hml0 hP hK
  obtain ⟨rfl, hZ, hh⟩ := hP
  have hx := Bd.exec
  have hby := Bd.bytes
  have hml : c.maxLocals = 6 := hml0
  have hown : s.vm.findClass "java/lang/StringLatin1" = some m.cls := findClass_of_methodNamed Bd.named
  have hnm := (name_of_methodNamed Bd.named Bd.method).1
  have X0 : Stand p l e ({ frames := 0, cells := 0, slots := 0, locals := 0 } : Room) s m #[(.ref qb), (.int 42), (.int 0), (.int 1)] below meth c s₁ [] 0 0 := Stand.of_body Bd
  have e0 : s₁.heap = h0 := by rw [← hh, Bd.state]; rfl
  have N0 := Fr.nil n0
  obtain ⟨S0, hE0⟩ : ∃ z, z = s₁.setTop (entryFrame m #[(.ref qb), (.int 42), (.int 0), (.int 1)] 6) := ⟨_, rfl⟩
  have P0 : own_Go p e below S0 (s₁.setTop (mkF m 0 #[.val (.ref qb), .val (.int 42), .val (.int 0), .val (.int 1), .unset, .unset] [])) := fun t k => by rw [hE0]; exact castTop (ef_20n1c42 m qb) k
  obtain ⟨cl1, Ar1, q1, Sz1, Nn1, Hh1, Gg1⟩ := id A_qb
  have hin1 : ¬ ((0 : Int32) < 0 ∨ cl1.slots.size ≤ ((0 : Int32)).toNatClampNeg) := inb_of Sz1 ⟨by decide, by decide⟩
  have hat1 : cl1.slots[((0 : Int32)).toNatClampNeg]? = some (.int y0) := Has.at Hh1 hin1 rfl
  have P2 : own_Go p e below S0 (s₁.setTop (mkF m 19 #[.val (.ref qb), .val (.int 42), .val (.int 0), .val (.int 1), .val (.int 42), .val (.int 0)] [(.int 42), (.int y0)])) := fun t k => P0 t (by
    refine XS.iloadN X0.here hx rfl (hb hby d20_0) rfl ?_
    refine XS.i2b X0.here hx rfl (hb hby d20_1) rfl ?_
    refine XS.istore X0.here hx rfl (hb hby d20_2) rfl (l' := #[.val (.ref qb), .val (.int 42), .val (.int 0), .val (.int 1), .val (.int 42), .unset]) rfl ?_
    refine XS.iloadN X0.here hx rfl (hb hby d20_4) rfl ?_
    refine XS.istore X0.here hx rfl (hb hby d20_5) rfl (l' := #[.val (.ref qb), .val (.int 42), .val (.int 0), .val (.int 1), .val (.int 42), .val (.int 0)]) rfl ?_
    refine XS.iload X0.here hx rfl (hb hby d20_7) rfl ?_
    show Steps p.tables e below (s₁.setTop (mkF m 9 #[.val (.ref qb), .val (.int 42), .val (.int 0), .val (.int 1), .val (.int 42), .val (.int 0)] [(.int 0)])) t
    refine XS.iloadN X0.here hx rfl (hb hby d20_9) rfl ?_
    refine XS.icmpNo X0.here hx rfl (hb hby d20_10) rfl (tlt (by decide)).2.1 ?_
    refine XS.aloadN X0.here hx rfl (hb hby d20_13) rfl rfl ?_
    refine XS.iload X0.here hx rfl (hb hby d20_14) rfl ?_
    show Steps p.tables e below (s₁.setTop (mkF m 16 #[.val (.ref qb), .val (.int 42), .val (.int 0), .val (.int 1), .val (.int 42), .val (.int 0)] [(.int 0), (.ref qb)])) t
    refine X0.baloadBytes hx (j := (0 : Int32)) (v := (.int y0)) (by rw [e0]; exact Ar1.1) (State.isArrayOf_alike hZ.alike Ar1.2.1) Ar1.2.2 hin1 hat1 (g := (mkF m 16 #[.val (.ref qb), .val (.int 42), .val (.int 0), .val (.int 1), .val (.int 42), .val (.int 0)] [(.int 0), (.ref qb)])) rfl rfl (hb hby d20_16) _ ?_
    refine XS.iload X0.here hx rfl (hb hby d20_17) rfl ?_
    show Steps p.tables e below (s₁.setTop (mkF m 19 #[.val (.ref qb), .val (.int 42), .val (.int 0), .val (.int 1), .val (.int 42), .val (.int 0)] [(.int 42), (.int y0)])) t
    exact k)
  by_cases c3 : y0 = (42 : Int32)
  · skip
    have P4 : own_Go p e below S0 (s₁.setTop (mkF m 24 #[.val (.ref qb), .val (.int 42), .val (.int 0), .val (.int 1), .val (.int 42), .val (.int 0)] [(.int 0)])) := fun t k => P2 t (by
      refine XS.icmpNo X0.here hx rfl (hb hby d20_19) rfl (teq c3).2 ?_
      refine XS.iload X0.here hx rfl (hb hby d20_22) rfl ?_
      show Steps p.tables e below (s₁.setTop (mkF m 24 #[.val (.ref qb), .val (.int 42), .val (.int 0), .val (.int 1), .val (.int 42), .val (.int 0)] [(.int 0)])) t
      exact k)
    obtain ⟨fs, hr, hrun, hended, hW, hsame⟩ := X0.leave (v := some (.int 0)) (fun h => by rw [Bd.returns] at h; cases h) (BodyLoose.notSynchronized Bd)
    refine ⟨_, _, own_from hE0 (P4 _ ?_), hrun, hended, _, _, rfl, ?_, ⟨_, rfl⟩, hW, hsame.mono (by decide) (by decide)⟩
    · show Steps p.tables e below (s₁.setTop (mkF m 24 #[.val (.ref qb), .val (.int 42), .val (.int 0), .val (.int 1), .val (.int 42), .val (.int 0)] [(.int 0)])) _
      exact retI X0 hx Bd.returns (hb hby d20_24) hr
    · show Q20n1c42 Z qb kb y0 h0 n0 _ s₁.heap _
      rw [e0]
      exact ⟨(congrArg (fun z => some (Value.int z)) (Eq.symm (if_pos c3))), N0, rfl⟩
  · skip
    have P5 : own_Go p e below S0 (s₁.setTop (mkF m 32 #[.val (.ref qb), .val (.int 42), .val (.int 0), .val (.int 1), .val (.int 42), .val (.int 1)] [(.int (-1))])) := fun t k => P2 t (by
      refine XS.icmpYes X0.here hx rfl (pc0 := 19) (pc' := 25) rfl (hb hby d20_19) rfl (feq c3).2 (by decide) (by decide) ?_
      refine XS.iinc X0.here hx rfl (hb hby d20_25) rfl (l' := #[.val (.ref qb), .val (.int 42), .val (.int 0), .val (.int 1), .val (.int 42), .val (.int 1)]) rfl ?_
      refine XS.goto X0.here hx rfl (pc0 := 28) (pc' := 7) rfl (hb hby d20_28) (by decide) (by decide) ?_
      refine XS.iload X0.here hx rfl (hb hby d20_7) rfl ?_
      refine XS.iloadN X0.here hx rfl (hb hby d20_9) rfl ?_
      refine XS.icmpYes X0.here hx rfl (pc0 := 10) (pc' := 31) rfl (hb hby d20_10) rfl (flt (by decide)).2.1 (by decide) (by decide) ?_
      show Steps p.tables e below (s₁.setTop (mkF m 31 #[.val (.ref qb), .val (.int 42), .val (.int 0), .val (.int 1), .val (.int 42), .val (.int 1)] [])) t
      refine XS.iconst X0.here hx rfl (hb hby d20_31) ?_
      show Steps p.tables e below (s₁.setTop (mkF m 32 #[.val (.ref qb), .val (.int 42), .val (.int 0), .val (.int 1), .val (.int 42), .val (.int 1)] [(.int (-1))])) t
      exact k)
    obtain ⟨fs, hr, hrun, hended, hW, hsame⟩ := X0.leave (v := some (.int (-1))) (fun h => by rw [Bd.returns] at h; cases h) (BodyLoose.notSynchronized Bd)
    refine ⟨_, _, own_from hE0 (P5 _ ?_), hrun, hended, _, _, rfl, ?_, ⟨_, rfl⟩, hW, hsame.mono (by decide) (by decide)⟩
    · show Steps p.tables e below (s₁.setTop (mkF m 32 #[.val (.ref qb), .val (.int 42), .val (.int 0), .val (.int 1), .val (.int 42), .val (.int 1)] [(.int (-1))])) _
      exact retI X0 hx Bd.returns (hb hby d20_32) hr
    · show Q20n1c42 Z qb kb y0 h0 n0 _ s₁.heap _
      rw [e0]
      exact ⟨(congrArg (fun z => some (Value.int z)) (Eq.symm (if_neg c3))), N0, rfl⟩
theorem d12_29 : decode jdk_43_method_22_code 29 = .ok (.aload_n 0, 1) := by decide +kernel
theorem d12_30 : decode jdk_43_method_22_code 30 = .ok (.iload_n 1, 1) := by decide +kernel
theorem d12_31 : decode jdk_43_method_22_code 31 = .ok (.iload_n 2, 1) := by decide +kernel
theorem d12_32 : decode jdk_43_method_22_code 32 = .ok (.iload_n 3, 1) := by decide +kernel
theorem d12_33 : decode jdk_43_method_22_code 33 = .ok (.invokestatic 95, 3) := by decide +kernel
theorem d12_36 : decode jdk_43_method_22_code 36 = .ok (.ireturn, 1) := by decide +kernel
theorem ef_12n1c42 (m : MethodId) (qb : Addr) : entryFrame m #[(.ref qb), (.int 42), (.int 0), (.int 1)] 4 = mkF m 0 #[.val (.ref qb), .val (.int 42), .val (.int 0), .val (.int 1)] [] := by first | (simp [entryFrame, mkF, argsToLocals, Value.category]; done) | rfl
def Q12n1c42 (Z : State) (qb : Addr) (kb : ClassId) (y0 : Int32) (h0 : Heap) (n0 : Nat) (v : Option Value) (h : Heap) (L : List Loc) : Prop := v = some (.int (r20n1c42 y0)) ∧ Fr n0 L ∧ h = h0
set_option maxRecDepth 65536 in
set_option maxHeartbeats 40000000 in
theorem rm12n1c42 (l : Launch) (Z : State) (a0 : Array Value) (hw : ∀ d ∈ tables_1, d.before a0 Z = true) (ws : List Jvm.Cond) (qb : Addr) (kb : ClassId) (y0 : Int32) (h0 : Heap) (n0 : Nat) (Z0 : n0 ≤ h0.size) (A_qb : Arv Z h0 qb kb .byte (1 : Int32) [(.int y0)] (.int 0)) :
    MetFree l (⟨"java/lang/StringLatin1", "indexOf", "([BIII)I"⟩ : MethodName) (head1 (Jvm.Cond.code (⟨"java/lang/StringLatin1", "indexOf", "([BIII)I"⟩ : MethodName) jdk_43_method_22_code 4 (some .int) :: ws) ({ frames := 1, cells := 0, slots := 0, locals := 17 } : Room)) (fun a U => a = #[(.ref qb), (.int 42), (.int 0), (.int 1)] ∧ Z.Warmed39 U.vm ∧ U.heap = h0) (fun _ _ _ _ _ => True) (fun _ U o U' => ∃ v L, o = .returned v ∧ Q12n1c42 Z qb kb y0 h0 n0 v U'.heap L ∧ FrameEnd U o U' L ({ frames := 1, cells := 0, slots := 0, locals := 17 } : Room).cells ({ frames := 1, cells := 0, slots := 0, locals := 17 } : Room).slots) := by
  refine MetFree.of_bodySF (plainFor_of_name pn_13) hisR ?_
  intro p e s m args below meth c s₁ Bd hml0 hP hK
  obtain ⟨rfl, hZ, hh⟩ := hP
  have hx := Bd.exec
  have hby := Bd.bytes
  have hml : c.maxLocals = 4 := hml0
  have hown : s.vm.findClass "java/lang/StringLatin1" = some m.cls := findClass_of_methodNamed Bd.named
  have hnm := (name_of_methodNamed Bd.named Bd.method).1
  have X0 : Stand p l e ({ frames := 1, cells := 0, slots := 0, locals := 17 } : Room) s m #[(.ref qb), (.int 42), (.int 0), (.int 1)] below meth c s₁ [] 0 0 := Stand.of_body Bd
  have e0 : s₁.heap = h0 := by rw [← hh, Bd.state]; rfl
  have N0 := Fr.nil n0
  obtain ⟨S0, hE0⟩ : ∃ z, z = s₁.setTop (entryFrame m #[(.ref qb), (.int 42), (.int 0), (.int 1)] 4) := ⟨_, rfl⟩
  have P0 : own_Go p e below S0 (s₁.setTop (mkF m 0 #[.val (.ref qb), .val (.int 42), .val (.int 0), .val (.int 1)] [])) := fun t k => by rw [hE0]; exact castTop (ef_12n1c42 m qb) k
  have P1 : own_Go p e below S0 (s₁.setTop (mkF m 1 #[.val (.ref qb), .val (.int 42), .val (.int 0), .val (.int 1)] [(.int 42)])) := fun t k => P0 t (by
    refine XS.iloadN X0.here hx rfl (hb hby d12_0) rfl ?_
    show Steps p.tables e below (s₁.setTop (mkF m 1 #[.val (.ref qb), .val (.int 42), .val (.int 0), .val (.int 1)] [(.int 42)])) t
    exact k)
  obtain ⟨_, _, ⟨T2, L2, k2, n2⟩, -, X2, ⟨Lc2, hQ2, l2, y2, z2⟩, st2⟩ := Jvm.LawKit.callS X0 hx (y := (⟨"java/lang/StringLatin1", "canEncode", "(I)Z"⟩ : MethodName)) hown (mvT hZ (own_w hw 73 rfl)) (mvT hZ (own_w hw 74 rfl)) (mvT hZ (own_w hw 71 rfl)) (mvT hZ (own_w hw 75 rfl)) (by decide) (backOf (W := 0) (rm13c42 l Z a0 hw []  h0 n0 Z0) hZ (own_w hw 75 rfl) (own_w hw 71 rfl) (by decide) (by decide)) (g := (mkF m 1 #[.val (.ref qb), .val (.int 42), .val (.int 0), .val (.int 1)] [(.int 42)])) rfl (by rw [hml]; rfl) (argsL := [(.int 42)]) (rest := []) (lenOf pd_6 rfl) rfl (by show 2 * 0 + _ ≤ _; exact Nat.le_of_eq rfl) (hb hby d12_1) (fun _ _ => ⟨rfl, e0, (by decide : 0 + 0 ≤ _), (by decide : 0 + 0 ≤ _)⟩)
  dsimp only [Pt.U, Pt.locs, Pt.cells, Pt.slots] at X2 l2 y2 z2 st2 hQ2
  subst l2 y2 z2
  obtain ⟨rfl, N2q, e2⟩ := hQ2
  have N2 := Fr.app N0 N2q
  have P2 : own_Go p e below S0 (T2.setTop (mkF m 4 #[.val (.ref qb), .val (.int 42), .val (.int 0), .val (.int 1)] [(.int 1)])) := fun t k => P1 t (st2 _ k)
  have P3 : own_Go p e below S0 (T2.setTop (mkF m 11 #[.val (.ref qb), .val (.int 42), .val (.int 0), .val (.int 1)] [(.int 0), (.int 0)])) := fun t k => P2 t (by
    refine XS.ifYes X2.here hx rfl (pc0 := 4) (pc' := 9) rfl (hb hby d12_4) rfl ((if0 _ _).trans (feq (by decide)).2) (by decide) (by decide) ?_
    refine XS.iloadN X2.here hx rfl (hb hby d12_9) rfl ?_
    refine XS.iconst X2.here hx rfl (hb hby d12_10) ?_
    show Steps p.tables e below (T2.setTop (mkF m 11 #[.val (.ref qb), .val (.int 42), .val (.int 0), .val (.int 1)] [(.int 0), (.int 0)])) t
    exact k)
  obtain ⟨_, _, ⟨T4, L4, k4, n4⟩, -, X4, ⟨Lc4, hQ4, l4, y4, z4⟩, st4⟩ := Jvm.LawKit.callS X2 hx (y := (⟨"java/lang/Math", "max", "(II)I"⟩ : MethodName)) hown (mvT hZ (own_w hw 76 rfl)) (mvT hZ (own_w hw 77 rfl)) (mvT hZ (own_w hw 78 rfl)) (mvT hZ (own_w hw 79 rfl)) (by decide) (backOf (W := 0) (rm14 l Z a0 hw []  h0 n0 Z0) hZ (own_w hw 79 rfl) (own_w hw 78 rfl) (by decide) (by decide)) (g := (mkF m 11 #[.val (.ref qb), .val (.int 42), .val (.int 0), .val (.int 1)] [(.int 0), (.int 0)])) rfl (by rw [hml]; rfl) (argsL := [(.int 0), (.int 0)]) (rest := []) (lenOf pd_7 rfl) rfl (by show 2 * 0 + _ ≤ _; exact Nat.le_of_eq rfl) (hb hby d12_11) (fun _ _ => ⟨rfl, e2, (by decide : 0 + 0 ≤ _), (by decide : 0 + 0 ≤ _)⟩)
  dsimp only [Pt.U, Pt.locs, Pt.cells, Pt.slots] at X4 l4 y4 z4 st4 hQ4
  subst l4 y4 z4
  obtain ⟨rfl, N4q, e4⟩ := hQ4
  have N4 := Fr.app N2 N4q
  have P4 : own_Go p e below S0 (T4.setTop (mkF m 14 #[.val (.ref qb), .val (.int 42), .val (.int 0), .val (.int 1)] [(.int 0)])) := fun t k => P3 t (st4 _ k)
  obtain ⟨cl5, Ar5, q5, Sz5, Nn5, Hh5, Gg5⟩ := id A_qb
  have P6 : own_Go p e below S0 (T4.setTop (mkF m 18 #[.val (.ref qb), .val (.int 42), .val (.int 0), .val (.int 1)] [(.int 1), (.int 1)])) := fun t k => P4 t (by
    refine XS.istoreN X4.here hx rfl (hb hby d12_14) rfl (l' := #[.val (.ref qb), .val (.int 42), .val (.int 0), .val (.int 1)]) rfl ?_
    refine XS.iloadN X4.here hx rfl (hb hby d12_15) rfl ?_
    refine XS.aloadN X4.here hx rfl (hb hby d12_16) rfl rfl ?_
    show Steps p.tables e below (T4.setTop (mkF m 17 #[.val (.ref qb), .val (.int 42), .val (.int 0), .val (.int 1)] [(.ref qb), (.int 1)])) t
    refine X4.arraylength hx (by rw [e4]; exact Ar5.1) (State.isArrayOf_alike hZ.alike Ar5.2.1) (g := (mkF m 17 #[.val (.ref qb), .val (.int 42), .val (.int 0), .val (.int 1)] [(.ref qb), (.int 1)])) rfl rfl (hb hby d12_17) _ ?_
    rw [len_of Sz5 Nn5]
    show Steps p.tables e below (T4.setTop (mkF m 18 #[.val (.ref qb), .val (.int 42), .val (.int 0), .val (.int 1)] [(.int 1), (.int 1)])) t
    exact k)
  obtain ⟨_, _, ⟨T7, L7, k7, n7⟩, -, X7, ⟨Lc7, hQ7, l7, y7, z7⟩, st7⟩ := Jvm.LawKit.callS X4 hx (y := (⟨"java/lang/Math", "min", "(II)I"⟩ : MethodName)) hown (mvT hZ (own_w hw 80 rfl)) (mvT hZ (own_w hw 81 rfl)) (mvT hZ (own_w hw 78 rfl)) (mvT hZ (own_w hw 82 rfl)) (by decide) (backOf (W := 0) (rm15n1 l Z a0 hw []  h0 n0 Z0) hZ (own_w hw 82 rfl) (own_w hw 78 rfl) (by decide) (by decide)) (g := (mkF m 18 #[.val (.ref qb), .val (.int 42), .val (.int 0), .val (.int 1)] [(.int 1), (.int 1)])) rfl (by rw [hml]; rfl) (argsL := [(.int 1), (.int 1)]) (rest := []) (lenOf pd_7 rfl) rfl (by show 2 * 0 + _ ≤ _; exact Nat.le_of_eq rfl) (hb hby d12_18) (fun _ _ => ⟨rfl, e4, (by decide : 0 + 0 ≤ _), (by decide : 0 + 0 ≤ _)⟩)
  dsimp only [Pt.U, Pt.locs, Pt.cells, Pt.slots] at X7 l7 y7 z7 st7 hQ7
  subst l7 y7 z7
  obtain ⟨rfl, N7q, e7⟩ := hQ7
  have N7 := Fr.app N4 N7q
  have P7 : own_Go p e below S0 (T7.setTop (mkF m 21 #[.val (.ref qb), .val (.int 42), .val (.int 0), .val (.int 1)] [(.int 1)])) := fun t k => P6 t (st7 _ k)
  have P8 : own_Go p e below S0 (T7.setTop (mkF m 33 #[.val (.ref qb), .val (.int 42), .val (.int 0), .val (.int 1)] [(.int 1), (.int 0), (.int 42), (.ref qb)])) := fun t k => P7 t (by
    refine XS.istoreN X7.here hx rfl (hb hby d12_21) rfl (l' := #[.val (.ref qb), .val (.int 42), .val (.int 0), .val (.int 1)]) rfl ?_
    refine XS.iloadN X7.here hx rfl (hb hby d12_22) rfl ?_
    refine XS.iloadN X7.here hx rfl (hb hby d12_23) rfl ?_
    refine XS.icmpYes X7.here hx rfl (pc0 := 24) (pc' := 29) rfl (hb hby d12_24) rfl (tlt (by decide)).1 (by decide) (by decide) ?_
    refine XS.aloadN X7.here hx rfl (hb hby d12_29) rfl rfl ?_
    refine XS.iloadN X7.here hx rfl (hb hby d12_30) rfl ?_
    show Steps p.tables e below (T7.setTop (mkF m 31 #[.val (.ref qb), .val (.int 42), .val (.int 0), .val (.int 1)] [(.int 42), (.ref qb)])) t
    refine XS.iloadN X7.here hx rfl (hb hby d12_31) rfl ?_
    refine XS.iloadN X7.here hx rfl (hb hby d12_32) rfl ?_
    show Steps p.tables e below (T7.setTop (mkF m 33 #[.val (.ref qb), .val (.int 42), .val (.int 0), .val (.int 1)] [(.int 1), (.int 0), (.int 42), (.ref qb)])) t
    exact k)
  obtain ⟨_, _, ⟨T9, L9, k9, n9⟩, -, X9, ⟨Lc9, hQ9, l9, y9, z9⟩, st9⟩ := Jvm.LawKit.callS X7 hx (y := (⟨"java/lang/StringLatin1", "indexOfChar", "([BIII)I"⟩ : MethodName)) hown (mvT hZ (own_w hw 97 rfl)) (mvT hZ (own_w hw 98 rfl)) (mvT hZ (own_w hw 71 rfl)) (mvT hZ (own_w hw 99 rfl)) (by decide) (backOf (W := 0) (rm20n1c42 l Z a0 hw [] qb kb y0 h0 n0 Z0 A_qb) hZ (own_w hw 99 rfl) (own_w hw 71 rfl) (by decide) (by decide)) (g := (mkF m 33 #[.val (.ref qb), .val (.int 42), .val (.int 0), .val (.int 1)] [(.int 1), (.int 0), (.int 42), (.ref qb)])) rfl (by rw [hml]; rfl) (argsL := [(.ref qb), (.int 42), (.int 0), (.int 1)]) (rest := []) (lenOf pd_10 rfl) rfl (by show 2 * 0 + _ ≤ _; exact Nat.le_of_eq rfl) (hb hby d12_33) (fun _ _ => ⟨rfl, e7, (by decide : 0 + 0 ≤ _), (by decide : 0 + 0 ≤ _)⟩)
  dsimp only [Pt.U, Pt.locs, Pt.cells, Pt.slots] at X9 l9 y9 z9 st9 hQ9
  subst l9 y9 z9
  obtain ⟨rfl, N9q, e9⟩ := hQ9
  have N9 := Fr.app N7 N9q
  have P9 : own_Go p e below S0 (T9.setTop (mkF m 36 #[.val (.ref qb), .val (.int 42), .val (.int 0), .val (.int 1)] [(.int (r20n1c42 y0))])) := fun t k => P8 t (st9 _ k)
  obtain ⟨fs, hr, hrun, hended, hW, hsame⟩ := X9.leave (v := some (.int (r20n1c42 y0))) (fun h => by rw [Bd.returns] at h; cases h) (BodyLoose.notSynchronized Bd)
  refine ⟨_, _, own_from hE0 (P9 _ ?_), hrun, hended, _, _, rfl, ?_, ⟨_, rfl⟩, hW, hsame.mono (by decide) (by decide)⟩
  · show Steps p.tables e below (T9.setTop (mkF m 36 #[.val (.ref qb), .val (.int 42), .val (.int 0), .val (.int 1)] [(.int (r20n1c42 y0))])) _
    exact retI X9 hx Bd.returns (hb hby d12_36) hr
  · show Q12n1c42 Z qb kb y0 h0 n0 _ T9.heap _
    rw [e9]
    exact ⟨rfl, N9, rfl⟩
theorem ef_8n1c42 (m : MethodId) (q8n1c42_0 : Addr) : entryFrame m #[(.ref q8n1c42_0), (.int 42), (.int 0)] 3 = mkF m 0 #[.val (.ref q8n1c42_0), .val (.int 42), .val (.int 0)] [] := by first | (simp [entryFrame, mkF, argsToLocals, Value.category]; done) | rfl
def Q8n1c42 (Z : State) (q8n1c42_0 : Addr) (qb : Addr) (kb : ClassId) (y0 : Int32) (zc : Int32) (h0 : Heap) (n0 : Nat) (v : Option Value) (h : Heap) (L : List Loc) : Prop := v = some (.int (r20n1c42 y0)) ∧ Fr n0 L ∧ h = h0
set_option maxRecDepth 65536 in
set_option maxHeartbeats 40000000 in
theorem rm8n1c42 (l : Launch) (Z : State) (a0 : Array Value) (hw : ∀ d ∈ tables_1, d.before a0 Z = true) (ws : List Jvm.Cond) (q8n1c42_0 : Addr) (qb : Addr) (kb : ClassId) (y0 : Int32) (zc : Int32) (h0 : Heap) (n0 : Nat) (Z0 : n0 ≤ h0.size) (F_q8n1c42_0_value : Fld Z h0 q8n1c42_0 "java/lang/String" "value" "[B" (.ref qb)) (A_qb : Arv Z h0 qb kb .byte (1 : Int32) [(.int y0)] (.int 0)) (S_COMPACT_STRINGS : Sta Z h0 "java/lang/String" "COMPACT_STRINGS" "Z" (.int zc)) (hcs : ¬ (zc = (0 : Int32))) (F_q8n1c42_0_coder : Fld Z h0 q8n1c42_0 "java/lang/String" "coder" "B" (.int 0)) (E_q8n1c42_0 : Exa Z h0 q8n1c42_0 "java/lang/String") :
    MetFree l (⟨"java/lang/String", "indexOf", "(II)I"⟩ : MethodName) (head1 (Jvm.Cond.code (⟨"java/lang/String", "indexOf", "(II)I"⟩ : MethodName) jdk_42_method_80_code 3 (some .int) :: ws) ({ frames := 2, cells := 0, slots := 0, locals := 32 } : Room)) (fun a U => a = #[(.ref q8n1c42_0), (.int 42), (.int 0)] ∧ Z.Warmed39 U.vm ∧ U.heap = h0) (fun _ _ _ _ _ => True) (fun _ U o U' => ∃ v L, o = .returned v ∧ Q8n1c42 Z q8n1c42_0 qb kb y0 zc h0 n0 v U'.heap L ∧ FrameEnd U o U' L ({ frames := 2, cells := 0, slots := 0, locals := 32 } : Room).cells ({ frames := 2, cells := 0, slots := 0, locals := 32 } : Room).slots) := by
  refine MetFree.of_bodySF (plainFor_of_name pn_2) hisR ?_
  intro p e s m args below meth c s₁ Bd hml0 hP hK
  obtain ⟨rfl, hZ, hh⟩ := hP
  have hx := Bd.exec
  have hby := Bd.bytes
  have hml : c.maxLocals = 3 := hml0
  have hown : s.vm.findClass "java/lang/String" = some m.cls := findClass_of_methodNamed Bd.named
  have hnm := (name_of_methodNamed Bd.named Bd.method).1
  have X0 : Stand p l e ({ frames := 2, cells := 0, slots := 0, locals := 32 } : Room) s m #[(.ref q8n1c42_0), (.int 42), (.int 0)] below meth c s₁ [] 0 0 := Stand.of_body Bd
  have e0 : s₁.heap = h0 := by rw [← hh, Bd.state]; rfl
  have N0 := Fr.nil n0
  obtain ⟨S0, hE0⟩ : ∃ z, z = s₁.setTop (entryFrame m #[(.ref q8n1c42_0), (.int 42), (.int 0)] 3) := ⟨_, rfl⟩
  have P0 : own_Go p e below S0 (s₁.setTop (mkF m 0 #[.val (.ref q8n1c42_0), .val (.int 42), .val (.int 0)] [])) := fun t k => by rw [hE0]; exact castTop (ef_8n1c42 m q8n1c42_0) k
  have P1 : own_Go p e below S0 (s₁.setTop (mkF m 1 #[.val (.ref q8n1c42_0), .val (.int 42), .val (.int 0)] [(.ref q8n1c42_0)])) := fun t k => P0 t (by
    refine XS.aloadN X0.here hx rfl (hb hby d8_0) rfl rfl ?_
    show Steps p.tables e below (s₁.setTop (mkF m 1 #[.val (.ref q8n1c42_0), .val (.int 42), .val (.int 0)] [(.ref q8n1c42_0)])) t
    exact k)
  obtain ⟨cq2, kq2, q2a, q2b, q2c⟩ := isOf hZ e0 E_q8n1c42_0
  obtain ⟨_, _, ⟨T2, L2, k2, n2⟩, -, X2, ⟨Lc2, hQ2, l2, y2, z2⟩, st2⟩ := X0.virtualBack hx (y := (⟨"java/lang/String", "isLatin1", "()Z"⟩ : MethodName)) (z := (⟨"java/lang/String", "isLatin1", "()Z"⟩ : MethodName)) hown (mvT hZ (own_w hw 53 rfl)) (mvT hZ (own_w hw 54 rfl)) (notFace_of_selects (args := #[]) (mvT hZ (own_w hw 56 rfl))) (mvT hZ (own_w hw 56 rfl)) (mvT hZ (own_w hw 55 rfl)) (by decide) (backOf (W := 0) (rm9 l Z a0 hw [] q8n1c42_0 zc h0 n0 Z0 S_COMPACT_STRINGS hcs F_q8n1c42_0_coder) hZ (own_w hw 57 rfl) (own_w hw 7 rfl) (by decide) (by decide)) q2a q2c (g := (mkF m 1 #[.val (.ref q8n1c42_0), .val (.int 42), .val (.int 0)] [(.ref q8n1c42_0)])) rfl (by rw [hml]; rfl) (Steps.refl _) (argsL := []) (rest := []) (lenOf pd_8 rfl) rfl (by show 2 * 0 + _ ≤ _; exact Nat.le_of_eq rfl) (hb hby d8_1) (fun _ _ => ⟨rfl, e0, (by decide : 0 + 0 ≤ _), (by decide : 0 + 0 ≤ _)⟩)
  dsimp only [Pt.U, Pt.locs, Pt.cells, Pt.slots] at X2 l2 y2 z2 st2 hQ2
  subst l2 y2 z2
  obtain ⟨rfl, N2q, e2⟩ := hQ2
  have N2 := Fr.app N0 N2q
  have P2 : own_Go p e below S0 (T2.setTop (mkF m 4 #[.val (.ref q8n1c42_0), .val (.int 42), .val (.int 0)] [(.int 1)])) := fun t k => P1 t (st2.trans k)
  have P3 : own_Go p e below S0 (T2.setTop (mkF m 8 #[.val (.ref q8n1c42_0), .val (.int 42), .val (.int 0)] [(.ref q8n1c42_0)])) := fun t k => P2 t (by
    refine XS.ifNo X2.here hx rfl (hb hby d8_4) rfl ((if0 _ _).trans (feq (by decide)).1) ?_
    refine XS.aloadN X2.here hx rfl (hb hby d8_7) rfl rfl ?_
    show Steps p.tables e below (T2.setTop (mkF m 8 #[.val (.ref q8n1c42_0), .val (.int 42), .val (.int 0)] [(.ref q8n1c42_0)])) t
    exact k)
  obtain ⟨T4, X4, e4, st4⟩ := getF X2 hx hZ hown (host := "") (Or.inl (own_w hw 24 rfl)) Via.refl e2 F_q8n1c42_0_value (g := (mkF m 8 #[.val (.ref q8n1c42_0), .val (.int 42), .val (.int 0)] [(.ref q8n1c42_0)])) rfl rfl (hb hby d8_8)
  have P4 : own_Go p e below S0 (T4.setTop (mkF m 11 #[.val (.ref q8n1c42_0), .val (.int 42), .val (.int 0)] [(.ref qb)])) := fun t k => P3 t (st4 _ k)
  have P5 : own_Go p e below S0 (T4.setTop (mkF m 14 #[.val (.ref q8n1c42_0), .val (.int 42), .val (.int 0)] [(.ref q8n1c42_0), (.int 0), (.int 42), (.ref qb)])) := fun t k => P4 t (by
    refine XS.iloadN X4.here hx rfl (hb hby d8_11) rfl ?_
    refine XS.iloadN X4.here hx rfl (hb hby d8_12) rfl ?_
    refine XS.aloadN X4.here hx rfl (hb hby d8_13) rfl rfl ?_
    show Steps p.tables e below (T4.setTop (mkF m 14 #[.val (.ref q8n1c42_0), .val (.int 42), .val (.int 0)] [(.ref q8n1c42_0), (.int 0), (.int 42), (.ref qb)])) t
    exact k)
  obtain ⟨cq6, kq6, q6a, q6b, q6c⟩ := isOf hZ e4 E_q8n1c42_0
  obtain ⟨_, _, ⟨T6, L6, k6, n6⟩, -, X6, ⟨Lc6, hQ6, l6, y6, z6⟩, st6⟩ := X4.virtualBack hx (y := (⟨"java/lang/String", "length", "()I"⟩ : MethodName)) (z := (⟨"java/lang/String", "length", "()I"⟩ : MethodName)) hown (mvT hZ (own_w hw 59 rfl)) (mvT hZ (own_w hw 60 rfl)) (notFace_of_selects (args := #[]) (mvT hZ (own_w hw 62 rfl))) (mvT hZ (own_w hw 62 rfl)) (mvT hZ (own_w hw 61 rfl)) (by decide) (backOf (W := 3) (rm10n1 l Z a0 hw [] q8n1c42_0 qb kb y0 zc h0 n0 Z0 F_q8n1c42_0_value A_qb S_COMPACT_STRINGS hcs F_q8n1c42_0_coder E_q8n1c42_0) hZ (own_w hw 63 rfl) (own_w hw 7 rfl) (by decide) (by decide)) q6a q6c (g := (mkF m 14 #[.val (.ref q8n1c42_0), .val (.int 42), .val (.int 0)] [(.ref q8n1c42_0), (.int 0), (.int 42), (.ref qb)])) rfl (by rw [hml]; rfl) (Steps.refl _) (argsL := []) (rest := [(.int 0), (.int 42), (.ref qb)]) (lenOf pd_9 rfl) rfl (by show 2 * 0 + _ ≤ _; exact Nat.le_of_eq rfl) (hb hby d8_14) (fun _ _ => ⟨rfl, e4, (by decide : 0 + 0 ≤ _), (by decide : 0 + 0 ≤ _)⟩)
  dsimp only [Pt.U, Pt.locs, Pt.cells, Pt.slots] at X6 l6 y6 z6 st6 hQ6
  subst l6 y6 z6
  obtain ⟨rfl, N6q, e6⟩ := hQ6
  have N6 := Fr.app N2 N6q
  have P6 : own_Go p e below S0 (T6.setTop (mkF m 17 #[.val (.ref q8n1c42_0), .val (.int 42), .val (.int 0)] [(.int 1), (.int 0), (.int 42), (.ref qb)])) := fun t k => P5 t (st6.trans k)
  obtain ⟨_, _, ⟨T7, L7, k7, n7⟩, -, X7, ⟨Lc7, hQ7, l7, y7, z7⟩, st7⟩ := Jvm.LawKit.callS X6 hx (y := (⟨"java/lang/StringLatin1", "indexOf", "([BIII)I"⟩ : MethodName)) hown (mvT hZ (own_w hw 69 rfl)) (mvT hZ (own_w hw 70 rfl)) (mvT hZ (own_w hw 71 rfl)) (mvT hZ (own_w hw 72 rfl)) (by decide) (backOf (W := 0) (rm12n1c42 l Z a0 hw [] qb kb y0 h0 n0 Z0 A_qb) hZ (own_w hw 72 rfl) (own_w hw 71 rfl) (by decide) (by decide)) (g := (mkF m 17 #[.val (.ref q8n1c42_0), .val (.int 42), .val (.int 0)] [(.int 1), (.int 0), (.int 42), (.ref qb)])) rfl (by rw [hml]; rfl) (argsL := [(.ref qb), (.int 42), (.int 0), (.int 1)]) (rest := []) (lenOf pd_10 rfl) rfl (by show 2 * 0 + _ ≤ _; exact Nat.le_of_eq rfl) (hb hby d8_17) (fun _ _ => ⟨rfl, e6, (by decide : 0 + 0 ≤ _), (by decide : 0 + 0 ≤ _)⟩)
  dsimp only [Pt.U, Pt.locs, Pt.cells, Pt.slots] at X7 l7 y7 z7 st7 hQ7
  subst l7 y7 z7
  obtain ⟨rfl, N7q, e7⟩ := hQ7
  have N7 := Fr.app N6 N7q
  have P7 : own_Go p e below S0 (T7.setTop (mkF m 20 #[.val (.ref q8n1c42_0), .val (.int 42), .val (.int 0)] [(.int (r20n1c42 y0))])) := fun t k => P6 t (st7 _ k)
  have P8 : own_Go p e below S0 (T7.setTop (mkF m 36 #[.val (.ref q8n1c42_0), .val (.int 42), .val (.int 0)] [(.int (r20n1c42 y0))])) := fun t k => P7 t (by
    refine XS.goto X7.here hx rfl (pc0 := 20) (pc' := 36) rfl (hb hby d8_20) (by decide) (by decide) ?_
    show Steps p.tables e below (T7.setTop (mkF m 36 #[.val (.ref q8n1c42_0), .val (.int 42), .val (.int 0)] [(.int (r20n1c42 y0))])) t
    exact k)
  obtain ⟨fs, hr, hrun, hended, hW, hsame⟩ := X7.leave (v := some (.int (r20n1c42 y0))) (fun h => by rw [Bd.returns] at h; cases h) (BodyLoose.notSynchronized Bd)
  refine ⟨_, _, own_from hE0 (P8 _ ?_), hrun, hended, _, _, rfl, ?_, ⟨_, rfl⟩, hW, hsame.mono (by decide) (by decide)⟩
  · show Steps p.tables e below (T7.setTop (mkF m 36 #[.val (.ref q8n1c42_0), .val (.int 42), .val (.int 0)] [(.int (r20n1c42 y0))])) _
    exact retI X7 hx Bd.returns (hb hby d8_36) hr
  · show Q8n1c42 Z q8n1c42_0 qb kb y0 zc h0 n0 _ T7.heap _
    rw [e7]
    exact ⟨rfl, N7, rfl⟩
theorem ef_7n1c42 (m : MethodId) (q7n1c42_0 : Addr) : entryFrame m #[(.ref q7n1c42_0), (.int 42)] 2 = mkF m 0 #[.val (.ref q7n1c42_0), .val (.int 42)] [] := by first | (simp [entryFrame, mkF, argsToLocals, Value.category]; done) | rfl
def Q7n1c42 (Z : State) (q7n1c42_0 : Addr) (qb : Addr) (kb : ClassId) (y0 : Int32) (zc : Int32) (h0 : Heap) (n0 : Nat) (v : Option Value) (h : Heap) (L : List Loc) : Prop := v = some (.int (r20n1c42 y0)) ∧ Fr n0 L ∧ h = h0
set_option maxRecDepth 65536 in
set_option maxHeartbeats 40000000 in
theorem rm7n1c42 (l : Launch) (Z : State) (a0 : Array Value) (hw : ∀ d ∈ tables_1, d.before a0 Z = true) (ws : List Jvm.Cond) (q7n1c42_0 : Addr) (qb : Addr) (kb : ClassId) (y0 : Int32) (zc : Int32) (h0 : Heap) (n0 : Nat) (Z0 : n0 ≤ h0.size) (F_q7n1c42_0_value : Fld Z h0 q7n1c42_0 "java/lang/String" "value" "[B" (.ref qb)) (A_qb : Arv Z h0 qb kb .byte (1 : Int32) [(.int y0)] (.int 0)) (S_COMPACT_STRINGS : Sta Z h0 "java/lang/String" "COMPACT_STRINGS" "Z" (.int zc)) (hcs : ¬ (zc = (0 : Int32))) (F_q7n1c42_0_coder : Fld Z h0 q7n1c42_0 "java/lang/String" "coder" "B" (.int 0)) (E_q7n1c42_0 : Exa Z h0 q7n1c42_0 "java/lang/String") :
    MetFree l (⟨"java/lang/String", "indexOf", "(I)I"⟩ : MethodName) (head1 (Jvm.Cond.code (⟨"java/lang/String", "indexOf", "(I)I"⟩ : MethodName) jdk_42_method_79_code 2 (some .int) :: ws) ({ frames := 3, cells := 0, slots := 0, locals := 46 } : Room)) (fun a U => a = #[(.ref q7n1c42_0), (.int 42)] ∧ Z.Warmed39 U.vm ∧ U.heap = h0) (fun _ _ _ _ _ => True) (fun _ U o U' => ∃ v L, o = .returned v ∧ Q7n1c42 Z q7n1c42_0 qb kb y0 zc h0 n0 v U'.heap L ∧ FrameEnd U o U' L ({ frames := 3, cells := 0, slots := 0, locals := 46 } : Room).cells ({ frames := 3, cells := 0, slots := 0, locals := 46 } : Room).slots) := by
  refine MetFree.of_bodySF (plainFor_of_name pn_2) hisR ?_
  intro p e s m args below meth c s₁ Bd hml0 hP hK
  obtain ⟨rfl, hZ, hh⟩ := hP
  have hx := Bd.exec
  have hby := Bd.bytes
  have hml : c.maxLocals = 2 := hml0
  have hown : s.vm.findClass "java/lang/String" = some m.cls := findClass_of_methodNamed Bd.named
  have hnm := (name_of_methodNamed Bd.named Bd.method).1
  have X0 : Stand p l e ({ frames := 3, cells := 0, slots := 0, locals := 46 } : Room) s m #[(.ref q7n1c42_0), (.int 42)] below meth c s₁ [] 0 0 := Stand.of_body Bd
  have e0 : s₁.heap = h0 := by rw [← hh, Bd.state]; rfl
  have N0 := Fr.nil n0
  obtain ⟨S0, hE0⟩ : ∃ z, z = s₁.setTop (entryFrame m #[(.ref q7n1c42_0), (.int 42)] 2) := ⟨_, rfl⟩
  have P0 : own_Go p e below S0 (s₁.setTop (mkF m 0 #[.val (.ref q7n1c42_0), .val (.int 42)] [])) := fun t k => by rw [hE0]; exact castTop (ef_7n1c42 m q7n1c42_0) k
  have P1 : own_Go p e below S0 (s₁.setTop (mkF m 3 #[.val (.ref q7n1c42_0), .val (.int 42)] [(.int 0), (.int 42), (.ref q7n1c42_0)])) := fun t k => P0 t (by
    refine XS.aloadN X0.here hx rfl (hb hby d7_0) rfl rfl ?_
    refine XS.iloadN X0.here hx rfl (hb hby d7_1) rfl ?_
    refine XS.iconst X0.here hx rfl (hb hby d7_2) ?_
    show Steps p.tables e below (s₁.setTop (mkF m 3 #[.val (.ref q7n1c42_0), .val (.int 42)] [(.int 0), (.int 42), (.ref q7n1c42_0)])) t
    exact k)
  obtain ⟨cq2, kq2, q2a, q2b, q2c⟩ := isOf hZ e0 E_q7n1c42_0
  obtain ⟨_, _, ⟨T2, L2, k2, n2⟩, -, X2, ⟨Lc2, hQ2, l2, y2, z2⟩, st2⟩ := X0.virtualBack hx (y := (⟨"java/lang/String", "indexOf", "(II)I"⟩ : MethodName)) (z := (⟨"java/lang/String", "indexOf", "(II)I"⟩ : MethodName)) hown (mvT hZ (own_w hw 48 rfl)) (mvT hZ (own_w hw 49 rfl)) (notFace_of_selects (args := #[]) (mvT hZ (own_w hw 51 rfl))) (mvT hZ (own_w hw 51 rfl)) (mvT hZ (own_w hw 50 rfl)) (by decide) (backOf (W := 0) (rm8n1c42 l Z a0 hw [] q7n1c42_0 qb kb y0 zc h0 n0 Z0 F_q7n1c42_0_value A_qb S_COMPACT_STRINGS hcs F_q7n1c42_0_coder E_q7n1c42_0) hZ (own_w hw 52 rfl) (own_w hw 7 rfl) (by decide) (by decide)) q2a q2c (g := (mkF m 3 #[.val (.ref q7n1c42_0), .val (.int 42)] [(.int 0), (.int 42), (.ref q7n1c42_0)])) rfl (by rw [hml]; rfl) (Steps.refl _) (argsL := [(.int 42), (.int 0)]) (rest := []) (lenOf pd_7 rfl) rfl (by show 2 * 0 + _ ≤ _; exact Nat.le_of_eq rfl) (hb hby d7_3) (fun _ _ => ⟨rfl, e0, (by decide : 0 + 0 ≤ _), (by decide : 0 + 0 ≤ _)⟩)
  dsimp only [Pt.U, Pt.locs, Pt.cells, Pt.slots] at X2 l2 y2 z2 st2 hQ2
  subst l2 y2 z2
  obtain ⟨rfl, N2q, e2⟩ := hQ2
  have N2 := Fr.app N0 N2q
  have P2 : own_Go p e below S0 (T2.setTop (mkF m 6 #[.val (.ref q7n1c42_0), .val (.int 42)] [(.int (r20n1c42 y0))])) := fun t k => P1 t (st2.trans k)
  obtain ⟨fs, hr, hrun, hended, hW, hsame⟩ := X2.leave (v := some (.int (r20n1c42 y0))) (fun h => by rw [Bd.returns] at h; cases h) (BodyLoose.notSynchronized Bd)
  refine ⟨_, _, own_from hE0 (P2 _ ?_), hrun, hended, _, _, rfl, ?_, ⟨_, rfl⟩, hW, hsame.mono (by decide) (by decide)⟩
  · show Steps p.tables e below (T2.setTop (mkF m 6 #[.val (.ref q7n1c42_0), .val (.int 42)] [(.int (r20n1c42 y0))])) _
    exact retI X2 hx Bd.returns (hb hby d7_6) hr
  · show Q7n1c42 Z q7n1c42_0 qb kb y0 zc h0 n0 _ T2.heap _
    rw [e2]
    exact ⟨rfl, N2, rfl⟩
theorem ef_20n1c63 (m : MethodId) (qb : Addr) : entryFrame m #[(.ref qb), (.int 63), (.int 0), (.int 1)] 6 = mkF m 0 #[.val (.ref qb), .val (.int 63), .val (.int 0), .val (.int 1), .unset, .unset] [] := by first | (simp [entryFrame, mkF, argsToLocals, Value.category]; done) | rfl
def r20n1c63 (y0 : Int32) : Int32 := (if y0 = (63 : Int32) then (0 : Int32) else (-1 : Int32))
def Q20n1c63 (Z : State) (qb : Addr) (kb : ClassId) (y0 : Int32) (h0 : Heap) (n0 : Nat) (v : Option Value) (h : Heap) (L : List Loc) : Prop := v = some (.int (r20n1c63 y0)) ∧ Fr n0 L ∧ h = h0
set_option maxRecDepth 65536 in
set_option maxHeartbeats 40000000 in
theorem rm20n1c63 (l : Launch) (Z : State) (a0 : Array Value) (hw : ∀ d ∈ tables_1, d.before a0 Z = true) (ws : List Jvm.Cond) (qb : Addr) (kb : ClassId) (y0 : Int32) (h0 : Heap) (n0 : Nat) (Z0 : n0 ≤ h0.size) (A_qb : Arv Z h0 qb kb .byte (1 : Int32) [(.int y0)] (.int 0)) :
    MetFree l (⟨"java/lang/StringLatin1", "indexOfChar", "([BIII)I"⟩ : MethodName) (head1 (Jvm.Cond.code (⟨"java/lang/StringLatin1", "indexOfChar", "([BIII)I"⟩ : MethodName) jdk_43_method_23_code 6 (some .int) :: ws) ({ frames := 0, cells := 0, slots := 0, locals := 0 } : Room)) (fun a U => a = #[(.ref qb), (.int 63), (.int 0), (.int 1)] ∧ Z.Warmed39 U.vm ∧ U.heap = h0) (fun _ _ _ _ _ => True) (fun _ U o U' => ∃ v L, o = .returned v ∧ Q20n1c63 Z qb kb y0 h0 n0 v U'.heap L ∧ FrameEnd U o U' L ({ frames := 0, cells := 0, slots := 0, locals := 0 } : Room).cells ({ frames := 0, cells := 0, slots := 0, locals := 0 } : Room).slots) := by
  refine MetFree.of_bodySF (plainFor_of_name pn_13) hisR ?_
  intro p e s m args below meth c s₁ Bd hml0 hP hK
  obtain ⟨rfl, hZ, hh⟩ := hP
  have hx := Bd.exec
  have hby := Bd.bytes
  have hml : c.maxLocals = 6 := hml0
  have hown : s.vm.findClass "java/lang/StringLatin1" = some m.cls := findClass_of_methodNamed Bd.named
  have hnm := (name_of_methodNamed Bd.named Bd.method).1
  have X0 : Stand p l e ({ frames := 0, cells := 0, slots := 0, locals := 0 } : Room) s m #[(.ref qb), (.int 63), (.int 0), (.int 1)] below meth c s₁ [] 0 0 := Stand.of_body Bd
  have e0 : s₁.heap = h0 := by rw [← hh, Bd.state]; rfl
  have N0 := Fr.nil n0
  obtain ⟨S0, hE0⟩ : ∃ z, z = s₁.setTop (entryFrame m #[(.ref qb), (.int 63), (.int 0), (.int 1)] 6) := ⟨_, rfl⟩
  have P0 : own_Go p e below S0 (s₁.setTop (mkF m 0 #[.val (.ref qb), .val (.int 63), .val (.int 0), .val (.int 1), .unset, .unset] [])) := fun t k => by rw [hE0]; exact castTop (ef_20n1c63 m qb) k
  obtain ⟨cl1, Ar1, q1, Sz1, Nn1, Hh1, Gg1⟩ := id A_qb
  have hin1 : ¬ ((0 : Int32) < 0 ∨ cl1.slots.size ≤ ((0 : Int32)).toNatClampNeg) := inb_of Sz1 ⟨by decide, by decide⟩
  have hat1 : cl1.slots[((0 : Int32)).toNatClampNeg]? = some (.int y0) := Has.at Hh1 hin1 rfl
  have P2 : own_Go p e below S0 (s₁.setTop (mkF m 19 #[.val (.ref qb), .val (.int 63), .val (.int 0), .val (.int 1), .val (.int 63), .val (.int 0)] [(.int 63), (.int y0)])) := fun t k => P0 t (by
    refine XS.iloadN X0.here hx rfl (hb hby d20_0) rfl ?_
    refine XS.i2b X0.here hx rfl (hb hby d20_1) rfl ?_
    refine XS.istore X0.here hx rfl (hb hby d20_2) rfl (l' := #[.val (.ref qb), .val (.int 63), .val (.int 0), .val (.int 1), .val (.int 63), .unset]) rfl ?_
    refine XS.iloadN X0.here hx rfl (hb hby d20_4) rfl ?_
    refine XS.istore X0.here hx rfl (hb hby d20_5) rfl (l' := #[.val (.ref qb), .val (.int 63), .val (.int 0), .val (.int 1), .val (.int 63), .val (.int 0)]) rfl ?_
    refine XS.iload X0.here hx rfl (hb hby d20_7) rfl ?_
    show Steps p.tables e below (s₁.setTop (mkF m 9 #[.val (.ref qb), .val (.int 63), .val (.int 0), .val (.int 1), .val (.int 63), .val (.int 0)] [(.int 0)])) t
    refine XS.iloadN X0.here hx rfl (hb hby d20_9) rfl ?_
    refine XS.icmpNo X0.here hx rfl (hb hby d20_10) rfl (tlt (by decide)).2.1 ?_
    refine XS.aloadN X0.here hx rfl (hb hby d20_13) rfl rfl ?_
    refine XS.iload X0.here hx rfl (hb hby d20_14) rfl ?_
    show Steps p.tables e below (s₁.setTop (mkF m 16 #[.val (.ref qb), .val (.int 63), .val (.int 0), .val (.int 1), .val (.int 63), .val (.int 0)] [(.int 0), (.ref qb)])) t
    refine X0.baloadBytes hx (j := (0 : Int32)) (v := (.int y0)) (by rw [e0]; exact Ar1.1) (State.isArrayOf_alike hZ.alike Ar1.2.1) Ar1.2.2 hin1 hat1 (g := (mkF m 16 #[.val (.ref qb), .val (.int 63), .val (.int 0), .val (.int 1), .val (.int 63), .val (.int 0)] [(.int 0), (.ref qb)])) rfl rfl (hb hby d20_16) _ ?_
    refine XS.iload X0.here hx rfl (hb hby d20_17) rfl ?_
    show Steps p.tables e below (s₁.setTop (mkF m 19 #[.val (.ref qb), .val (.int 63), .val (.int 0), .val (.int 1), .val (.int 63), .val (.int 0)] [(.int 63), (.int y0)])) t
    exact k)
  by_cases c3 : y0 = (63 : Int32)
  · skip
    have P4 : own_Go p e below S0 (s₁.setTop (mkF m 24 #[.val (.ref qb), .val (.int 63), .val (.int 0), .val (.int 1), .val (.int 63), .val (.int 0)] [(.int 0)])) := fun t k => P2 t (by
      refine XS.icmpNo X0.here hx rfl (hb hby d20_19) rfl (teq c3).2 ?_
      refine XS.iload X0.here hx rfl (hb hby d20_22) rfl ?_
      show Steps p.tables e below (s₁.setTop (mkF m 24 #[.val (.ref qb), .val (.int 63), .val (.int 0), .val (.int 1), .val (.int 63), .val (.int 0)] [(.int 0)])) t
      exact k)
    obtain ⟨fs, hr, hrun, hended, hW, hsame⟩ := X0.leave (v := some (.int 0)) (fun h => by rw [Bd.returns] at h; cases h) (BodyLoose.notSynchronized Bd)
    refine ⟨_, _, own_from hE0 (P4 _ ?_), hrun, hended, _, _, rfl, ?_, ⟨_, rfl⟩, hW, hsame.mono (by decide) (by decide)⟩
    · show Steps p.tables e below (s₁.setTop (mkF m 24 #[.val (.ref qb), .val (.int 63), .val (.int 0), .val (.int 1), .val (.int 63), .val (.int 0)] [(.int 0)])) _
      exact retI X0 hx Bd.returns (hb hby d20_24) hr
    · show Q20n1c63 Z qb kb y0 h0 n0 _ s₁.heap _
      rw [e0]
      exact ⟨(congrArg (fun z => some (Value.int z)) (Eq.symm (if_pos c3))), N0, rfl⟩
  · skip
    have P5 : own_Go p e below S0 (s₁.setTop (mkF m 32 #[.val (.ref qb), .val (.int 63), .val (.int 0), .val (.int 1), .val (.int 63), .val (.int 1)] [(.int (-1))])) := fun t k => P2 t (by
      refine XS.icmpYes X0.here hx rfl (pc0 := 19) (pc' := 25) rfl (hb hby d20_19) rfl (feq c3).2 (by decide) (by decide) ?_
      refine XS.iinc X0.here hx rfl (hb hby d20_25) rfl (l' := #[.val (.ref qb), .val (.int 63), .val (.int 0), .val (.int 1), .val (.int 63), .val (.int 1)]) rfl ?_
      refine XS.goto X0.here hx rfl (pc0 := 28) (pc' := 7) rfl (hb hby d20_28) (by decide) (by decide) ?_
      refine XS.iload X0.here hx rfl (hb hby d20_7) rfl ?_
      refine XS.iloadN X0.here hx rfl (hb hby d20_9) rfl ?_
      refine XS.icmpYes X0.here hx rfl (pc0 := 10) (pc' := 31) rfl (hb hby d20_10) rfl (flt (by decide)).2.1 (by decide) (by decide) ?_
      show Steps p.tables e below (s₁.setTop (mkF m 31 #[.val (.ref qb), .val (.int 63), .val (.int 0), .val (.int 1), .val (.int 63), .val (.int 1)] [])) t
      refine XS.iconst X0.here hx rfl (hb hby d20_31) ?_
      show Steps p.tables e below (s₁.setTop (mkF m 32 #[.val (.ref qb), .val (.int 63), .val (.int 0), .val (.int 1), .val (.int 63), .val (.int 1)] [(.int (-1))])) t
      exact k)
    obtain ⟨fs, hr, hrun, hended, hW, hsame⟩ := X0.leave (v := some (.int (-1))) (fun h => by rw [Bd.returns] at h; cases h) (BodyLoose.notSynchronized Bd)
    refine ⟨_, _, own_from hE0 (P5 _ ?_), hrun, hended, _, _, rfl, ?_, ⟨_, rfl⟩, hW, hsame.mono (by decide) (by decide)⟩
    · show Steps p.tables e below (s₁.setTop (mkF m 32 #[.val (.ref qb), .val (.int 63), .val (.int 0), .val (.int 1), .val (.int 63), .val (.int 1)] [(.int (-1))])) _
      exact retI X0 hx Bd.returns (hb hby d20_32) hr
    · show Q20n1c63 Z qb kb y0 h0 n0 _ s₁.heap _
      rw [e0]
      exact ⟨(congrArg (fun z => some (Value.int z)) (Eq.symm (if_neg c3))), N0, rfl⟩
theorem ef_12n1c63 (m : MethodId) (qb : Addr) : entryFrame m #[(.ref qb), (.int 63), (.int 0), (.int 1)] 4 = mkF m 0 #[.val (.ref qb), .val (.int 63), .val (.int 0), .val (.int 1)] [] := by first | (simp [entryFrame, mkF, argsToLocals, Value.category]; done) | rfl
def Q12n1c63 (Z : State) (qb : Addr) (kb : ClassId) (y0 : Int32) (h0 : Heap) (n0 : Nat) (v : Option Value) (h : Heap) (L : List Loc) : Prop := v = some (.int (r20n1c63 y0)) ∧ Fr n0 L ∧ h = h0
set_option maxRecDepth 65536 in
set_option maxHeartbeats 40000000 in
theorem rm12n1c63 (l : Launch) (Z : State) (a0 : Array Value) (hw : ∀ d ∈ tables_1, d.before a0 Z = true) (ws : List Jvm.Cond) (qb : Addr) (kb : ClassId) (y0 : Int32) (h0 : Heap) (n0 : Nat) (Z0 : n0 ≤ h0.size) (A_qb : Arv Z h0 qb kb .byte (1 : Int32) [(.int y0)] (.int 0)) :
    MetFree l (⟨"java/lang/StringLatin1", "indexOf", "([BIII)I"⟩ : MethodName) (head1 (Jvm.Cond.code (⟨"java/lang/StringLatin1", "indexOf", "([BIII)I"⟩ : MethodName) jdk_43_method_22_code 4 (some .int) :: ws) ({ frames := 1, cells := 0, slots := 0, locals := 17 } : Room)) (fun a U => a = #[(.ref qb), (.int 63), (.int 0), (.int 1)] ∧ Z.Warmed39 U.vm ∧ U.heap = h0) (fun _ _ _ _ _ => True) (fun _ U o U' => ∃ v L, o = .returned v ∧ Q12n1c63 Z qb kb y0 h0 n0 v U'.heap L ∧ FrameEnd U o U' L ({ frames := 1, cells := 0, slots := 0, locals := 17 } : Room).cells ({ frames := 1, cells := 0, slots := 0, locals := 17 } : Room).slots) := by
  refine MetFree.of_bodySF (plainFor_of_name pn_13) hisR ?_
  intro p e s m args below meth c s₁ Bd hml0 hP hK
  obtain ⟨rfl, hZ, hh⟩ := hP
  have hx := Bd.exec
  have hby := Bd.bytes
  have hml : c.maxLocals = 4 := hml0
  have hown : s.vm.findClass "java/lang/StringLatin1" = some m.cls := findClass_of_methodNamed Bd.named
  have hnm := (name_of_methodNamed Bd.named Bd.method).1
  have X0 : Stand p l e ({ frames := 1, cells := 0, slots := 0, locals := 17 } : Room) s m #[(.ref qb), (.int 63), (.int 0), (.int 1)] below meth c s₁ [] 0 0 := Stand.of_body Bd
  have e0 : s₁.heap = h0 := by rw [← hh, Bd.state]; rfl
  have N0 := Fr.nil n0
  obtain ⟨S0, hE0⟩ : ∃ z, z = s₁.setTop (entryFrame m #[(.ref qb), (.int 63), (.int 0), (.int 1)] 4) := ⟨_, rfl⟩
  have P0 : own_Go p e below S0 (s₁.setTop (mkF m 0 #[.val (.ref qb), .val (.int 63), .val (.int 0), .val (.int 1)] [])) := fun t k => by rw [hE0]; exact castTop (ef_12n1c63 m qb) k
  have P1 : own_Go p e below S0 (s₁.setTop (mkF m 1 #[.val (.ref qb), .val (.int 63), .val (.int 0), .val (.int 1)] [(.int 63)])) := fun t k => P0 t (by
    refine XS.iloadN X0.here hx rfl (hb hby d12_0) rfl ?_
    show Steps p.tables e below (s₁.setTop (mkF m 1 #[.val (.ref qb), .val (.int 63), .val (.int 0), .val (.int 1)] [(.int 63)])) t
    exact k)
  obtain ⟨_, _, ⟨T2, L2, k2, n2⟩, -, X2, ⟨Lc2, hQ2, l2, y2, z2⟩, st2⟩ := Jvm.LawKit.callS X0 hx (y := (⟨"java/lang/StringLatin1", "canEncode", "(I)Z"⟩ : MethodName)) hown (mvT hZ (own_w hw 73 rfl)) (mvT hZ (own_w hw 74 rfl)) (mvT hZ (own_w hw 71 rfl)) (mvT hZ (own_w hw 75 rfl)) (by decide) (backOf (W := 0) (rm13c63 l Z a0 hw []  h0 n0 Z0) hZ (own_w hw 75 rfl) (own_w hw 71 rfl) (by decide) (by decide)) (g := (mkF m 1 #[.val (.ref qb), .val (.int 63), .val (.int 0), .val (.int 1)] [(.int 63)])) rfl (by rw [hml]; rfl) (argsL := [(.int 63)]) (rest := []) (lenOf pd_6 rfl) rfl (by show 2 * 0 + _ ≤ _; exact Nat.le_of_eq rfl) (hb hby d12_1) (fun _ _ => ⟨rfl, e0, (by decide : 0 + 0 ≤ _), (by decide : 0 + 0 ≤ _)⟩)
  dsimp only [Pt.U, Pt.locs, Pt.cells, Pt.slots] at X2 l2 y2 z2 st2 hQ2
  subst l2 y2 z2
  obtain ⟨rfl, N2q, e2⟩ := hQ2
  have N2 := Fr.app N0 N2q
  have P2 : own_Go p e below S0 (T2.setTop (mkF m 4 #[.val (.ref qb), .val (.int 63), .val (.int 0), .val (.int 1)] [(.int 1)])) := fun t k => P1 t (st2 _ k)
  have P3 : own_Go p e below S0 (T2.setTop (mkF m 11 #[.val (.ref qb), .val (.int 63), .val (.int 0), .val (.int 1)] [(.int 0), (.int 0)])) := fun t k => P2 t (by
    refine XS.ifYes X2.here hx rfl (pc0 := 4) (pc' := 9) rfl (hb hby d12_4) rfl ((if0 _ _).trans (feq (by decide)).2) (by decide) (by decide) ?_
    refine XS.iloadN X2.here hx rfl (hb hby d12_9) rfl ?_
    refine XS.iconst X2.here hx rfl (hb hby d12_10) ?_
    show Steps p.tables e below (T2.setTop (mkF m 11 #[.val (.ref qb), .val (.int 63), .val (.int 0), .val (.int 1)] [(.int 0), (.int 0)])) t
    exact k)
  obtain ⟨_, _, ⟨T4, L4, k4, n4⟩, -, X4, ⟨Lc4, hQ4, l4, y4, z4⟩, st4⟩ := Jvm.LawKit.callS X2 hx (y := (⟨"java/lang/Math", "max", "(II)I"⟩ : MethodName)) hown (mvT hZ (own_w hw 76 rfl)) (mvT hZ (own_w hw 77 rfl)) (mvT hZ (own_w hw 78 rfl)) (mvT hZ (own_w hw 79 rfl)) (by decide) (backOf (W := 0) (rm14 l Z a0 hw []  h0 n0 Z0) hZ (own_w hw 79 rfl) (own_w hw 78 rfl) (by decide) (by decide)) (g := (mkF m 11 #[.val (.ref qb), .val (.int 63), .val (.int 0), .val (.int 1)] [(.int 0), (.int 0)])) rfl (by rw [hml]; rfl) (argsL := [(.int 0), (.int 0)]) (rest := []) (lenOf pd_7 rfl) rfl (by show 2 * 0 + _ ≤ _; exact Nat.le_of_eq rfl) (hb hby d12_11) (fun _ _ => ⟨rfl, e2, (by decide : 0 + 0 ≤ _), (by decide : 0 + 0 ≤ _)⟩)
  dsimp only [Pt.U, Pt.locs, Pt.cells, Pt.slots] at X4 l4 y4 z4 st4 hQ4
  subst l4 y4 z4
  obtain ⟨rfl, N4q, e4⟩ := hQ4
  have N4 := Fr.app N2 N4q
  have P4 : own_Go p e below S0 (T4.setTop (mkF m 14 #[.val (.ref qb), .val (.int 63), .val (.int 0), .val (.int 1)] [(.int 0)])) := fun t k => P3 t (st4 _ k)
  obtain ⟨cl5, Ar5, q5, Sz5, Nn5, Hh5, Gg5⟩ := id A_qb
  have P6 : own_Go p e below S0 (T4.setTop (mkF m 18 #[.val (.ref qb), .val (.int 63), .val (.int 0), .val (.int 1)] [(.int 1), (.int 1)])) := fun t k => P4 t (by
    refine XS.istoreN X4.here hx rfl (hb hby d12_14) rfl (l' := #[.val (.ref qb), .val (.int 63), .val (.int 0), .val (.int 1)]) rfl ?_
    refine XS.iloadN X4.here hx rfl (hb hby d12_15) rfl ?_
    refine XS.aloadN X4.here hx rfl (hb hby d12_16) rfl rfl ?_
    show Steps p.tables e below (T4.setTop (mkF m 17 #[.val (.ref qb), .val (.int 63), .val (.int 0), .val (.int 1)] [(.ref qb), (.int 1)])) t
    refine X4.arraylength hx (by rw [e4]; exact Ar5.1) (State.isArrayOf_alike hZ.alike Ar5.2.1) (g := (mkF m 17 #[.val (.ref qb), .val (.int 63), .val (.int 0), .val (.int 1)] [(.ref qb), (.int 1)])) rfl rfl (hb hby d12_17) _ ?_
    rw [len_of Sz5 Nn5]
    show Steps p.tables e below (T4.setTop (mkF m 18 #[.val (.ref qb), .val (.int 63), .val (.int 0), .val (.int 1)] [(.int 1), (.int 1)])) t
    exact k)
  obtain ⟨_, _, ⟨T7, L7, k7, n7⟩, -, X7, ⟨Lc7, hQ7, l7, y7, z7⟩, st7⟩ := Jvm.LawKit.callS X4 hx (y := (⟨"java/lang/Math", "min", "(II)I"⟩ : MethodName)) hown (mvT hZ (own_w hw 80 rfl)) (mvT hZ (own_w hw 81 rfl)) (mvT hZ (own_w hw 78 rfl)) (mvT hZ (own_w hw 82 rfl)) (by decide) (backOf (W := 0) (rm15n1 l Z a0 hw []  h0 n0 Z0) hZ (own_w hw 82 rfl) (own_w hw 78 rfl) (by decide) (by decide)) (g := (mkF m 18 #[.val (.ref qb), .val (.int 63), .val (.int 0), .val (.int 1)] [(.int 1), (.int 1)])) rfl (by rw [hml]; rfl) (argsL := [(.int 1), (.int 1)]) (rest := []) (lenOf pd_7 rfl) rfl (by show 2 * 0 + _ ≤ _; exact Nat.le_of_eq rfl) (hb hby d12_18) (fun _ _ => ⟨rfl, e4, (by decide : 0 + 0 ≤ _), (by decide : 0 + 0 ≤ _)⟩)
  dsimp only [Pt.U, Pt.locs, Pt.cells, Pt.slots] at X7 l7 y7 z7 st7 hQ7
  subst l7 y7 z7
  obtain ⟨rfl, N7q, e7⟩ := hQ7
  have N7 := Fr.app N4 N7q
  have P7 : own_Go p e below S0 (T7.setTop (mkF m 21 #[.val (.ref qb), .val (.int 63), .val (.int 0), .val (.int 1)] [(.int 1)])) := fun t k => P6 t (st7 _ k)
  have P8 : own_Go p e below S0 (T7.setTop (mkF m 33 #[.val (.ref qb), .val (.int 63), .val (.int 0), .val (.int 1)] [(.int 1), (.int 0), (.int 63), (.ref qb)])) := fun t k => P7 t (by
    refine XS.istoreN X7.here hx rfl (hb hby d12_21) rfl (l' := #[.val (.ref qb), .val (.int 63), .val (.int 0), .val (.int 1)]) rfl ?_
    refine XS.iloadN X7.here hx rfl (hb hby d12_22) rfl ?_
    refine XS.iloadN X7.here hx rfl (hb hby d12_23) rfl ?_
    refine XS.icmpYes X7.here hx rfl (pc0 := 24) (pc' := 29) rfl (hb hby d12_24) rfl (tlt (by decide)).1 (by decide) (by decide) ?_
    refine XS.aloadN X7.here hx rfl (hb hby d12_29) rfl rfl ?_
    refine XS.iloadN X7.here hx rfl (hb hby d12_30) rfl ?_
    show Steps p.tables e below (T7.setTop (mkF m 31 #[.val (.ref qb), .val (.int 63), .val (.int 0), .val (.int 1)] [(.int 63), (.ref qb)])) t
    refine XS.iloadN X7.here hx rfl (hb hby d12_31) rfl ?_
    refine XS.iloadN X7.here hx rfl (hb hby d12_32) rfl ?_
    show Steps p.tables e below (T7.setTop (mkF m 33 #[.val (.ref qb), .val (.int 63), .val (.int 0), .val (.int 1)] [(.int 1), (.int 0), (.int 63), (.ref qb)])) t
    exact k)
  obtain ⟨_, _, ⟨T9, L9, k9, n9⟩, -, X9, ⟨Lc9, hQ9, l9, y9, z9⟩, st9⟩ := Jvm.LawKit.callS X7 hx (y := (⟨"java/lang/StringLatin1", "indexOfChar", "([BIII)I"⟩ : MethodName)) hown (mvT hZ (own_w hw 97 rfl)) (mvT hZ (own_w hw 98 rfl)) (mvT hZ (own_w hw 71 rfl)) (mvT hZ (own_w hw 99 rfl)) (by decide) (backOf (W := 0) (rm20n1c63 l Z a0 hw [] qb kb y0 h0 n0 Z0 A_qb) hZ (own_w hw 99 rfl) (own_w hw 71 rfl) (by decide) (by decide)) (g := (mkF m 33 #[.val (.ref qb), .val (.int 63), .val (.int 0), .val (.int 1)] [(.int 1), (.int 0), (.int 63), (.ref qb)])) rfl (by rw [hml]; rfl) (argsL := [(.ref qb), (.int 63), (.int 0), (.int 1)]) (rest := []) (lenOf pd_10 rfl) rfl (by show 2 * 0 + _ ≤ _; exact Nat.le_of_eq rfl) (hb hby d12_33) (fun _ _ => ⟨rfl, e7, (by decide : 0 + 0 ≤ _), (by decide : 0 + 0 ≤ _)⟩)
  dsimp only [Pt.U, Pt.locs, Pt.cells, Pt.slots] at X9 l9 y9 z9 st9 hQ9
  subst l9 y9 z9
  obtain ⟨rfl, N9q, e9⟩ := hQ9
  have N9 := Fr.app N7 N9q
  have P9 : own_Go p e below S0 (T9.setTop (mkF m 36 #[.val (.ref qb), .val (.int 63), .val (.int 0), .val (.int 1)] [(.int (r20n1c63 y0))])) := fun t k => P8 t (st9 _ k)
  obtain ⟨fs, hr, hrun, hended, hW, hsame⟩ := X9.leave (v := some (.int (r20n1c63 y0))) (fun h => by rw [Bd.returns] at h; cases h) (BodyLoose.notSynchronized Bd)
  refine ⟨_, _, own_from hE0 (P9 _ ?_), hrun, hended, _, _, rfl, ?_, ⟨_, rfl⟩, hW, hsame.mono (by decide) (by decide)⟩
  · show Steps p.tables e below (T9.setTop (mkF m 36 #[.val (.ref qb), .val (.int 63), .val (.int 0), .val (.int 1)] [(.int (r20n1c63 y0))])) _
    exact retI X9 hx Bd.returns (hb hby d12_36) hr
  · show Q12n1c63 Z qb kb y0 h0 n0 _ T9.heap _
    rw [e9]
    exact ⟨rfl, N9, rfl⟩
theorem ef_8n1c63 (m : MethodId) (q8n1c63_0 : Addr) : entryFrame m #[(.ref q8n1c63_0), (.int 63), (.int 0)] 3 = mkF m 0 #[.val (.ref q8n1c63_0), .val (.int 63), .val (.int 0)] [] := by first | (simp [entryFrame, mkF, argsToLocals, Value.category]; done) | rfl
def Q8n1c63 (Z : State) (q8n1c63_0 : Addr) (qb : Addr) (kb : ClassId) (y0 : Int32) (zc : Int32) (h0 : Heap) (n0 : Nat) (v : Option Value) (h : Heap) (L : List Loc) : Prop := v = some (.int (r20n1c63 y0)) ∧ Fr n0 L ∧ h = h0
set_option maxRecDepth 65536 in
set_option maxHeartbeats 40000000 in
theorem rm8n1c63 (l : Launch) (Z : State) (a0 : Array Value) (hw : ∀ d ∈ tables_1, d.before a0 Z = true) (ws : List Jvm.Cond) (q8n1c63_0 : Addr) (qb : Addr) (kb : ClassId) (y0 : Int32) (zc : Int32) (h0 : Heap) (n0 : Nat) (Z0 : n0 ≤ h0.size) (F_q8n1c63_0_value : Fld Z h0 q8n1c63_0 "java/lang/String" "value" "[B" (.ref qb)) (A_qb : Arv Z h0 qb kb .byte (1 : Int32) [(.int y0)] (.int 0)) (S_COMPACT_STRINGS : Sta Z h0 "java/lang/String" "COMPACT_STRINGS" "Z" (.int zc)) (hcs : ¬ (zc = (0 : Int32))) (F_q8n1c63_0_coder : Fld Z h0 q8n1c63_0 "java/lang/String" "coder" "B" (.int 0)) (E_q8n1c63_0 : Exa Z h0 q8n1c63_0 "java/lang/String") :
    MetFree l (⟨"java/lang/String", "indexOf", "(II)I"⟩ : MethodName) (head1 (Jvm.Cond.code (⟨"java/lang/String", "indexOf", "(II)I"⟩ : MethodName) jdk_42_method_80_code 3 (some .int) :: ws) ({ frames := 2, cells := 0, slots := 0, locals := 32 } : Room)) (fun a U => a = #[(.ref q8n1c63_0), (.int 63), (.int 0)] ∧ Z.Warmed39 U.vm ∧ U.heap = h0) (fun _ _ _ _ _ => True) (fun _ U o U' => ∃ v L, o = .returned v ∧ Q8n1c63 Z q8n1c63_0 qb kb y0 zc h0 n0 v U'.heap L ∧ FrameEnd U o U' L ({ frames := 2, cells := 0, slots := 0, locals := 32 } : Room).cells ({ frames := 2, cells := 0, slots := 0, locals := 32 } : Room).slots) := by
  refine MetFree.of_bodySF (plainFor_of_name pn_2) hisR ?_
  intro p e s m args below meth c s₁ Bd hml0 hP hK
  obtain ⟨rfl, hZ, hh⟩ := hP
  have hx := Bd.exec
  have hby := Bd.bytes
  have hml : c.maxLocals = 3 := hml0
  have hown : s.vm.findClass "java/lang/String" = some m.cls := findClass_of_methodNamed Bd.named
  have hnm := (name_of_methodNamed Bd.named Bd.method).1
  have X0 : Stand p l e ({ frames := 2, cells := 0, slots := 0, locals := 32 } : Room) s m #[(.ref q8n1c63_0), (.int 63), (.int 0)] below meth c s₁ [] 0 0 := Stand.of_body Bd
  have e0 : s₁.heap = h0 := by rw [← hh, Bd.state]; rfl
  have N0 := Fr.nil n0
  obtain ⟨S0, hE0⟩ : ∃ z, z = s₁.setTop (entryFrame m #[(.ref q8n1c63_0), (.int 63), (.int 0)] 3) := ⟨_, rfl⟩
  have P0 : own_Go p e below S0 (s₁.setTop (mkF m 0 #[.val (.ref q8n1c63_0), .val (.int 63), .val (.int 0)] [])) := fun t k => by rw [hE0]; exact castTop (ef_8n1c63 m q8n1c63_0) k
  have P1 : own_Go p e below S0 (s₁.setTop (mkF m 1 #[.val (.ref q8n1c63_0), .val (.int 63), .val (.int 0)] [(.ref q8n1c63_0)])) := fun t k => P0 t (by
    refine XS.aloadN X0.here hx rfl (hb hby d8_0) rfl rfl ?_
    show Steps p.tables e below (s₁.setTop (mkF m 1 #[.val (.ref q8n1c63_0), .val (.int 63), .val (.int 0)] [(.ref q8n1c63_0)])) t
    exact k)
  obtain ⟨cq2, kq2, q2a, q2b, q2c⟩ := isOf hZ e0 E_q8n1c63_0
  obtain ⟨_, _, ⟨T2, L2, k2, n2⟩, -, X2, ⟨Lc2, hQ2, l2, y2, z2⟩, st2⟩ := X0.virtualBack hx (y := (⟨"java/lang/String", "isLatin1", "()Z"⟩ : MethodName)) (z := (⟨"java/lang/String", "isLatin1", "()Z"⟩ : MethodName)) hown (mvT hZ (own_w hw 53 rfl)) (mvT hZ (own_w hw 54 rfl)) (notFace_of_selects (args := #[]) (mvT hZ (own_w hw 56 rfl))) (mvT hZ (own_w hw 56 rfl)) (mvT hZ (own_w hw 55 rfl)) (by decide) (backOf (W := 0) (rm9 l Z a0 hw [] q8n1c63_0 zc h0 n0 Z0 S_COMPACT_STRINGS hcs F_q8n1c63_0_coder) hZ (own_w hw 57 rfl) (own_w hw 7 rfl) (by decide) (by decide)) q2a q2c (g := (mkF m 1 #[.val (.ref q8n1c63_0), .val (.int 63), .val (.int 0)] [(.ref q8n1c63_0)])) rfl (by rw [hml]; rfl) (Steps.refl _) (argsL := []) (rest := []) (lenOf pd_8 rfl) rfl (by show 2 * 0 + _ ≤ _; exact Nat.le_of_eq rfl) (hb hby d8_1) (fun _ _ => ⟨rfl, e0, (by decide : 0 + 0 ≤ _), (by decide : 0 + 0 ≤ _)⟩)
  dsimp only [Pt.U, Pt.locs, Pt.cells, Pt.slots] at X2 l2 y2 z2 st2 hQ2
  subst l2 y2 z2
  obtain ⟨rfl, N2q, e2⟩ := hQ2
  have N2 := Fr.app N0 N2q
  have P2 : own_Go p e below S0 (T2.setTop (mkF m 4 #[.val (.ref q8n1c63_0), .val (.int 63), .val (.int 0)] [(.int 1)])) := fun t k => P1 t (st2.trans k)
  have P3 : own_Go p e below S0 (T2.setTop (mkF m 8 #[.val (.ref q8n1c63_0), .val (.int 63), .val (.int 0)] [(.ref q8n1c63_0)])) := fun t k => P2 t (by
    refine XS.ifNo X2.here hx rfl (hb hby d8_4) rfl ((if0 _ _).trans (feq (by decide)).1) ?_
    refine XS.aloadN X2.here hx rfl (hb hby d8_7) rfl rfl ?_
    show Steps p.tables e below (T2.setTop (mkF m 8 #[.val (.ref q8n1c63_0), .val (.int 63), .val (.int 0)] [(.ref q8n1c63_0)])) t
    exact k)
  obtain ⟨T4, X4, e4, st4⟩ := getF X2 hx hZ hown (host := "") (Or.inl (own_w hw 24 rfl)) Via.refl e2 F_q8n1c63_0_value (g := (mkF m 8 #[.val (.ref q8n1c63_0), .val (.int 63), .val (.int 0)] [(.ref q8n1c63_0)])) rfl rfl (hb hby d8_8)
  have P4 : own_Go p e below S0 (T4.setTop (mkF m 11 #[.val (.ref q8n1c63_0), .val (.int 63), .val (.int 0)] [(.ref qb)])) := fun t k => P3 t (st4 _ k)
  have P5 : own_Go p e below S0 (T4.setTop (mkF m 14 #[.val (.ref q8n1c63_0), .val (.int 63), .val (.int 0)] [(.ref q8n1c63_0), (.int 0), (.int 63), (.ref qb)])) := fun t k => P4 t (by
    refine XS.iloadN X4.here hx rfl (hb hby d8_11) rfl ?_
    refine XS.iloadN X4.here hx rfl (hb hby d8_12) rfl ?_
    refine XS.aloadN X4.here hx rfl (hb hby d8_13) rfl rfl ?_
    show Steps p.tables e below (T4.setTop (mkF m 14 #[.val (.ref q8n1c63_0), .val (.int 63), .val (.int 0)] [(.ref q8n1c63_0), (.int 0), (.int 63), (.ref qb)])) t
    exact k)
  obtain ⟨cq6, kq6, q6a, q6b, q6c⟩ := isOf hZ e4 E_q8n1c63_0
  obtain ⟨_, _, ⟨T6, L6, k6, n6⟩, -, X6, ⟨Lc6, hQ6, l6, y6, z6⟩, st6⟩ := X4.virtualBack hx (y := (⟨"java/lang/String", "length", "()I"⟩ : MethodName)) (z := (⟨"java/lang/String", "length", "()I"⟩ : MethodName)) hown (mvT hZ (own_w hw 59 rfl)) (mvT hZ (own_w hw 60 rfl)) (notFace_of_selects (args := #[]) (mvT hZ (own_w hw 62 rfl))) (mvT hZ (own_w hw 62 rfl)) (mvT hZ (own_w hw 61 rfl)) (by decide) (backOf (W := 3) (rm10n1 l Z a0 hw [] q8n1c63_0 qb kb y0 zc h0 n0 Z0 F_q8n1c63_0_value A_qb S_COMPACT_STRINGS hcs F_q8n1c63_0_coder E_q8n1c63_0) hZ (own_w hw 63 rfl) (own_w hw 7 rfl) (by decide) (by decide)) q6a q6c (g := (mkF m 14 #[.val (.ref q8n1c63_0), .val (.int 63), .val (.int 0)] [(.ref q8n1c63_0), (.int 0), (.int 63), (.ref qb)])) rfl (by rw [hml]; rfl) (Steps.refl _) (argsL := []) (rest := [(.int 0), (.int 63), (.ref qb)]) (lenOf pd_9 rfl) rfl (by show 2 * 0 + _ ≤ _; exact Nat.le_of_eq rfl) (hb hby d8_14) (fun _ _ => ⟨rfl, e4, (by decide : 0 + 0 ≤ _), (by decide : 0 + 0 ≤ _)⟩)
  dsimp only [Pt.U, Pt.locs, Pt.cells, Pt.slots] at X6 l6 y6 z6 st6 hQ6
  subst l6 y6 z6
  obtain ⟨rfl, N6q, e6⟩ := hQ6
  have N6 := Fr.app N2 N6q
  have P6 : own_Go p e below S0 (T6.setTop (mkF m 17 #[.val (.ref q8n1c63_0), .val (.int 63), .val (.int 0)] [(.int 1), (.int 0), (.int 63), (.ref qb)])) := fun t k => P5 t (st6.trans k)
  obtain ⟨_, _, ⟨T7, L7, k7, n7⟩, -, X7, ⟨Lc7, hQ7, l7, y7, z7⟩, st7⟩ := Jvm.LawKit.callS X6 hx (y := (⟨"java/lang/StringLatin1", "indexOf", "([BIII)I"⟩ : MethodName)) hown (mvT hZ (own_w hw 69 rfl)) (mvT hZ (own_w hw 70 rfl)) (mvT hZ (own_w hw 71 rfl)) (mvT hZ (own_w hw 72 rfl)) (by decide) (backOf (W := 0) (rm12n1c63 l Z a0 hw [] qb kb y0 h0 n0 Z0 A_qb) hZ (own_w hw 72 rfl) (own_w hw 71 rfl) (by decide) (by decide)) (g := (mkF m 17 #[.val (.ref q8n1c63_0), .val (.int 63), .val (.int 0)] [(.int 1), (.int 0), (.int 63), (.ref qb)])) rfl (by rw [hml]; rfl) (argsL := [(.ref qb), (.int 63), (.int 0), (.int 1)]) (rest := []) (lenOf pd_10 rfl) rfl (by show 2 * 0 + _ ≤ _; exact Nat.le_of_eq rfl) (hb hby d8_17) (fun _ _ => ⟨rfl, e6, (by decide : 0 + 0 ≤ _), (by decide : 0 + 0 ≤ _)⟩)
  dsimp only [Pt.U, Pt.locs, Pt.cells, Pt.slots] at X7 l7 y7 z7 st7 hQ7
  subst l7 y7 z7
  obtain ⟨rfl, N7q, e7⟩ := hQ7
  have N7 := Fr.app N6 N7q
  have P7 : own_Go p e below S0 (T7.setTop (mkF m 20 #[.val (.ref q8n1c63_0), .val (.int 63), .val (.int 0)] [(.int (r20n1c63 y0))])) := fun t k => P6 t (st7 _ k)
  have P8 : own_Go p e below S0 (T7.setTop (mkF m 36 #[.val (.ref q8n1c63_0), .val (.int 63), .val (.int 0)] [(.int (r20n1c63 y0))])) := fun t k => P7 t (by
    refine XS.goto X7.here hx rfl (pc0 := 20) (pc' := 36) rfl (hb hby d8_20) (by decide) (by decide) ?_
    show Steps p.tables e below (T7.setTop (mkF m 36 #[.val (.ref q8n1c63_0), .val (.int 63), .val (.int 0)] [(.int (r20n1c63 y0))])) t
    exact k)
  obtain ⟨fs, hr, hrun, hended, hW, hsame⟩ := X7.leave (v := some (.int (r20n1c63 y0))) (fun h => by rw [Bd.returns] at h; cases h) (BodyLoose.notSynchronized Bd)
  refine ⟨_, _, own_from hE0 (P8 _ ?_), hrun, hended, _, _, rfl, ?_, ⟨_, rfl⟩, hW, hsame.mono (by decide) (by decide)⟩
  · show Steps p.tables e below (T7.setTop (mkF m 36 #[.val (.ref q8n1c63_0), .val (.int 63), .val (.int 0)] [(.int (r20n1c63 y0))])) _
    exact retI X7 hx Bd.returns (hb hby d8_36) hr
  · show Q8n1c63 Z q8n1c63_0 qb kb y0 zc h0 n0 _ T7.heap _
    rw [e7]
    exact ⟨rfl, N7, rfl⟩
theorem ef_7n1c63 (m : MethodId) (q7n1c63_0 : Addr) : entryFrame m #[(.ref q7n1c63_0), (.int 63)] 2 = mkF m 0 #[.val (.ref q7n1c63_0), .val (.int 63)] [] := by first | (simp [entryFrame, mkF, argsToLocals, Value.category]; done) | rfl
def Q7n1c63 (Z : State) (q7n1c63_0 : Addr) (qb : Addr) (kb : ClassId) (y0 : Int32) (zc : Int32) (h0 : Heap) (n0 : Nat) (v : Option Value) (h : Heap) (L : List Loc) : Prop := v = some (.int (r20n1c63 y0)) ∧ Fr n0 L ∧ h = h0
set_option maxRecDepth 65536 in
set_option maxHeartbeats 40000000 in
theorem rm7n1c63 (l : Launch) (Z : State) (a0 : Array Value) (hw : ∀ d ∈ tables_1, d.before a0 Z = true) (ws : List Jvm.Cond) (q7n1c63_0 : Addr) (qb : Addr) (kb : ClassId) (y0 : Int32) (zc : Int32) (h0 : Heap) (n0 : Nat) (Z0 : n0 ≤ h0.size) (F_q7n1c63_0_value : Fld Z h0 q7n1c63_0 "java/lang/String" "value" "[B" (.ref qb)) (A_qb : Arv Z h0 qb kb .byte (1 : Int32) [(.int y0)] (.int 0)) (S_COMPACT_STRINGS : Sta Z h0 "java/lang/String" "COMPACT_STRINGS" "Z" (.int zc)) (hcs : ¬ (zc = (0 : Int32))) (F_q7n1c63_0_coder : Fld Z h0 q7n1c63_0 "java/lang/String" "coder" "B" (.int 0)) (E_q7n1c63_0 : Exa Z h0 q7n1c63_0 "java/lang/String") :
    MetFree l (⟨"java/lang/String", "indexOf", "(I)I"⟩ : MethodName) (head1 (Jvm.Cond.code (⟨"java/lang/String", "indexOf", "(I)I"⟩ : MethodName) jdk_42_method_79_code 2 (some .int) :: ws) ({ frames := 3, cells := 0, slots := 0, locals := 46 } : Room)) (fun a U => a = #[(.ref q7n1c63_0), (.int 63)] ∧ Z.Warmed39 U.vm ∧ U.heap = h0) (fun _ _ _ _ _ => True) (fun _ U o U' => ∃ v L, o = .returned v ∧ Q7n1c63 Z q7n1c63_0 qb kb y0 zc h0 n0 v U'.heap L ∧ FrameEnd U o U' L ({ frames := 3, cells := 0, slots := 0, locals := 46 } : Room).cells ({ frames := 3, cells := 0, slots := 0, locals := 46 } : Room).slots) := by
  refine MetFree.of_bodySF (plainFor_of_name pn_2) hisR ?_
  intro p e s m args below meth c s₁ Bd hml0 hP hK
  obtain ⟨rfl, hZ, hh⟩ := hP
  have hx := Bd.exec
  have hby := Bd.bytes
  have hml : c.maxLocals = 2 := hml0
  have hown : s.vm.findClass "java/lang/String" = some m.cls := findClass_of_methodNamed Bd.named
  have hnm := (name_of_methodNamed Bd.named Bd.method).1
  have X0 : Stand p l e ({ frames := 3, cells := 0, slots := 0, locals := 46 } : Room) s m #[(.ref q7n1c63_0), (.int 63)] below meth c s₁ [] 0 0 := Stand.of_body Bd
  have e0 : s₁.heap = h0 := by rw [← hh, Bd.state]; rfl
  have N0 := Fr.nil n0
  obtain ⟨S0, hE0⟩ : ∃ z, z = s₁.setTop (entryFrame m #[(.ref q7n1c63_0), (.int 63)] 2) := ⟨_, rfl⟩
  have P0 : own_Go p e below S0 (s₁.setTop (mkF m 0 #[.val (.ref q7n1c63_0), .val (.int 63)] [])) := fun t k => by rw [hE0]; exact castTop (ef_7n1c63 m q7n1c63_0) k
  have P1 : own_Go p e below S0 (s₁.setTop (mkF m 3 #[.val (.ref q7n1c63_0), .val (.int 63)] [(.int 0), (.int 63), (.ref q7n1c63_0)])) := fun t k => P0 t (by
    refine XS.aloadN X0.here hx rfl (hb hby d7_0) rfl rfl ?_
    refine XS.iloadN X0.here hx rfl (hb hby d7_1) rfl ?_
    refine XS.iconst X0.here hx rfl (hb hby d7_2) ?_
    show Steps p.tables e below (s₁.setTop (mkF m 3 #[.val (.ref q7n1c63_0), .val (.int 63)] [(.int 0), (.int 63), (.ref q7n1c63_0)])) t
    exact k)
  obtain ⟨cq2, kq2, q2a, q2b, q2c⟩ := isOf hZ e0 E_q7n1c63_0
  obtain ⟨_, _, ⟨T2, L2, k2, n2⟩, -, X2, ⟨Lc2, hQ2, l2, y2, z2⟩, st2⟩ := X0.virtualBack hx (y := (⟨"java/lang/String", "indexOf", "(II)I"⟩ : MethodName)) (z := (⟨"java/lang/String", "indexOf", "(II)I"⟩ : MethodName)) hown (mvT hZ (own_w hw 48 rfl)) (mvT hZ (own_w hw 49 rfl)) (notFace_of_selects (args := #[]) (mvT hZ (own_w hw 51 rfl))) (mvT hZ (own_w hw 51 rfl)) (mvT hZ (own_w hw 50 rfl)) (by decide) (backOf (W := 0) (rm8n1c63 l Z a0 hw [] q7n1c63_0 qb kb y0 zc h0 n0 Z0 F_q7n1c63_0_value A_qb S_COMPACT_STRINGS hcs F_q7n1c63_0_coder E_q7n1c63_0) hZ (own_w hw 52 rfl) (own_w hw 7 rfl) (by decide) (by decide)) q2a q2c (g := (mkF m 3 #[.val (.ref q7n1c63_0), .val (.int 63)] [(.int 0), (.int 63), (.ref q7n1c63_0)])) rfl (by rw [hml]; rfl) (Steps.refl _) (argsL := [(.int 63), (.int 0)]) (rest := []) (lenOf pd_7 rfl) rfl (by show 2 * 0 + _ ≤ _; exact Nat.le_of_eq rfl) (hb hby d7_3) (fun _ _ => ⟨rfl, e0, (by decide : 0 + 0 ≤ _), (by decide : 0 + 0 ≤ _)⟩)
  dsimp only [Pt.U, Pt.locs, Pt.cells, Pt.slots] at X2 l2 y2 z2 st2 hQ2
  subst l2 y2 z2
  obtain ⟨rfl, N2q, e2⟩ := hQ2
  have N2 := Fr.app N0 N2q
  have P2 : own_Go p e below S0 (T2.setTop (mkF m 6 #[.val (.ref q7n1c63_0), .val (.int 63)] [(.int (r20n1c63 y0))])) := fun t k => P1 t (st2.trans k)
  obtain ⟨fs, hr, hrun, hended, hW, hsame⟩ := X2.leave (v := some (.int (r20n1c63 y0))) (fun h => by rw [Bd.returns] at h; cases h) (BodyLoose.notSynchronized Bd)
  refine ⟨_, _, own_from hE0 (P2 _ ?_), hrun, hended, _, _, rfl, ?_, ⟨_, rfl⟩, hW, hsame.mono (by decide) (by decide)⟩
  · show Steps p.tables e below (T2.setTop (mkF m 6 #[.val (.ref q7n1c63_0), .val (.int 63)] [(.int (r20n1c63 y0))])) _
    exact retI X2 hx Bd.returns (hb hby d7_6) hr
  · show Q7n1c63 Z q7n1c63_0 qb kb y0 zc h0 n0 _ T2.heap _
    rw [e2]
    exact ⟨rfl, N2, rfl⟩
theorem d6_28 : decode prog_25_method_4_code 28 = .ok (.iconst 0, 1) := by decide +kernel
theorem ef_6n1 (m : MethodId) (q6n1_0 : Addr) : entryFrame m #[(.ref q6n1_0)] 1 = mkF m 0 #[.val (.ref q6n1_0)] [] := by first | (simp [entryFrame, mkF, argsToLocals, Value.category]; done) | rfl
def r6n1 (y0 : Int32) : Int32 := (if (r20n1c42 y0) < (0 : Int32) then (if (r20n1c63 y0) < (0 : Int32) then (1 : Int32) else (0 : Int32)) else (0 : Int32))
def Q6n1 (Z : State) (q6n1_0 : Addr) (qs : Addr) (qb : Addr) (kb : ClassId) (y0 : Int32) (zc : Int32) (h0 : Heap) (n0 : Nat) (v : Option Value) (h : Heap) (L : List Loc) : Prop := v = some (.int (r6n1 y0)) ∧ Fr n0 L ∧ h = h0
set_option maxRecDepth 65536 in
set_option maxHeartbeats 40000000 in
theorem rm6n1 (l : Launch) (Z : State) (a0 : Array Value) (hw : ∀ d ∈ tables_1, d.before a0 Z = true) (ws : List Jvm.Cond) (q6n1_0 : Addr) (qs : Addr) (qb : Addr) (kb : ClassId) (y0 : Int32) (zc : Int32) (h0 : Heap) (n0 : Nat) (Z0 : n0 ≤ h0.size) (F_q6n1_0_pattern : Fld Z h0 q6n1_0 "com/example/strict_acl/strictacl/NamePattern" "pattern" "Ljava/lang/String;" (.ref qs)) (F_qs_value : Fld Z h0 qs "java/lang/String" "value" "[B" (.ref qb)) (A_qb : Arv Z h0 qb kb .byte (1 : Int32) [(.int y0)] (.int 0)) (S_COMPACT_STRINGS : Sta Z h0 "java/lang/String" "COMPACT_STRINGS" "Z" (.int zc)) (hcs : ¬ (zc = (0 : Int32))) (F_qs_coder : Fld Z h0 qs "java/lang/String" "coder" "B" (.int 0)) (E_qs : Exa Z h0 qs "java/lang/String") :
    MetFree l (⟨"com/example/strict_acl/strictacl/NamePattern", "isLiteral", "()Z"⟩ : MethodName) (head1 (Jvm.Cond.code (⟨"com/example/strict_acl/strictacl/NamePattern", "isLiteral", "()Z"⟩ : MethodName) prog_25_method_4_code 1 (some .boolean) :: ws) ({ frames := 4, cells := 0, slots := 0, locals := 59 } : Room)) (fun a U => a = #[(.ref q6n1_0)] ∧ Z.Warmed39 U.vm ∧ U.heap = h0) (fun _ _ _ _ _ => True) (fun _ U o U' => ∃ v L, o = .returned v ∧ Q6n1 Z q6n1_0 qs qb kb y0 zc h0 n0 v U'.heap L ∧ FrameEnd U o U' L ({ frames := 4, cells := 0, slots := 0, locals := 59 } : Room).cells ({ frames := 4, cells := 0, slots := 0, locals := 59 } : Room).slots) := by
  refine MetFree.of_bodySF (plainFor_of_name pn_4) hisR ?_
  intro p e s m args below meth c s₁ Bd hml0 hP hK
  obtain ⟨rfl, hZ, hh⟩ := hP
  have hx := Bd.exec
  have hby := Bd.bytes
  have hml : c.maxLocals = 1 := hml0
  have hown : s.vm.findClass "com/example/strict_acl/strictacl/NamePattern" = some m.cls := findClass_of_methodNamed Bd.named
  have hnm := (name_of_methodNamed Bd.named Bd.method).1
  have X0 : Stand p l e ({ frames := 4, cells := 0, slots := 0, locals := 59 } : Room) s m #[(.ref q6n1_0)] below meth c s₁ [] 0 0 := Stand.of_body Bd
  have e0 : s₁.heap = h0 := by rw [← hh, Bd.state]; rfl
  have N0 := Fr.nil n0
  obtain ⟨S0, hE0⟩ : ∃ z, z = s₁.setTop (entryFrame m #[(.ref q6n1_0)] 1) := ⟨_, rfl⟩
  have P0 : own_Go p e below S0 (s₁.setTop (mkF m 0 #[.val (.ref q6n1_0)] [])) := fun t k => by rw [hE0]; exact castTop (ef_6n1 m q6n1_0) k
  have P1 : own_Go p e below S0 (s₁.setTop (mkF m 1 #[.val (.ref q6n1_0)] [(.ref q6n1_0)])) := fun t k => P0 t (by
    refine XS.aloadN X0.here hx rfl (hb hby d6_0) rfl rfl ?_
    show Steps p.tables e below (s₁.setTop (mkF m 1 #[.val (.ref q6n1_0)] [(.ref q6n1_0)])) t
    exact k)
  obtain ⟨T2, X2, e2, st2⟩ := getF X0 hx hZ hown (host := "") (Or.inl (own_w hw 36 rfl)) Via.refl e0 F_q6n1_0_pattern (g := (mkF m 1 #[.val (.ref q6n1_0)] [(.ref q6n1_0)])) rfl rfl (hb hby d6_1)
  have P2 : own_Go p e below S0 (T2.setTop (mkF m 4 #[.val (.ref q6n1_0)] [(.ref qs)])) := fun t k => P1 t (st2 _ k)
  have P3 : own_Go p e below S0 (T2.setTop (mkF m 6 #[.val (.ref q6n1_0)] [(.int 42), (.ref qs)])) := fun t k => P2 t (by
    refine XS.bipush X2.here hx rfl (hb hby d6_4) ?_
    show Steps p.tables e below (T2.setTop (mkF m 6 #[.val (.ref q6n1_0)] [(.int 42), (.ref qs)])) t
    exact k)
  obtain ⟨cq4, kq4, q4a, q4b, q4c⟩ := isOf hZ e2 E_qs
  obtain ⟨_, _, ⟨T4, L4, k4, n4⟩, -, X4, ⟨Lc4, hQ4, l4, y4, z4⟩, st4⟩ := X2.virtualBack hx (y := (⟨"java/lang/String", "indexOf", "(I)I"⟩ : MethodName)) (z := (⟨"java/lang/String", "indexOf", "(I)I"⟩ : MethodName)) hown (mvT hZ (own_w hw 43 rfl)) (mvT hZ (own_w hw 44 rfl)) (notFace_of_selects (args := #[]) (mvT hZ (own_w hw 46 rfl))) (mvT hZ (own_w hw 46 rfl)) (mvT hZ (own_w hw 45 rfl)) (by decide) (backOf (W := 0) (rm7n1c42 l Z a0 hw [] qs qb kb y0 zc h0 n0 Z0 F_qs_value A_qb S_COMPACT_STRINGS hcs F_qs_coder E_qs) hZ (own_w hw 47 rfl) (own_w hw 7 rfl) (by decide) (by decide)) q4a q4c (g := (mkF m 6 #[.val (.ref q6n1_0)] [(.int 42), (.ref qs)])) rfl (by rw [hml]; rfl) (Steps.refl _) (argsL := [(.int 42)]) (rest := []) (lenOf pd_11 rfl) rfl (by show 2 * 0 + _ ≤ _; exact Nat.le_of_eq rfl) (hb hby d6_6) (fun _ _ => ⟨rfl, e2, (by decide : 0 + 0 ≤ _), (by decide : 0 + 0 ≤ _)⟩)
  dsimp only [Pt.U, Pt.locs, Pt.cells, Pt.slots] at X4 l4 y4 z4 st4 hQ4
  subst l4 y4 z4
  obtain ⟨rfl, N4q, e4⟩ := hQ4
  have N4 := Fr.app N0 N4q
  have P4 : own_Go p e below S0 (T4.setTop (mkF m 9 #[.val (.ref q6n1_0)] [(.int (r20n1c42 y0))])) := fun t k => P3 t (st4.trans k)
  by_cases c5 : (r20n1c42 y0) < (0 : Int32)
  · skip
    have P6 : own_Go p e below S0 (T4.setTop (mkF m 13 #[.val (.ref q6n1_0)] [(.ref q6n1_0)])) := fun t k => P4 t (by
      refine XS.ifNo X4.here hx rfl (hb hby d6_9) rfl ((if0 _ _).trans (tlt c5).2.1) ?_
      refine XS.aloadN X4.here hx rfl (hb hby d6_12) rfl rfl ?_
      show Steps p.tables e below (T4.setTop (mkF m 13 #[.val (.ref q6n1_0)] [(.ref q6n1_0)])) t
      exact k)
    obtain ⟨T7, X7, e7, st7⟩ := getF X4 hx hZ hown (host := "") (Or.inl (own_w hw 36 rfl)) Via.refl e4 F_q6n1_0_pattern (g := (mkF m 13 #[.val (.ref q6n1_0)] [(.ref q6n1_0)])) rfl rfl (hb hby d6_13)
    have P7 : own_Go p e below S0 (T7.setTop (mkF m 16 #[.val (.ref q6n1_0)] [(.ref qs)])) := fun t k => P6 t (st7 _ k)
    have P8 : own_Go p e below S0 (T7.setTop (mkF m 18 #[.val (.ref q6n1_0)] [(.int 63), (.ref qs)])) := fun t k => P7 t (by
      refine XS.bipush X7.here hx rfl (hb hby d6_16) ?_
      show Steps p.tables e below (T7.setTop (mkF m 18 #[.val (.ref q6n1_0)] [(.int 63), (.ref qs)])) t
      exact k)
    obtain ⟨cq9, kq9, q9a, q9b, q9c⟩ := isOf hZ e7 E_qs
    obtain ⟨_, _, ⟨T9, L9, k9, n9⟩, -, X9, ⟨Lc9, hQ9, l9, y9, z9⟩, st9⟩ := X7.virtualBack hx (y := (⟨"java/lang/String", "indexOf", "(I)I"⟩ : MethodName)) (z := (⟨"java/lang/String", "indexOf", "(I)I"⟩ : MethodName)) hown (mvT hZ (own_w hw 43 rfl)) (mvT hZ (own_w hw 44 rfl)) (notFace_of_selects (args := #[]) (mvT hZ (own_w hw 46 rfl))) (mvT hZ (own_w hw 46 rfl)) (mvT hZ (own_w hw 45 rfl)) (by decide) (backOf (W := 0) (rm7n1c63 l Z a0 hw [] qs qb kb y0 zc h0 n0 Z0 F_qs_value A_qb S_COMPACT_STRINGS hcs F_qs_coder E_qs) hZ (own_w hw 47 rfl) (own_w hw 7 rfl) (by decide) (by decide)) q9a q9c (g := (mkF m 18 #[.val (.ref q6n1_0)] [(.int 63), (.ref qs)])) rfl (by rw [hml]; rfl) (Steps.refl _) (argsL := [(.int 63)]) (rest := []) (lenOf pd_11 rfl) rfl (by show 2 * 0 + _ ≤ _; exact Nat.le_of_eq rfl) (hb hby d6_18) (fun _ _ => ⟨rfl, e7, (by decide : 0 + 0 ≤ _), (by decide : 0 + 0 ≤ _)⟩)
    dsimp only [Pt.U, Pt.locs, Pt.cells, Pt.slots] at X9 l9 y9 z9 st9 hQ9
    subst l9 y9 z9
    obtain ⟨rfl, N9q, e9⟩ := hQ9
    have N9 := Fr.app N4 N9q
    have P9 : own_Go p e below S0 (T9.setTop (mkF m 21 #[.val (.ref q6n1_0)] [(.int (r20n1c63 y0))])) := fun t k => P8 t (st9.trans k)
    by_cases c10 : (r20n1c63 y0) < (0 : Int32)
    · skip
      have P11 : own_Go p e below S0 (T9.setTop (mkF m 29 #[.val (.ref q6n1_0)] [(.int 1)])) := fun t k => P9 t (by
        refine XS.ifNo X9.here hx rfl (hb hby d6_21) rfl ((if0 _ _).trans (tlt c10).2.1) ?_
        refine XS.iconst X9.here hx rfl (hb hby d6_24) ?_
        refine XS.goto X9.here hx rfl (pc0 := 25) (pc' := 29) rfl (hb hby d6_25) (by decide) (by decide) ?_
        show Steps p.tables e below (T9.setTop (mkF m 29 #[.val (.ref q6n1_0)] [(.int 1)])) t
        exact k)
      obtain ⟨fs, hr, hrun, hended, hW, hsame⟩ := X9.leave (v := some (.int 1)) (fun h => by rw [Bd.returns] at h; cases h) (BodyLoose.notSynchronized Bd)
      refine ⟨_, _, own_from hE0 (P11 _ ?_), hrun, hended, _, _, rfl, ?_, ⟨_, rfl⟩, hW, hsame.mono (by decide) (by decide)⟩
      · show Steps p.tables e below (T9.setTop (mkF m 29 #[.val (.ref q6n1_0)] [(.int 1)])) _
        exact retN X9 hx (t := .boolean) Bd.returns (by simp) (hb hby d6_29) hr
      · show Q6n1 Z q6n1_0 qs qb kb y0 zc h0 n0 _ T9.heap _
        rw [e9]
        exact ⟨(congrArg (fun z => some (Value.int z)) (Eq.symm (Eq.trans (if_pos c5) (if_pos c10)))), N9, rfl⟩
    · skip
      have P12 : own_Go p e below S0 (T9.setTop (mkF m 29 #[.val (.ref q6n1_0)] [(.int 0)])) := fun t k => P9 t (by
        refine XS.ifYes X9.here hx rfl (pc0 := 21) (pc' := 28) rfl (hb hby d6_21) rfl ((if0 _ _).trans (flt c10).2.1) (by decide) (by decide) ?_
        refine XS.iconst X9.here hx rfl (hb hby d6_28) ?_
        show Steps p.tables e below (T9.setTop (mkF m 29 #[.val (.ref q6n1_0)] [(.int 0)])) t
        exact k)
      obtain ⟨fs, hr, hrun, hended, hW, hsame⟩ := X9.leave (v := some (.int 0)) (fun h => by rw [Bd.returns] at h; cases h) (BodyLoose.notSynchronized Bd)
      refine ⟨_, _, own_from hE0 (P12 _ ?_), hrun, hended, _, _, rfl, ?_, ⟨_, rfl⟩, hW, hsame.mono (by decide) (by decide)⟩
      · show Steps p.tables e below (T9.setTop (mkF m 29 #[.val (.ref q6n1_0)] [(.int 0)])) _
        exact retN X9 hx (t := .boolean) Bd.returns (by simp) (hb hby d6_29) hr
      · show Q6n1 Z q6n1_0 qs qb kb y0 zc h0 n0 _ T9.heap _
        rw [e9]
        exact ⟨(congrArg (fun z => some (Value.int z)) (Eq.symm (Eq.trans (if_pos c5) (if_neg c10)))), N9, rfl⟩
  · skip
    have P13 : own_Go p e below S0 (T4.setTop (mkF m 29 #[.val (.ref q6n1_0)] [(.int 0)])) := fun t k => P4 t (by
      refine XS.ifYes X4.here hx rfl (pc0 := 9) (pc' := 28) rfl (hb hby d6_9) rfl ((if0 _ _).trans (flt c5).2.1) (by decide) (by decide) ?_
      refine XS.iconst X4.here hx rfl (hb hby d6_28) ?_
      show Steps p.tables e below (T4.setTop (mkF m 29 #[.val (.ref q6n1_0)] [(.int 0)])) t
      exact k)
    obtain ⟨fs, hr, hrun, hended, hW, hsame⟩ := X4.leave (v := some (.int 0)) (fun h => by rw [Bd.returns] at h; cases h) (BodyLoose.notSynchronized Bd)
    refine ⟨_, _, own_from hE0 (P13 _ ?_), hrun, hended, _, _, rfl, ?_, ⟨_, rfl⟩, hW, hsame.mono (by decide) (by decide)⟩
    · show Steps p.tables e below (T4.setTop (mkF m 29 #[.val (.ref q6n1_0)] [(.int 0)])) _
      exact retN X4 hx (t := .boolean) Bd.returns (by simp) (hb hby d6_29) hr
    · show Q6n1 Z q6n1_0 qs qb kb y0 zc h0 n0 _ T4.heap _
      rw [e4]
      exact ⟨(congrArg (fun z => some (Value.int z)) (Eq.symm (if_neg c5))), N4, rfl⟩
theorem ef_15n2 (m : MethodId)  : entryFrame m #[(.int 2), (.int 2)] 2 = mkF m 0 #[.val (.int 2), .val (.int 2)] [] := by first | (simp [entryFrame, mkF, argsToLocals, Value.category]; done) | rfl
def Q15n2 (Z : State)  (h0 : Heap) (n0 : Nat) (v : Option Value) (h : Heap) (L : List Loc) : Prop := v = some (.int 2) ∧ Fr n0 L ∧ h = h0
set_option maxRecDepth 65536 in
set_option maxHeartbeats 40000000 in
theorem rm15n2 (l : Launch) (Z : State) (a0 : Array Value) (hw : ∀ d ∈ tables_1, d.before a0 Z = true) (ws : List Jvm.Cond)  (h0 : Heap) (n0 : Nat) (Z0 : n0 ≤ h0.size) :
    MetFree l (⟨"java/lang/Math", "min", "(II)I"⟩ : MethodName) (head1 (Jvm.Cond.code (⟨"java/lang/Math", "min", "(II)I"⟩ : MethodName) jdk_29_method_69_code 2 (some .int) :: ws) ({ frames := 0, cells := 0, slots := 0, locals := 0 } : Room)) (fun a U => a = #[(.int 2), (.int 2)] ∧ Z.Warmed39 U.vm ∧ U.heap = h0) (fun _ _ _ _ _ => True) (fun _ U o U' => ∃ v L, o = .returned v ∧ Q15n2 Z  h0 n0 v U'.heap L ∧ FrameEnd U o U' L ({ frames := 0, cells := 0, slots := 0, locals := 0 } : Room).cells ({ frames := 0, cells := 0, slots := 0, locals := 0 } : Room).slots) := by
  refine MetFree.of_bodySF (Jvm.Free.JP.mathPlain rfl (by decide +kernel)) hisR ?_
  intro p e s m args below meth c s₁ Bd hml0 hP hK
  obtain ⟨rfl, hZ, hh⟩ := hP
  have hx := Bd.exec
  have hby := Bd.bytes
  have hml : c.maxLocals = 2 := hml0
  have hown : s.vm.findClass "java/lang/Math" = some m.cls := findClass_of_methodNamed Bd.named
  have hnm := (name_of_methodNamed Bd.named Bd.method).1
  have X0 : Stand p l e ({ frames := 0, cells := 0, slots := 0, locals := 0 } : Room) s m #[(.int 2), (.int 2)] below meth c s₁ [] 0 0 := Stand.of_body Bd
  have e0 : s₁.heap = h0 := by rw [← hh, Bd.state]; rfl
  have N0 := Fr.nil n0
  obtain ⟨S0, hE0⟩ : ∃ z, z = s₁.setTop (entryFrame m #[(.int 2), (.int 2)] 2) := ⟨_, rfl⟩
  have P0 : own_Go p e below S0 (s₁.setTop (mkF m 0 #[.val (.int 2), .val (.int 2)] [])) := fun t k => by rw [hE0]; exact castTop (ef_15n2 m ) k
  have P1 : own_Go p e below S0 (s₁.setTop (mkF m 10 #[.val (.int 2), .val (.int 2)] [(.int 2)])) := fun t k => P0 t (by
    refine XS.iloadN X0.here hx rfl (hb hby d15_0) rfl ?_
    refine XS.iloadN X0.here hx rfl (hb hby d15_1) rfl ?_
    refine XS.icmpNo X0.here hx rfl (hb hby d15_2) rfl (flt (by decide)).2.2.1 ?_
    refine XS.iloadN X0.here hx rfl (hb hby d15_5) rfl ?_
    refine XS.goto X0.here hx rfl (pc0 := 6) (pc' := 10) rfl (hb hby d15_6) (by decide) (by decide) ?_
    show Steps p.tables e below (s₁.setTop (mkF m 10 #[.val (.int 2), .val (.int 2)] [(.int 2)])) t
    exact k)
  obtain ⟨fs, hr, hrun, hended, hW, hsame⟩ := X0.leave (v := some (.int 2)) (fun h => by rw [Bd.returns] at h; cases h) (BodyLoose.notSynchronized Bd)
  refine ⟨_, _, own_from hE0 (P1 _ ?_), hrun, hended, _, _, rfl, ?_, ⟨_, rfl⟩, hW, hsame.mono (by decide) (by decide)⟩
  · show Steps p.tables e below (s₁.setTop (mkF m 10 #[.val (.int 2), .val (.int 2)] [(.int 2)])) _
    exact retI X0 hx Bd.returns (hb hby d15_10) hr
  · show Q15n2 Z  h0 n0 _ s₁.heap _
    rw [e0]
    exact ⟨rfl, N0, rfl⟩
theorem ef_10n2 (m : MethodId) (q10n2_0 : Addr) : entryFrame m #[(.ref q10n2_0)] 1 = mkF m 0 #[.val (.ref q10n2_0)] [] := by first | (simp [entryFrame, mkF, argsToLocals, Value.category]; done) | rfl
def Q10n2 (Z : State) (q10n2_0 : Addr) (qb : Addr) (kb : ClassId) (y0 : Int32) (y1 : Int32) (zc : Int32) (h0 : Heap) (n0 : Nat) (v : Option Value) (h : Heap) (L : List Loc) : Prop := v = some (.int 2) ∧ Fr n0 L ∧ h = h0
set_option maxRecDepth 65536 in
set_option maxHeartbeats 40000000 in
theorem rm10n2 (l : Launch) (Z : State) (a0 : Array Value) (hw : ∀ d ∈ tables_1, d.before a0 Z = true) (ws : List Jvm.Cond) (q10n2_0 : Addr) (qb : Addr) (kb : ClassId) (y0 : Int32) (y1 : Int32) (zc : Int32) (h0 : Heap) (n0 : Nat) (Z0 : n0 ≤ h0.size) (F_q10n2_0_value : Fld Z h0 q10n2_0 "java/lang/String" "value" "[B" (.ref qb)) (A_qb : Arv Z h0 qb kb .byte (2 : Int32) [(.int y0), (.int y1)] (.int 0)) (S_COMPACT_STRINGS : Sta Z h0 "java/lang/String" "COMPACT_STRINGS" "Z" (.int zc)) (hcs : ¬ (zc = (0 : Int32))) (F_q10n2_0_coder : Fld Z h0 q10n2_0 "java/lang/String" "coder" "B" (.int 0)) (E_q10n2_0 : Exa Z h0 q10n2_0 "java/lang/String") :
    MetFree l (⟨"java/lang/String", "length", "()I"⟩ : MethodName) (head1 (Jvm.Cond.code (⟨"java/lang/String", "length", "()I"⟩ : MethodName) jdk_42_method_54_code 1 (some .int) :: ws) ({ frames := 1, cells := 0, slots := 0, locals := 13 } : Room)) (fun a U => a = #[(.ref q10n2_0)] ∧ Z.Warmed39 U.vm ∧ U.heap = h0) (fun _ _ _ _ _ => True) (fun _ U o U' => ∃ v L, o = .returned v ∧ Q10n2 Z q10n2_0 qb kb y0 y1 zc h0 n0 v U'.heap L ∧ FrameEnd U o U' L ({ frames := 1, cells := 0, slots := 0, locals := 13 } : Room).cells ({ frames := 1, cells := 0, slots := 0, locals := 13 } : Room).slots) := by
  refine MetFree.of_bodySF (plainFor_of_name pn_2) hisR ?_
  intro p e s m args below meth c s₁ Bd hml0 hP hK
  obtain ⟨rfl, hZ, hh⟩ := hP
  have hx := Bd.exec
  have hby := Bd.bytes
  have hml : c.maxLocals = 1 := hml0
  have hown : s.vm.findClass "java/lang/String" = some m.cls := findClass_of_methodNamed Bd.named
  have hnm := (name_of_methodNamed Bd.named Bd.method).1
  have X0 : Stand p l e ({ frames := 1, cells := 0, slots := 0, locals := 13 } : Room) s m #[(.ref q10n2_0)] below meth c s₁ [] 0 0 := Stand.of_body Bd
  have e0 : s₁.heap = h0 := by rw [← hh, Bd.state]; rfl
  have N0 := Fr.nil n0
  obtain ⟨S0, hE0⟩ : ∃ z, z = s₁.setTop (entryFrame m #[(.ref q10n2_0)] 1) := ⟨_, rfl⟩
  have P0 : own_Go p e below S0 (s₁.setTop (mkF m 0 #[.val (.ref q10n2_0)] [])) := fun t k => by rw [hE0]; exact castTop (ef_10n2 m q10n2_0) k
  have P1 : own_Go p e below S0 (s₁.setTop (mkF m 1 #[.val (.ref q10n2_0)] [(.ref q10n2_0)])) := fun t k => P0 t (by
    refine XS.aloadN X0.here hx rfl (hb hby d10_0) rfl rfl ?_
    show Steps p.tables e below (s₁.setTop (mkF m 1 #[.val (.ref q10n2_0)] [(.ref q10n2_0)])) t
    exact k)
  obtain ⟨T2, X2, e2, st2⟩ := getF X0 hx hZ hown (host := "") (Or.inl (own_w hw 24 rfl)) Via.refl e0 F_q10n2_0_value (g := (mkF m 1 #[.val (.ref q10n2_0)] [(.ref q10n2_0)])) rfl rfl (hb hby d10_1)
  have P2 : own_Go p e below S0 (T2.setTop (mkF m 4 #[.val (.ref q10n2_0)] [(.ref qb)])) := fun t k => P1 t (st2 _ k)
  obtain ⟨cl3, Ar3, q3, Sz3, Nn3, Hh3, Gg3⟩ := id A_qb
  have P4 : own_Go p e below S0 (T2.setTop (mkF m 6 #[.val (.ref q10n2_0)] [(.ref q10n2_0), (.int 2)])) := fun t k => P2 t (by
    show Steps p.tables e below (T2.setTop (mkF m 4 #[.val (.ref q10n2_0)] [(.ref qb)])) t
    refine X2.arraylength hx (by rw [e2]; exact Ar3.1) (State.isArrayOf_alike hZ.alike Ar3.2.1) (g := (mkF m 4 #[.val (.ref q10n2_0)] [(.ref qb)])) rfl rfl (hb hby d10_4) _ ?_
    rw [len_of Sz3 Nn3]
    refine XS.aloadN X2.here hx rfl (hb hby d10_5) rfl rfl ?_
    show Steps p.tables e below (T2.setTop (mkF m 6 #[.val (.ref q10n2_0)] [(.ref q10n2_0), (.int 2)])) t
    exact k)
  obtain ⟨cq5, kq5, q5a, q5b, q5c⟩ := isOf hZ e2 E_q10n2_0
  obtain ⟨_, _, ⟨T5, L5, k5, n5⟩, -, X5, ⟨Lc5, hQ5, l5, y5, z5⟩, st5⟩ := X2.virtualBack hx (y := (⟨"java/lang/String", "coder", "()B"⟩ : MethodName)) (z := (⟨"java/lang/String", "coder", "()B"⟩ : MethodName)) hown (mvT hZ (own_w hw 64 rfl)) (mvT hZ (own_w hw 65 rfl)) (notFace_of_selects (args := #[]) (mvT hZ (own_w hw 67 rfl))) (mvT hZ (own_w hw 67 rfl)) (mvT hZ (own_w hw 66 rfl)) (by decide) (backOf (W := 1) (rm11 l Z a0 hw [] q10n2_0 zc h0 n0 Z0 S_COMPACT_STRINGS hcs F_q10n2_0_coder) hZ (own_w hw 68 rfl) (own_w hw 7 rfl) (by decide) (by decide)) q5a q5c (g := (mkF m 6 #[.val (.ref q10n2_0)] [(.ref q10n2_0), (.int 2)])) rfl (by rw [hml]; rfl) (Steps.refl _) (argsL := []) (rest := [(.int 2)]) (lenOf pd_5 rfl) rfl (by show 2 * 0 + _ ≤ _; exact Nat.le_of_eq rfl) (hb hby d10_6) (fun _ _ => ⟨rfl, e2, (by decide : 0 + 0 ≤ _), (by decide : 0 + 0 ≤ _)⟩)
  dsimp only [Pt.U, Pt.locs, Pt.cells, Pt.slots] at X5 l5 y5 z5 st5 hQ5
  subst l5 y5 z5
  obtain ⟨rfl, N5q, e5⟩ := hQ5
  have N5 := Fr.app N0 N5q
  have P5 : own_Go p e below S0 (T5.setTop (mkF m 9 #[.val (.ref q10n2_0)] [(.int 0), (.int 2)])) := fun t k => P4 t (st5.trans k)
  have P6 : own_Go p e below S0 (T5.setTop (mkF m 10 #[.val (.ref q10n2_0)] [(.int 2)])) := fun t k => P5 t (by
    refine XS.ishr X5.here hx rfl (hb hby d10_9) rfl ?_
    show Steps p.tables e below (T5.setTop (mkF m 10 #[.val (.ref q10n2_0)] [(.int 2)])) t
    exact k)
  obtain ⟨fs, hr, hrun, hended, hW, hsame⟩ := X5.leave (v := some (.int 2)) (fun h => by rw [Bd.returns] at h; cases h) (BodyLoose.notSynchronized Bd)
  refine ⟨_, _, own_from hE0 (P6 _ ?_), hrun, hended, _, _, rfl, ?_, ⟨_, rfl⟩, hW, hsame.mono (by decide) (by decide)⟩
  · show Steps p.tables e below (T5.setTop (mkF m 10 #[.val (.ref q10n2_0)] [(.int 2)])) _
    exact retI X5 hx Bd.returns (hb hby d10_10) hr
  · show Q10n2 Z q10n2_0 qb kb y0 y1 zc h0 n0 _ T5.heap _
    rw [e5]
    exact ⟨rfl, N5, rfl⟩
theorem ef_20n2c42 (m : MethodId) (qb : Addr) : entryFrame m #[(.ref qb), (.int 42), (.int 0), (.int 2)] 6 = mkF m 0 #[.val (.ref qb), .val (.int 42), .val (.int 0), .val (.int 2), .unset, .unset] [] := by first | (simp [entryFrame, mkF, argsToLocals, Value.category]; done) | rfl
def r20n2c42 (y0 : Int32) (y1 : Int32) : Int32 := (if y0 = (42 : Int32) then (0 : Int32) else (if y1 = (42 : Int32) then (1 : Int32) else (-1 : Int32)))
def Q20n2c42 (Z : State) (qb : Addr) (kb : ClassId) (y0 : Int32) (y1 : Int32) (h0 : Heap) (n0 : Nat) (v : Option Value) (h : Heap) (L : List Loc) : Prop := v = some (.int (r20n2c42 y0 y1)) ∧ Fr n0 L ∧ h = h0
set_option maxRecDepth 65536 in
set_option maxHeartbeats 40000000 in
theorem rm20n2c42 (l : Launch) (Z : State) (a0 : Array Value) (hw : ∀ d ∈ tables_1, d.before a0 Z = true) (ws : List Jvm.Cond) (qb : Addr) (kb : ClassId) (y0 : Int32) (y1 : Int32) (h0 : Heap) (n0 : Nat) (Z0 : n0 ≤ h0.size) (A_qb : Arv Z h0 qb kb .byte (2 : Int32) [(.int y0), (.int y1)] (.int 0)) :
    MetFree l (⟨"java/lang/StringLatin1", "indexOfChar", "([BIII)I"⟩ : MethodName) (head1 (Jvm.Cond.code (⟨"java/lang/StringLatin1", "indexOfChar", "([BIII)I"⟩ : MethodName) jdk_43_method_23_code 6 (some .int) :: ws) ({ frames := 0, cells := 0, slots := 0, locals := 0 } : Room)) (fun a U => a = #[(.ref qb), (.int 42), (.int 0), (.int 2)] ∧ Z.Warmed39 U.vm ∧ U.heap = h0) (fun _ _ _ _ _ => True) (fun _ U o U' => ∃ v L, o = .returned v ∧ Q20n2c42 Z qb kb y0 y1 h0 n0 v U'.heap L ∧ FrameEnd U o U' L ({ frames := 0, cells := 0, slots := 0, locals := 0 } : Room).cells ({ frames := 0, cells := 0, slots := 0, locals := 0 } : Room).slots) := by
  refine MetFree.of_bodySF (plainFor_of_name pn_13) hisR ?_
  intro p e s m args below meth c s₁ Bd hml0 hP hK
  obtain ⟨rfl, hZ, hh⟩ := hP
  have hx := Bd.exec
  have hby := Bd.bytes
  have hml : c.maxLocals = 6 := hml0
  have hown : s.vm.findClass "java/lang/StringLatin1" = some m.cls := findClass_of_methodNamed Bd.named
  have hnm := (name_of_methodNamed Bd.named Bd.method).1
  have X0 : Stand p l e ({ frames := 0, cells := 0, slots := 0, locals := 0 } : Room) s m #[(.ref qb), (.int 42), (.int 0), (.int 2)] below meth c s₁ [] 0 0 := Stand.of_body Bd
  have e0 : s₁.heap = h0 := by rw [← hh, Bd.state]; rfl
  have N0 := Fr.nil n0
  obtain ⟨S0, hE0⟩ : ∃ z, z = s₁.setTop (entryFrame m #[(.ref qb), (.int 42), (.int 0), (.int 2)] 6) := ⟨_, rfl⟩
  have P0 : own_Go p e below S0 (s₁.setTop (mkF m 0 #[.val (.ref qb), .val (.int 42), .val (.int 0), .val (.int 2), .unset, .unset] [])) := fun t k => by rw [hE0]; exact castTop (ef_20n2c42 m qb) k
  obtain ⟨cl1, Ar1, q1, Sz1, Nn1, Hh1, Gg1⟩ := id A_qb
  have hin1 : ¬ ((0 : Int32) < 0 ∨ cl1.slots.size ≤ ((0 : Int32)).toNatClampNeg) := inb_of Sz1 ⟨by decide, by decide⟩
  have hat1 : cl1.slots[((0 : Int32)).toNatClampNeg]? = some (.int y0) := Has.at Hh1 hin1 rfl
  have P2 : own_Go p e below S0 (s₁.setTop (mkF m 19 #[.val (.ref qb), .val (.int 42), .val (.int 0), .val (.int 2), .val (.int 42), .val (.int 0)] [(.int 42), (.int y0)])) := fun t k => P0 t (by
    refine XS.iloadN X0.here hx rfl (hb hby d20_0) rfl ?_
    refine XS.i2b X0.here hx rfl (hb hby d20_1) rfl ?_
    refine XS.istore X0.here hx rfl (hb hby d20_2) rfl (l' := #[.val (.ref qb), .val (.int 42), .val (.int 0), .val (.int 2), .val (.int 42), .unset]) rfl ?_
    refine XS.iloadN X0.here hx rfl (hb hby d20_4) rfl ?_
    refine XS.istore X0.here hx rfl (hb hby d20_5) rfl (l' := #[.val (.ref qb), .val (.int 42), .val (.int 0), .val (.int 2), .val (.int 42), .val (.int 0)]) rfl ?_
    refine XS.iload X0.here hx rfl (hb hby d20_7) rfl ?_
    show Steps p.tables e below (s₁.setTop (mkF m 9 #[.val (.ref qb), .val (.int 42), .val (.int 0), .val (.int 2), .val (.int 42), .val (.int 0)] [(.int 0)])) t
    refine XS.iloadN X0.here hx rfl (hb hby d20_9) rfl ?_
    refine XS.icmpNo X0.here hx rfl (hb hby d20_10) rfl (tlt (by decide)).2.1 ?_
    refine XS.aloadN X0.here hx rfl (hb hby d20_13) rfl rfl ?_
    refine XS.iload X0.here hx rfl (hb hby d20_14) rfl ?_
    show Steps p.tables e below (s₁.setTop (mkF m 16 #[.val (.ref qb), .val (.int 42), .val (.int 0), .val (.int 2), .val (.int 42), .val (.int 0)] [(.int 0), (.ref qb)])) t
    refine X0.baloadBytes hx (j := (0 : Int32)) (v := (.int y0)) (by rw [e0]; exact Ar1.1) (State.isArrayOf_alike hZ.alike Ar1.2.1) Ar1.2.2 hin1 hat1 (g := (mkF m 16 #[.val (.ref qb), .val (.int 42), .val (.int 0), .val (.int 2), .val (.int 42), .val (.int 0)] [(.int 0), (.ref qb)])) rfl rfl (hb hby d20_16) _ ?_
    refine XS.iload X0.here hx rfl (hb hby d20_17) rfl ?_
    show Steps p.tables e below (s₁.setTop (mkF m 19 #[.val (.ref qb), .val (.int 42), .val (.int 0), .val (.int 2), .val (.int 42), .val (.int 0)] [(.int 42), (.int y0)])) t
    exact k)
  by_cases c3 : y0 = (42 : Int32)
  · skip
    have P4 : own_Go p e below S0 (s₁.setTop (mkF m 24 #[.val (.ref qb), .val (.int 42), .val (.int 0), .val (.int 2), .val (.int 42), .val (.int 0)] [(.int 0)])) := fun t k => P2 t (by
      refine XS.icmpNo X0.here hx rfl (hb hby d20_19) rfl (teq c3).2 ?_
      refine XS.iload X0.here hx rfl (hb hby d20_22) rfl ?_
      show Steps p.tables e below (s₁.setTop (mkF m 24 #[.val (.ref qb), .val (.int 42), .val (.int 0), .val (.int 2), .val (.int 42), .val (.int 0)] [(.int 0)])) t
      exact k)
    obtain ⟨fs, hr, hrun, hended, hW, hsame⟩ := X0.leave (v := some (.int 0)) (fun h => by rw [Bd.returns] at h; cases h) (BodyLoose.notSynchronized Bd)
    refine ⟨_, _, own_from hE0 (P4 _ ?_), hrun, hended, _, _, rfl, ?_, ⟨_, rfl⟩, hW, hsame.mono (by decide) (by decide)⟩
    · show Steps p.tables e below (s₁.setTop (mkF m 24 #[.val (.ref qb), .val (.int 42), .val (.int 0), .val (.int 2), .val (.int 42), .val (.int 0)] [(.int 0)])) _
      exact retI X0 hx Bd.returns (hb hby d20_24) hr
    · show Q20n2c42 Z qb kb y0 y1 h0 n0 _ s₁.heap _
      rw [e0]
      exact ⟨(congrArg (fun z => some (Value.int z)) (Eq.symm (if_pos c3))), N0, rfl⟩
  · skip
    obtain ⟨cl5, Ar5, q5, Sz5, Nn5, Hh5, Gg5⟩ := id A_qb
    have hin5 : ¬ ((1 : Int32) < 0 ∨ cl5.slots.size ≤ ((1 : Int32)).toNatClampNeg) := inb_of Sz5 ⟨by decide, by decide⟩
    have hat5 : cl5.slots[((1 : Int32)).toNatClampNeg]? = some (.int y1) := Has.at Hh5 hin5 rfl
    have P6 : own_Go p e below S0 (s₁.setTop (mkF m 19 #[.val (.ref qb), .val (.int 42), .val (.int 0), .val (.int 2), .val (.int 42), .val (.int 1)] [(.int 42), (.int y1)])) := fun t k => P2 t (by
      refine XS.icmpYes X0.here hx rfl (pc0 := 19) (pc' := 25) rfl (hb hby d20_19) rfl (feq c3).2 (by decide) (by decide) ?_
      refine XS.iinc X0.here hx rfl (hb hby d20_25) rfl (l' := #[.val (.ref qb), .val (.int 42), .val (.int 0), .val (.int 2), .val (.int 42), .val (.int 1)]) rfl ?_
      refine XS.goto X0.here hx rfl (pc0 := 28) (pc' := 7) rfl (hb hby d20_28) (by decide) (by decide) ?_
      refine XS.iload X0.here hx rfl (hb hby d20_7) rfl ?_
      refine XS.iloadN X0.here hx rfl (hb hby d20_9) rfl ?_
      refine XS.icmpNo X0.here hx rfl (hb hby d20_10) rfl (tlt (by decide)).2.1 ?_
      show Steps p.tables e below (s₁.setTop (mkF m 13 #[.val (.ref qb), .val (.int 42), .val (.int 0), .val (.int 2), .val (.int 42), .val (.int 1)] [])) t
      refine XS.aloadN X0.here hx rfl (hb hby d20_13) rfl rfl ?_
      refine XS.iload X0.here hx rfl (hb hby d20_14) rfl ?_
      show Steps p.tables e below (s₁.setTop (mkF m 16 #[.val (.ref qb), .val (.int 42), .val (.int 0), .val (.int 2), .val (.int 42), .val (.int 1)] [(.int 1), (.ref qb)])) t
      refine X0.baloadBytes hx (j := (1 : Int32)) (v := (.int y1)) (by rw [e0]; exact Ar5.1) (State.isArrayOf_alike hZ.alike Ar5.2.1) Ar5.2.2 hin5 hat5 (g := (mkF m 16 #[.val (.ref qb), .val (.int 42), .val (.int 0), .val (.int 2), .val (.int 42), .val (.int 1)] [(.int 1), (.ref qb)])) rfl rfl (hb hby d20_16) _ ?_
      refine XS.iload X0.here hx rfl (hb hby d20_17) rfl ?_
      show Steps p.tables e below (s₁.setTop (mkF m 19 #[.val (.ref qb), .val (.int 42), .val (.int 0), .val (.int 2), .val (.int 42), .val (.int 1)] [(.int 42), (.int y1)])) t
      exact k)
    by_cases c7 : y1 = (42 : Int32)
    · skip
      have P8 : own_Go p e below S0 (s₁.setTop (mkF m 24 #[.val (.ref qb), .val (.int 42), .val (.int 0), .val (.int 2), .val (.int 42), .val (.int 1)] [(.int 1)])) := fun t k => P6 t (by
        refine XS.icmpNo X0.here hx rfl (hb hby d20_19) rfl (teq c7).2 ?_
        refine XS.iload X0.here hx rfl (hb hby d20_22) rfl ?_
        show Steps p.tables e below (s₁.setTop (mkF m 24 #[.val (.ref qb), .val (.int 42), .val (.int 0), .val (.int 2), .val (.int 42), .val (.int 1)] [(.int 1)])) t
        exact k)
      obtain ⟨fs, hr, hrun, hended, hW, hsame⟩ := X0.leave (v := some (.int 1)) (fun h => by rw [Bd.returns] at h; cases h) (BodyLoose.notSynchronized Bd)
      refine ⟨_, _, own_from hE0 (P8 _ ?_), hrun, hended, _, _, rfl, ?_, ⟨_, rfl⟩, hW, hsame.mono (by decide) (by decide)⟩
      · show Steps p.tables e below (s₁.setTop (mkF m 24 #[.val (.ref qb), .val (.int 42), .val (.int 0), .val (.int 2), .val (.int 42), .val (.int 1)] [(.int 1)])) _
        exact retI X0 hx Bd.returns (hb hby d20_24) hr
      · show Q20n2c42 Z qb kb y0 y1 h0 n0 _ s₁.heap _
        rw [e0]
        exact ⟨(congrArg (fun z => some (Value.int z)) (Eq.symm (Eq.trans (if_neg c3) (if_pos c7)))), N0, rfl⟩
    · skip
      have P9 : own_Go p e below S0 (s₁.setTop (mkF m 32 #[.val (.ref qb), .val (.int 42), .val (.int 0), .val (.int 2), .val (.int 42), .val (.int 2)] [(.int (-1))])) := fun t k => P6 t (by
        refine XS.icmpYes X0.here hx rfl (pc0 := 19) (pc' := 25) rfl (hb hby d20_19) rfl (feq c7).2 (by decide) (by decide) ?_
        refine XS.iinc X0.here hx rfl (hb hby d20_25) rfl (l' := #[.val (.ref qb), .val (.int 42), .val (.int 0), .val (.int 2), .val (.int 42), .val (.int 2)]) rfl ?_
        refine XS.goto X0.here hx rfl (pc0 := 28) (pc' := 7) rfl (hb hby d20_28) (by decide) (by decide) ?_
        refine XS.iload X0.here hx rfl (hb hby d20_7) rfl ?_
        refine XS.iloadN X0.here hx rfl (hb hby d20_9) rfl ?_
        refine XS.icmpYes X0.here hx rfl (pc0 := 10) (pc' := 31) rfl (hb hby d20_10) rfl (flt (by decide)).2.1 (by decide) (by decide) ?_
        show Steps p.tables e below (s₁.setTop (mkF m 31 #[.val (.ref qb), .val (.int 42), .val (.int 0), .val (.int 2), .val (.int 42), .val (.int 2)] [])) t
        refine XS.iconst X0.here hx rfl (hb hby d20_31) ?_
        show Steps p.tables e below (s₁.setTop (mkF m 32 #[.val (.ref qb), .val (.int 42), .val (.int 0), .val (.int 2), .val (.int 42), .val (.int 2)] [(.int (-1))])) t
        exact k)
      obtain ⟨fs, hr, hrun, hended, hW, hsame⟩ := X0.leave (v := some (.int (-1))) (fun h => by rw [Bd.returns] at h; cases h) (BodyLoose.notSynchronized Bd)
      refine ⟨_, _, own_from hE0 (P9 _ ?_), hrun, hended, _, _, rfl, ?_, ⟨_, rfl⟩, hW, hsame.mono (by decide) (by decide)⟩
      · show Steps p.tables e below (s₁.setTop (mkF m 32 #[.val (.ref qb), .val (.int 42), .val (.int 0), .val (.int 2), .val (.int 42), .val (.int 2)] [(.int (-1))])) _
        exact retI X0 hx Bd.returns (hb hby d20_32) hr
      · show Q20n2c42 Z qb kb y0 y1 h0 n0 _ s₁.heap _
        rw [e0]
        exact ⟨(congrArg (fun z => some (Value.int z)) (Eq.symm (Eq.trans (if_neg c3) (if_neg c7)))), N0, rfl⟩
theorem ef_12n2c42 (m : MethodId) (qb : Addr) : entryFrame m #[(.ref qb), (.int 42), (.int 0), (.int 2)] 4 = mkF m 0 #[.val (.ref qb), .val (.int 42), .val (.int 0), .val (.int 2)] [] := by first | (simp [entryFrame, mkF, argsToLocals, Value.category]; done) | rfl
def Q12n2c42 (Z : State) (qb : Addr) (kb : ClassId) (y0 : Int32) (y1 : Int32) (h0 : Heap) (n0 : Nat) (v : Option Value) (h : Heap) (L : List Loc) : Prop := v = some (.int (r20n2c42 y0 y1)) ∧ Fr n0 L ∧ h = h0
set_option maxRecDepth 65536 in
set_option maxHeartbeats 40000000 in
theorem rm12n2c42 (l : Launch) (Z : State) (a0 : Array Value) (hw : ∀ d ∈ tables_1, d.before a0 Z = true) (ws : List Jvm.Cond) (qb : Addr) (kb : ClassId) (y0 : Int32) (y1 : Int32) (h0 : Heap) (n0 : Nat) (Z0 : n0 ≤ h0.size) (A_qb : Arv Z h0 qb kb .byte (2 : Int32) [(.int y0), (.int y1)] (.int 0)) :
    MetFree l (⟨"java/lang/StringLatin1", "indexOf", "([BIII)I"⟩ : MethodName) (head1 (Jvm.Cond.code (⟨"java/lang/StringLatin1", "indexOf", "([BIII)I"⟩ : MethodName) jdk_43_method_22_code 4 (some .int) :: ws) ({ frames := 1, cells := 0, slots := 0, locals := 17 } : Room)) (fun a U => a = #[(.ref qb), (.int 42), (.int 0), (.int 2)] ∧ Z.Warmed39 U.vm ∧ U.heap = h0) (fun _ _ _ _ _ => True) (fun _ U o U' => ∃ v L, o = .returned v ∧ Q12n2c42 Z qb kb y0 y1 h0 n0 v U'.heap L ∧ FrameEnd U o U' L ({ frames := 1, cells := 0, slots := 0, locals := 17 } : Room).cells ({ frames := 1, cells := 0, slots := 0, locals := 17 } : Room).slots) := by
  refine MetFree.of_bodySF (plainFor_of_name pn_13) hisR ?_
  intro p e s m args below meth c s₁ Bd hml0 hP hK
  obtain ⟨rfl, hZ, hh⟩ := hP
  have hx := Bd.exec
  have hby := Bd.bytes
  have hml : c.maxLocals = 4 := hml0
  have hown : s.vm.findClass "java/lang/StringLatin1" = some m.cls := findClass_of_methodNamed Bd.named
  have hnm := (name_of_methodNamed Bd.named Bd.method).1
  have X0 : Stand p l e ({ frames := 1, cells := 0, slots := 0, locals := 17 } : Room) s m #[(.ref qb), (.int 42), (.int 0), (.int 2)] below meth c s₁ [] 0 0 := Stand.of_body Bd
  have e0 : s₁.heap = h0 := by rw [← hh, Bd.state]; rfl
  have N0 := Fr.nil n0
  obtain ⟨S0, hE0⟩ : ∃ z, z = s₁.setTop (entryFrame m #[(.ref qb), (.int 42), (.int 0), (.int 2)] 4) := ⟨_, rfl⟩
  have P0 : own_Go p e below S0 (s₁.setTop (mkF m 0 #[.val (.ref qb), .val (.int 42), .val (.int 0), .val (.int 2)] [])) := fun t k => by rw [hE0]; exact castTop (ef_12n2c42 m qb) k
  have P1 : own_Go p e below S0 (s₁.setTop (mkF m 1 #[.val (.ref qb), .val (.int 42), .val (.int 0), .val (.int 2)] [(.int 42)])) := fun t k => P0 t (by
    refine XS.iloadN X0.here hx rfl (hb hby d12_0) rfl ?_
    show Steps p.tables e below (s₁.setTop (mkF m 1 #[.val (.ref qb), .val (.int 42), .val (.int 0), .val (.int 2)] [(.int 42)])) t
    exact k)
  obtain ⟨_, _, ⟨T2, L2, k2, n2⟩, -, X2, ⟨Lc2, hQ2, l2, y2, z2⟩, st2⟩ := Jvm.LawKit.callS X0 hx (y := (⟨"java/lang/StringLatin1", "canEncode", "(I)Z"⟩ : MethodName)) hown (mvT hZ (own_w hw 73 rfl)) (mvT hZ (own_w hw 74 rfl)) (mvT hZ (own_w hw 71 rfl)) (mvT hZ (own_w hw 75 rfl)) (by decide) (backOf (W := 0) (rm13c42 l Z a0 hw []  h0 n0 Z0) hZ (own_w hw 75 rfl) (own_w hw 71 rfl) (by decide) (by decide)) (g := (mkF m 1 #[.val (.ref qb), .val (.int 42), .val (.int 0), .val (.int 2)] [(.int 42)])) rfl (by rw [hml]; rfl) (argsL := [(.int 42)]) (rest := []) (lenOf pd_6 rfl) rfl (by show 2 * 0 + _ ≤ _; exact Nat.le_of_eq rfl) (hb hby d12_1) (fun _ _ => ⟨rfl, e0, (by decide : 0 + 0 ≤ _), (by decide : 0 + 0 ≤ _)⟩)
  dsimp only [Pt.U, Pt.locs, Pt.cells, Pt.slots] at X2 l2 y2 z2 st2 hQ2
  subst l2 y2 z2
  obtain ⟨rfl, N2q, e2⟩ := hQ2
  have N2 := Fr.app N0 N2q
  have P2 : own_Go p e below S0 (T2.setTop (mkF m 4 #[.val (.ref qb), .val (.int 42), .val (.int 0), .val (.int 2)] [(.int 1)])) := fun t k => P1 t (st2 _ k)
  have P3 : own_Go p e below S0 (T2.setTop (mkF m 11 #[.val (.ref qb), .val (.int 42), .val (.int 0), .val (.int 2)] [(.int 0), (.int 0)])) := fun t k => P2 t (by
    refine XS.ifYes X2.here hx rfl (pc0 := 4) (pc' := 9) rfl (hb hby d12_4) rfl ((if0 _ _).trans (feq (by decide)).2) (by decide) (by decide) ?_
    refine XS.iloadN X2.here hx rfl (hb hby d12_9) rfl ?_
    refine XS.iconst X2.here hx rfl (hb hby d12_10) ?_
    show Steps p.tables e below (T2.setTop (mkF m 11 #[.val (.ref qb), .val (.int 42), .val (.int 0), .val (.int 2)] [(.int 0), (.int 0)])) t
    exact k)
  obtain ⟨_, _, ⟨T4, L4, k4, n4⟩, -, X4, ⟨Lc4, hQ4, l4, y4, z4⟩, st4⟩ := Jvm.LawKit.callS X2 hx (y := (⟨"java/lang/Math", "max", "(II)I"⟩ : MethodName)) hown (mvT hZ (own_w hw 76 rfl)) (mvT hZ (own_w hw 77 rfl)) (mvT hZ (own_w hw 78 rfl)) (mvT hZ (own_w hw 79 rfl)) (by decide) (backOf (W := 0) (rm14 l Z a0 hw []  h0 n0 Z0) hZ (own_w hw 79 rfl) (own_w hw 78 rfl) (by decide) (by decide)) (g := (mkF m 11 #[.val (.ref qb), .val (.int 42), .val (.int 0), .val (.int 2)] [(.int 0), (.int 0)])) rfl (by rw [hml]; rfl) (argsL := [(.int 0), (.int 0)]) (rest := []) (lenOf pd_7 rfl) rfl (by show 2 * 0 + _ ≤ _; exact Nat.le_of_eq rfl) (hb hby d12_11) (fun _ _ => ⟨rfl, e2, (by decide : 0 + 0 ≤ _), (by decide : 0 + 0 ≤ _)⟩)
  dsimp only [Pt.U, Pt.locs, Pt.cells, Pt.slots] at X4 l4 y4 z4 st4 hQ4
  subst l4 y4 z4
  obtain ⟨rfl, N4q, e4⟩ := hQ4
  have N4 := Fr.app N2 N4q
  have P4 : own_Go p e below S0 (T4.setTop (mkF m 14 #[.val (.ref qb), .val (.int 42), .val (.int 0), .val (.int 2)] [(.int 0)])) := fun t k => P3 t (st4 _ k)
  obtain ⟨cl5, Ar5, q5, Sz5, Nn5, Hh5, Gg5⟩ := id A_qb
  have P6 : own_Go p e below S0 (T4.setTop (mkF m 18 #[.val (.ref qb), .val (.int 42), .val (.int 0), .val (.int 2)] [(.int 2), (.int 2)])) := fun t k => P4 t (by
    refine XS.istoreN X4.here hx rfl (hb hby d12_14) rfl (l' := #[.val (.ref qb), .val (.int 42), .val (.int 0), .val (.int 2)]) rfl ?_
    refine XS.iloadN X4.here hx rfl (hb hby d12_15) rfl ?_
    refine XS.aloadN X4.here hx rfl (hb hby d12_16) rfl rfl ?_
    show Steps p.tables e below (T4.setTop (mkF m 17 #[.val (.ref qb), .val (.int 42), .val (.int 0), .val (.int 2)] [(.ref qb), (.int 2)])) t
    refine X4.arraylength hx (by rw [e4]; exact Ar5.1) (State.isArrayOf_alike hZ.alike Ar5.2.1) (g := (mkF m 17 #[.val (.ref qb), .val (.int 42), .val (.int 0), .val (.int 2)] [(.ref qb), (.int 2)])) rfl rfl (hb hby d12_17) _ ?_
    rw [len_of Sz5 Nn5]
    show Steps p.tables e below (T4.setTop (mkF m 18 #[.val (.ref qb), .val (.int 42), .val (.int 0), .val (.int 2)] [(.int 2), (.int 2)])) t
    exact k)
  obtain ⟨_, _, ⟨T7, L7, k7, n7⟩, -, X7, ⟨Lc7, hQ7, l7, y7, z7⟩, st7⟩ := Jvm.LawKit.callS X4 hx (y := (⟨"java/lang/Math", "min", "(II)I"⟩ : MethodName)) hown (mvT hZ (own_w hw 80 rfl)) (mvT hZ (own_w hw 81 rfl)) (mvT hZ (own_w hw 78 rfl)) (mvT hZ (own_w hw 82 rfl)) (by decide) (backOf (W := 0) (rm15n2 l Z a0 hw []  h0 n0 Z0) hZ (own_w hw 82 rfl) (own_w hw 78 rfl) (by decide) (by decide)) (g := (mkF m 18 #[.val (.ref qb), .val (.int 42), .val (.int 0), .val (.int 2)] [(.int 2), (.int 2)])) rfl (by rw [hml]; rfl) (argsL := [(.int 2), (.int 2)]) (rest := []) (lenOf pd_7 rfl) rfl (by show 2 * 0 + _ ≤ _; exact Nat.le_of_eq rfl) (hb hby d12_18) (fun _ _ => ⟨rfl, e4, (by decide : 0 + 0 ≤ _), (by decide : 0 + 0 ≤ _)⟩)
  dsimp only [Pt.U, Pt.locs, Pt.cells, Pt.slots] at X7 l7 y7 z7 st7 hQ7
  subst l7 y7 z7
  obtain ⟨rfl, N7q, e7⟩ := hQ7
  have N7 := Fr.app N4 N7q
  have P7 : own_Go p e below S0 (T7.setTop (mkF m 21 #[.val (.ref qb), .val (.int 42), .val (.int 0), .val (.int 2)] [(.int 2)])) := fun t k => P6 t (st7 _ k)
  have P8 : own_Go p e below S0 (T7.setTop (mkF m 33 #[.val (.ref qb), .val (.int 42), .val (.int 0), .val (.int 2)] [(.int 2), (.int 0), (.int 42), (.ref qb)])) := fun t k => P7 t (by
    refine XS.istoreN X7.here hx rfl (hb hby d12_21) rfl (l' := #[.val (.ref qb), .val (.int 42), .val (.int 0), .val (.int 2)]) rfl ?_
    refine XS.iloadN X7.here hx rfl (hb hby d12_22) rfl ?_
    refine XS.iloadN X7.here hx rfl (hb hby d12_23) rfl ?_
    refine XS.icmpYes X7.here hx rfl (pc0 := 24) (pc' := 29) rfl (hb hby d12_24) rfl (tlt (by decide)).1 (by decide) (by decide) ?_
    refine XS.aloadN X7.here hx rfl (hb hby d12_29) rfl rfl ?_
    refine XS.iloadN X7.here hx rfl (hb hby d12_30) rfl ?_
    show Steps p.tables e below (T7.setTop (mkF m 31 #[.val (.ref qb), .val (.int 42), .val (.int 0), .val (.int 2)] [(.int 42), (.ref qb)])) t
    refine XS.iloadN X7.here hx rfl (hb hby d12_31) rfl ?_
    refine XS.iloadN X7.here hx rfl (hb hby d12_32) rfl ?_
    show Steps p.tables e below (T7.setTop (mkF m 33 #[.val (.ref qb), .val (.int 42), .val (.int 0), .val (.int 2)] [(.int 2), (.int 0), (.int 42), (.ref qb)])) t
    exact k)
  obtain ⟨_, _, ⟨T9, L9, k9, n9⟩, -, X9, ⟨Lc9, hQ9, l9, y9, z9⟩, st9⟩ := Jvm.LawKit.callS X7 hx (y := (⟨"java/lang/StringLatin1", "indexOfChar", "([BIII)I"⟩ : MethodName)) hown (mvT hZ (own_w hw 97 rfl)) (mvT hZ (own_w hw 98 rfl)) (mvT hZ (own_w hw 71 rfl)) (mvT hZ (own_w hw 99 rfl)) (by decide) (backOf (W := 0) (rm20n2c42 l Z a0 hw [] qb kb y0 y1 h0 n0 Z0 A_qb) hZ (own_w hw 99 rfl) (own_w hw 71 rfl) (by decide) (by decide)) (g := (mkF m 33 #[.val (.ref qb), .val (.int 42), .val (.int 0), .val (.int 2)] [(.int 2), (.int 0), (.int 42), (.ref qb)])) rfl (by rw [hml]; rfl) (argsL := [(.ref qb), (.int 42), (.int 0), (.int 2)]) (rest := []) (lenOf pd_10 rfl) rfl (by show 2 * 0 + _ ≤ _; exact Nat.le_of_eq rfl) (hb hby d12_33) (fun _ _ => ⟨rfl, e7, (by decide : 0 + 0 ≤ _), (by decide : 0 + 0 ≤ _)⟩)
  dsimp only [Pt.U, Pt.locs, Pt.cells, Pt.slots] at X9 l9 y9 z9 st9 hQ9
  subst l9 y9 z9
  obtain ⟨rfl, N9q, e9⟩ := hQ9
  have N9 := Fr.app N7 N9q
  have P9 : own_Go p e below S0 (T9.setTop (mkF m 36 #[.val (.ref qb), .val (.int 42), .val (.int 0), .val (.int 2)] [(.int (r20n2c42 y0 y1))])) := fun t k => P8 t (st9 _ k)
  obtain ⟨fs, hr, hrun, hended, hW, hsame⟩ := X9.leave (v := some (.int (r20n2c42 y0 y1))) (fun h => by rw [Bd.returns] at h; cases h) (BodyLoose.notSynchronized Bd)
  refine ⟨_, _, own_from hE0 (P9 _ ?_), hrun, hended, _, _, rfl, ?_, ⟨_, rfl⟩, hW, hsame.mono (by decide) (by decide)⟩
  · show Steps p.tables e below (T9.setTop (mkF m 36 #[.val (.ref qb), .val (.int 42), .val (.int 0), .val (.int 2)] [(.int (r20n2c42 y0 y1))])) _
    exact retI X9 hx Bd.returns (hb hby d12_36) hr
  · show Q12n2c42 Z qb kb y0 y1 h0 n0 _ T9.heap _
    rw [e9]
    exact ⟨rfl, N9, rfl⟩
theorem ef_8n2c42 (m : MethodId) (q8n2c42_0 : Addr) : entryFrame m #[(.ref q8n2c42_0), (.int 42), (.int 0)] 3 = mkF m 0 #[.val (.ref q8n2c42_0), .val (.int 42), .val (.int 0)] [] := by first | (simp [entryFrame, mkF, argsToLocals, Value.category]; done) | rfl
def Q8n2c42 (Z : State) (q8n2c42_0 : Addr) (qb : Addr) (kb : ClassId) (y0 : Int32) (y1 : Int32) (zc : Int32) (h0 : Heap) (n0 : Nat) (v : Option Value) (h : Heap) (L : List Loc) : Prop := v = some (.int (r20n2c42 y0 y1)) ∧ Fr n0 L ∧ h = h0
set_option maxRecDepth 65536 in
set_option maxHeartbeats 40000000 in
theorem rm8n2c42 (l : Launch) (Z : State) (a0 : Array Value) (hw : ∀ d ∈ tables_1, d.before a0 Z = true) (ws : List Jvm.Cond) (q8n2c42_0 : Addr) (qb : Addr) (kb : ClassId) (y0 : Int32) (y1 : Int32) (zc : Int32) (h0 : Heap) (n0 : Nat) (Z0 : n0 ≤ h0.size) (F_q8n2c42_0_value : Fld Z h0 q8n2c42_0 "java/lang/String" "value" "[B" (.ref qb)) (A_qb : Arv Z h0 qb kb .byte (2 : Int32) [(.int y0), (.int y1)] (.int 0)) (S_COMPACT_STRINGS : Sta Z h0 "java/lang/String" "COMPACT_STRINGS" "Z" (.int zc)) (hcs : ¬ (zc = (0 : Int32))) (F_q8n2c42_0_coder : Fld Z h0 q8n2c42_0 "java/lang/String" "coder" "B" (.int 0)) (E_q8n2c42_0 : Exa Z h0 q8n2c42_0 "java/lang/String") :
    MetFree l (⟨"java/lang/String", "indexOf", "(II)I"⟩ : MethodName) (head1 (Jvm.Cond.code (⟨"java/lang/String", "indexOf", "(II)I"⟩ : MethodName) jdk_42_method_80_code 3 (some .int) :: ws) ({ frames := 2, cells := 0, slots := 0, locals := 32 } : Room)) (fun a U => a = #[(.ref q8n2c42_0), (.int 42), (.int 0)] ∧ Z.Warmed39 U.vm ∧ U.heap = h0) (fun _ _ _ _ _ => True) (fun _ U o U' => ∃ v L, o = .returned v ∧ Q8n2c42 Z q8n2c42_0 qb kb y0 y1 zc h0 n0 v U'.heap L ∧ FrameEnd U o U' L ({ frames := 2, cells := 0, slots := 0, locals := 32 } : Room).cells ({ frames := 2, cells := 0, slots := 0, locals := 32 } : Room).slots) := by
  refine MetFree.of_bodySF (plainFor_of_name pn_2) hisR ?_
  intro p e s m args below meth c s₁ Bd hml0 hP hK
  obtain ⟨rfl, hZ, hh⟩ := hP
  have hx := Bd.exec
  have hby := Bd.bytes
  have hml : c.maxLocals = 3 := hml0
  have hown : s.vm.findClass "java/lang/String" = some m.cls := findClass_of_methodNamed Bd.named
  have hnm := (name_of_methodNamed Bd.named Bd.method).1
  have X0 : Stand p l e ({ frames := 2, cells := 0, slots := 0, locals := 32 } : Room) s m #[(.ref q8n2c42_0), (.int 42), (.int 0)] below meth c s₁ [] 0 0 := Stand.of_body Bd
  have e0 : s₁.heap = h0 := by rw [← hh, Bd.state]; rfl
  have N0 := Fr.nil n0
  obtain ⟨S0, hE0⟩ : ∃ z, z = s₁.setTop (entryFrame m #[(.ref q8n2c42_0), (.int 42), (.int 0)] 3) := ⟨_, rfl⟩
  have P0 : own_Go p e below S0 (s₁.setTop (mkF m 0 #[.val (.ref q8n2c42_0), .val (.int 42), .val (.int 0)] [])) := fun t k => by rw [hE0]; exact castTop (ef_8n2c42 m q8n2c42_0) k
  have P1 : own_Go p e below S0 (s₁.setTop (mkF m 1 #[.val (.ref q8n2c42_0), .val (.int 42), .val (.int 0)] [(.ref q8n2c42_0)])) := fun t k => P0 t (by
    refine XS.aloadN X0.here hx rfl (hb hby d8_0) rfl rfl ?_
    show Steps p.tables e below (s₁.setTop (mkF m 1 #[.val (.ref q8n2c42_0), .val (.int 42), .val (.int 0)] [(.ref q8n2c42_0)])) t
    exact k)
  obtain ⟨cq2, kq2, q2a, q2b, q2c⟩ := isOf hZ e0 E_q8n2c42_0
  obtain ⟨_, _, ⟨T2, L2, k2, n2⟩, -, X2, ⟨Lc2, hQ2, l2, y2, z2⟩, st2⟩ := X0.virtualBack hx (y := (⟨"java/lang/String", "isLatin1", "()Z"⟩ : MethodName)) (z := (⟨"java/lang/String", "isLatin1", "()Z"⟩ : MethodName)) hown (mvT hZ (own_w hw 53 rfl)) (mvT hZ (own_w hw 54 rfl)) (notFace_of_selects (args := #[]) (mvT hZ (own_w hw 56 rfl))) (mvT hZ (own_w hw 56 rfl)) (mvT hZ (own_w hw 55 rfl)) (by decide) (backOf (W := 0) (rm9 l Z a0 hw [] q8n2c42_0 zc h0 n0 Z0 S_COMPACT_STRINGS hcs F_q8n2c42_0_coder) hZ (own_w hw 57 rfl) (own_w hw 7 rfl) (by decide) (by decide)) q2a q2c (g := (mkF m 1 #[.val (.ref q8n2c42_0), .val (.int 42), .val (.int 0)] [(.ref q8n2c42_0)])) rfl (by rw [hml]; rfl) (Steps.refl _) (argsL := []) (rest := []) (lenOf pd_8 rfl) rfl (by show 2 * 0 + _ ≤ _; exact Nat.le_of_eq rfl) (hb hby d8_1) (fun _ _ => ⟨rfl, e0, (by decide : 0 + 0 ≤ _), (by decide : 0 + 0 ≤ _)⟩)
  dsimp only [Pt.U, Pt.locs, Pt.cells, Pt.slots] at X2 l2 y2 z2 st2 hQ2
  subst l2 y2 z2
  obtain ⟨rfl, N2q, e2⟩ := hQ2
  have N2 := Fr.app N0 N2q
  have P2 : own_Go p e below S0 (T2.setTop (mkF m 4 #[.val (.ref q8n2c42_0), .val (.int 42), .val (.int 0)] [(.int 1)])) := fun t k => P1 t (st2.trans k)
  have P3 : own_Go p e below S0 (T2.setTop (mkF m 8 #[.val (.ref q8n2c42_0), .val (.int 42), .val (.int 0)] [(.ref q8n2c42_0)])) := fun t k => P2 t (by
    refine XS.ifNo X2.here hx rfl (hb hby d8_4) rfl ((if0 _ _).trans (feq (by decide)).1) ?_
    refine XS.aloadN X2.here hx rfl (hb hby d8_7) rfl rfl ?_
    show Steps p.tables e below (T2.setTop (mkF m 8 #[.val (.ref q8n2c42_0), .val (.int 42), .val (.int 0)] [(.ref q8n2c42_0)])) t
    exact k)
  obtain ⟨T4, X4, e4, st4⟩ := getF X2 hx hZ hown (host := "") (Or.inl (own_w hw 24 rfl)) Via.refl e2 F_q8n2c42_0_value (g := (mkF m 8 #[.val (.ref q8n2c42_0), .val (.int 42), .val (.int 0)] [(.ref q8n2c42_0)])) rfl rfl (hb hby d8_8)
  have P4 : own_Go p e below S0 (T4.setTop (mkF m 11 #[.val (.ref q8n2c42_0), .val (.int 42), .val (.int 0)] [(.ref qb)])) := fun t k => P3 t (st4 _ k)
  have P5 : own_Go p e below S0 (T4.setTop (mkF m 14 #[.val (.ref q8n2c42_0), .val (.int 42), .val (.int 0)] [(.ref q8n2c42_0), (.int 0), (.int 42), (.ref qb)])) := fun t k => P4 t (by
    refine XS.iloadN X4.here hx rfl (hb hby d8_11) rfl ?_
    refine XS.iloadN X4.here hx rfl (hb hby d8_12) rfl ?_
    refine XS.aloadN X4.here hx rfl (hb hby d8_13) rfl rfl ?_
    show Steps p.tables e below (T4.setTop (mkF m 14 #[.val (.ref q8n2c42_0), .val (.int 42), .val (.int 0)] [(.ref q8n2c42_0), (.int 0), (.int 42), (.ref qb)])) t
    exact k)
  obtain ⟨cq6, kq6, q6a, q6b, q6c⟩ := isOf hZ e4 E_q8n2c42_0
  obtain ⟨_, _, ⟨T6, L6, k6, n6⟩, -, X6, ⟨Lc6, hQ6, l6, y6, z6⟩, st6⟩ := X4.virtualBack hx (y := (⟨"java/lang/String", "length", "()I"⟩ : MethodName)) (z := (⟨"java/lang/String", "length", "()I"⟩ : MethodName)) hown (mvT hZ (own_w hw 59 rfl)) (mvT hZ (own_w hw 60 rfl)) (notFace_of_selects (args := #[]) (mvT hZ (own_w hw 62 rfl))) (mvT hZ (own_w hw 62 rfl)) (mvT hZ (own_w hw 61 rfl)) (by decide) (backOf (W := 3) (rm10n2 l Z a0 hw [] q8n2c42_0 qb kb y0 y1 zc h0 n0 Z0 F_q8n2c42_0_value A_qb S_COMPACT_STRINGS hcs F_q8n2c42_0_coder E_q8n2c42_0) hZ (own_w hw 63 rfl) (own_w hw 7 rfl) (by decide) (by decide)) q6a q6c (g := (mkF m 14 #[.val (.ref q8n2c42_0), .val (.int 42), .val (.int 0)] [(.ref q8n2c42_0), (.int 0), (.int 42), (.ref qb)])) rfl (by rw [hml]; rfl) (Steps.refl _) (argsL := []) (rest := [(.int 0), (.int 42), (.ref qb)]) (lenOf pd_9 rfl) rfl (by show 2 * 0 + _ ≤ _; exact Nat.le_of_eq rfl) (hb hby d8_14) (fun _ _ => ⟨rfl, e4, (by decide : 0 + 0 ≤ _), (by decide : 0 + 0 ≤ _)⟩)
  dsimp only [Pt.U, Pt.locs, Pt.cells, Pt.slots] at X6 l6 y6 z6 st6 hQ6
  subst l6 y6 z6
  obtain ⟨rfl, N6q, e6⟩ := hQ6
  have N6 := Fr.app N2 N6q
  have P6 : own_Go p e below S0 (T6.setTop (mkF m 17 #[.val (.ref q8n2c42_0), .val (.int 42), .val (.int 0)] [(.int 2), (.int 0), (.int 42), (.ref qb)])) := fun t k => P5 t (st6.trans k)
  obtain ⟨_, _, ⟨T7, L7, k7, n7⟩, -, X7, ⟨Lc7, hQ7, l7, y7, z7⟩, st7⟩ := Jvm.LawKit.callS X6 hx (y := (⟨"java/lang/StringLatin1", "indexOf", "([BIII)I"⟩ : MethodName)) hown (mvT hZ (own_w hw 69 rfl)) (mvT hZ (own_w hw 70 rfl)) (mvT hZ (own_w hw 71 rfl)) (mvT hZ (own_w hw 72 rfl)) (by decide) (backOf (W := 0) (rm12n2c42 l Z a0 hw [] qb kb y0 y1 h0 n0 Z0 A_qb) hZ (own_w hw 72 rfl) (own_w hw 71 rfl) (by decide) (by decide)) (g := (mkF m 17 #[.val (.ref q8n2c42_0), .val (.int 42), .val (.int 0)] [(.int 2), (.int 0), (.int 42), (.ref qb)])) rfl (by rw [hml]; rfl) (argsL := [(.ref qb), (.int 42), (.int 0), (.int 2)]) (rest := []) (lenOf pd_10 rfl) rfl (by show 2 * 0 + _ ≤ _; exact Nat.le_of_eq rfl) (hb hby d8_17) (fun _ _ => ⟨rfl, e6, (by decide : 0 + 0 ≤ _), (by decide : 0 + 0 ≤ _)⟩)
  dsimp only [Pt.U, Pt.locs, Pt.cells, Pt.slots] at X7 l7 y7 z7 st7 hQ7
  subst l7 y7 z7
  obtain ⟨rfl, N7q, e7⟩ := hQ7
  have N7 := Fr.app N6 N7q
  have P7 : own_Go p e below S0 (T7.setTop (mkF m 20 #[.val (.ref q8n2c42_0), .val (.int 42), .val (.int 0)] [(.int (r20n2c42 y0 y1))])) := fun t k => P6 t (st7 _ k)
  have P8 : own_Go p e below S0 (T7.setTop (mkF m 36 #[.val (.ref q8n2c42_0), .val (.int 42), .val (.int 0)] [(.int (r20n2c42 y0 y1))])) := fun t k => P7 t (by
    refine XS.goto X7.here hx rfl (pc0 := 20) (pc' := 36) rfl (hb hby d8_20) (by decide) (by decide) ?_
    show Steps p.tables e below (T7.setTop (mkF m 36 #[.val (.ref q8n2c42_0), .val (.int 42), .val (.int 0)] [(.int (r20n2c42 y0 y1))])) t
    exact k)
  obtain ⟨fs, hr, hrun, hended, hW, hsame⟩ := X7.leave (v := some (.int (r20n2c42 y0 y1))) (fun h => by rw [Bd.returns] at h; cases h) (BodyLoose.notSynchronized Bd)
  refine ⟨_, _, own_from hE0 (P8 _ ?_), hrun, hended, _, _, rfl, ?_, ⟨_, rfl⟩, hW, hsame.mono (by decide) (by decide)⟩
  · show Steps p.tables e below (T7.setTop (mkF m 36 #[.val (.ref q8n2c42_0), .val (.int 42), .val (.int 0)] [(.int (r20n2c42 y0 y1))])) _
    exact retI X7 hx Bd.returns (hb hby d8_36) hr
  · show Q8n2c42 Z q8n2c42_0 qb kb y0 y1 zc h0 n0 _ T7.heap _
    rw [e7]
    exact ⟨rfl, N7, rfl⟩
theorem ef_7n2c42 (m : MethodId) (q7n2c42_0 : Addr) : entryFrame m #[(.ref q7n2c42_0), (.int 42)] 2 = mkF m 0 #[.val (.ref q7n2c42_0), .val (.int 42)] [] := by first | (simp [entryFrame, mkF, argsToLocals, Value.category]; done) | rfl
def Q7n2c42 (Z : State) (q7n2c42_0 : Addr) (qb : Addr) (kb : ClassId) (y0 : Int32) (y1 : Int32) (zc : Int32) (h0 : Heap) (n0 : Nat) (v : Option Value) (h : Heap) (L : List Loc) : Prop := v = some (.int (r20n2c42 y0 y1)) ∧ Fr n0 L ∧ h = h0
set_option maxRecDepth 65536 in
set_option maxHeartbeats 40000000 in
theorem rm7n2c42 (l : Launch) (Z : State) (a0 : Array Value) (hw : ∀ d ∈ tables_1, d.before a0 Z = true) (ws : List Jvm.Cond) (q7n2c42_0 : Addr) (qb : Addr) (kb : ClassId) (y0 : Int32) (y1 : Int32) (zc : Int32) (h0 : Heap) (n0 : Nat) (Z0 : n0 ≤ h0.size) (F_q7n2c42_0_value : Fld Z h0 q7n2c42_0 "java/lang/String" "value" "[B" (.ref qb)) (A_qb : Arv Z h0 qb kb .byte (2 : Int32) [(.int y0), (.int y1)] (.int 0)) (S_COMPACT_STRINGS : Sta Z h0 "java/lang/String" "COMPACT_STRINGS" "Z" (.int zc)) (hcs : ¬ (zc = (0 : Int32))) (F_q7n2c42_0_coder : Fld Z h0 q7n2c42_0 "java/lang/String" "coder" "B" (.int 0)) (E_q7n2c42_0 : Exa Z h0 q7n2c42_0 "java/lang/String") :
    MetFree l (⟨"java/lang/String", "indexOf", "(I)I"⟩ : MethodName) (head1 (Jvm.Cond.code (⟨"java/lang/String", "indexOf", "(I)I"⟩ : MethodName) jdk_42_method_79_code 2 (some .int) :: ws) ({ frames := 3, cells := 0, slots := 0, locals := 46 } : Room)) (fun a U => a = #[(.ref q7n2c42_0), (.int 42)] ∧ Z.Warmed39 U.vm ∧ U.heap = h0) (fun _ _ _ _ _ => True) (fun _ U o U' => ∃ v L, o = .returned v ∧ Q7n2c42 Z q7n2c42_0 qb kb y0 y1 zc h0 n0 v U'.heap L ∧ FrameEnd U o U' L ({ frames := 3, cells := 0, slots := 0, locals := 46 } : Room).cells ({ frames := 3, cells := 0, slots := 0, locals := 46 } : Room).slots) := by
  refine MetFree.of_bodySF (plainFor_of_name pn_2) hisR ?_
  intro p e s m args below meth c s₁ Bd hml0 hP hK
  obtain ⟨rfl, hZ, hh⟩ := hP
  have hx := Bd.exec
  have hby := Bd.bytes
  have hml : c.maxLocals = 2 := hml0
  have hown : s.vm.findClass "java/lang/String" = some m.cls := findClass_of_methodNamed Bd.named
  have hnm := (name_of_methodNamed Bd.named Bd.method).1
  have X0 : Stand p l e ({ frames := 3, cells := 0, slots := 0, locals := 46 } : Room) s m #[(.ref q7n2c42_0), (.int 42)] below meth c s₁ [] 0 0 := Stand.of_body Bd
  have e0 : s₁.heap = h0 := by rw [← hh, Bd.state]; rfl
  have N0 := Fr.nil n0
  obtain ⟨S0, hE0⟩ : ∃ z, z = s₁.setTop (entryFrame m #[(.ref q7n2c42_0), (.int 42)] 2) := ⟨_, rfl⟩
  have P0 : own_Go p e below S0 (s₁.setTop (mkF m 0 #[.val (.ref q7n2c42_0), .val (.int 42)] [])) := fun t k => by rw [hE0]; exact castTop (ef_7n2c42 m q7n2c42_0) k
  have P1 : own_Go p e below S0 (s₁.setTop (mkF m 3 #[.val (.ref q7n2c42_0), .val (.int 42)] [(.int 0), (.int 42), (.ref q7n2c42_0)])) := fun t k => P0 t (by
    refine XS.aloadN X0.here hx rfl (hb hby d7_0) rfl rfl ?_
    refine XS.iloadN X0.here hx rfl (hb hby d7_1) rfl ?_
    refine XS.iconst X0.here hx rfl (hb hby d7_2) ?_
    show Steps p.tables e below (s₁.setTop (mkF m 3 #[.val (.ref q7n2c42_0), .val (.int 42)] [(.int 0), (.int 42), (.ref q7n2c42_0)])) t
    exact k)
  obtain ⟨cq2, kq2, q2a, q2b, q2c⟩ := isOf hZ e0 E_q7n2c42_0
  obtain ⟨_, _, ⟨T2, L2, k2, n2⟩, -, X2, ⟨Lc2, hQ2, l2, y2, z2⟩, st2⟩ := X0.virtualBack hx (y := (⟨"java/lang/String", "indexOf", "(II)I"⟩ : MethodName)) (z := (⟨"java/lang/String", "indexOf", "(II)I"⟩ : MethodName)) hown (mvT hZ (own_w hw 48 rfl)) (mvT hZ (own_w hw 49 rfl)) (notFace_of_selects (args := #[]) (mvT hZ (own_w hw 51 rfl))) (mvT hZ (own_w hw 51 rfl)) (mvT hZ (own_w hw 50 rfl)) (by decide) (backOf (W := 0) (rm8n2c42 l Z a0 hw [] q7n2c42_0 qb kb y0 y1 zc h0 n0 Z0 F_q7n2c42_0_value A_qb S_COMPACT_STRINGS hcs F_q7n2c42_0_coder E_q7n2c42_0) hZ (own_w hw 52 rfl) (own_w hw 7 rfl) (by decide) (by decide)) q2a q2c (g := (mkF m 3 #[.val (.ref q7n2c42_0), .val (.int 42)] [(.int 0), (.int 42), (.ref q7n2c42_0)])) rfl (by rw [hml]; rfl) (Steps.refl _) (argsL := [(.int 42), (.int 0)]) (rest := []) (lenOf pd_7 rfl) rfl (by show 2 * 0 + _ ≤ _; exact Nat.le_of_eq rfl) (hb hby d7_3) (fun _ _ => ⟨rfl, e0, (by decide : 0 + 0 ≤ _), (by decide : 0 + 0 ≤ _)⟩)
  dsimp only [Pt.U, Pt.locs, Pt.cells, Pt.slots] at X2 l2 y2 z2 st2 hQ2
  subst l2 y2 z2
  obtain ⟨rfl, N2q, e2⟩ := hQ2
  have N2 := Fr.app N0 N2q
  have P2 : own_Go p e below S0 (T2.setTop (mkF m 6 #[.val (.ref q7n2c42_0), .val (.int 42)] [(.int (r20n2c42 y0 y1))])) := fun t k => P1 t (st2.trans k)
  obtain ⟨fs, hr, hrun, hended, hW, hsame⟩ := X2.leave (v := some (.int (r20n2c42 y0 y1))) (fun h => by rw [Bd.returns] at h; cases h) (BodyLoose.notSynchronized Bd)
  refine ⟨_, _, own_from hE0 (P2 _ ?_), hrun, hended, _, _, rfl, ?_, ⟨_, rfl⟩, hW, hsame.mono (by decide) (by decide)⟩
  · show Steps p.tables e below (T2.setTop (mkF m 6 #[.val (.ref q7n2c42_0), .val (.int 42)] [(.int (r20n2c42 y0 y1))])) _
    exact retI X2 hx Bd.returns (hb hby d7_6) hr
  · show Q7n2c42 Z q7n2c42_0 qb kb y0 y1 zc h0 n0 _ T2.heap _
    rw [e2]
    exact ⟨rfl, N2, rfl⟩
theorem ef_20n2c63 (m : MethodId) (qb : Addr) : entryFrame m #[(.ref qb), (.int 63), (.int 0), (.int 2)] 6 = mkF m 0 #[.val (.ref qb), .val (.int 63), .val (.int 0), .val (.int 2), .unset, .unset] [] := by first | (simp [entryFrame, mkF, argsToLocals, Value.category]; done) | rfl
def r20n2c63 (y0 : Int32) (y1 : Int32) : Int32 := (if y0 = (63 : Int32) then (0 : Int32) else (if y1 = (63 : Int32) then (1 : Int32) else (-1 : Int32)))
def Q20n2c63 (Z : State) (qb : Addr) (kb : ClassId) (y0 : Int32) (y1 : Int32) (h0 : Heap) (n0 : Nat) (v : Option Value) (h : Heap) (L : List Loc) : Prop := v = some (.int (r20n2c63 y0 y1)) ∧ Fr n0 L ∧ h = h0
set_option maxRecDepth 65536 in
set_option maxHeartbeats 40000000 in
theorem rm20n2c63 (l : Launch) (Z : State) (a0 : Array Value) (hw : ∀ d ∈ tables_1, d.before a0 Z = true) (ws : List Jvm.Cond) (qb : Addr) (kb : ClassId) (y0 : Int32) (y1 : Int32) (h0 : Heap) (n0 : Nat) (Z0 : n0 ≤ h0.size) (A_qb : Arv Z h0 qb kb .byte (2 : Int32) [(.int y0), (.int y1)] (.int 0)) :
    MetFree l (⟨"java/lang/StringLatin1", "indexOfChar", "([BIII)I"⟩ : MethodName) (head1 (Jvm.Cond.code (⟨"java/lang/StringLatin1", "indexOfChar", "([BIII)I"⟩ : MethodName) jdk_43_method_23_code 6 (some .int) :: ws) ({ frames := 0, cells := 0, slots := 0, locals := 0 } : Room)) (fun a U => a = #[(.ref qb), (.int 63), (.int 0), (.int 2)] ∧ Z.Warmed39 U.vm ∧ U.heap = h0) (fun _ _ _ _ _ => True) (fun _ U o U' => ∃ v L, o = .returned v ∧ Q20n2c63 Z qb kb y0 y1 h0 n0 v U'.heap L ∧ FrameEnd U o U' L ({ frames := 0, cells := 0, slots := 0, locals := 0 } : Room).cells ({ frames := 0, cells := 0, slots := 0, locals := 0 } : Room).slots) := by
  refine MetFree.of_bodySF (plainFor_of_name pn_13) hisR ?_
  intro p e s m args below meth c s₁ Bd hml0 hP hK
  obtain ⟨rfl, hZ, hh⟩ := hP
  have hx := Bd.exec
  have hby := Bd.bytes
  have hml : c.maxLocals = 6 := hml0
  have hown : s.vm.findClass "java/lang/StringLatin1" = some m.cls := findClass_of_methodNamed Bd.named
  have hnm := (name_of_methodNamed Bd.named Bd.method).1
  have X0 : Stand p l e ({ frames := 0, cells := 0, slots := 0, locals := 0 } : Room) s m #[(.ref qb), (.int 63), (.int 0), (.int 2)] below meth c s₁ [] 0 0 := Stand.of_body Bd
  have e0 : s₁.heap = h0 := by rw [← hh, Bd.state]; rfl
  have N0 := Fr.nil n0
  obtain ⟨S0, hE0⟩ : ∃ z, z = s₁.setTop (entryFrame m #[(.ref qb), (.int 63), (.int 0), (.int 2)] 6) := ⟨_, rfl⟩
  have P0 : own_Go p e below S0 (s₁.setTop (mkF m 0 #[.val (.ref qb), .val (.int 63), .val (.int 0), .val (.int 2), .unset, .unset] [])) := fun t k => by rw [hE0]; exact castTop (ef_20n2c63 m qb) k
  obtain ⟨cl1, Ar1, q1, Sz1, Nn1, Hh1, Gg1⟩ := id A_qb
  have hin1 : ¬ ((0 : Int32) < 0 ∨ cl1.slots.size ≤ ((0 : Int32)).toNatClampNeg) := inb_of Sz1 ⟨by decide, by decide⟩
  have hat1 : cl1.slots[((0 : Int32)).toNatClampNeg]? = some (.int y0) := Has.at Hh1 hin1 rfl
  have P2 : own_Go p e below S0 (s₁.setTop (mkF m 19 #[.val (.ref qb), .val (.int 63), .val (.int 0), .val (.int 2), .val (.int 63), .val (.int 0)] [(.int 63), (.int y0)])) := fun t k => P0 t (by
    refine XS.iloadN X0.here hx rfl (hb hby d20_0) rfl ?_
    refine XS.i2b X0.here hx rfl (hb hby d20_1) rfl ?_
    refine XS.istore X0.here hx rfl (hb hby d20_2) rfl (l' := #[.val (.ref qb), .val (.int 63), .val (.int 0), .val (.int 2), .val (.int 63), .unset]) rfl ?_
    refine XS.iloadN X0.here hx rfl (hb hby d20_4) rfl ?_
    refine XS.istore X0.here hx rfl (hb hby d20_5) rfl (l' := #[.val (.ref qb), .val (.int 63), .val (.int 0), .val (.int 2), .val (.int 63), .val (.int 0)]) rfl ?_
    refine XS.iload X0.here hx rfl (hb hby d20_7) rfl ?_
    show Steps p.tables e below (s₁.setTop (mkF m 9 #[.val (.ref qb), .val (.int 63), .val (.int 0), .val (.int 2), .val (.int 63), .val (.int 0)] [(.int 0)])) t
    refine XS.iloadN X0.here hx rfl (hb hby d20_9) rfl ?_
    refine XS.icmpNo X0.here hx rfl (hb hby d20_10) rfl (tlt (by decide)).2.1 ?_
    refine XS.aloadN X0.here hx rfl (hb hby d20_13) rfl rfl ?_
    refine XS.iload X0.here hx rfl (hb hby d20_14) rfl ?_
    show Steps p.tables e below (s₁.setTop (mkF m 16 #[.val (.ref qb), .val (.int 63), .val (.int 0), .val (.int 2), .val (.int 63), .val (.int 0)] [(.int 0), (.ref qb)])) t
    refine X0.baloadBytes hx (j := (0 : Int32)) (v := (.int y0)) (by rw [e0]; exact Ar1.1) (State.isArrayOf_alike hZ.alike Ar1.2.1) Ar1.2.2 hin1 hat1 (g := (mkF m 16 #[.val (.ref qb), .val (.int 63), .val (.int 0), .val (.int 2), .val (.int 63), .val (.int 0)] [(.int 0), (.ref qb)])) rfl rfl (hb hby d20_16) _ ?_
    refine XS.iload X0.here hx rfl (hb hby d20_17) rfl ?_
    show Steps p.tables e below (s₁.setTop (mkF m 19 #[.val (.ref qb), .val (.int 63), .val (.int 0), .val (.int 2), .val (.int 63), .val (.int 0)] [(.int 63), (.int y0)])) t
    exact k)
  by_cases c3 : y0 = (63 : Int32)
  · skip
    have P4 : own_Go p e below S0 (s₁.setTop (mkF m 24 #[.val (.ref qb), .val (.int 63), .val (.int 0), .val (.int 2), .val (.int 63), .val (.int 0)] [(.int 0)])) := fun t k => P2 t (by
      refine XS.icmpNo X0.here hx rfl (hb hby d20_19) rfl (teq c3).2 ?_
      refine XS.iload X0.here hx rfl (hb hby d20_22) rfl ?_
      show Steps p.tables e below (s₁.setTop (mkF m 24 #[.val (.ref qb), .val (.int 63), .val (.int 0), .val (.int 2), .val (.int 63), .val (.int 0)] [(.int 0)])) t
      exact k)
    obtain ⟨fs, hr, hrun, hended, hW, hsame⟩ := X0.leave (v := some (.int 0)) (fun h => by rw [Bd.returns] at h; cases h) (BodyLoose.notSynchronized Bd)
    refine ⟨_, _, own_from hE0 (P4 _ ?_), hrun, hended, _, _, rfl, ?_, ⟨_, rfl⟩, hW, hsame.mono (by decide) (by decide)⟩
    · show Steps p.tables e below (s₁.setTop (mkF m 24 #[.val (.ref qb), .val (.int 63), .val (.int 0), .val (.int 2), .val (.int 63), .val (.int 0)] [(.int 0)])) _
      exact retI X0 hx Bd.returns (hb hby d20_24) hr
    · show Q20n2c63 Z qb kb y0 y1 h0 n0 _ s₁.heap _
      rw [e0]
      exact ⟨(congrArg (fun z => some (Value.int z)) (Eq.symm (if_pos c3))), N0, rfl⟩
  · skip
    obtain ⟨cl5, Ar5, q5, Sz5, Nn5, Hh5, Gg5⟩ := id A_qb
    have hin5 : ¬ ((1 : Int32) < 0 ∨ cl5.slots.size ≤ ((1 : Int32)).toNatClampNeg) := inb_of Sz5 ⟨by decide, by decide⟩
    have hat5 : cl5.slots[((1 : Int32)).toNatClampNeg]? = some (.int y1) := Has.at Hh5 hin5 rfl
    have P6 : own_Go p e below S0 (s₁.setTop (mkF m 19 #[.val (.ref qb), .val (.int 63), .val (.int 0), .val (.int 2), .val (.int 63), .val (.int 1)] [(.int 63), (.int y1)])) := fun t k => P2 t (by
      refine XS.icmpYes X0.here hx rfl (pc0 := 19) (pc' := 25) rfl (hb hby d20_19) rfl (feq c3).2 (by decide) (by decide) ?_
      refine XS.iinc X0.here hx rfl (hb hby d20_25) rfl (l' := #[.val (.ref qb), .val (.int 63), .val (.int 0), .val (.int 2), .val (.int 63), .val (.int 1)]) rfl ?_
      refine XS.goto X0.here hx rfl (pc0 := 28) (pc' := 7) rfl (hb hby d20_28) (by decide) (by decide) ?_
      refine XS.iload X0.here hx rfl (hb hby d20_7) rfl ?_
      refine XS.iloadN X0.here hx rfl (hb hby d20_9) rfl ?_
      refine XS.icmpNo X0.here hx rfl (hb hby d20_10) rfl (tlt (by decide)).2.1 ?_
      show Steps p.tables e below (s₁.setTop (mkF m 13 #[.val (.ref qb), .val (.int 63), .val (.int 0), .val (.int 2), .val (.int 63), .val (.int 1)] [])) t
      refine XS.aloadN X0.here hx rfl (hb hby d20_13) rfl rfl ?_
      refine XS.iload X0.here hx rfl (hb hby d20_14) rfl ?_
      show Steps p.tables e below (s₁.setTop (mkF m 16 #[.val (.ref qb), .val (.int 63), .val (.int 0), .val (.int 2), .val (.int 63), .val (.int 1)] [(.int 1), (.ref qb)])) t
      refine X0.baloadBytes hx (j := (1 : Int32)) (v := (.int y1)) (by rw [e0]; exact Ar5.1) (State.isArrayOf_alike hZ.alike Ar5.2.1) Ar5.2.2 hin5 hat5 (g := (mkF m 16 #[.val (.ref qb), .val (.int 63), .val (.int 0), .val (.int 2), .val (.int 63), .val (.int 1)] [(.int 1), (.ref qb)])) rfl rfl (hb hby d20_16) _ ?_
      refine XS.iload X0.here hx rfl (hb hby d20_17) rfl ?_
      show Steps p.tables e below (s₁.setTop (mkF m 19 #[.val (.ref qb), .val (.int 63), .val (.int 0), .val (.int 2), .val (.int 63), .val (.int 1)] [(.int 63), (.int y1)])) t
      exact k)
    by_cases c7 : y1 = (63 : Int32)
    · skip
      have P8 : own_Go p e below S0 (s₁.setTop (mkF m 24 #[.val (.ref qb), .val (.int 63), .val (.int 0), .val (.int 2), .val (.int 63), .val (.int 1)] [(.int 1)])) := fun t k => P6 t (by
        refine XS.icmpNo X0.here hx rfl (hb hby d20_19) rfl (teq c7).2 ?_
        refine XS.iload X0.here hx rfl (hb hby d20_22) rfl ?_
        show Steps p.tables e below (s₁.setTop (mkF m 24 #[.val (.ref qb), .val (.int 63), .val (.int 0), .val (.int 2), .val (.int 63), .val (.int 1)] [(.int 1)])) t
        exact k)
      obtain ⟨fs, hr, hrun, hended, hW, hsame⟩ := X0.leave (v := some (.int 1)) (fun h => by rw [Bd.returns] at h; cases h) (BodyLoose.notSynchronized Bd)
      refine ⟨_, _, own_from hE0 (P8 _ ?_), hrun, hended, _, _, rfl, ?_, ⟨_, rfl⟩, hW, hsame.mono (by decide) (by decide)⟩
      · show Steps p.tables e below (s₁.setTop (mkF m 24 #[.val (.ref qb), .val (.int 63), .val (.int 0), .val (.int 2), .val (.int 63), .val (.int 1)] [(.int 1)])) _
        exact retI X0 hx Bd.returns (hb hby d20_24) hr
      · show Q20n2c63 Z qb kb y0 y1 h0 n0 _ s₁.heap _
        rw [e0]
        exact ⟨(congrArg (fun z => some (Value.int z)) (Eq.symm (Eq.trans (if_neg c3) (if_pos c7)))), N0, rfl⟩
    · skip
      have P9 : own_Go p e below S0 (s₁.setTop (mkF m 32 #[.val (.ref qb), .val (.int 63), .val (.int 0), .val (.int 2), .val (.int 63), .val (.int 2)] [(.int (-1))])) := fun t k => P6 t (by
        refine XS.icmpYes X0.here hx rfl (pc0 := 19) (pc' := 25) rfl (hb hby d20_19) rfl (feq c7).2 (by decide) (by decide) ?_
        refine XS.iinc X0.here hx rfl (hb hby d20_25) rfl (l' := #[.val (.ref qb), .val (.int 63), .val (.int 0), .val (.int 2), .val (.int 63), .val (.int 2)]) rfl ?_
        refine XS.goto X0.here hx rfl (pc0 := 28) (pc' := 7) rfl (hb hby d20_28) (by decide) (by decide) ?_
        refine XS.iload X0.here hx rfl (hb hby d20_7) rfl ?_
        refine XS.iloadN X0.here hx rfl (hb hby d20_9) rfl ?_
        refine XS.icmpYes X0.here hx rfl (pc0 := 10) (pc' := 31) rfl (hb hby d20_10) rfl (flt (by decide)).2.1 (by decide) (by decide) ?_
        show Steps p.tables e below (s₁.setTop (mkF m 31 #[.val (.ref qb), .val (.int 63), .val (.int 0), .val (.int 2), .val (.int 63), .val (.int 2)] [])) t
        refine XS.iconst X0.here hx rfl (hb hby d20_31) ?_
        show Steps p.tables e below (s₁.setTop (mkF m 32 #[.val (.ref qb), .val (.int 63), .val (.int 0), .val (.int 2), .val (.int 63), .val (.int 2)] [(.int (-1))])) t
        exact k)
      obtain ⟨fs, hr, hrun, hended, hW, hsame⟩ := X0.leave (v := some (.int (-1))) (fun h => by rw [Bd.returns] at h; cases h) (BodyLoose.notSynchronized Bd)
      refine ⟨_, _, own_from hE0 (P9 _ ?_), hrun, hended, _, _, rfl, ?_, ⟨_, rfl⟩, hW, hsame.mono (by decide) (by decide)⟩
      · show Steps p.tables e below (s₁.setTop (mkF m 32 #[.val (.ref qb), .val (.int 63), .val (.int 0), .val (.int 2), .val (.int 63), .val (.int 2)] [(.int (-1))])) _
        exact retI X0 hx Bd.returns (hb hby d20_32) hr
      · show Q20n2c63 Z qb kb y0 y1 h0 n0 _ s₁.heap _
        rw [e0]
        exact ⟨(congrArg (fun z => some (Value.int z)) (Eq.symm (Eq.trans (if_neg c3) (if_neg c7)))), N0, rfl⟩
theorem ef_12n2c63 (m : MethodId) (qb : Addr) : entryFrame m #[(.ref qb), (.int 63), (.int 0), (.int 2)] 4 = mkF m 0 #[.val (.ref qb), .val (.int 63), .val (.int 0), .val (.int 2)] [] := by first | (simp [entryFrame, mkF, argsToLocals, Value.category]; done) | rfl
def Q12n2c63 (Z : State) (qb : Addr) (kb : ClassId) (y0 : Int32) (y1 : Int32) (h0 : Heap) (n0 : Nat) (v : Option Value) (h : Heap) (L : List Loc) : Prop := v = some (.int (r20n2c63 y0 y1)) ∧ Fr n0 L ∧ h = h0
set_option maxRecDepth 65536 in
set_option maxHeartbeats 40000000 in
theorem rm12n2c63 (l : Launch) (Z : State) (a0 : Array Value) (hw : ∀ d ∈ tables_1, d.before a0 Z = true) (ws : List Jvm.Cond) (qb : Addr) (kb : ClassId) (y0 : Int32) (y1 : Int32) (h0 : Heap) (n0 : Nat) (Z0 : n0 ≤ h0.size) (A_qb : Arv Z h0 qb kb .byte (2 : Int32) [(.int y0), (.int y1)] (.int 0)) :
    MetFree l (⟨"java/lang/StringLatin1", "indexOf", "([BIII)I"⟩ : MethodName) (head1 (Jvm.Cond.code (⟨"java/lang/StringLatin1", "indexOf", "([BIII)I"⟩ : MethodName) jdk_43_method_22_code 4 (some .int) :: ws) ({ frames := 1, cells := 0, slots := 0, locals := 17 } : Room)) (fun a U => a = #[(.ref qb), (.int 63), (.int 0), (.int 2)] ∧ Z.Warmed39 U.vm ∧ U.heap = h0) (fun _ _ _ _ _ => True) (fun _ U o U' => ∃ v L, o = .returned v ∧ Q12n2c63 Z qb kb y0 y1 h0 n0 v U'.heap L ∧ FrameEnd U o U' L ({ frames := 1, cells := 0, slots := 0, locals := 17 } : Room).cells ({ frames := 1, cells := 0, slots := 0, locals := 17 } : Room).slots) := by
  refine MetFree.of_bodySF (plainFor_of_name pn_13) hisR ?_
  intro p e s m args below meth c s₁ Bd hml0 hP hK
  obtain ⟨rfl, hZ, hh⟩ := hP
  have hx := Bd.exec
  have hby := Bd.bytes
  have hml : c.maxLocals = 4 := hml0
  have hown : s.vm.findClass "java/lang/StringLatin1" = some m.cls := findClass_of_methodNamed Bd.named
  have hnm := (name_of_methodNamed Bd.named Bd.method).1
  have X0 : Stand p l e ({ frames := 1, cells := 0, slots := 0, locals := 17 } : Room) s m #[(.ref qb), (.int 63), (.int 0), (.int 2)] below meth c s₁ [] 0 0 := Stand.of_body Bd
  have e0 : s₁.heap = h0 := by rw [← hh, Bd.state]; rfl
  have N0 := Fr.nil n0
  obtain ⟨S0, hE0⟩ : ∃ z, z = s₁.setTop (entryFrame m #[(.ref qb), (.int 63), (.int 0), (.int 2)] 4) := ⟨_, rfl⟩
  have P0 : own_Go p e below S0 (s₁.setTop (mkF m 0 #[.val (.ref qb), .val (.int 63), .val (.int 0), .val (.int 2)] [])) := fun t k => by rw [hE0]; exact castTop (ef_12n2c63 m qb) k
  have P1 : own_Go p e below S0 (s₁.setTop (mkF m 1 #[.val (.ref qb), .val (.int 63), .val (.int 0), .val (.int 2)] [(.int 63)])) := fun t k => P0 t (by
    refine XS.iloadN X0.here hx rfl (hb hby d12_0) rfl ?_
    show Steps p.tables e below (s₁.setTop (mkF m 1 #[.val (.ref qb), .val (.int 63), .val (.int 0), .val (.int 2)] [(.int 63)])) t
    exact k)
  obtain ⟨_, _, ⟨T2, L2, k2, n2⟩, -, X2, ⟨Lc2, hQ2, l2, y2, z2⟩, st2⟩ := Jvm.LawKit.callS X0 hx (y := (⟨"java/lang/StringLatin1", "canEncode", "(I)Z"⟩ : MethodName)) hown (mvT hZ (own_w hw 73 rfl)) (mvT hZ (own_w hw 74 rfl)) (mvT hZ (own_w hw 71 rfl)) (mvT hZ (own_w hw 75 rfl)) (by decide) (backOf (W := 0) (rm13c63 l Z a0 hw []  h0 n0 Z0) hZ (own_w hw 75 rfl) (own_w hw 71 rfl) (by decide) (by decide)) (g := (mkF m 1 #[.val (.ref qb), .val (.int 63), .val (.int 0), .val (.int 2)] [(.int 63)])) rfl (by rw [hml]; rfl) (argsL := [(.int 63)]) (rest := []) (lenOf pd_6 rfl) rfl (by show 2 * 0 + _ ≤ _; exact Nat.le_of_eq rfl) (hb hby d12_1) (fun _ _ => ⟨rfl, e0, (by decide : 0 + 0 ≤ _), (by decide : 0 + 0 ≤ _)⟩)
  dsimp only [Pt.U, Pt.locs, Pt.cells, Pt.slots] at X2 l2 y2 z2 st2 hQ2
  subst l2 y2 z2
  obtain ⟨rfl, N2q, e2⟩ := hQ2
  have N2 := Fr.app N0 N2q
  have P2 : own_Go p e below S0 (T2.setTop (mkF m 4 #[.val (.ref qb), .val (.int 63), .val (.int 0), .val (.int 2)] [(.int 1)])) := fun t k => P1 t (st2 _ k)
  have P3 : own_Go p e below S0 (T2.setTop (mkF m 11 #[.val (.ref qb), .val (.int 63), .val (.int 0), .val (.int 2)] [(.int 0), (.int 0)])) := fun t k => P2 t (by
    refine XS.ifYes X2.here hx rfl (pc0 := 4) (pc' := 9) rfl (hb hby d12_4) rfl ((if0 _ _).trans (feq (by decide)).2) (by decide) (by decide) ?_
    refine XS.iloadN X2.here hx rfl (hb hby d12_9) rfl ?_
    refine XS.iconst X2.here hx rfl (hb hby d12_10) ?_
    show Steps p.tables e below (T2.setTop (mkF m 11 #[.val (.ref qb), .val (.int 63), .val (.int 0), .val (.int 2)] [(.int 0), (.int 0)])) t
    exact k)
  obtain ⟨_, _, ⟨T4, L4, k4, n4⟩, -, X4, ⟨Lc4, hQ4, l4, y4, z4⟩, st4⟩ := Jvm.LawKit.callS X2 hx (y := (⟨"java/lang/Math", "max", "(II)I"⟩ : MethodName)) hown (mvT hZ (own_w hw 76 rfl)) (mvT hZ (own_w hw 77 rfl)) (mvT hZ (own_w hw 78 rfl)) (mvT hZ (own_w hw 79 rfl)) (by decide) (backOf (W := 0) (rm14 l Z a0 hw []  h0 n0 Z0) hZ (own_w hw 79 rfl) (own_w hw 78 rfl) (by decide) (by decide)) (g := (mkF m 11 #[.val (.ref qb), .val (.int 63), .val (.int 0), .val (.int 2)] [(.int 0), (.int 0)])) rfl (by rw [hml]; rfl) (argsL := [(.int 0), (.int 0)]) (rest := []) (lenOf pd_7 rfl) rfl (by show 2 * 0 + _ ≤ _; exact Nat.le_of_eq rfl) (hb hby d12_11) (fun _ _ => ⟨rfl, e2, (by decide : 0 + 0 ≤ _), (by decide : 0 + 0 ≤ _)⟩)
  dsimp only [Pt.U, Pt.locs, Pt.cells, Pt.slots] at X4 l4 y4 z4 st4 hQ4
  subst l4 y4 z4
  obtain ⟨rfl, N4q, e4⟩ := hQ4
  have N4 := Fr.app N2 N4q
  have P4 : own_Go p e below S0 (T4.setTop (mkF m 14 #[.val (.ref qb), .val (.int 63), .val (.int 0), .val (.int 2)] [(.int 0)])) := fun t k => P3 t (st4 _ k)
  obtain ⟨cl5, Ar5, q5, Sz5, Nn5, Hh5, Gg5⟩ := id A_qb
  have P6 : own_Go p e below S0 (T4.setTop (mkF m 18 #[.val (.ref qb), .val (.int 63), .val (.int 0), .val (.int 2)] [(.int 2), (.int 2)])) := fun t k => P4 t (by
    refine XS.istoreN X4.here hx rfl (hb hby d12_14) rfl (l' := #[.val (.ref qb), .val (.int 63), .val (.int 0), .val (.int 2)]) rfl ?_
    refine XS.iloadN X4.here hx rfl (hb hby d12_15) rfl ?_
    refine XS.aloadN X4.here hx rfl (hb hby d12_16) rfl rfl ?_
    show Steps p.tables e below (T4.setTop (mkF m 17 #[.val (.ref qb), .val (.int 63), .val (.int 0), .val (.int 2)] [(.ref qb), (.int 2)])) t
    refine X4.arraylength hx (by rw [e4]; exact Ar5.1) (State.isArrayOf_alike hZ.alike Ar5.2.1) (g := (mkF m 17 #[.val (.ref qb), .val (.int 63), .val (.int 0), .val (.int 2)] [(.ref qb), (.int 2)])) rfl rfl (hb hby d12_17) _ ?_
    rw [len_of Sz5 Nn5]
    show Steps p.tables e below (T4.setTop (mkF m 18 #[.val (.ref qb), .val (.int 63), .val (.int 0), .val (.int 2)] [(.int 2), (.int 2)])) t
    exact k)
  obtain ⟨_, _, ⟨T7, L7, k7, n7⟩, -, X7, ⟨Lc7, hQ7, l7, y7, z7⟩, st7⟩ := Jvm.LawKit.callS X4 hx (y := (⟨"java/lang/Math", "min", "(II)I"⟩ : MethodName)) hown (mvT hZ (own_w hw 80 rfl)) (mvT hZ (own_w hw 81 rfl)) (mvT hZ (own_w hw 78 rfl)) (mvT hZ (own_w hw 82 rfl)) (by decide) (backOf (W := 0) (rm15n2 l Z a0 hw []  h0 n0 Z0) hZ (own_w hw 82 rfl) (own_w hw 78 rfl) (by decide) (by decide)) (g := (mkF m 18 #[.val (.ref qb), .val (.int 63), .val (.int 0), .val (.int 2)] [(.int 2), (.int 2)])) rfl (by rw [hml]; rfl) (argsL := [(.int 2), (.int 2)]) (rest := []) (lenOf pd_7 rfl) rfl (by show 2 * 0 + _ ≤ _; exact Nat.le_of_eq rfl) (hb hby d12_18) (fun _ _ => ⟨rfl, e4, (by decide : 0 + 0 ≤ _), (by decide : 0 + 0 ≤ _)⟩)
  dsimp only [Pt.U, Pt.locs, Pt.cells, Pt.slots] at X7 l7 y7 z7 st7 hQ7
  subst l7 y7 z7
  obtain ⟨rfl, N7q, e7⟩ := hQ7
  have N7 := Fr.app N4 N7q
  have P7 : own_Go p e below S0 (T7.setTop (mkF m 21 #[.val (.ref qb), .val (.int 63), .val (.int 0), .val (.int 2)] [(.int 2)])) := fun t k => P6 t (st7 _ k)
  have P8 : own_Go p e below S0 (T7.setTop (mkF m 33 #[.val (.ref qb), .val (.int 63), .val (.int 0), .val (.int 2)] [(.int 2), (.int 0), (.int 63), (.ref qb)])) := fun t k => P7 t (by
    refine XS.istoreN X7.here hx rfl (hb hby d12_21) rfl (l' := #[.val (.ref qb), .val (.int 63), .val (.int 0), .val (.int 2)]) rfl ?_
    refine XS.iloadN X7.here hx rfl (hb hby d12_22) rfl ?_
    refine XS.iloadN X7.here hx rfl (hb hby d12_23) rfl ?_
    refine XS.icmpYes X7.here hx rfl (pc0 := 24) (pc' := 29) rfl (hb hby d12_24) rfl (tlt (by decide)).1 (by decide) (by decide) ?_
    refine XS.aloadN X7.here hx rfl (hb hby d12_29) rfl rfl ?_
    refine XS.iloadN X7.here hx rfl (hb hby d12_30) rfl ?_
    show Steps p.tables e below (T7.setTop (mkF m 31 #[.val (.ref qb), .val (.int 63), .val (.int 0), .val (.int 2)] [(.int 63), (.ref qb)])) t
    refine XS.iloadN X7.here hx rfl (hb hby d12_31) rfl ?_
    refine XS.iloadN X7.here hx rfl (hb hby d12_32) rfl ?_
    show Steps p.tables e below (T7.setTop (mkF m 33 #[.val (.ref qb), .val (.int 63), .val (.int 0), .val (.int 2)] [(.int 2), (.int 0), (.int 63), (.ref qb)])) t
    exact k)
  obtain ⟨_, _, ⟨T9, L9, k9, n9⟩, -, X9, ⟨Lc9, hQ9, l9, y9, z9⟩, st9⟩ := Jvm.LawKit.callS X7 hx (y := (⟨"java/lang/StringLatin1", "indexOfChar", "([BIII)I"⟩ : MethodName)) hown (mvT hZ (own_w hw 97 rfl)) (mvT hZ (own_w hw 98 rfl)) (mvT hZ (own_w hw 71 rfl)) (mvT hZ (own_w hw 99 rfl)) (by decide) (backOf (W := 0) (rm20n2c63 l Z a0 hw [] qb kb y0 y1 h0 n0 Z0 A_qb) hZ (own_w hw 99 rfl) (own_w hw 71 rfl) (by decide) (by decide)) (g := (mkF m 33 #[.val (.ref qb), .val (.int 63), .val (.int 0), .val (.int 2)] [(.int 2), (.int 0), (.int 63), (.ref qb)])) rfl (by rw [hml]; rfl) (argsL := [(.ref qb), (.int 63), (.int 0), (.int 2)]) (rest := []) (lenOf pd_10 rfl) rfl (by show 2 * 0 + _ ≤ _; exact Nat.le_of_eq rfl) (hb hby d12_33) (fun _ _ => ⟨rfl, e7, (by decide : 0 + 0 ≤ _), (by decide : 0 + 0 ≤ _)⟩)
  dsimp only [Pt.U, Pt.locs, Pt.cells, Pt.slots] at X9 l9 y9 z9 st9 hQ9
  subst l9 y9 z9
  obtain ⟨rfl, N9q, e9⟩ := hQ9
  have N9 := Fr.app N7 N9q
  have P9 : own_Go p e below S0 (T9.setTop (mkF m 36 #[.val (.ref qb), .val (.int 63), .val (.int 0), .val (.int 2)] [(.int (r20n2c63 y0 y1))])) := fun t k => P8 t (st9 _ k)
  obtain ⟨fs, hr, hrun, hended, hW, hsame⟩ := X9.leave (v := some (.int (r20n2c63 y0 y1))) (fun h => by rw [Bd.returns] at h; cases h) (BodyLoose.notSynchronized Bd)
  refine ⟨_, _, own_from hE0 (P9 _ ?_), hrun, hended, _, _, rfl, ?_, ⟨_, rfl⟩, hW, hsame.mono (by decide) (by decide)⟩
  · show Steps p.tables e below (T9.setTop (mkF m 36 #[.val (.ref qb), .val (.int 63), .val (.int 0), .val (.int 2)] [(.int (r20n2c63 y0 y1))])) _
    exact retI X9 hx Bd.returns (hb hby d12_36) hr
  · show Q12n2c63 Z qb kb y0 y1 h0 n0 _ T9.heap _
    rw [e9]
    exact ⟨rfl, N9, rfl⟩
theorem ef_8n2c63 (m : MethodId) (q8n2c63_0 : Addr) : entryFrame m #[(.ref q8n2c63_0), (.int 63), (.int 0)] 3 = mkF m 0 #[.val (.ref q8n2c63_0), .val (.int 63), .val (.int 0)] [] := by first | (simp [entryFrame, mkF, argsToLocals, Value.category]; done) | rfl
def Q8n2c63 (Z : State) (q8n2c63_0 : Addr) (qb : Addr) (kb : ClassId) (y0 : Int32) (y1 : Int32) (zc : Int32) (h0 : Heap) (n0 : Nat) (v : Option Value) (h : Heap) (L : List Loc) : Prop := v = some (.int (r20n2c63 y0 y1)) ∧ Fr n0 L ∧ h = h0
set_option maxRecDepth 65536 in
set_option maxHeartbeats 40000000 in
theorem rm8n2c63 (l : Launch) (Z : State) (a0 : Array Value) (hw : ∀ d ∈ tables_1, d.before a0 Z = true) (ws : List Jvm.Cond) (q8n2c63_0 : Addr) (qb : Addr) (kb : ClassId) (y0 : Int32) (y1 : Int32) (zc : Int32) (h0 : Heap) (n0 : Nat) (Z0 : n0 ≤ h0.size) (F_q8n2c63_0_value : Fld Z h0 q8n2c63_0 "java/lang/String" "value" "[B" (.ref qb)) (A_qb : Arv Z h0 qb kb .byte (2 : Int32) [(.int y0), (.int y1)] (.int 0)) (S_COMPACT_STRINGS : Sta Z h0 "java/lang/String" "COMPACT_STRINGS" "Z" (.int zc)) (hcs : ¬ (zc = (0 : Int32))) (F_q8n2c63_0_coder : Fld Z h0 q8n2c63_0 "java/lang/String" "coder" "B" (.int 0)) (E_q8n2c63_0 : Exa Z h0 q8n2c63_0 "java/lang/String") :
    MetFree l (⟨"java/lang/String", "indexOf", "(II)I"⟩ : MethodName) (head1 (Jvm.Cond.code (⟨"java/lang/String", "indexOf", "(II)I"⟩ : MethodName) jdk_42_method_80_code 3 (some .int) :: ws) ({ frames := 2, cells := 0, slots := 0, locals := 32 } : Room)) (fun a U => a = #[(.ref q8n2c63_0), (.int 63), (.int 0)] ∧ Z.Warmed39 U.vm ∧ U.heap = h0) (fun _ _ _ _ _ => True) (fun _ U o U' => ∃ v L, o = .returned v ∧ Q8n2c63 Z q8n2c63_0 qb kb y0 y1 zc h0 n0 v U'.heap L ∧ FrameEnd U o U' L ({ frames := 2, cells := 0, slots := 0, locals := 32 } : Room).cells ({ frames := 2, cells := 0, slots := 0, locals := 32 } : Room).slots) := by
  refine MetFree.of_bodySF (plainFor_of_name pn_2) hisR ?_
  intro p e s m args below meth c s₁ Bd hml0 hP hK
  obtain ⟨rfl, hZ, hh⟩ := hP
  have hx := Bd.exec
  have hby := Bd.bytes
  have hml : c.maxLocals = 3 := hml0
  have hown : s.vm.findClass "java/lang/String" = some m.cls := findClass_of_methodNamed Bd.named
  have hnm := (name_of_methodNamed Bd.named Bd.method).1
  have X0 : Stand p l e ({ frames := 2, cells := 0, slots := 0, locals := 32 } : Room) s m #[(.ref q8n2c63_0), (.int 63), (.int 0)] below meth c s₁ [] 0 0 := Stand.of_body Bd
  have e0 : s₁.heap = h0 := by rw [← hh, Bd.state]; rfl
  have N0 := Fr.nil n0
  obtain ⟨S0, hE0⟩ : ∃ z, z = s₁.setTop (entryFrame m #[(.ref q8n2c63_0), (.int 63), (.int 0)] 3) := ⟨_, rfl⟩
  have P0 : own_Go p e below S0 (s₁.setTop (mkF m 0 #[.val (.ref q8n2c63_0), .val (.int 63), .val (.int 0)] [])) := fun t k => by rw [hE0]; exact castTop (ef_8n2c63 m q8n2c63_0) k
  have P1 : own_Go p e below S0 (s₁.setTop (mkF m 1 #[.val (.ref q8n2c63_0), .val (.int 63), .val (.int 0)] [(.ref q8n2c63_0)])) := fun t k => P0 t (by
    refine XS.aloadN X0.here hx rfl (hb hby d8_0) rfl rfl ?_
    show Steps p.tables e below (s₁.setTop (mkF m 1 #[.val (.ref q8n2c63_0), .val (.int 63), .val (.int 0)] [(.ref q8n2c63_0)])) t
    exact k)
  obtain ⟨cq2, kq2, q2a, q2b, q2c⟩ := isOf hZ e0 E_q8n2c63_0
  obtain ⟨_, _, ⟨T2, L2, k2, n2⟩, -, X2, ⟨Lc2, hQ2, l2, y2, z2⟩, st2⟩ := X0.virtualBack hx (y := (⟨"java/lang/String", "isLatin1", "()Z"⟩ : MethodName)) (z := (⟨"java/lang/String", "isLatin1", "()Z"⟩ : MethodName)) hown (mvT hZ (own_w hw 53 rfl)) (mvT hZ (own_w hw 54 rfl)) (notFace_of_selects (args := #[]) (mvT hZ (own_w hw 56 rfl))) (mvT hZ (own_w hw 56 rfl)) (mvT hZ (own_w hw 55 rfl)) (by decide) (backOf (W := 0) (rm9 l Z a0 hw [] q8n2c63_0 zc h0 n0 Z0 S_COMPACT_STRINGS hcs F_q8n2c63_0_coder) hZ (own_w hw 57 rfl) (own_w hw 7 rfl) (by decide) (by decide)) q2a q2c (g := (mkF m 1 #[.val (.ref q8n2c63_0), .val (.int 63), .val (.int 0)] [(.ref q8n2c63_0)])) rfl (by rw [hml]; rfl) (Steps.refl _) (argsL := []) (rest := []) (lenOf pd_8 rfl) rfl (by show 2 * 0 + _ ≤ _; exact Nat.le_of_eq rfl) (hb hby d8_1) (fun _ _ => ⟨rfl, e0, (by decide : 0 + 0 ≤ _), (by decide : 0 + 0 ≤ _)⟩)
  dsimp only [Pt.U, Pt.locs, Pt.cells, Pt.slots] at X2 l2 y2 z2 st2 hQ2
  subst l2 y2 z2
  obtain ⟨rfl, N2q, e2⟩ := hQ2
  have N2 := Fr.app N0 N2q
  have P2 : own_Go p e below S0 (T2.setTop (mkF m 4 #[.val (.ref q8n2c63_0), .val (.int 63), .val (.int 0)] [(.int 1)])) := fun t k => P1 t (st2.trans k)
  have P3 : own_Go p e below S0 (T2.setTop (mkF m 8 #[.val (.ref q8n2c63_0), .val (.int 63), .val (.int 0)] [(.ref q8n2c63_0)])) := fun t k => P2 t (by
    refine XS.ifNo X2.here hx rfl (hb hby d8_4) rfl ((if0 _ _).trans (feq (by decide)).1) ?_
    refine XS.aloadN X2.here hx rfl (hb hby d8_7) rfl rfl ?_
    show Steps p.tables e below (T2.setTop (mkF m 8 #[.val (.ref q8n2c63_0), .val (.int 63), .val (.int 0)] [(.ref q8n2c63_0)])) t
    exact k)
  obtain ⟨T4, X4, e4, st4⟩ := getF X2 hx hZ hown (host := "") (Or.inl (own_w hw 24 rfl)) Via.refl e2 F_q8n2c63_0_value (g := (mkF m 8 #[.val (.ref q8n2c63_0), .val (.int 63), .val (.int 0)] [(.ref q8n2c63_0)])) rfl rfl (hb hby d8_8)
  have P4 : own_Go p e below S0 (T4.setTop (mkF m 11 #[.val (.ref q8n2c63_0), .val (.int 63), .val (.int 0)] [(.ref qb)])) := fun t k => P3 t (st4 _ k)
  have P5 : own_Go p e below S0 (T4.setTop (mkF m 14 #[.val (.ref q8n2c63_0), .val (.int 63), .val (.int 0)] [(.ref q8n2c63_0), (.int 0), (.int 63), (.ref qb)])) := fun t k => P4 t (by
    refine XS.iloadN X4.here hx rfl (hb hby d8_11) rfl ?_
    refine XS.iloadN X4.here hx rfl (hb hby d8_12) rfl ?_
    refine XS.aloadN X4.here hx rfl (hb hby d8_13) rfl rfl ?_
    show Steps p.tables e below (T4.setTop (mkF m 14 #[.val (.ref q8n2c63_0), .val (.int 63), .val (.int 0)] [(.ref q8n2c63_0), (.int 0), (.int 63), (.ref qb)])) t
    exact k)
  obtain ⟨cq6, kq6, q6a, q6b, q6c⟩ := isOf hZ e4 E_q8n2c63_0
  obtain ⟨_, _, ⟨T6, L6, k6, n6⟩, -, X6, ⟨Lc6, hQ6, l6, y6, z6⟩, st6⟩ := X4.virtualBack hx (y := (⟨"java/lang/String", "length", "()I"⟩ : MethodName)) (z := (⟨"java/lang/String", "length", "()I"⟩ : MethodName)) hown (mvT hZ (own_w hw 59 rfl)) (mvT hZ (own_w hw 60 rfl)) (notFace_of_selects (args := #[]) (mvT hZ (own_w hw 62 rfl))) (mvT hZ (own_w hw 62 rfl)) (mvT hZ (own_w hw 61 rfl)) (by decide) (backOf (W := 3) (rm10n2 l Z a0 hw [] q8n2c63_0 qb kb y0 y1 zc h0 n0 Z0 F_q8n2c63_0_value A_qb S_COMPACT_STRINGS hcs F_q8n2c63_0_coder E_q8n2c63_0) hZ (own_w hw 63 rfl) (own_w hw 7 rfl) (by decide) (by decide)) q6a q6c (g := (mkF m 14 #[.val (.ref q8n2c63_0), .val (.int 63), .val (.int 0)] [(.ref q8n2c63_0), (.int 0), (.int 63), (.ref qb)])) rfl (by rw [hml]; rfl) (Steps.refl _) (argsL := []) (rest := [(.int 0), (.int 63), (.ref qb)]) (lenOf pd_9 rfl) rfl (by show 2 * 0 + _ ≤ _; exact Nat.le_of_eq rfl) (hb hby d8_14) (fun _ _ => ⟨rfl, e4, (by decide : 0 + 0 ≤ _), (by decide : 0 + 0 ≤ _)⟩)
  dsimp only [Pt.U, Pt.locs, Pt.cells, Pt.slots] at X6 l6 y6 z6 st6 hQ6
  subst l6 y6 z6
  obtain ⟨rfl, N6q, e6⟩ := hQ6
  have N6 := Fr.app N2 N6q
  have P6 : own_Go p e below S0 (T6.setTop (mkF m 17 #[.val (.ref q8n2c63_0), .val (.int 63), .val (.int 0)] [(.int 2), (.int 0), (.int 63), (.ref qb)])) := fun t k => P5 t (st6.trans k)
  obtain ⟨_, _, ⟨T7, L7, k7, n7⟩, -, X7, ⟨Lc7, hQ7, l7, y7, z7⟩, st7⟩ := Jvm.LawKit.callS X6 hx (y := (⟨"java/lang/StringLatin1", "indexOf", "([BIII)I"⟩ : MethodName)) hown (mvT hZ (own_w hw 69 rfl)) (mvT hZ (own_w hw 70 rfl)) (mvT hZ (own_w hw 71 rfl)) (mvT hZ (own_w hw 72 rfl)) (by decide) (backOf (W := 0) (rm12n2c63 l Z a0 hw [] qb kb y0 y1 h0 n0 Z0 A_qb) hZ (own_w hw 72 rfl) (own_w hw 71 rfl) (by decide) (by decide)) (g := (mkF m 17 #[.val (.ref q8n2c63_0), .val (.int 63), .val (.int 0)] [(.int 2), (.int 0), (.int 63), (.ref qb)])) rfl (by rw [hml]; rfl) (argsL := [(.ref qb), (.int 63), (.int 0), (.int 2)]) (rest := []) (lenOf pd_10 rfl) rfl (by show 2 * 0 + _ ≤ _; exact Nat.le_of_eq rfl) (hb hby d8_17) (fun _ _ => ⟨rfl, e6, (by decide : 0 + 0 ≤ _), (by decide : 0 + 0 ≤ _)⟩)
  dsimp only [Pt.U, Pt.locs, Pt.cells, Pt.slots] at X7 l7 y7 z7 st7 hQ7
  subst l7 y7 z7
  obtain ⟨rfl, N7q, e7⟩ := hQ7
  have N7 := Fr.app N6 N7q
  have P7 : own_Go p e below S0 (T7.setTop (mkF m 20 #[.val (.ref q8n2c63_0), .val (.int 63), .val (.int 0)] [(.int (r20n2c63 y0 y1))])) := fun t k => P6 t (st7 _ k)
  have P8 : own_Go p e below S0 (T7.setTop (mkF m 36 #[.val (.ref q8n2c63_0), .val (.int 63), .val (.int 0)] [(.int (r20n2c63 y0 y1))])) := fun t k => P7 t (by
    refine XS.goto X7.here hx rfl (pc0 := 20) (pc' := 36) rfl (hb hby d8_20) (by decide) (by decide) ?_
    show Steps p.tables e below (T7.setTop (mkF m 36 #[.val (.ref q8n2c63_0), .val (.int 63), .val (.int 0)] [(.int (r20n2c63 y0 y1))])) t
    exact k)
  obtain ⟨fs, hr, hrun, hended, hW, hsame⟩ := X7.leave (v := some (.int (r20n2c63 y0 y1))) (fun h => by rw [Bd.returns] at h; cases h) (BodyLoose.notSynchronized Bd)
  refine ⟨_, _, own_from hE0 (P8 _ ?_), hrun, hended, _, _, rfl, ?_, ⟨_, rfl⟩, hW, hsame.mono (by decide) (by decide)⟩
  · show Steps p.tables e below (T7.setTop (mkF m 36 #[.val (.ref q8n2c63_0), .val (.int 63), .val (.int 0)] [(.int (r20n2c63 y0 y1))])) _
    exact retI X7 hx Bd.returns (hb hby d8_36) hr
  · show Q8n2c63 Z q8n2c63_0 qb kb y0 y1 zc h0 n0 _ T7.heap _
    rw [e7]
    exact ⟨rfl, N7, rfl⟩
theorem ef_7n2c63 (m : MethodId) (q7n2c63_0 : Addr) : entryFrame m #[(.ref q7n2c63_0), (.int 63)] 2 = mkF m 0 #[.val (.ref q7n2c63_0), .val (.int 63)] [] := by first | (simp [entryFrame, mkF, argsToLocals, Value.category]; done) | rfl
def Q7n2c63 (Z : State) (q7n2c63_0 : Addr) (qb : Addr) (kb : ClassId) (y0 : Int32) (y1 : Int32) (zc : Int32) (h0 : Heap) (n0 : Nat) (v : Option Value) (h : Heap) (L : List Loc) : Prop := v = some (.int (r20n2c63 y0 y1)) ∧ Fr n0 L ∧ h = h0
set_option maxRecDepth 65536 in
set_option maxHeartbeats 40000000 in
theorem rm7n2c63 (l : Launch) (Z : State) (a0 : Array Value) (hw : ∀ d ∈ tables_1, d.before a0 Z = true) (ws : List Jvm.Cond) (q7n2c63_0 : Addr) (qb : Addr) (kb : ClassId) (y0 : Int32) (y1 : Int32) (zc : Int32) (h0 : Heap) (n0 : Nat) (Z0 : n0 ≤ h0.size) (F_q7n2c63_0_value : Fld Z h0 q7n2c63_0 "java/lang/String" "value" "[B" (.ref qb)) (A_qb : Arv Z h0 qb kb .byte (2 : Int32) [(.int y0), (.int y1)] (.int 0)) (S_COMPACT_STRINGS : Sta Z h0 "java/lang/String" "COMPACT_STRINGS" "Z" (.int zc)) (hcs : ¬ (zc = (0 : Int32))) (F_q7n2c63_0_coder : Fld Z h0 q7n2c63_0 "java/lang/String" "coder" "B" (.int 0)) (E_q7n2c63_0 : Exa Z h0 q7n2c63_0 "java/lang/String") :
    MetFree l (⟨"java/lang/String", "indexOf", "(I)I"⟩ : MethodName) (head1 (Jvm.Cond.code (⟨"java/lang/String", "indexOf", "(I)I"⟩ : MethodName) jdk_42_method_79_code 2 (some .int) :: ws) ({ frames := 3, cells := 0, slots := 0, locals := 46 } : Room)) (fun a U => a = #[(.ref q7n2c63_0), (.int 63)] ∧ Z.Warmed39 U.vm ∧ U.heap = h0) (fun _ _ _ _ _ => True) (fun _ U o U' => ∃ v L, o = .returned v ∧ Q7n2c63 Z q7n2c63_0 qb kb y0 y1 zc h0 n0 v U'.heap L ∧ FrameEnd U o U' L ({ frames := 3, cells := 0, slots := 0, locals := 46 } : Room).cells ({ frames := 3, cells := 0, slots := 0, locals := 46 } : Room).slots) := by
  refine MetFree.of_bodySF (plainFor_of_name pn_2) hisR ?_
  intro p e s m args below meth c s₁ Bd hml0 hP hK
  obtain ⟨rfl, hZ, hh⟩ := hP
  have hx := Bd.exec
  have hby := Bd.bytes
  have hml : c.maxLocals = 2 := hml0
  have hown : s.vm.findClass "java/lang/String" = some m.cls := findClass_of_methodNamed Bd.named
  have hnm := (name_of_methodNamed Bd.named Bd.method).1
  have X0 : Stand p l e ({ frames := 3, cells := 0, slots := 0, locals := 46 } : Room) s m #[(.ref q7n2c63_0), (.int 63)] below meth c s₁ [] 0 0 := Stand.of_body Bd
  have e0 : s₁.heap = h0 := by rw [← hh, Bd.state]; rfl
  have N0 := Fr.nil n0
  obtain ⟨S0, hE0⟩ : ∃ z, z = s₁.setTop (entryFrame m #[(.ref q7n2c63_0), (.int 63)] 2) := ⟨_, rfl⟩
  have P0 : own_Go p e below S0 (s₁.setTop (mkF m 0 #[.val (.ref q7n2c63_0), .val (.int 63)] [])) := fun t k => by rw [hE0]; exact castTop (ef_7n2c63 m q7n2c63_0) k
  have P1 : own_Go p e below S0 (s₁.setTop (mkF m 3 #[.val (.ref q7n2c63_0), .val (.int 63)] [(.int 0), (.int 63), (.ref q7n2c63_0)])) := fun t k => P0 t (by
    refine XS.aloadN X0.here hx rfl (hb hby d7_0) rfl rfl ?_
    refine XS.iloadN X0.here hx rfl (hb hby d7_1) rfl ?_
    refine XS.iconst X0.here hx rfl (hb hby d7_2) ?_
    show Steps p.tables e below (s₁.setTop (mkF m 3 #[.val (.ref q7n2c63_0), .val (.int 63)] [(.int 0), (.int 63), (.ref q7n2c63_0)])) t
    exact k)
  obtain ⟨cq2, kq2, q2a, q2b, q2c⟩ := isOf hZ e0 E_q7n2c63_0
  obtain ⟨_, _, ⟨T2, L2, k2, n2⟩, -, X2, ⟨Lc2, hQ2, l2, y2, z2⟩, st2⟩ := X0.virtualBack hx (y := (⟨"java/lang/String", "indexOf", "(II)I"⟩ : MethodName)) (z := (⟨"java/lang/String", "indexOf", "(II)I"⟩ : MethodName)) hown (mvT hZ (own_w hw 48 rfl)) (mvT hZ (own_w hw 49 rfl)) (notFace_of_selects (args := #[]) (mvT hZ (own_w hw 51 rfl))) (mvT hZ (own_w hw 51 rfl)) (mvT hZ (own_w hw 50 rfl)) (by decide) (backOf (W := 0) (rm8n2c63 l Z a0 hw [] q7n2c63_0 qb kb y0 y1 zc h0 n0 Z0 F_q7n2c63_0_value A_qb S_COMPACT_STRINGS hcs F_q7n2c63_0_coder E_q7n2c63_0) hZ (own_w hw 52 rfl) (own_w hw 7 rfl) (by decide) (by decide)) q2a q2c (g := (mkF m 3 #[.val (.ref q7n2c63_0), .val (.int 63)] [(.int 0), (.int 63), (.ref q7n2c63_0)])) rfl (by rw [hml]; rfl) (Steps.refl _) (argsL := [(.int 63), (.int 0)]) (rest := []) (lenOf pd_7 rfl) rfl (by show 2 * 0 + _ ≤ _; exact Nat.le_of_eq rfl) (hb hby d7_3) (fun _ _ => ⟨rfl, e0, (by decide : 0 + 0 ≤ _), (by decide : 0 + 0 ≤ _)⟩)
  dsimp only [Pt.U, Pt.locs, Pt.cells, Pt.slots] at X2 l2 y2 z2 st2 hQ2
  subst l2 y2 z2
  obtain ⟨rfl, N2q, e2⟩ := hQ2
  have N2 := Fr.app N0 N2q
  have P2 : own_Go p e below S0 (T2.setTop (mkF m 6 #[.val (.ref q7n2c63_0), .val (.int 63)] [(.int (r20n2c63 y0 y1))])) := fun t k => P1 t (st2.trans k)
  obtain ⟨fs, hr, hrun, hended, hW, hsame⟩ := X2.leave (v := some (.int (r20n2c63 y0 y1))) (fun h => by rw [Bd.returns] at h; cases h) (BodyLoose.notSynchronized Bd)
  refine ⟨_, _, own_from hE0 (P2 _ ?_), hrun, hended, _, _, rfl, ?_, ⟨_, rfl⟩, hW, hsame.mono (by decide) (by decide)⟩
  · show Steps p.tables e below (T2.setTop (mkF m 6 #[.val (.ref q7n2c63_0), .val (.int 63)] [(.int (r20n2c63 y0 y1))])) _
    exact retI X2 hx Bd.returns (hb hby d7_6) hr
  · show Q7n2c63 Z q7n2c63_0 qb kb y0 y1 zc h0 n0 _ T2.heap _
    rw [e2]
    exact ⟨rfl, N2, rfl⟩
theorem ef_6n2 (m : MethodId) (q6n2_0 : Addr) : entryFrame m #[(.ref q6n2_0)] 1 = mkF m 0 #[.val (.ref q6n2_0)] [] := by first | (simp [entryFrame, mkF, argsToLocals, Value.category]; done) | rfl
def r6n2 (y0 : Int32) (y1 : Int32) : Int32 := (if (r20n2c42 y0 y1) < (0 : Int32) then (if (r20n2c63 y0 y1) < (0 : Int32) then (1 : Int32) else (0 : Int32)) else (0 : Int32))
def Q6n2 (Z : State) (q6n2_0 : Addr) (qs : Addr) (qb : Addr) (kb : ClassId) (y0 : Int32) (y1 : Int32) (zc : Int32) (h0 : Heap) (n0 : Nat) (v : Option Value) (h : Heap) (L : List Loc) : Prop := v = some (.int (r6n2 y0 y1)) ∧ Fr n0 L ∧ h = h0
set_option maxRecDepth 65536 in
set_option maxHeartbeats 40000000 in
theorem rm6n2 (l : Launch) (Z : State) (a0 : Array Value) (hw : ∀ d ∈ tables_1, d.before a0 Z = true) (ws : List Jvm.Cond) (q6n2_0 : Addr) (qs : Addr) (qb : Addr) (kb : ClassId) (y0 : Int32) (y1 : Int32) (zc : Int32) (h0 : Heap) (n0 : Nat) (Z0 : n0 ≤ h0.size) (F_q6n2_0_pattern : Fld Z h0 q6n2_0 "com/example/strict_acl/strictacl/NamePattern" "pattern" "Ljava/lang/String;" (.ref qs)) (F_qs_value : Fld Z h0 qs "java/lang/String" "value" "[B" (.ref qb)) (A_qb : Arv Z h0 qb kb .byte (2 : Int32) [(.int y0), (.int y1)] (.int 0)) (S_COMPACT_STRINGS : Sta Z h0 "java/lang/String" "COMPACT_STRINGS" "Z" (.int zc)) (hcs : ¬ (zc = (0 : Int32))) (F_qs_coder : Fld Z h0 qs "java/lang/String" "coder" "B" (.int 0)) (E_qs : Exa Z h0 qs "java/lang/String") :
    MetFree l (⟨"com/example/strict_acl/strictacl/NamePattern", "isLiteral", "()Z"⟩ : MethodName) (head1 (Jvm.Cond.code (⟨"com/example/strict_acl/strictacl/NamePattern", "isLiteral", "()Z"⟩ : MethodName) prog_25_method_4_code 1 (some .boolean) :: ws) ({ frames := 4, cells := 0, slots := 0, locals := 59 } : Room)) (fun a U => a = #[(.ref q6n2_0)] ∧ Z.Warmed39 U.vm ∧ U.heap = h0) (fun _ _ _ _ _ => True) (fun _ U o U' => ∃ v L, o = .returned v ∧ Q6n2 Z q6n2_0 qs qb kb y0 y1 zc h0 n0 v U'.heap L ∧ FrameEnd U o U' L ({ frames := 4, cells := 0, slots := 0, locals := 59 } : Room).cells ({ frames := 4, cells := 0, slots := 0, locals := 59 } : Room).slots) := by
  refine MetFree.of_bodySF (plainFor_of_name pn_4) hisR ?_
  intro p e s m args below meth c s₁ Bd hml0 hP hK
  obtain ⟨rfl, hZ, hh⟩ := hP
  have hx := Bd.exec
  have hby := Bd.bytes
  have hml : c.maxLocals = 1 := hml0
  have hown : s.vm.findClass "com/example/strict_acl/strictacl/NamePattern" = some m.cls := findClass_of_methodNamed Bd.named
  have hnm := (name_of_methodNamed Bd.named Bd.method).1
  have X0 : Stand p l e ({ frames := 4, cells := 0, slots := 0, locals := 59 } : Room) s m #[(.ref q6n2_0)] below meth c s₁ [] 0 0 := Stand.of_body Bd
  have e0 : s₁.heap = h0 := by rw [← hh, Bd.state]; rfl
  have N0 := Fr.nil n0
  obtain ⟨S0, hE0⟩ : ∃ z, z = s₁.setTop (entryFrame m #[(.ref q6n2_0)] 1) := ⟨_, rfl⟩
  have P0 : own_Go p e below S0 (s₁.setTop (mkF m 0 #[.val (.ref q6n2_0)] [])) := fun t k => by rw [hE0]; exact castTop (ef_6n2 m q6n2_0) k
  have P1 : own_Go p e below S0 (s₁.setTop (mkF m 1 #[.val (.ref q6n2_0)] [(.ref q6n2_0)])) := fun t k => P0 t (by
    refine XS.aloadN X0.here hx rfl (hb hby d6_0) rfl rfl ?_
    show Steps p.tables e below (s₁.setTop (mkF m 1 #[.val (.ref q6n2_0)] [(.ref q6n2_0)])) t
    exact k)
  obtain ⟨T2, X2, e2, st2⟩ := getF X0 hx hZ hown (host := "") (Or.inl (own_w hw 36 rfl)) Via.refl e0 F_q6n2_0_pattern (g := (mkF m 1 #[.val (.ref q6n2_0)] [(.ref q6n2_0)])) rfl rfl (hb hby d6_1)
  have P2 : own_Go p e below S0 (T2.setTop (mkF m 4 #[.val (.ref q6n2_0)] [(.ref qs)])) := fun t k => P1 t (st2 _ k)
  have P3 : own_Go p e below S0 (T2.setTop (mkF m 6 #[.val (.ref q6n2_0)] [(.int 42), (.ref qs)])) := fun t k => P2 t (by
    refine XS.bipush X2.here hx rfl (hb hby d6_4) ?_
    show Steps p.tables e below (T2.setTop (mkF m 6 #[.val (.ref q6n2_0)] [(.int 42), (.ref qs)])) t
    exact k)
  obtain ⟨cq4, kq4, q4a, q4b, q4c⟩ := isOf hZ e2 E_qs
  obtain ⟨_, _, ⟨T4, L4, k4, n4⟩, -, X4, ⟨Lc4, hQ4, l4, y4, z4⟩, st4⟩ := X2.virtualBack hx (y := (⟨"java/lang/String", "indexOf", "(I)I"⟩ : MethodName)) (z := (⟨"java/lang/String", "indexOf", "(I)I"⟩ : MethodName)) hown (mvT hZ (own_w hw 43 rfl)) (mvT hZ (own_w hw 44 rfl)) (notFace_of_selects (args := #[]) (mvT hZ (own_w hw 46 rfl))) (mvT hZ (own_w hw 46 rfl)) (mvT hZ (own_w hw 45 rfl)) (by decide) (backOf (W := 0) (rm7n2c42 l Z a0 hw [] qs qb kb y0 y1 zc h0 n0 Z0 F_qs_value A_qb S_COMPACT_STRINGS hcs F_qs_coder E_qs) hZ (own_w hw 47 rfl) (own_w hw 7 rfl) (by decide) (by decide)) q4a q4c (g := (mkF m 6 #[.val (.ref q6n2_0)] [(.int 42), (.ref qs)])) rfl (by rw [hml]; rfl) (Steps.refl _) (argsL := [(.int 42)]) (rest := []) (lenOf pd_11 rfl) rfl (by show 2 * 0 + _ ≤ _; exact Nat.le_of_eq rfl) (hb hby d6_6) (fun _ _ => ⟨rfl, e2, (by decide : 0 + 0 ≤ _), (by decide : 0 + 0 ≤ _)⟩)
  dsimp only [Pt.U, Pt.locs, Pt.cells, Pt.slots] at X4 l4 y4 z4 st4 hQ4
  subst l4 y4 z4
  obtain ⟨rfl, N4q, e4⟩ := hQ4
  have N4 := Fr.app N0 N4q
  have P4 : own_Go p e below S0 (T4.setTop (mkF m 9 #[.val (.ref q6n2_0)] [(.int (r20n2c42 y0 y1))])) := fun t k => P3 t (st4.trans k)
  by_cases c5 : (r20n2c42 y0 y1) < (0 : Int32)
  · skip
    have P6 : own_Go p e below S0 (T4.setTop (mkF m 13 #[.val (.ref q6n2_0)] [(.ref q6n2_0)])) := fun t k => P4 t (by
      refine XS.ifNo X4.here hx rfl (hb hby d6_9) rfl ((if0 _ _).trans (tlt c5).2.1) ?_
      refine XS.aloadN X4.here hx rfl (hb hby d6_12) rfl rfl ?_
      show Steps p.tables e below (T4.setTop (mkF m 13 #[.val (.ref q6n2_0)] [(.ref q6n2_0)])) t
      exact k)
    obtain ⟨T7, X7, e7, st7⟩ := getF X4 hx hZ hown (host := "") (Or.inl (own_w hw 36 rfl)) Via.refl e4 F_q6n2_0_pattern (g := (mkF m 13 #[.val (.ref q6n2_0)] [(.ref q6n2_0)])) rfl rfl (hb hby d6_13)
    have P7 : own_Go p e below S0 (T7.setTop (mkF m 16 #[.val (.ref q6n2_0)] [(.ref qs)])) := fun t k => P6 t (st7 _ k)
    have P8 : own_Go p e below S0 (T7.setTop (mkF m 18 #[.val (.ref q6n2_0)] [(.int 63), (.ref qs)])) := fun t k => P7 t (by
      refine XS.bipush X7.here hx rfl (hb hby d6_16) ?_
      show Steps p.tables e below (T7.setTop (mkF m 18 #[.val (.ref q6n2_0)] [(.int 63), (.ref qs)])) t
      exact k)
    obtain ⟨cq9, kq9, q9a, q9b, q9c⟩ := isOf hZ e7 E_qs
    obtain ⟨_, _, ⟨T9, L9, k9, n9⟩, -, X9, ⟨Lc9, hQ9, l9, y9, z9⟩, st9⟩ := X7.virtualBack hx (y := (⟨"java/lang/String", "indexOf", "(I)I"⟩ : MethodName)) (z := (⟨"java/lang/String", "indexOf", "(I)I"⟩ : MethodName)) hown (mvT hZ (own_w hw 43 rfl)) (mvT hZ (own_w hw 44 rfl)) (notFace_of_selects (args := #[]) (mvT hZ (own_w hw 46 rfl))) (mvT hZ (own_w hw 46 rfl)) (mvT hZ (own_w hw 45 rfl)) (by decide) (backOf (W := 0) (rm7n2c63 l Z a0 hw [] qs qb kb y0 y1 zc h0 n0 Z0 F_qs_value A_qb S_COMPACT_STRINGS hcs F_qs_coder E_qs) hZ (own_w hw 47 rfl) (own_w hw 7 rfl) (by decide) (by decide)) q9a q9c (g := (mkF m 18 #[.val (.ref q6n2_0)] [(.int 63), (.ref qs)])) rfl (by rw [hml]; rfl) (Steps.refl _) (argsL := [(.int 63)]) (rest := []) (lenOf pd_11 rfl) rfl (by show 2 * 0 + _ ≤ _; exact Nat.le_of_eq rfl) (hb hby d6_18) (fun _ _ => ⟨rfl, e7, (by decide : 0 + 0 ≤ _), (by decide : 0 + 0 ≤ _)⟩)
    dsimp only [Pt.U, Pt.locs, Pt.cells, Pt.slots] at X9 l9 y9 z9 st9 hQ9
    subst l9 y9 z9
    obtain ⟨rfl, N9q, e9⟩ := hQ9
    have N9 := Fr.app N4 N9q
    have P9 : own_Go p e below S0 (T9.setTop (mkF m 21 #[.val (.ref q6n2_0)] [(.int (r20n2c63 y0 y1))])) := fun t k => P8 t (st9.trans k)
    by_cases c10 : (r20n2c63 y0 y1) < (0 : Int32)
    · skip
      have P11 : own_Go p e below S0 (T9.setTop (mkF m 29 #[.val (.ref q6n2_0)] [(.int 1)])) := fun t k => P9 t (by
        refine XS.ifNo X9.here hx rfl (hb hby d6_21) rfl ((if0 _ _).trans (tlt c10).2.1) ?_
        refine XS.iconst X9.here hx rfl (hb hby d6_24) ?_
        refine XS.goto X9.here hx rfl (pc0 := 25) (pc' := 29) rfl (hb hby d6_25) (by decide) (by decide) ?_
        show Steps p.tables e below (T9.setTop (mkF m 29 #[.val (.ref q6n2_0)] [(.int 1)])) t
        exact k)
      obtain ⟨fs, hr, hrun, hended, hW, hsame⟩ := X9.leave (v := some (.int 1)) (fun h => by rw [Bd.returns] at h; cases h) (BodyLoose.notSynchronized Bd)
      refine ⟨_, _, own_from hE0 (P11 _ ?_), hrun, hended, _, _, rfl, ?_, ⟨_, rfl⟩, hW, hsame.mono (by decide) (by decide)⟩
      · show Steps p.tables e below (T9.setTop (mkF m 29 #[.val (.ref q6n2_0)] [(.int 1)])) _
        exact retN X9 hx (t := .boolean) Bd.returns (by simp) (hb hby d6_29) hr
      · show Q6n2 Z q6n2_0 qs qb kb y0 y1 zc h0 n0 _ T9.heap _
        rw [e9]
        exact ⟨(congrArg (fun z => some (Value.int z)) (Eq.symm (Eq.trans (if_pos c5) (if_pos c10)))), N9, rfl⟩
    · skip
      have P12 : own_Go p e below S0 (T9.setTop (mkF m 29 #[.val (.ref q6n2_0)] [(.int 0)])) := fun t k => P9 t (by
        refine XS.ifYes X9.here hx rfl (pc0 := 21) (pc' := 28) rfl (hb hby d6_21) rfl ((if0 _ _).trans (flt c10).2.1) (by decide) (by decide) ?_
        refine XS.iconst X9.here hx rfl (hb hby d6_28) ?_
        show Steps p.tables e below (T9.setTop (mkF m 29 #[.val (.ref q6n2_0)] [(.int 0)])) t
        exact k)
      obtain ⟨fs, hr, hrun, hended, hW, hsame⟩ := X9.leave (v := some (.int 0)) (fun h => by rw [Bd.returns] at h; cases h) (BodyLoose.notSynchronized Bd)
      refine ⟨_, _, own_from hE0 (P12 _ ?_), hrun, hended, _, _, rfl, ?_, ⟨_, rfl⟩, hW, hsame.mono (by decide) (by decide)⟩
      · show Steps p.tables e below (T9.setTop (mkF m 29 #[.val (.ref q6n2_0)] [(.int 0)])) _
        exact retN X9 hx (t := .boolean) Bd.returns (by simp) (hb hby d6_29) hr
      · show Q6n2 Z q6n2_0 qs qb kb y0 y1 zc h0 n0 _ T9.heap _
        rw [e9]
        exact ⟨(congrArg (fun z => some (Value.int z)) (Eq.symm (Eq.trans (if_pos c5) (if_neg c10)))), N9, rfl⟩
  · skip
    have P13 : own_Go p e below S0 (T4.setTop (mkF m 29 #[.val (.ref q6n2_0)] [(.int 0)])) := fun t k => P4 t (by
      refine XS.ifYes X4.here hx rfl (pc0 := 9) (pc' := 28) rfl (hb hby d6_9) rfl ((if0 _ _).trans (flt c5).2.1) (by decide) (by decide) ?_
      refine XS.iconst X4.here hx rfl (hb hby d6_28) ?_
      show Steps p.tables e below (T4.setTop (mkF m 29 #[.val (.ref q6n2_0)] [(.int 0)])) t
      exact k)
    obtain ⟨fs, hr, hrun, hended, hW, hsame⟩ := X4.leave (v := some (.int 0)) (fun h => by rw [Bd.returns] at h; cases h) (BodyLoose.notSynchronized Bd)
    refine ⟨_, _, own_from hE0 (P13 _ ?_), hrun, hended, _, _, rfl, ?_, ⟨_, rfl⟩, hW, hsame.mono (by decide) (by decide)⟩
    · show Steps p.tables e below (T4.setTop (mkF m 29 #[.val (.ref q6n2_0)] [(.int 0)])) _
      exact retN X4 hx (t := .boolean) Bd.returns (by simp) (hb hby d6_29) hr
    · show Q6n2 Z q6n2_0 qs qb kb y0 y1 zc h0 n0 _ T4.heap _
      rw [e4]
      exact ⟨(congrArg (fun z => some (Value.int z)) (Eq.symm (if_neg c5))), N4, rfl⟩
theorem ef_15n3 (m : MethodId)  : entryFrame m #[(.int 3), (.int 3)] 2 = mkF m 0 #[.val (.int 3), .val (.int 3)] [] := by first | (simp [entryFrame, mkF, argsToLocals, Value.category]; done) | rfl
def Q15n3 (Z : State)  (h0 : Heap) (n0 : Nat) (v : Option Value) (h : Heap) (L : List Loc) : Prop := v = some (.int 3) ∧ Fr n0 L ∧ h = h0
set_option maxRecDepth 65536 in
set_option maxHeartbeats 40000000 in
theorem rm15n3 (l : Launch) (Z : State) (a0 : Array Value) (hw : ∀ d ∈ tables_1, d.before a0 Z = true) (ws : List Jvm.Cond)  (h0 : Heap) (n0 : Nat) (Z0 : n0 ≤ h0.size) :
    MetFree l (⟨"java/lang/Math", "min", "(II)I"⟩ : MethodName) (head1 (Jvm.Cond.code (⟨"java/lang/Math", "min", "(II)I"⟩ : MethodName) jdk_29_method_69_code 2 (some .int) :: ws) ({ frames := 0, cells := 0, slots := 0, locals := 0 } : Room)) (fun a U => a = #[(.int 3), (.int 3)] ∧ Z.Warmed39 U.vm ∧ U.heap = h0) (fun _ _ _ _ _ => True) (fun _ U o U' => ∃ v L, o = .returned v ∧ Q15n3 Z  h0 n0 v U'.heap L ∧ FrameEnd U o U' L ({ frames := 0, cells := 0, slots := 0, locals := 0 } : Room).cells ({ frames := 0, cells := 0, slots := 0, locals := 0 } : Room).slots) := by
  refine MetFree.of_bodySF (Jvm.Free.JP.mathPlain rfl (by decide +kernel)) hisR ?_
  intro p e s m args below meth c s₁ Bd hml0 hP hK
  obtain ⟨rfl, hZ, hh⟩ := hP
  have hx := Bd.exec
  have hby := Bd.bytes
  have hml : c.maxLocals = 2 := hml0
  have hown : s.vm.findClass "java/lang/Math" = some m.cls := findClass_of_methodNamed Bd.named
  have hnm := (name_of_methodNamed Bd.named Bd.method).1
  have X0 : Stand p l e ({ frames := 0, cells := 0, slots := 0, locals := 0 } : Room) s m #[(.int 3), (.int 3)] below meth c s₁ [] 0 0 := Stand.of_body Bd
  have e0 : s₁.heap = h0 := by rw [← hh, Bd.state]; rfl
  have N0 := Fr.nil n0
  obtain ⟨S0, hE0⟩ : ∃ z, z = s₁.setTop (entryFrame m #[(.int 3), (.int 3)] 2) := ⟨_, rfl⟩
  have P0 : own_Go p e below S0 (s₁.setTop (mkF m 0 #[.val (.int 3), .val (.int 3)] [])) := fun t k => by rw [hE0]; exact castTop (ef_15n3 m ) k
  have P1 : own_Go p e below S0 (s₁.setTop (mkF m 10 #[.val (.int 3), .val (.int 3)] [(.int 3)])) := fun t k => P0 t (by
    refine XS.iloadN X0.here hx rfl (hb hby d15_0) rfl ?_
    refine XS.iloadN X0.here hx rfl (hb hby d15_1) rfl ?_
    refine XS.icmpNo X0.here hx rfl (hb hby d15_2) rfl (flt (by decide)).2.2.1 ?_
    refine XS.iloadN X0.here hx rfl (hb hby d15_5) rfl ?_
    refine XS.goto X0.here hx rfl (pc0 := 6) (pc' := 10) rfl (hb hby d15_6) (by decide) (by decide) ?_
    show Steps p.tables e below (s₁.setTop (mkF m 10 #[.val (.int 3), .val (.int 3)] [(.int 3)])) t
    exact k)
  obtain ⟨fs, hr, hrun, hended, hW, hsame⟩ := X0.leave (v := some (.int 3)) (fun h => by rw [Bd.returns] at h; cases h) (BodyLoose.notSynchronized Bd)
  refine ⟨_, _, own_from hE0 (P1 _ ?_), hrun, hended, _, _, rfl, ?_, ⟨_, rfl⟩, hW, hsame.mono (by decide) (by decide)⟩
  · show Steps p.tables e below (s₁.setTop (mkF m 10 #[.val (.int 3), .val (.int 3)] [(.int 3)])) _
    exact retI X0 hx Bd.returns (hb hby d15_10) hr
  · show Q15n3 Z  h0 n0 _ s₁.heap _
    rw [e0]
    exact ⟨rfl, N0, rfl⟩
theorem ef_10n3 (m : MethodId) (q10n3_0 : Addr) : entryFrame m #[(.ref q10n3_0)] 1 = mkF m 0 #[.val (.ref q10n3_0)] [] := by first | (simp [entryFrame, mkF, argsToLocals, Value.category]; done) | rfl
def Q10n3 (Z : State) (q10n3_0 : Addr) (qb : Addr) (kb : ClassId) (y0 : Int32) (y1 : Int32) (y2 : Int32) (zc : Int32) (h0 : Heap) (n0 : Nat) (v : Option Value) (h : Heap) (L : List Loc) : Prop := v = some (.int 3) ∧ Fr n0 L ∧ h = h0
set_option maxRecDepth 65536 in
set_option maxHeartbeats 40000000 in
theorem rm10n3 (l : Launch) (Z : State) (a0 : Array Value) (hw : ∀ d ∈ tables_1, d.before a0 Z = true) (ws : List Jvm.Cond) (q10n3_0 : Addr) (qb : Addr) (kb : ClassId) (y0 : Int32) (y1 : Int32) (y2 : Int32) (zc : Int32) (h0 : Heap) (n0 : Nat) (Z0 : n0 ≤ h0.size) (F_q10n3_0_value : Fld Z h0 q10n3_0 "java/lang/String" "value" "[B" (.ref qb)) (A_qb : Arv Z h0 qb kb .byte (3 : Int32) [(.int y0), (.int y1), (.int y2)] (.int 0)) (S_COMPACT_STRINGS : Sta Z h0 "java/lang/String" "COMPACT_STRINGS" "Z" (.int zc)) (hcs : ¬ (zc = (0 : Int32))) (F_q10n3_0_coder : Fld Z h0 q10n3_0 "java/lang/String" "coder" "B" (.int 0)) (E_q10n3_0 : Exa Z h0 q10n3_0 "java/lang/String") :
    MetFree l (⟨"java/lang/String", "length", "()I"⟩ : MethodName) (head1 (Jvm.Cond.code (⟨"java/lang/String", "length", "()I"⟩ : MethodName) jdk_42_method_54_code 1 (some .int) :: ws) ({ frames := 1, cells := 0, slots := 0, locals := 13 } : Room)) (fun a U => a = #[(.ref q10n3_0)] ∧ Z.Warmed39 U.vm ∧ U.heap = h0) (fun _ _ _ _ _ => True) (fun _ U o U' => ∃ v L, o = .returned v ∧ Q10n3 Z q10n3_0 qb kb y0 y1 y2 zc h0 n0 v U'.heap L ∧ FrameEnd U o U' L ({ frames := 1, cells := 0, slots := 0, locals := 13 } : Room).cells ({ frames := 1, cells := 0, slots := 0, locals := 13 } : Room).slots) := by
  refine MetFree.of_bodySF (plainFor_of_name pn_2) hisR ?_
  intro p e s m args below meth c s₁ Bd hml0 hP hK
  obtain ⟨rfl, hZ, hh⟩ := hP
  have hx := Bd.exec
  have hby := Bd.bytes
  have hml : c.maxLocals = 1 := hml0
  have hown : s.vm.findClass "java/lang/String" = some m.cls := findClass_of_methodNamed Bd.named
  have hnm := (name_of_methodNamed Bd.named Bd.method).1
  have X0 : Stand p l e ({ frames := 1, cells := 0, slots := 0, locals := 13 } : Room) s m #[(.ref q10n3_0)] below meth c s₁ [] 0 0 := Stand.of_body Bd
  have e0 : s₁.heap = h0 := by rw [← hh, Bd.state]; rfl
  have N0 := Fr.nil n0
  obtain ⟨S0, hE0⟩ : ∃ z, z = s₁.setTop (entryFrame m #[(.ref q10n3_0)] 1) := ⟨_, rfl⟩
  have P0 : own_Go p e below S0 (s₁.setTop (mkF m 0 #[.val (.ref q10n3_0)] [])) := fun t k => by rw [hE0]; exact castTop (ef_10n3 m q10n3_0) k
  have P1 : own_Go p e below S0 (s₁.setTop (mkF m 1 #[.val (.ref q10n3_0)] [(.ref q10n3_0)])) := fun t k => P0 t (by
    refine XS.aloadN X0.here hx rfl (hb hby d10_0) rfl rfl ?_
    show Steps p.tables e below (s₁.setTop (mkF m 1 #[.val (.ref q10n3_0)] [(.ref q10n3_0)])) t
    exact k)
  obtain ⟨T2, X2, e2, st2⟩ := getF X0 hx hZ hown (host := "") (Or.inl (own_w hw 24 rfl)) Via.refl e0 F_q10n3_0_value (g := (mkF m 1 #[.val (.ref q10n3_0)] [(.ref q10n3_0)])) rfl rfl (hb hby d10_1)
  have P2 : own_Go p e below S0 (T2.setTop (mkF m 4 #[.val (.ref q10n3_0)] [(.ref qb)])) := fun t k => P1 t (st2 _ k)
  obtain ⟨cl3, Ar3, q3, Sz3, Nn3, Hh3, Gg3⟩ := id A_qb
  have P4 : own_Go p e below S0 (T2.setTop (mkF m 6 #[.val (.ref q10n3_0)] [(.ref q10n3_0), (.int 3)])) := fun t k => P2 t (by
    show Steps p.tables e below (T2.setTop (mkF m 4 #[.val (.ref q10n3_0)] [(.ref qb)])) t
    refine X2.arraylength hx (by rw [e2]; exact Ar3.1) (State.isArrayOf_alike hZ.alike Ar3.2.1) (g := (mkF m 4 #[.val (.ref q10n3_0)] [(.ref qb)])) rfl rfl (hb hby d10_4) _ ?_
    rw [len_of Sz3 Nn3]
    refine XS.aloadN X2.here hx rfl (hb hby d10_5) rfl rfl ?_
    show Steps p.tables e below (T2.setTop (mkF m 6 #[.val (.ref q10n3_0)] [(.ref q10n3_0), (.int 3)])) t
    exact k)
  obtain ⟨cq5, kq5, q5a, q5b, q5c⟩ := isOf hZ e2 E_q10n3_0
  obtain ⟨_, _, ⟨T5, L5, k5, n5⟩, -, X5, ⟨Lc5, hQ5, l5, y5, z5⟩, st5⟩ := X2.virtualBack hx (y := (⟨"java/lang/String", "coder", "()B"⟩ : MethodName)) (z := (⟨"java/lang/String", "coder", "()B"⟩ : MethodName)) hown (mvT hZ (own_w hw 64 rfl)) (mvT hZ (own_w hw 65 rfl)) (notFace_of_selects (args := #[]) (mvT hZ (own_w hw 67 rfl))) (mvT hZ (own_w hw 67 rfl)) (mvT hZ (own_w hw 66 rfl)) (by decide) (backOf (W := 1) (rm11 l Z a0 hw [] q10n3_0 zc h0 n0 Z0 S_COMPACT_STRINGS hcs F_q10n3_0_coder) hZ (own_w hw 68 rfl) (own_w hw 7 rfl) (by decide) (by decide)) q5a q5c (g := (mkF m 6 #[.val (.ref q10n3_0)] [(.ref q10n3_0), (.int 3)])) rfl (by rw [hml]; rfl) (Steps.refl _) (argsL := []) (rest := [(.int 3)]) (lenOf pd_5 rfl) rfl (by show 2 * 0 + _ ≤ _; exact Nat.le_of_eq rfl) (hb hby d10_6) (fun _ _ => ⟨rfl, e2, (by decide : 0 + 0 ≤ _), (by decide : 0 + 0 ≤ _)⟩)
  dsimp only [Pt.U, Pt.locs, Pt.cells, Pt.slots] at X5 l5 y5 z5 st5 hQ5
  subst l5 y5 z5
  obtain ⟨rfl, N5q, e5⟩ := hQ5
  have N5 := Fr.app N0 N5q
  have P5 : own_Go p e below S0 (T5.setTop (mkF m 9 #[.val (.ref q10n3_0)] [(.int 0), (.int 3)])) := fun t k => P4 t (st5.trans k)
  have P6 : own_Go p e below S0 (T5.setTop (mkF m 10 #[.val (.ref q10n3_0)] [(.int 3)])) := fun t k => P5 t (by
    refine XS.ishr X5.here hx rfl (hb hby d10_9) rfl ?_
    show Steps p.tables e below (T5.setTop (mkF m 10 #[.val (.ref q10n3_0)] [(.int 3)])) t
    exact k)
  obtain ⟨fs, hr, hrun, hended, hW, hsame⟩ := X5.leave (v := some (.int 3)) (fun h => by rw [Bd.returns] at h; cases h) (BodyLoose.notSynchronized Bd)
  refine ⟨_, _, own_from hE0 (P6 _ ?_), hrun, hended, _, _, rfl, ?_, ⟨_, rfl⟩, hW, hsame.mono (by decide) (by decide)⟩
  · show Steps p.tables e below (T5.setTop (mkF m 10 #[.val (.ref q10n3_0)] [(.int 3)])) _
    exact retI X5 hx Bd.returns (hb hby d10_10) hr
  · show Q10n3 Z q10n3_0 qb kb y0 y1 y2 zc h0 n0 _ T5.heap _
    rw [e5]
    exact ⟨rfl, N5, rfl⟩
theorem ef_20n3c42 (m : MethodId) (qb : Addr) : entryFrame m #[(.ref qb), (.int 42), (.int 0), (.int 3)] 6 = mkF m 0 #[.val (.ref qb), .val (.int 42), .val (.int 0), .val (.int 3), .unset, .unset] [] := by first | (simp [entryFrame, mkF, argsToLocals, Value.category]; done) | rfl
def r20n3c42 (y0 : Int32) (y1 : Int32) (y2 : Int32) : Int32 := (if y0 = (42 : Int32) then (0 : Int32) else (if y1 = (42 : Int32) then (1 : Int32) else (if y2 = (42 : Int32) then (2 : Int32) else (-1 : Int32))))
def Q20n3c42 (Z : State) (qb : Addr) (kb : ClassId) (y0 : Int32) (y1 : Int32) (y2 : Int32) (h0 : Heap) (n0 : Nat) (v : Option Value) (h : Heap) (L : List Loc) : Prop := v = some (.int (r20n3c42 y0 y1 y2)) ∧ Fr n0 L ∧ h = h0
set_option maxRecDepth 65536 in
set_option maxHeartbeats 40000000 in
theorem rm20n3c42 (l : Launch) (Z : State) (a0 : Array Value) (hw : ∀ d ∈ tables_1, d.before a0 Z = true) (ws : List Jvm.Cond) (qb : Addr) (kb : ClassId) (y0 : Int32) (y1 : Int32) (y2 : Int32) (h0 : Heap) (n0 : Nat) (Z0 : n0 ≤ h0.size) (A_qb : Arv Z h0 qb kb .byte (3 : Int32) [(.int y0), (.int y1), (.int y2)] (.int 0)) :
    MetFree l (⟨"java/lang/StringLatin1", "indexOfChar", "([BIII)I"⟩ : MethodName) (head1 (Jvm.Cond.code (⟨"java/lang/StringLatin1", "indexOfChar", "([BIII)I"⟩ : MethodName) jdk_43_method_23_code 6 (some .int) :: ws) ({ frames := 0, cells := 0, slots := 0, locals := 0 } : Room)) (fun a U => a = #[(.ref qb), (.int 42), (.int 0), (.int 3)] ∧ Z.Warmed39 U.vm ∧ U.heap = h0) (fun _ _ _ _ _ => True) (fun _ U o U' => ∃ v L, o = .returned v ∧ Q20n3c42 Z qb kb y0 y1 y2 h0 n0 v U'.heap L ∧ FrameEnd U o U' L ({ frames := 0, cells := 0, slots := 0, locals := 0 } : Room).cells ({ frames := 0, cells := 0, slots := 0, locals := 0 } : Room).slots) := by
  refine MetFree.of_bodySF (plainFor_of_name pn_13) hisR ?_
  intro p e s m args below meth c s₁ Bd hml0 hP hK
  obtain ⟨rfl, hZ, hh⟩ := hP
  have hx := Bd.exec
  have hby := Bd.bytes
  have hml : c.maxLocals = 6 := hml0
  have hown : s.vm.findClass "java/lang/StringLatin1" = some m.cls := findClass_of_methodNamed Bd.named
  have hnm := (name_of_methodNamed Bd.named Bd.method).1
  have X0 : Stand p l e ({ frames := 0, cells := 0, slots := 0, locals := 0 } : Room) s m #[(.ref qb), (.int 42), (.int 0), (.int 3)] below meth c s₁ [] 0 0 := Stand.of_body Bd
  have e0 : s₁.heap = h0 := by rw [← hh, Bd.state]; rfl
  have N0 := Fr.nil n0
  obtain ⟨S0, hE0⟩ : ∃ z, z = s₁.setTop (entryFrame m #[(.ref qb), (.int 42), (.int 0), (.int 3)] 6) := ⟨_, rfl⟩
  have P0 : own_Go p e below S0 (s₁.setTop (mkF m 0 #[.val (.ref qb), .val (.int 42), .val (.int 0), .val (.int 3), .unset, .unset] [])) := fun t k => by rw [hE0]; exact castTop (ef_20n3c42 m qb) k
  obtain ⟨cl1, Ar1, q1, Sz1, Nn1, Hh1, Gg1⟩ := id A_qb
  have hin1 : ¬ ((0 : Int32) < 0 ∨ cl1.slots.size ≤ ((0 : Int32)).toNatClampNeg) := inb_of Sz1 ⟨by decide, by decide⟩
  have hat1 : cl1.slots[((0 : Int32)).toNatClampNeg]? = some (.int y0) := Has.at Hh1 hin1 rfl
  have P2 : own_Go p e below S0 (s₁.setTop (mkF m 19 #[.val (.ref qb), .val (.int 42), .val (.int 0), .val (.int 3), .val (.int 42), .val (.int 0)] [(.int 42), (.int y0)])) := fun t k => P0 t (by
    refine XS.iloadN X0.here hx rfl (hb hby d20_0) rfl ?_
    refine XS.i2b X0.here hx rfl (hb hby d20_1) rfl ?_
    refine XS.istore X0.here hx rfl (hb hby d20_2) rfl (l' := #[.val (.ref qb), .val (.int 42), .val (.int 0), .val (.int 3), .val (.int 42), .unset]) rfl ?_
    refine XS.iloadN X0.here hx rfl (hb hby d20_4) rfl ?_
    refine XS.istore X0.here hx rfl (hb hby d20_5) rfl (l' := #[.val (.ref qb), .val (.int 42), .val (.int 0), .val (.int 3), .val (.int 42), .val (.int 0)]) rfl ?_
    refine XS.iload X0.here hx rfl (hb hby d20_7) rfl ?_
    show Steps p.tables e below (s₁.setTop (mkF m 9 #[.val (.ref qb), .val (.int 42), .val (.int 0), .val (.int 3), .val (.int 42), .val (.int 0)] [(.int 0)])) t
    refine XS.iloadN X0.here hx rfl (hb hby d20_9) rfl ?_
    refine XS.icmpNo X0.here hx rfl (hb hby d20_10) rfl (tlt (by decide)).2.1 ?_
    refine XS.aloadN X0.here hx rfl (hb hby d20_13) rfl rfl ?_
    refine XS.iload X0.here hx rfl (hb hby d20_14) rfl ?_
    show Steps p.tables e below (s₁.setTop (mkF m 16 #[.val (.ref qb), .val (.int 42), .val (.int 0), .val (.int 3), .val (.int 42), .val (.int 0)] [(.int 0), (.ref qb)])) t
    refine X0.baloadBytes hx (j := (0 : Int32)) (v := (.int y0)) (by rw [e0]; exact Ar1.1) (State.isArrayOf_alike hZ.alike Ar1.2.1) Ar1.2.2 hin1 hat1 (g := (mkF m 16 #[.val (.ref qb), .val (.int 42), .val (.int 0), .val (.int 3), .val (.int 42), .val (.int 0)] [(.int 0), (.ref qb)])) rfl rfl (hb hby d20_16) _ ?_
    refine XS.iload X0.here hx rfl (hb hby d20_17) rfl ?_
    show Steps p.tables e below (s₁.setTop (mkF m 19 #[.val (.ref qb), .val (.int 42), .val (.int 0), .val (.int 3), .val (.int 42), .val (.int 0)] [(.int 42), (.int y0)])) t
    exact k)
  by_cases c3 : y0 = (42 : Int32)
  · skip
    have P4 : own_Go p e below S0 (s₁.setTop (mkF m 24 #[.val (.ref qb), .val (.int 42), .val (.int 0), .val (.int 3), .val (.int 42), .val (.int 0)] [(.int 0)])) := fun t k => P2 t (by
      refine XS.icmpNo X0.here hx rfl (hb hby d20_19) rfl (teq c3).2 ?_
      refine XS.iload X0.here hx rfl (hb hby d20_22) rfl ?_
      show Steps p.tables e below (s₁.setTop (mkF m 24 #[.val (.ref qb), .val (.int 42), .val (.int 0), .val (.int 3), .val (.int 42), .val (.int 0)] [(.int 0)])) t
      exact k)
    obtain ⟨fs, hr, hrun, hended, hW, hsame⟩ := X0.leave (v := some (.int 0)) (fun h => by rw [Bd.returns] at h; cases h) (BodyLoose.notSynchronized Bd)
    refine ⟨_, _, own_from hE0 (P4 _ ?_), hrun, hended, _, _, rfl, ?_, ⟨_, rfl⟩, hW, hsame.mono (by decide) (by decide)⟩
    · show Steps p.tables e below (s₁.setTop (mkF m 24 #[.val (.ref qb), .val (.int 42), .val (.int 0), .val (.int 3), .val (.int 42), .val (.int 0)] [(.int 0)])) _
      exact retI X0 hx Bd.returns (hb hby d20_24) hr
    · show Q20n3c42 Z qb kb y0 y1 y2 h0 n0 _ s₁.heap _
      rw [e0]
      exact ⟨(congrArg (fun z => some (Value.int z)) (Eq.symm (if_pos c3))), N0, rfl⟩
  · skip
    obtain ⟨cl5, Ar5, q5, Sz5, Nn5, Hh5, Gg5⟩ := id A_qb
    have hin5 : ¬ ((1 : Int32) < 0 ∨ cl5.slots.size ≤ ((1 : Int32)).toNatClampNeg) := inb_of Sz5 ⟨by decide, by decide⟩
    have hat5 : cl5.slots[((1 : Int32)).toNatClampNeg]? = some (.int y1) := Has.at Hh5 hin5 rfl
    have P6 : own_Go p e below S0 (s₁.setTop (mkF m 19 #[.val (.ref qb), .val (.int 42), .val (.int 0), .val (.int 3), .val (.int 42), .val (.int 1)] [(.int 42), (.int y1)])) := fun t k => P2 t (by
      refine XS.icmpYes X0.here hx rfl (pc0 := 19) (pc' := 25) rfl (hb hby d20_19) rfl (feq c3).2 (by decide) (by decide) ?_
      refine XS.iinc X0.here hx rfl (hb hby d20_25) rfl (l' := #[.val (.ref qb), .val (.int 42), .val (.int 0), .val (.int 3), .val (.int 42), .val (.int 1)]) rfl ?_
      refine XS.goto X0.here hx rfl (pc0 := 28) (pc' := 7) rfl (hb hby d20_28) (by decide) (by decide) ?_
      refine XS.iload X0.here hx rfl (hb hby d20_7) rfl ?_
      refine XS.iloadN X0.here hx rfl (hb hby d20_9) rfl ?_
      refine XS.icmpNo X0.here hx rfl (hb hby d20_10) rfl (tlt (by decide)).2.1 ?_
      show Steps p.tables e below (s₁.setTop (mkF m 13 #[.val (.ref qb), .val (.int 42), .val (.int 0), .val (.int 3), .val (.int 42), .val (.int 1)] [])) t
      refine XS.aloadN X0.here hx rfl (hb hby d20_13) rfl rfl ?_
      refine XS.iload X0.here hx rfl (hb hby d20_14) rfl ?_
      show Steps p.tables e below (s₁.setTop (mkF m 16 #[.val (.ref qb), .val (.int 42), .val (.int 0), .val (.int 3), .val (.int 42), .val (.int 1)] [(.int 1), (.ref qb)])) t
      refine X0.baloadBytes hx (j := (1 : Int32)) (v := (.int y1)) (by rw [e0]; exact Ar5.1) (State.isArrayOf_alike hZ.alike Ar5.2.1) Ar5.2.2 hin5 hat5 (g := (mkF m 16 #[.val (.ref qb), .val (.int 42), .val (.int 0), .val (.int 3), .val (.int 42), .val (.int 1)] [(.int 1), (.ref qb)])) rfl rfl (hb hby d20_16) _ ?_
      refine XS.iload X0.here hx rfl (hb hby d20_17) rfl ?_
      show Steps p.tables e below (s₁.setTop (mkF m 19 #[.val (.ref qb), .val (.int 42), .val (.int 0), .val (.int 3), .val (.int 42), .val (.int 1)] [(.int 42), (.int y1)])) t
      exact k)
    by_cases c7 : y1 = (42 : Int32)
    · skip
      have P8 : own_Go p e below S0 (s₁.setTop (mkF m 24 #[.val (.ref qb), .val (.int 42), .val (.int 0), .val (.int 3), .val (.int 42), .val (.int 1)] [(.int 1)])) := fun t k => P6 t (by
        refine XS.icmpNo X0.here hx rfl (hb hby d20_19) rfl (teq c7).2 ?_
        refine XS.iload X0.here hx rfl (hb hby d20_22) rfl ?_
        show Steps p.tables e below (s₁.setTop (mkF m 24 #[.val (.ref qb), .val (.int 42), .val (.int 0), .val (.int 3), .val (.int 42), .val (.int 1)] [(.int 1)])) t
        exact k)
      obtain ⟨fs, hr, hrun, hended, hW, hsame⟩ := X0.leave (v := some (.int 1)) (fun h => by rw [Bd.returns] at h; cases h) (BodyLoose.notSynchronized Bd)
      refine ⟨_, _, own_from hE0 (P8 _ ?_), hrun, hended, _, _, rfl, ?_, ⟨_, rfl⟩, hW, hsame.mono (by decide) (by decide)⟩
      · show Steps p.tables e below (s₁.setTop (mkF m 24 #[.val (.ref qb), .val (.int 42), .val (.int 0), .val (.int 3), .val (.int 42), .val (.int 1)] [(.int 1)])) _
        exact retI X0 hx Bd.returns (hb hby d20_24) hr
      · show Q20n3c42 Z qb kb y0 y1 y2 h0 n0 _ s₁.heap _
        rw [e0]
        exact ⟨(congrArg (fun z => some (Value.int z)) (Eq.symm (Eq.trans (if_neg c3) (if_pos c7)))), N0, rfl⟩
    · skip
      obtain ⟨cl9, Ar9, q9, Sz9, Nn9, Hh9, Gg9⟩ := id A_qb
      have hin9 : ¬ ((2 : Int32) < 0 ∨ cl9.slots.size ≤ ((2 : Int32)).toNatClampNeg) := inb_of Sz9 ⟨by decide, by decide⟩
      have hat9 : cl9.slots[((2 : Int32)).toNatClampNeg]? = some (.int y2) := Has.at Hh9 hin9 rfl
      have P10 : own_Go p e below S0 (s₁.setTop (mkF m 19 #[.val (.ref qb), .val (.int 42), .val (.int 0), .val (.int 3), .val (.int 42), .val (.int 2)] [(.int 42), (.int y2)])) := fun t k => P6 t (by
        refine XS.icmpYes X0.here hx rfl (pc0 := 19) (pc' := 25) rfl (hb hby d20_19) rfl (feq c7).2 (by decide) (by decide) ?_
        refine XS.iinc X0.here hx rfl (hb hby d20_25) rfl (l' := #[.val (.ref qb), .val (.int 42), .val (.int 0), .val (.int 3), .val (.int 42), .val (.int 2)]) rfl ?_
        refine XS.goto X0.here hx rfl (pc0 := 28) (pc' := 7) rfl (hb hby d20_28) (by decide) (by decide) ?_
        refine XS.iload X0.here hx rfl (hb hby d20_7) rfl ?_
        refine XS.iloadN X0.here hx rfl (hb hby d20_9) rfl ?_
        refine XS.icmpNo X0.here hx rfl (hb hby d20_10) rfl (tlt (by decide)).2.1 ?_
        show Steps p.tables e below (s₁.setTop (mkF m 13 #[.val (.ref qb), .val (.int 42), .val (.int 0), .val (.int 3), .val (.int 42), .val (.int 2)] [])) t
        refine XS.aloadN X0.here hx rfl (hb hby d20_13) rfl rfl ?_
        refine XS.iload X0.here hx rfl (hb hby d20_14) rfl ?_
        show Steps p.tables e below (s₁.setTop (mkF m 16 #[.val (.ref qb), .val (.int 42), .val (.int 0), .val (.int 3), .val (.int 42), .val (.int 2)] [(.int 2), (.ref qb)])) t
        refine X0.baloadBytes hx (j := (2 : Int32)) (v := (.int y2)) (by rw [e0]; exact Ar9.1) (State.isArrayOf_alike hZ.alike Ar9.2.1) Ar9.2.2 hin9 hat9 (g := (mkF m 16 #[.val (.ref qb), .val (.int 42), .val (.int 0), .val (.int 3), .val (.int 42), .val (.int 2)] [(.int 2), (.ref qb)])) rfl rfl (hb hby d20_16) _ ?_
        refine XS.iload X0.here hx rfl (hb hby d20_17) rfl ?_
        show Steps p.tables e below (s₁.setTop (mkF m 19 #[.val (.ref qb), .val (.int 42), .val (.int 0), .val (.int 3), .val (.int 42), .val (.int 2)] [(.int 42), (.int y2)])) t
        exact k)
      by_cases c11 : y2 = (42 : Int32)
      · skip
        have P12 : own_Go p e below S0 (s₁.setTop (mkF m 24 #[.val (.ref qb), .val (.int 42), .val (.int 0), .val (.int 3), .val (.int 42), .val (.int 2)] [(.int 2)])) := fun t k => P10 t (by
          refine XS.icmpNo X0.here hx rfl (hb hby d20_19) rfl (teq c11).2 ?_
          refine XS.iload X0.here hx rfl (hb hby d20_22) rfl ?_
          show Steps p.tables e below (s₁.setTop (mkF m 24 #[.val (.ref qb), .val (.int 42), .val (.int 0), .val (.int 3), .val (.int 42), .val (.int 2)] [(.int 2)])) t
          exact k)
        obtain ⟨fs, hr, hrun, hended, hW, hsame⟩ := X0.leave (v := some (.int 2)) (fun h => by rw [Bd.returns] at h; cases h) (BodyLoose.notSynchronized Bd)
        refine ⟨_, _, own_from hE0 (P12 _ ?_), hrun, hended, _, _, rfl, ?_, ⟨_, rfl⟩, hW, hsame.mono (by decide) (by decide)⟩
        · show Steps p.tables e below (s₁.setTop (mkF m 24 #[.val (.ref qb), .val (.int 42), .val (.int 0), .val (.int 3), .val (.int 42), .val (.int 2)] [(.int 2)])) _
          exact retI X0 hx Bd.returns (hb hby d20_24) hr
        · show Q20n3c42 Z qb kb y0 y1 y2 h0 n0 _ s₁.heap _
          rw [e0]
          exact ⟨(congrArg (fun z => some (Value.int z)) (Eq.symm (Eq.trans (if_neg c3) (Eq.trans (if_neg c7) (if_pos c11))))), N0, rfl⟩
      · skip
        have P13 : own_Go p e below S0 (s₁.setTop (mkF m 32 #[.val (.ref qb), .val (.int 42), .val (.int 0), .val (.int 3), .val (.int 42), .val (.int 3)] [(.int (-1))])) := fun t k => P10 t (by
          refine XS.icmpYes X0.here hx rfl (pc0 := 19) (pc' := 25) rfl (hb hby d20_19) rfl (feq c11).2 (by decide) (by decide) ?_
          refine XS.iinc X0.here hx rfl (hb hby d20_25) rfl (l' := #[.val (.ref qb), .val (.int 42), .val (.int 0), .val (.int 3), .val (.int 42), .val (.int 3)]) rfl ?_
          refine XS.goto X0.here hx rfl (pc0 := 28) (pc' := 7) rfl (hb hby d20_28) (by decide) (by decide) ?_
          refine XS.iload X0.here hx rfl (hb hby d20_7) rfl ?_
          refine XS.iloadN X0.here hx rfl (hb hby d20_9) rfl ?_
          refine XS.icmpYes X0.here hx rfl (pc0 := 10) (pc' := 31) rfl (hb hby d20_10) rfl (flt (by decide)).2.1 (by decide) (by decide) ?_
          show Steps p.tables e below (s₁.setTop (mkF m 31 #[.val (.ref qb), .val (.int 42), .val (.int 0), .val (.int 3), .val (.int 42), .val (.int 3)] [])) t
          refine XS.iconst X0.here hx rfl (hb hby d20_31) ?_
          show Steps p.tables e below (s₁.setTop (mkF m 32 #[.val (.ref qb), .val (.int 42), .val (.int 0), .val (.int 3), .val (.int 42), .val (.int 3)] [(.int (-1))])) t
          exact k)
        obtain ⟨fs, hr, hrun, hended, hW, hsame⟩ := X0.leave (v := some (.int (-1))) (fun h => by rw [Bd.returns] at h; cases h) (BodyLoose.notSynchronized Bd)
        refine ⟨_, _, own_from hE0 (P13 _ ?_), hrun, hended, _, _, rfl, ?_, ⟨_, rfl⟩, hW, hsame.mono (by decide) (by decide)⟩
        · show Steps p.tables e below (s₁.setTop (mkF m 32 #[.val (.ref qb), .val (.int 42), .val (.int 0), .val (.int 3), .val (.int 42), .val (.int 3)] [(.int (-1))])) _
          exact retI X0 hx Bd.returns (hb hby d20_32) hr
        · show Q20n3c42 Z qb kb y0 y1 y2 h0 n0 _ s₁.heap _
          rw [e0]
          exact ⟨(congrArg (fun z => some (Value.int z)) (Eq.symm (Eq.trans (if_neg c3) (Eq.trans (if_neg c7) (if_neg c11))))), N0, rfl⟩
theorem ef_12n3c42 (m : MethodId) (qb : Addr) : entryFrame m #[(.ref qb), (.int 42), (.int 0), (.int 3)] 4 = mkF m 0 #[.val (.ref qb), .val (.int 42), .val (.int 0), .val (.int 3)] [] := by first | (simp [entryFrame, mkF, argsToLocals, Value.category]; done) | rfl
def Q12n3c42 (Z : State) (qb : Addr) (kb : ClassId) (y0 : Int32) (y1 : Int32) (y2 : Int32) (h0 : Heap) (n0 : Nat) (v : Option Value) (h : Heap) (L : List Loc) : Prop := v = some (.int (r20n3c42 y0 y1 y2)) ∧ Fr n0 L ∧ h = h0
set_option maxRecDepth 65536 in
set_option maxHeartbeats 40000000 in
theorem rm12n3c42 (l : Launch) (Z : State) (a0 : Array Value) (hw : ∀ d ∈ tables_1, d.before a0 Z = true) (ws : List Jvm.Cond) (qb : Addr) (kb : ClassId) (y0 : Int32) (y1 : Int32) (y2 : Int32) (h0 : Heap) (n0 : Nat) (Z0 : n0 ≤ h0.size) (A_qb : Arv Z h0 qb kb .byte (3 : Int32) [(.int y0), (.int y1), (.int y2)] (.int 0)) :
    MetFree l (⟨"java/lang/StringLatin1", "indexOf", "([BIII)I"⟩ : MethodName) (head1 (Jvm.Cond.code (⟨"java/lang/StringLatin1", "indexOf", "([BIII)I"⟩ : MethodName) jdk_43_method_22_code 4 (some .int) :: ws) ({ frames := 1, cells := 0, slots := 0, locals := 17 } : Room)) (fun a U => a = #[(.ref qb), (.int 42), (.int 0), (.int 3)] ∧ Z.Warmed39 U.vm ∧ U.heap = h0) (fun _ _ _ _ _ => True) (fun _ U o U' => ∃ v L, o = .returned v ∧ Q12n3c42 Z qb kb y0 y1 y2 h0 n0 v U'.heap L ∧ FrameEnd U o U' L ({ frames := 1, cells := 0, slots := 0, locals := 17 } : Room).cells ({ frames := 1, cells := 0, slots := 0, locals := 17 } : Room).slots) := by
  refine MetFree.of_bodySF (plainFor_of_name pn_13) hisR ?_
  intro p e s m args below meth c s₁ Bd hml0 hP hK
  obtain ⟨rfl, hZ, hh⟩ := hP
  have hx := Bd.exec
  have hby := Bd.bytes
  have hml : c.maxLocals = 4 := hml0
  have hown : s.vm.findClass "java/lang/StringLatin1" = some m.cls := findClass_of_methodNamed Bd.named
  have hnm := (name_of_methodNamed Bd.named Bd.method).1
  have X0 : Stand p l e ({ frames := 1, cells := 0, slots := 0, locals := 17 } : Room) s m #[(.ref qb), (.int 42), (.int 0), (.int 3)] below meth c s₁ [] 0 0 := Stand.of_body Bd
  have e0 : s₁.heap = h0 := by rw [← hh, Bd.state]; rfl
  have N0 := Fr.nil n0
  obtain ⟨S0, hE0⟩ : ∃ z, z = s₁.setTop (entryFrame m #[(.ref qb), (.int 42), (.int 0), (.int 3)] 4) := ⟨_, rfl⟩
  have P0 : own_Go p e below S0 (s₁.setTop (mkF m 0 #[.val (.ref qb), .val (.int 42), .val (.int 0), .val (.int 3)] [])) := fun t k => by rw [hE0]; exact castTop (ef_12n3c42 m qb) k
  have P1 : own_Go p e below S0 (s₁.setTop (mkF m 1 #[.val (.ref qb), .val (.int 42), .val (.int 0), .val (.int 3)] [(.int 42)])) := fun t k => P0 t (by
    refine XS.iloadN X0.here hx rfl (hb hby d12_0) rfl ?_
    show Steps p.tables e below (s₁.setTop (mkF m 1 #[.val (.ref qb), .val (.int 42), .val (.int 0), .val (.int 3)] [(.int 42)])) t
    exact k)
  obtain ⟨_, _, ⟨T2, L2, k2, n2⟩, -, X2, ⟨Lc2, hQ2, l2, y2, z2⟩, st2⟩ := Jvm.LawKit.callS X0 hx (y := (⟨"java/lang/StringLatin1", "canEncode", "(I)Z"⟩ : MethodName)) hown (mvT hZ (own_w hw 73 rfl)) (mvT hZ (own_w hw 74 rfl)) (mvT hZ (own_w hw 71 rfl)) (mvT hZ (own_w hw 75 rfl)) (by decide) (backOf (W := 0) (rm13c42 l Z a0 hw []  h0 n0 Z0) hZ (own_w hw 75 rfl) (own_w hw 71 rfl) (by decide) (by decide)) (g := (mkF m 1 #[.val (.ref qb), .val (.int 42), .val (.int 0), .val (.int 3)] [(.int 42)])) rfl (by rw [hml]; rfl) (argsL := [(.int 42)]) (rest := []) (lenOf pd_6 rfl) rfl (by show 2 * 0 + _ ≤ _; exact Nat.le_of_eq rfl) (hb hby d12_1) (fun _ _ => ⟨rfl, e0, (by decide : 0 + 0 ≤ _), (by decide : 0 + 0 ≤ _)⟩)
  dsimp only [Pt.U, Pt.locs, Pt.cells, Pt.slots] at X2 l2 y2 z2 st2 hQ2
  subst l2 y2 z2
  obtain ⟨rfl, N2q, e2⟩ := hQ2
  have N2 := Fr.app N0 N2q
  have P2 : own_Go p e below S0 (T2.setTop (mkF m 4 #[.val (.ref qb), .val (.int 42), .val (.int 0), .val (.int 3)] [(.int 1)])) := fun t k => P1 t (st2 _ k)
  have P3 : own_Go p e below S0 (T2.setTop (mkF m 11 #[.val (.ref qb), .val (.int 42), .val (.int 0), .val (.int 3)] [(.int 0), (.int 0)])) := fun t k => P2 t (by
    refine XS.ifYes X2.here hx rfl (pc0 := 4) (pc' := 9) rfl (hb hby d12_4) rfl ((if0 _ _).trans (feq (by decide)).2) (by decide) (by decide) ?_
    refine XS.iloadN X2.here hx rfl (hb hby d12_9) rfl ?_
    refine XS.iconst X2.here hx rfl (hb hby d12_10) ?_
    show Steps p.tables e below (T2.setTop (mkF m 11 #[.val (.ref qb), .val (.int 42), .val (.int 0), .val (.int 3)] [(.int 0), (.int 0)])) t
    exact k)
  obtain ⟨_, _, ⟨T4, L4, k4, n4⟩, -, X4, ⟨Lc4, hQ4, l4, y4, z4⟩, st4⟩ := Jvm.LawKit.callS X2 hx (y := (⟨"java/lang/Math", "max", "(II)I"⟩ : MethodName)) hown (mvT hZ (own_w hw 76 rfl)) (mvT hZ (own_w hw 77 rfl)) (mvT hZ (own_w hw 78 rfl)) (mvT hZ (own_w hw 79 rfl)) (by decide) (backOf (W := 0) (rm14 l Z a0 hw []  h0 n0 Z0) hZ (own_w hw 79 rfl) (own_w hw 78 rfl) (by decide) (by decide)) (g := (mkF m 11 #[.val (.ref qb), .val (.int 42), .val (.int 0), .val (.int 3)] [(.int 0), (.int 0)])) rfl (by rw [hml]; rfl) (argsL := [(.int 0), (.int 0)]) (rest := []) (lenOf pd_7 rfl) rfl (by show 2 * 0 + _ ≤ _; exact Nat.le_of_eq rfl) (hb hby d12_11) (fun _ _ => ⟨rfl, e2, (by decide : 0 + 0 ≤ _), (by decide : 0 + 0 ≤ _)⟩)
  dsimp only [Pt.U, Pt.locs, Pt.cells, Pt.slots] at X4 l4 y4 z4 st4 hQ4
  subst l4 y4 z4
  obtain ⟨rfl, N4q, e4⟩ := hQ4
  have N4 := Fr.app N2 N4q
  have P4 : own_Go p e below S0 (T4.setTop (mkF m 14 #[.val (.ref qb), .val (.int 42), .val (.int 0), .val (.int 3)] [(.int 0)])) := fun t k => P3 t (st4 _ k)
  obtain ⟨cl5, Ar5, q5, Sz5, Nn5, Hh5, Gg5⟩ := id A_qb
  have P6 : own_Go p e below S0 (T4.setTop (mkF m 18 #[.val (.ref qb), .val (.int 42), .val (.int 0), .val (.int 3)] [(.int 3), (.int 3)])) := fun t k => P4 t (by
    refine XS.istoreN X4.here hx rfl (hb hby d12_14) rfl (l' := #[.val (.ref qb), .val (.int 42), .val (.int 0), .val (.int 3)]) rfl ?_
    refine XS.iloadN X4.here hx rfl (hb hby d12_15) rfl ?_
    refine XS.aloadN X4.here hx rfl (hb hby d12_16) rfl rfl ?_
    show Steps p.tables e below (T4.setTop (mkF m 17 #[.val (.ref qb), .val (.int 42), .val (.int 0), .val (.int 3)] [(.ref qb), (.int 3)])) t
    refine X4.arraylength hx (by rw [e4]; exact Ar5.1) (State.isArrayOf_alike hZ.alike Ar5.2.1) (g := (mkF m 17 #[.val (.ref qb), .val (.int 42), .val (.int 0), .val (.int 3)] [(.ref qb), (.int 3)])) rfl rfl (hb hby d12_17) _ ?_
    rw [len_of Sz5 Nn5]
    show Steps p.tables e below (T4.setTop (mkF m 18 #[.val (.ref qb), .val (.int 42), .val (.int 0), .val (.int 3)] [(.int 3), (.int 3)])) t
    exact k)
  obtain ⟨_, _, ⟨T7, L7, k7, n7⟩, -, X7, ⟨Lc7, hQ7, l7, y7, z7⟩, st7⟩ := Jvm.LawKit.callS X4 hx (y := (⟨"java/lang/Math", "min", "(II)I"⟩ : MethodName)) hown (mvT hZ (own_w hw 80 rfl)) (mvT hZ (own_w hw 81 rfl)) (mvT hZ (own_w hw 78 rfl)) (mvT hZ (own_w hw 82 rfl)) (by decide) (backOf (W := 0) (rm15n3 l Z a0 hw []  h0 n0 Z0) hZ (own_w hw 82 rfl) (own_w hw 78 rfl) (by decide) (by decide)) (g := (mkF m 18 #[.val (.ref qb), .val (.int 42), .val (.int 0), .val (.int 3)] [(.int 3), (.int 3)])) rfl (by rw [hml]; rfl) (argsL := [(.int 3), (.int 3)]) (rest := []) (lenOf pd_7 rfl) rfl (by show 2 * 0 + _ ≤ _; exact Nat.le_of_eq rfl) (hb hby d12_18) (fun _ _ => ⟨rfl, e4, (by decide : 0 + 0 ≤ _), (by decide : 0 + 0 ≤ _)⟩)
  dsimp only [Pt.U, Pt.locs, Pt.cells, Pt.slots] at X7 l7 y7 z7 st7 hQ7
  subst l7 y7 z7
  obtain ⟨rfl, N7q, e7⟩ := hQ7
  have N7 := Fr.app N4 N7q
  have P7 : own_Go p e below S0 (T7.setTop (mkF m 21 #[.val (.ref qb), .val (.int 42), .val (.int 0), .val (.int 3)] [(.int 3)])) := fun t k => P6 t (st7 _ k)
  have P8 : own_Go p e below S0 (T7.setTop (mkF m 33 #[.val (.ref qb), .val (.int 42), .val (.int 0), .val (.int 3)] [(.int 3), (.int 0), (.int 42), (.ref qb)])) := fun t k => P7 t (by
    refine XS.istoreN X7.here hx rfl (hb hby d12_21) rfl (l' := #[.val (.ref qb), .val (.int 42), .val (.int 0), .val (.int 3)]) rfl ?_
    refine XS.iloadN X7.here hx rfl (hb hby d12_22) rfl ?_
    refine XS.iloadN X7.here hx rfl (hb hby d12_23) rfl ?_
    refine XS.icmpYes X7.here hx rfl (pc0 := 24) (pc' := 29) rfl (hb hby d12_24) rfl (tlt (by decide)).1 (by decide) (by decide) ?_
    refine XS.aloadN X7.here hx rfl (hb hby d12_29) rfl rfl ?_
    refine XS.iloadN X7.here hx rfl (hb hby d12_30) rfl ?_
    show Steps p.tables e below (T7.setTop (mkF m 31 #[.val (.ref qb), .val (.int 42), .val (.int 0), .val (.int 3)] [(.int 42), (.ref qb)])) t
    refine XS.iloadN X7.here hx rfl (hb hby d12_31) rfl ?_
    refine XS.iloadN X7.here hx rfl (hb hby d12_32) rfl ?_
    show Steps p.tables e below (T7.setTop (mkF m 33 #[.val (.ref qb), .val (.int 42), .val (.int 0), .val (.int 3)] [(.int 3), (.int 0), (.int 42), (.ref qb)])) t
    exact k)
  obtain ⟨_, _, ⟨T9, L9, k9, n9⟩, -, X9, ⟨Lc9, hQ9, l9, y9, z9⟩, st9⟩ := Jvm.LawKit.callS X7 hx (y := (⟨"java/lang/StringLatin1", "indexOfChar", "([BIII)I"⟩ : MethodName)) hown (mvT hZ (own_w hw 97 rfl)) (mvT hZ (own_w hw 98 rfl)) (mvT hZ (own_w hw 71 rfl)) (mvT hZ (own_w hw 99 rfl)) (by decide) (backOf (W := 0) (rm20n3c42 l Z a0 hw [] qb kb y0 y1 y2 h0 n0 Z0 A_qb) hZ (own_w hw 99 rfl) (own_w hw 71 rfl) (by decide) (by decide)) (g := (mkF m 33 #[.val (.ref qb), .val (.int 42), .val (.int 0), .val (.int 3)] [(.int 3), (.int 0), (.int 42), (.ref qb)])) rfl (by rw [hml]; rfl) (argsL := [(.ref qb), (.int 42), (.int 0), (.int 3)]) (rest := []) (lenOf pd_10 rfl) rfl (by show 2 * 0 + _ ≤ _; exact Nat.le_of_eq rfl) (hb hby d12_33) (fun _ _ => ⟨rfl, e7, (by decide : 0 + 0 ≤ _), (by decide : 0 + 0 ≤ _)⟩)
  dsimp only [Pt.U, Pt.locs, Pt.cells, Pt.slots] at X9 l9 y9 z9 st9 hQ9
  subst l9 y9 z9
  obtain ⟨rfl, N9q, e9⟩ := hQ9
  have N9 := Fr.app N7 N9q
  have P9 : own_Go p e below S0 (T9.setTop (mkF m 36 #[.val (.ref qb), .val (.int 42), .val (.int 0), .val (.int 3)] [(.int (r20n3c42 y0 y1 y2))])) := fun t k => P8 t (st9 _ k)
  obtain ⟨fs, hr, hrun, hended, hW, hsame⟩ := X9.leave (v := some (.int (r20n3c42 y0 y1 y2))) (fun h => by rw [Bd.returns] at h; cases h) (BodyLoose.notSynchronized Bd)
  refine ⟨_, _, own_from hE0 (P9 _ ?_), hrun, hended, _, _, rfl, ?_, ⟨_, rfl⟩, hW, hsame.mono (by decide) (by decide)⟩
  · show Steps p.tables e below (T9.setTop (mkF m 36 #[.val (.ref qb), .val (.int 42), .val (.int 0), .val (.int 3)] [(.int (r20n3c42 y0 y1 y2))])) _
    exact retI X9 hx Bd.returns (hb hby d12_36) hr
  · show Q12n3c42 Z qb kb y0 y1 y2 h0 n0 _ T9.heap _
    rw [e9]
    exact ⟨rfl, N9, rfl⟩
theorem ef_8n3c42 (m : MethodId) (q8n3c42_0 : Addr) : entryFrame m #[(.ref q8n3c42_0), (.int 42), (.int 0)] 3 = mkF m 0 #[.val (.ref q8n3c42_0), .val (.int 42), .val (.int 0)] [] := by first | (simp [entryFrame, mkF, argsToLocals, Value.category]; done) | rfl
def Q8n3c42 (Z : State) (q8n3c42_0 : Addr) (qb : Addr) (kb : ClassId) (y0 : Int32) (y1 : Int32) (y2 : Int32) (zc : Int32) (h0 : Heap) (n0 : Nat) (v : Option Value) (h : Heap) (L : List Loc) : Prop := v = some (.int (r20n3c42 y0 y1 y2)) ∧ Fr n0 L ∧ h = h0
set_option maxRecDepth 65536 in
set_option maxHeartbeats 40000000 in
theorem rm8n3c42 (l : Launch) (Z : State) (a0 : Array Value) (hw : ∀ d ∈ tables_1, d.before a0 Z = true) (ws : List Jvm.Cond) (q8n3c42_0 : Addr) (qb : Addr) (kb : ClassId) (y0 : Int32) (y1 : Int32) (y2 : Int32) (zc : Int32) (h0 : Heap) (n0 : Nat) (Z0 : n0 ≤ h0.size) (F_q8n3c42_0_value : Fld Z h0 q8n3c42_0 "java/lang/String" "value" "[B" (.ref qb)) (A_qb : Arv Z h0 qb kb .byte (3 : Int32) [(.int y0), (.int y1), (.int y2)] (.int 0)) (S_COMPACT_STRINGS : Sta Z h0 "java/lang/String" "COMPACT_STRINGS" "Z" (.int zc)) (hcs : ¬ (zc = (0 : Int32))) (F_q8n3c42_0_coder : Fld Z h0 q8n3c42_0 "java/lang/String" "coder" "B" (.int 0)) (E_q8n3c42_0 : Exa Z h0 q8n3c42_0 "java/lang/String") :
    MetFree l (⟨"java/lang/String", "indexOf", "(II)I"⟩ : MethodName) (head1 (Jvm.Cond.code (⟨"java/lang/String", "indexOf", "(II)I"⟩ : MethodName) jdk_42_method_80_code 3 (some .int) :: ws) ({ frames := 2, cells := 0, slots := 0, locals := 32 } : Room)) (fun a U => a = #[(.ref q8n3c42_0), (.int 42), (.int 0)] ∧ Z.Warmed39 U.vm ∧ U.heap = h0) (fun _ _ _ _ _ => True) (fun _ U o U' => ∃ v L, o = .returned v ∧ Q8n3c42 Z q8n3c42_0 qb kb y0 y1 y2 zc h0 n0 v U'.heap L ∧ FrameEnd U o U' L ({ frames := 2, cells := 0, slots := 0, locals := 32 } : Room).cells ({ frames := 2, cells := 0, slots := 0, locals := 32 } : Room).slots) := by
  refine MetFree.of_bodySF (plainFor_of_name pn_2) hisR ?_
  intro p e s m args below meth c s₁ Bd hml0 hP hK
  obtain ⟨rfl, hZ, hh⟩ := hP
  have hx := Bd.exec
  have hby := Bd.bytes
  have hml : c.maxLocals = 3 := hml0
  have hown : s.vm.findClass "java/lang/String" = some m.cls := findClass_of_methodNamed Bd.named
  have hnm := (name_of_methodNamed Bd.named Bd.method).1
  have X0 : Stand p l e ({ frames := 2, cells := 0, slots := 0, locals := 32 } : Room) s m #[(.ref q8n3c42_0), (.int 42), (.int 0)] below meth c s₁ [] 0 0 := Stand.of_body Bd
  have e0 : s₁.heap = h0 := by rw [← hh, Bd.state]; rfl
  have N0 := Fr.nil n0
  obtain ⟨S0, hE0⟩ : ∃ z, z = s₁.setTop (entryFrame m #[(.ref q8n3c42_0), (.int 42), (.int 0)] 3) := ⟨_, rfl⟩
  have P0 : own_Go p e below S0 (s₁.setTop (mkF m 0 #[.val (.ref q8n3c42_0), .val (.int 42), .val (.int 0)] [])) := fun t k => by rw [hE0]; exact castTop (ef_8n3c42 m q8n3c42_0) k
  have P1 : own_Go p e below S0 (s₁.setTop (mkF m 1 #[.val (.ref q8n3c42_0), .val (.int 42), .val (.int 0)] [(.ref q8n3c42_0)])) := fun t k => P0 t (by
    refine XS.aloadN X0.here hx rfl (hb hby d8_0) rfl rfl ?_
    show Steps p.tables e below (s₁.setTop (mkF m 1 #[.val (.ref q8n3c42_0), .val (.int 42), .val (.int 0)] [(.ref q8n3c42_0)])) t
    exact k)
  obtain ⟨cq2, kq2, q2a, q2b, q2c⟩ := isOf hZ e0 E_q8n3c42_0
  obtain ⟨_, _, ⟨T2, L2, k2, n2⟩, -, X2, ⟨Lc2, hQ2, l2, y2, z2⟩, st2⟩ := X0.virtualBack hx (y := (⟨"java/lang/String", "isLatin1", "()Z"⟩ : MethodName)) (z := (⟨"java/lang/String", "isLatin1", "()Z"⟩ : MethodName)) hown (mvT hZ (own_w hw 53 rfl)) (mvT hZ (own_w hw 54 rfl)) (notFace_of_selects (args := #[]) (mvT hZ (own_w hw 56 rfl))) (mvT hZ (own_w hw 56 rfl)) (mvT hZ (own_w hw 55 rfl)) (by decide) (backOf (W := 0) (rm9 l Z a0 hw [] q8n3c42_0 zc h0 n0 Z0 S_COMPACT_STRINGS hcs F_q8n3c42_0_coder) hZ (own_w hw 57 rfl) (own_w hw 7 rfl) (by decide) (by decide)) q2a q2c (g := (mkF m 1 #[.val (.ref q8n3c42_0), .val (.int 42), .val (.int 0)] [(.ref q8n3c42_0)])) rfl (by rw [hml]; rfl) (Steps.refl _) (argsL := []) (rest := []) (lenOf pd_8 rfl) rfl (by show 2 * 0 + _ ≤ _; exact Nat.le_of_eq rfl) (hb hby d8_1) (fun _ _ => ⟨rfl, e0, (by decide : 0 + 0 ≤ _), (by decide : 0 + 0 ≤ _)⟩)
  dsimp only [Pt.U, Pt.locs, Pt.cells, Pt.slots] at X2 l2 y2 z2 st2 hQ2
  subst l2 y2 z2
  obtain ⟨rfl, N2q, e2⟩ := hQ2
  have N2 := Fr.app N0 N2q
  have P2 : own_Go p e below S0 (T2.setTop (mkF m 4 #[.val (.ref q8n3c42_0), .val (.int 42), .val (.int 0)] [(.int 1)])) := fun t k => P1 t (st2.trans k)
  have P3 : own_Go p e below S0 (T2.setTop (mkF m 8 #[.val (.ref q8n3c42_0), .val (.int 42), .val (.int 0)] [(.ref q8n3c42_0)])) := fun t k => P2 t (by
    refine XS.ifNo X2.here hx rfl (hb hby d8_4) rfl ((if0 _ _).trans (feq (by decide)).1) ?_
    refine XS.aloadN X2.here hx rfl (hb hby d8_7) rfl rfl ?_
    show Steps p.tables e below (T2.setTop (mkF m 8 #[.val (.ref q8n3c42_0), .val (.int 42), .val (.int 0)] [(.ref q8n3c42_0)])) t
    exact k)
  obtain ⟨T4, X4, e4, st4⟩ := getF X2 hx hZ hown (host := "") (Or.inl (own_w hw 24 rfl)) Via.refl e2 F_q8n3c42_0_value (g := (mkF m 8 #[.val (.ref q8n3c42_0), .val (.int 42), .val (.int 0)] [(.ref q8n3c42_0)])) rfl rfl (hb hby d8_8)
  have P4 : own_Go p e below S0 (T4.setTop (mkF m 11 #[.val (.ref q8n3c42_0), .val (.int 42), .val (.int 0)] [(.ref qb)])) := fun t k => P3 t (st4 _ k)
  have P5 : own_Go p e below S0 (T4.setTop (mkF m 14 #[.val (.ref q8n3c42_0), .val (.int 42), .val (.int 0)] [(.ref q8n3c42_0), (.int 0), (.int 42), (.ref qb)])) := fun t k => P4 t (by
    refine XS.iloadN X4.here hx rfl (hb hby d8_11) rfl ?_
    refine XS.iloadN X4.here hx rfl (hb hby d8_12) rfl ?_
    refine XS.aloadN X4.here hx rfl (hb hby d8_13) rfl rfl ?_
    show Steps p.tables e below (T4.setTop (mkF m 14 #[.val (.ref q8n3c42_0), .val (.int 42), .val (.int 0)] [(.ref q8n3c42_0), (.int 0), (.int 42), (.ref qb)])) t
    exact k)
  obtain ⟨cq6, kq6, q6a, q6b, q6c⟩ := isOf hZ e4 E_q8n3c42_0
  obtain ⟨_, _, ⟨T6, L6, k6, n6⟩, -, X6, ⟨Lc6, hQ6, l6, y6, z6⟩, st6⟩ := X4.virtualBack hx (y := (⟨"java/lang/String", "length", "()I"⟩ : MethodName)) (z := (⟨"java/lang/String", "length", "()I"⟩ : MethodName)) hown (mvT hZ (own_w hw 59 rfl)) (mvT hZ (own_w hw 60 rfl)) (notFace_of_selects (args := #[]) (mvT hZ (own_w hw 62 rfl))) (mvT hZ (own_w hw 62 rfl)) (mvT hZ (own_w hw 61 rfl)) (by decide) (backOf (W := 3) (rm10n3 l Z a0 hw [] q8n3c42_0 qb kb y0 y1 y2 zc h0 n0 Z0 F_q8n3c42_0_value A_qb S_COMPACT_STRINGS hcs F_q8n3c42_0_coder E_q8n3c42_0) hZ (own_w hw 63 rfl) (own_w hw 7 rfl) (by decide) (by decide)) q6a q6c (g := (mkF m 14 #[.val (.ref q8n3c42_0), .val (.int 42), .val (.int 0)] [(.ref q8n3c42_0), (.int 0), (.int 42), (.ref qb)])) rfl (by rw [hml]; rfl) (Steps.refl _) (argsL := []) (rest := [(.int 0), (.int 42), (.ref qb)]) (lenOf pd_9 rfl) rfl (by show 2 * 0 + _ ≤ _; exact Nat.le_of_eq rfl) (hb hby d8_14) (fun _ _ => ⟨rfl, e4, (by decide : 0 + 0 ≤ _), (by decide : 0 + 0 ≤ _)⟩)
  dsimp only [Pt.U, Pt.locs, Pt.cells, Pt.slots] at X6 l6 y6 z6 st6 hQ6
  subst l6 y6 z6
  obtain ⟨rfl, N6q, e6⟩ := hQ6
  have N6 := Fr.app N2 N6q
  have P6 : own_Go p e below S0 (T6.setTop (mkF m 17 #[.val (.ref q8n3c42_0), .val (.int 42), .val (.int 0)] [(.int 3), (.int 0), (.int 42), (.ref qb)])) := fun t k => P5 t (st6.trans k)
  obtain ⟨_, _, ⟨T7, L7, k7, n7⟩, -, X7, ⟨Lc7, hQ7, l7, y7, z7⟩, st7⟩ := Jvm.LawKit.callS X6 hx (y := (⟨"java/lang/StringLatin1", "indexOf", "([BIII)I"⟩ : MethodName)) hown (mvT hZ (own_w hw 69 rfl)) (mvT hZ (own_w hw 70 rfl)) (mvT hZ (own_w hw 71 rfl)) (mvT hZ (own_w hw 72 rfl)) (by decide) (backOf (W := 0) (rm12n3c42 l Z a0 hw [] qb kb y0 y1 y2 h0 n0 Z0 A_qb) hZ (own_w hw 72 rfl) (own_w hw 71 rfl) (by decide) (by decide)) (g := (mkF m 17 #[.val (.ref q8n3c42_0), .val (.int 42), .val (.int 0)] [(.int 3), (.int 0), (.int 42), (.ref qb)])) rfl (by rw [hml]; rfl) (argsL := [(.ref qb), (.int 42), (.int 0), (.int 3)]) (rest := []) (lenOf pd_10 rfl) rfl (by show 2 * 0 + _ ≤ _; exact Nat.le_of_eq rfl) (hb hby d8_17) (fun _ _ => ⟨rfl, e6, (by decide : 0 + 0 ≤ _), (by decide : 0 + 0 ≤ _)⟩)
  dsimp only [Pt.U, Pt.locs, Pt.cells, Pt.slots] at X7 l7 y7 z7 st7 hQ7
  subst l7 y7 z7
  obtain ⟨rfl, N7q, e7⟩ := hQ7
  have N7 := Fr.app N6 N7q
  have P7 : own_Go p e below S0 (T7.setTop (mkF m 20 #[.val (.ref q8n3c42_0), .val (.int 42), .val (.int 0)] [(.int (r20n3c42 y0 y1 y2))])) := fun t k => P6 t (st7 _ k)
  have P8 : own_Go p e below S0 (T7.setTop (mkF m 36 #[.val (.ref q8n3c42_0), .val (.int 42), .val (.int 0)] [(.int (r20n3c42 y0 y1 y2))])) := fun t k => P7 t (by
    refine XS.goto X7.here hx rfl (pc0 := 20) (pc' := 36) rfl (hb hby d8_20) (by decide) (by decide) ?_
    show Steps p.tables e below (T7.setTop (mkF m 36 #[.val (.ref q8n3c42_0), .val (.int 42), .val (.int 0)] [(.int (r20n3c42 y0 y1 y2))])) t
    exact k)
  obtain ⟨fs, hr, hrun, hended, hW, hsame⟩ := X7.leave (v := some (.int (r20n3c42 y0 y1 y2))) (fun h => by rw [Bd.returns] at h; cases h) (BodyLoose.notSynchronized Bd)
  refine ⟨_, _, own_from hE0 (P8 _ ?_), hrun, hended, _, _, rfl, ?_, ⟨_, rfl⟩, hW, hsame.mono (by decide) (by decide)⟩
  · show Steps p.tables e below (T7.setTop (mkF m 36 #[.val (.ref q8n3c42_0), .val (.int 42), .val (.int 0)] [(.int (r20n3c42 y0 y1 y2))])) _
    exact retI X7 hx Bd.returns (hb hby d8_36) hr
  · show Q8n3c42 Z q8n3c42_0 qb kb y0 y1 y2 zc h0 n0 _ T7.heap _
    rw [e7]
    exact ⟨rfl, N7, rfl⟩
theorem ef_7n3c42 (m : MethodId) (q7n3c42_0 : Addr) : entryFrame m #[(.ref q7n3c42_0), (.int 42)] 2 = mkF m 0 #[.val (.ref q7n3c42_0), .val (.int 42)] [] := by first | (simp [entryFrame, mkF, argsToLocals, Value.category]; done) | rfl
def Q7n3c42 (Z : State) (q7n3c42_0 : Addr) (qb : Addr) (kb : ClassId) (y0 : Int32) (y1 : Int32) (y2 : Int32) (zc : Int32) (h0 : Heap) (n0 : Nat) (v : Option Value) (h : Heap) (L : List Loc) : Prop := v = some (.int (r20n3c42 y0 y1 y2)) ∧ Fr n0 L ∧ h = h0
set_option maxRecDepth 65536 in
set_option maxHeartbeats 40000000 in
theorem rm7n3c42 (l : Launch) (Z : State) (a0 : Array Value) (hw : ∀ d ∈ tables_1, d.before a0 Z = true) (ws : List Jvm.Cond) (q7n3c42_0 : Addr) (qb : Addr) (kb : ClassId) (y0 : Int32) (y1 : Int32) (y2 : Int32) (zc : Int32) (h0 : Heap) (n0 : Nat) (Z0 : n0 ≤ h0.size) (F_q7n3c42_0_value : Fld Z h0 q7n3c42_0 "java/lang/String" "value" "[B" (.ref qb)) (A_qb : Arv Z h0 qb kb .byte (3 : Int32) [(.int y0), (.int y1), (.int y2)] (.int 0)) (S_COMPACT_STRINGS : Sta Z h0 "java/lang/String" "COMPACT_STRINGS" "Z" (.int zc)) (hcs : ¬ (zc = (0 : Int32))) (F_q7n3c42_0_coder : Fld Z h0 q7n3c42_0 "java/lang/String" "coder" "B" (.int 0)) (E_q7n3c42_0 : Exa Z h0 q7n3c42_0 "java/lang/String") :
    MetFree l (⟨"java/lang/String", "indexOf", "(I)I"⟩ : MethodName) (head1 (Jvm.Cond.code (⟨"java/lang/String", "indexOf", "(I)I"⟩ : MethodName) jdk_42_method_79_code 2 (some .int) :: ws) ({ frames := 3, cells := 0, slots := 0, locals := 46 } : Room)) (fun a U => a = #[(.ref q7n3c42_0), (.int 42)] ∧ Z.Warmed39 U.vm ∧ U.heap = h0) (fun _ _ _ _ _ => True) (fun _ U o U' => ∃ v L, o = .returned v ∧ Q7n3c42 Z q7n3c42_0 qb kb y0 y1 y2 zc h0 n0 v U'.heap L ∧ FrameEnd U o U' L ({ frames := 3, cells := 0, slots := 0, locals := 46 } : Room).cells ({ frames := 3, cells := 0, slots := 0, locals := 46 } : Room).slots) := by
  refine MetFree.of_bodySF (plainFor_of_name pn_2) hisR ?_
  intro p e s m args below meth c s₁ Bd hml0 hP hK
  obtain ⟨rfl, hZ, hh⟩ := hP
  have hx := Bd.exec
  have hby := Bd.bytes
  have hml : c.maxLocals = 2 := hml0
  have hown : s.vm.findClass "java/lang/String" = some m.cls := findClass_of_methodNamed Bd.named
  have hnm := (name_of_methodNamed Bd.named Bd.method).1
  have X0 : Stand p l e ({ frames := 3, cells := 0, slots := 0, locals := 46 } : Room) s m #[(.ref q7n3c42_0), (.int 42)] below meth c s₁ [] 0 0 := Stand.of_body Bd
  have e0 : s₁.heap = h0 := by rw [← hh, Bd.state]; rfl
  have N0 := Fr.nil n0
  obtain ⟨S0, hE0⟩ : ∃ z, z = s₁.setTop (entryFrame m #[(.ref q7n3c42_0), (.int 42)] 2) := ⟨_, rfl⟩
  have P0 : own_Go p e below S0 (s₁.setTop (mkF m 0 #[.val (.ref q7n3c42_0), .val (.int 42)] [])) := fun t k => by rw [hE0]; exact castTop (ef_7n3c42 m q7n3c42_0) k
  have P1 : own_Go p e below S0 (s₁.setTop (mkF m 3 #[.val (.ref q7n3c42_0), .val (.int 42)] [(.int 0), (.int 42), (.ref q7n3c42_0)])) := fun t k => P0 t (by
    refine XS.aloadN X0.here hx rfl (hb hby d7_0) rfl rfl ?_
    refine XS.iloadN X0.here hx rfl (hb hby d7_1) rfl ?_
    refine XS.iconst X0.here hx rfl (hb hby d7_2) ?_
    show Steps p.tables e below (s₁.setTop (mkF m 3 #[.val (.ref q7n3c42_0), .val (.int 42)] [(.int 0), (.int 42), (.ref q7n3c42_0)])) t
    exact k)
  obtain ⟨cq2, kq2, q2a, q2b, q2c⟩ := isOf hZ e0 E_q7n3c42_0
  obtain ⟨_, _, ⟨T2, L2, k2, n2⟩, -, X2, ⟨Lc2, hQ2, l2, y2, z2⟩, st2⟩ := X0.virtualBack hx (y := (⟨"java/lang/String", "indexOf", "(II)I"⟩ : MethodName)) (z := (⟨"java/lang/String", "indexOf", "(II)I"⟩ : MethodName)) hown (mvT hZ (own_w hw 48 rfl)) (mvT hZ (own_w hw 49 rfl)) (notFace_of_selects (args := #[]) (mvT hZ (own_w hw 51 rfl))) (mvT hZ (own_w hw 51 rfl)) (mvT hZ (own_w hw 50 rfl)) (by decide) (backOf (W := 0) (rm8n3c42 l Z a0 hw [] q7n3c42_0 qb kb y0 y1 y2 zc h0 n0 Z0 F_q7n3c42_0_value A_qb S_COMPACT_STRINGS hcs F_q7n3c42_0_coder E_q7n3c42_0) hZ (own_w hw 52 rfl) (own_w hw 7 rfl) (by decide) (by decide)) q2a q2c (g := (mkF m 3 #[.val (.ref q7n3c42_0), .val (.int 42)] [(.int 0), (.int 42), (.ref q7n3c42_0)])) rfl (by rw [hml]; rfl) (Steps.refl _) (argsL := [(.int 42), (.int 0)]) (rest := []) (lenOf pd_7 rfl) rfl (by show 2 * 0 + _ ≤ _; exact Nat.le_of_eq rfl) (hb hby d7_3) (fun _ _ => ⟨rfl, e0, (by decide : 0 + 0 ≤ _), (by decide : 0 + 0 ≤ _)⟩)
  dsimp only [Pt.U, Pt.locs, Pt.cells, Pt.slots] at X2 l2 y2 z2 st2 hQ2
  subst l2 y2 z2
  obtain ⟨rfl, N2q, e2⟩ := hQ2
  have N2 := Fr.app N0 N2q
  have P2 : own_Go p e below S0 (T2.setTop (mkF m 6 #[.val (.ref q7n3c42_0), .val (.int 42)] [(.int (r20n3c42 y0 y1 y2))])) := fun t k => P1 t (st2.trans k)
  obtain ⟨fs, hr, hrun, hended, hW, hsame⟩ := X2.leave (v := some (.int (r20n3c42 y0 y1 y2))) (fun h => by rw [Bd.returns] at h; cases h) (BodyLoose.notSynchronized Bd)
  refine ⟨_, _, own_from hE0 (P2 _ ?_), hrun, hended, _, _, rfl, ?_, ⟨_, rfl⟩, hW, hsame.mono (by decide) (by decide)⟩
  · show Steps p.tables e below (T2.setTop (mkF m 6 #[.val (.ref q7n3c42_0), .val (.int 42)] [(.int (r20n3c42 y0 y1 y2))])) _
    exact retI X2 hx Bd.returns (hb hby d7_6) hr
  · show Q7n3c42 Z q7n3c42_0 qb kb y0 y1 y2 zc h0 n0 _ T2.heap _
    rw [e2]
    exact ⟨rfl, N2, rfl⟩
theorem ef_20n3c63 (m : MethodId) (qb : Addr) : entryFrame m #[(.ref qb), (.int 63), (.int 0), (.int 3)] 6 = mkF m 0 #[.val (.ref qb), .val (.int 63), .val (.int 0), .val (.int 3), .unset, .unset] [] := by first | (simp [entryFrame, mkF, argsToLocals, Value.category]; done) | rfl
def r20n3c63 (y0 : Int32) (y1 : Int32) (y2 : Int32) : Int32 := (if y0 = (63 : Int32) then (0 : Int32) else (if y1 = (63 : Int32) then (1 : Int32) else (if y2 = (63 : Int32) then (2 : Int32) else (-1 : Int32))))
def Q20n3c63 (Z : State) (qb : Addr) (kb : ClassId) (y0 : Int32) (y1 : Int32) (y2 : Int32) (h0 : Heap) (n0 : Nat) (v : Option Value) (h : Heap) (L : List Loc) : Prop := v = some (.int (r20n3c63 y0 y1 y2)) ∧ Fr n0 L ∧ h = h0
set_option maxRecDepth 65536 in
set_option maxHeartbeats 40000000 in
theorem rm20n3c63 (l : Launch) (Z : State) (a0 : Array Value) (hw : ∀ d ∈ tables_1, d.before a0 Z = true) (ws : List Jvm.Cond) (qb : Addr) (kb : ClassId) (y0 : Int32) (y1 : Int32) (y2 : Int32) (h0 : Heap) (n0 : Nat) (Z0 : n0 ≤ h0.size) (A_qb : Arv Z h0 qb kb .byte (3 : Int32) [(.int y0), (.int y1), (.int y2)] (.int 0)) :
    MetFree l (⟨"java/lang/StringLatin1", "indexOfChar", "([BIII)I"⟩ : MethodName) (head1 (Jvm.Cond.code (⟨"java/lang/StringLatin1", "indexOfChar", "([BIII)I"⟩ : MethodName) jdk_43_method_23_code 6 (some .int) :: ws) ({ frames := 0, cells := 0, slots := 0, locals := 0 } : Room)) (fun a U => a = #[(.ref qb), (.int 63), (.int 0), (.int 3)] ∧ Z.Warmed39 U.vm ∧ U.heap = h0) (fun _ _ _ _ _ => True) (fun _ U o U' => ∃ v L, o = .returned v ∧ Q20n3c63 Z qb kb y0 y1 y2 h0 n0 v U'.heap L ∧ FrameEnd U o U' L ({ frames := 0, cells := 0, slots := 0, locals := 0 } : Room).cells ({ frames := 0, cells := 0, slots := 0, locals := 0 } : Room).slots) := by
  refine MetFree.of_bodySF (plainFor_of_name pn_13) hisR ?_
  intro p e s m args below meth c s₁ Bd hml0 hP hK
  obtain ⟨rfl, hZ, hh⟩ := hP
  have hx := Bd.exec
  have hby := Bd.bytes
  have hml : c.maxLocals = 6 := hml0
  have hown : s.vm.findClass "java/lang/StringLatin1" = some m.cls := findClass_of_methodNamed Bd.named
  have hnm := (name_of_methodNamed Bd.named Bd.method).1
  have X0 : Stand p l e ({ frames := 0, cells := 0, slots := 0, locals := 0 } : Room) s m #[(.ref qb), (.int 63), (.int 0), (.int 3)] below meth c s₁ [] 0 0 := Stand.of_body Bd
  have e0 : s₁.heap = h0 := by rw [← hh, Bd.state]; rfl
  have N0 := Fr.nil n0
  obtain ⟨S0, hE0⟩ : ∃ z, z = s₁.setTop (entryFrame m #[(.ref qb), (.int 63), (.int 0), (.int 3)] 6) := ⟨_, rfl⟩
  have P0 : own_Go p e below S0 (s₁.setTop (mkF m 0 #[.val (.ref qb), .val (.int 63), .val (.int 0), .val (.int 3), .unset, .unset] [])) := fun t k => by rw [hE0]; exact castTop (ef_20n3c63 m qb) k
  obtain ⟨cl1, Ar1, q1, Sz1, Nn1, Hh1, Gg1⟩ := id A_qb
  have hin1 : ¬ ((0 : Int32) < 0 ∨ cl1.slots.size ≤ ((0 : Int32)).toNatClampNeg) := inb_of Sz1 ⟨by decide, by decide⟩
  have hat1 : cl1.slots[((0 : Int32)).toNatClampNeg]? = some (.int y0) := Has.at Hh1 hin1 rfl
  have P2 : own_Go p e below S0 (s₁.setTop (mkF m 19 #[.val (.ref qb), .val (.int 63), .val (.int 0), .val (.int 3), .val (.int 63), .val (.int 0)] [(.int 63), (.int y0)])) := fun t k => P0 t (by
    refine XS.iloadN X0.here hx rfl (hb hby d20_0) rfl ?_
    refine XS.i2b X0.here hx rfl (hb hby d20_1) rfl ?_
    refine XS.istore X0.here hx rfl (hb hby d20_2) rfl (l' := #[.val (.ref qb), .val (.int 63), .val (.int 0), .val (.int 3), .val (.int 63), .unset]) rfl ?_
    refine XS.iloadN X0.here hx rfl (hb hby d20_4) rfl ?_
    refine XS.istore X0.here hx rfl (hb hby d20_5) rfl (l' := #[.val (.ref qb), .val (.int 63), .val (.int 0), .val (.int 3), .val (.int 63), .val (.int 0)]) rfl ?_
    refine XS.iload X0.here hx rfl (hb hby d20_7) rfl ?_
    show Steps p.tables e below (s₁.setTop (mkF m 9 #[.val (.ref qb), .val (.int 63), .val (.int 0), .val (.int 3), .val (.int 63), .val (.int 0)] [(.int 0)])) t
    refine XS.iloadN X0.here hx rfl (hb hby d20_9) rfl ?_
    refine XS.icmpNo X0.here hx rfl (hb hby d20_10) rfl (tlt (by decide)).2.1 ?_
    refine XS.aloadN X0.here hx rfl (hb hby d20_13) rfl rfl ?_
    refine XS.iload X0.here hx rfl (hb hby d20_14) rfl ?_
    show Steps p.tables e below (s₁.setTop (mkF m 16 #[.val (.ref qb), .val (.int 63), .val (.int 0), .val (.int 3), .val (.int 63), .val (.int 0)] [(.int 0), (.ref qb)])) t
    refine X0.baloadBytes hx (j := (0 : Int32)) (v := (.int y0)) (by rw [e0]; exact Ar1.1) (State.isArrayOf_alike hZ.alike Ar1.2.1) Ar1.2.2 hin1 hat1 (g := (mkF m 16 #[.val (.ref qb), .val (.int 63), .val (.int 0), .val (.int 3), .val (.int 63), .val (.int 0)] [(.int 0), (.ref qb)])) rfl rfl (hb hby d20_16) _ ?_
    refine XS.iload X0.here hx rfl (hb hby d20_17) rfl ?_
    show Steps p.tables e below (s₁.setTop (mkF m 19 #[.val (.ref qb), .val (.int 63), .val (.int 0), .val (.int 3), .val (.int 63), .val (.int 0)] [(.int 63), (.int y0)])) t
    exact k)
  by_cases c3 : y0 = (63 : Int32)
  · skip
    have P4 : own_Go p e below S0 (s₁.setTop (mkF m 24 #[.val (.ref qb), .val (.int 63), .val (.int 0), .val (.int 3), .val (.int 63), .val (.int 0)] [(.int 0)])) := fun t k => P2 t (by
      refine XS.icmpNo X0.here hx rfl (hb hby d20_19) rfl (teq c3).2 ?_
      refine XS.iload X0.here hx rfl (hb hby d20_22) rfl ?_
      show Steps p.tables e below (s₁.setTop (mkF m 24 #[.val (.ref qb), .val (.int 63), .val (.int 0), .val (.int 3), .val (.int 63), .val (.int 0)] [(.int 0)])) t
      exact k)
    obtain ⟨fs, hr, hrun, hended, hW, hsame⟩ := X0.leave (v := some (.int 0)) (fun h => by rw [Bd.returns] at h; cases h) (BodyLoose.notSynchronized Bd)
    refine ⟨_, _, own_from hE0 (P4 _ ?_), hrun, hended, _, _, rfl, ?_, ⟨_, rfl⟩, hW, hsame.mono (by decide) (by decide)⟩
    · show Steps p.tables e below (s₁.setTop (mkF m 24 #[.val (.ref qb), .val (.int 63), .val (.int 0), .val (.int 3), .val (.int 63), .val (.int 0)] [(.int 0)])) _
      exact retI X0 hx Bd.returns (hb hby d20_24) hr
    · show Q20n3c63 Z qb kb y0 y1 y2 h0 n0 _ s₁.heap _
      rw [e0]
      exact ⟨(congrArg (fun z => some (Value.int z)) (Eq.symm (if_pos c3))), N0, rfl⟩
  · skip
    obtain ⟨cl5, Ar5, q5, Sz5, Nn5, Hh5, Gg5⟩ := id A_qb
    have hin5 : ¬ ((1 : Int32) < 0 ∨ cl5.slots.size ≤ ((1 : Int32)).toNatClampNeg) := inb_of Sz5 ⟨by decide, by decide⟩
    have hat5 : cl5.slots[((1 : Int32)).toNatClampNeg]? = some (.int y1) := Has.at Hh5 hin5 rfl
    have P6 : own_Go p e below S0 (s₁.setTop (mkF m 19 #[.val (.ref qb), .val (.int 63), .val (.int 0), .val (.int 3), .val (.int 63), .val (.int 1)] [(.int 63), (.int y1)])) := fun t k => P2 t (by
      refine XS.icmpYes X0.here hx rfl (pc0 := 19) (pc' := 25) rfl (hb hby d20_19) rfl (feq c3).2 (by decide) (by decide) ?_
      refine XS.iinc X0.here hx rfl (hb hby d20_25) rfl (l' := #[.val (.ref qb), .val (.int 63), .val (.int 0), .val (.int 3), .val (.int 63), .val (.int 1)]) rfl ?_
      refine XS.goto X0.here hx rfl (pc0 := 28) (pc' := 7) rfl (hb hby d20_28) (by decide) (by decide) ?_
      refine XS.iload X0.here hx rfl (hb hby d20_7) rfl ?_
      refine XS.iloadN X0.here hx rfl (hb hby d20_9) rfl ?_
      refine XS.icmpNo X0.here hx rfl (hb hby d20_10) rfl (tlt (by decide)).2.1 ?_
      show Steps p.tables e below (s₁.setTop (mkF m 13 #[.val (.ref qb), .val (.int 63), .val (.int 0), .val (.int 3), .val (.int 63), .val (.int 1)] [])) t
      refine XS.aloadN X0.here hx rfl (hb hby d20_13) rfl rfl ?_
      refine XS.iload X0.here hx rfl (hb hby d20_14) rfl ?_
      show Steps p.tables e below (s₁.setTop (mkF m 16 #[.val (.ref qb), .val (.int 63), .val (.int 0), .val (.int 3), .val (.int 63), .val (.int 1)] [(.int 1), (.ref qb)])) t
      refine X0.baloadBytes hx (j := (1 : Int32)) (v := (.int y1)) (by rw [e0]; exact Ar5.1) (State.isArrayOf_alike hZ.alike Ar5.2.1) Ar5.2.2 hin5 hat5 (g := (mkF m 16 #[.val (.ref qb), .val (.int 63), .val (.int 0), .val (.int 3), .val (.int 63), .val (.int 1)] [(.int 1), (.ref qb)])) rfl rfl (hb hby d20_16) _ ?_
      refine XS.iload X0.here hx rfl (hb hby d20_17) rfl ?_
      show Steps p.tables e below (s₁.setTop (mkF m 19 #[.val (.ref qb), .val (.int 63), .val (.int 0), .val (.int 3), .val (.int 63), .val (.int 1)] [(.int 63), (.int y1)])) t
      exact k)
    by_cases c7 : y1 = (63 : Int32)
    · skip
      have P8 : own_Go p e below S0 (s₁.setTop (mkF m 24 #[.val (.ref qb), .val (.int 63), .val (.int 0), .val (.int 3), .val (.int 63), .val (.int 1)] [(.int 1)])) := fun t k => P6 t (by
        refine XS.icmpNo X0.here hx rfl (hb hby d20_19) rfl (teq c7).2 ?_
        refine XS.iload X0.here hx rfl (hb hby d20_22) rfl ?_
        show Steps p.tables e below (s₁.setTop (mkF m 24 #[.val (.ref qb), .val (.int 63), .val (.int 0), .val (.int 3), .val (.int 63), .val (.int 1)] [(.int 1)])) t
        exact k)
      obtain ⟨fs, hr, hrun, hended, hW, hsame⟩ := X0.leave (v := some (.int 1)) (fun h => by rw [Bd.returns] at h; cases h) (BodyLoose.notSynchronized Bd)
      refine ⟨_, _, own_from hE0 (P8 _ ?_), hrun, hended, _, _, rfl, ?_, ⟨_, rfl⟩, hW, hsame.mono (by decide) (by decide)⟩
      · show Steps p.tables e below (s₁.setTop (mkF m 24 #[.val (.ref qb), .val (.int 63), .val (.int 0), .val (.int 3), .val (.int 63), .val (.int 1)] [(.int 1)])) _
        exact retI X0 hx Bd.returns (hb hby d20_24) hr
      · show Q20n3c63 Z qb kb y0 y1 y2 h0 n0 _ s₁.heap _
        rw [e0]
        exact ⟨(congrArg (fun z => some (Value.int z)) (Eq.symm (Eq.trans (if_neg c3) (if_pos c7)))), N0, rfl⟩
    · skip
      obtain ⟨cl9, Ar9, q9, Sz9, Nn9, Hh9, Gg9⟩ := id A_qb
      have hin9 : ¬ ((2 : Int32) < 0 ∨ cl9.slots.size ≤ ((2 : Int32)).toNatClampNeg) := inb_of Sz9 ⟨by decide, by decide⟩
      have hat9 : cl9.slots[((2 : Int32)).toNatClampNeg]? = some (.int y2) := Has.at Hh9 hin9 rfl
      have P10 : own_Go p e below S0 (s₁.setTop (mkF m 19 #[.val (.ref qb), .val (.int 63), .val (.int 0), .val (.int 3), .val (.int 63), .val (.int 2)] [(.int 63), (.int y2)])) := fun t k => P6 t (by
        refine XS.icmpYes X0.here hx rfl (pc0 := 19) (pc' := 25) rfl (hb hby d20_19) rfl (feq c7).2 (by decide) (by decide) ?_
        refine XS.iinc X0.here hx rfl (hb hby d20_25) rfl (l' := #[.val (.ref qb), .val (.int 63), .val (.int 0), .val (.int 3), .val (.int 63), .val (.int 2)]) rfl ?_
        refine XS.goto X0.here hx rfl (pc0 := 28) (pc' := 7) rfl (hb hby d20_28) (by decide) (by decide) ?_
        refine XS.iload X0.here hx rfl (hb hby d20_7) rfl ?_
        refine XS.iloadN X0.here hx rfl (hb hby d20_9) rfl ?_
        refine XS.icmpNo X0.here hx rfl (hb hby d20_10) rfl (tlt (by decide)).2.1 ?_
        show Steps p.tables e below (s₁.setTop (mkF m 13 #[.val (.ref qb), .val (.int 63), .val (.int 0), .val (.int 3), .val (.int 63), .val (.int 2)] [])) t
        refine XS.aloadN X0.here hx rfl (hb hby d20_13) rfl rfl ?_
        refine XS.iload X0.here hx rfl (hb hby d20_14) rfl ?_
        show Steps p.tables e below (s₁.setTop (mkF m 16 #[.val (.ref qb), .val (.int 63), .val (.int 0), .val (.int 3), .val (.int 63), .val (.int 2)] [(.int 2), (.ref qb)])) t
        refine X0.baloadBytes hx (j := (2 : Int32)) (v := (.int y2)) (by rw [e0]; exact Ar9.1) (State.isArrayOf_alike hZ.alike Ar9.2.1) Ar9.2.2 hin9 hat9 (g := (mkF m 16 #[.val (.ref qb), .val (.int 63), .val (.int 0), .val (.int 3), .val (.int 63), .val (.int 2)] [(.int 2), (.ref qb)])) rfl rfl (hb hby d20_16) _ ?_
        refine XS.iload X0.here hx rfl (hb hby d20_17) rfl ?_
        show Steps p.tables e below (s₁.setTop (mkF m 19 #[.val (.ref qb), .val (.int 63), .val (.int 0), .val (.int 3), .val (.int 63), .val (.int 2)] [(.int 63), (.int y2)])) t
        exact k)
      by_cases c11 : y2 = (63 : Int32)
      · skip
        have P12 : own_Go p e below S0 (s₁.setTop (mkF m 24 #[.val (.ref qb), .val (.int 63), .val (.int 0), .val (.int 3), .val (.int 63), .val (.int 2)] [(.int 2)])) := fun t k => P10 t (by
          refine XS.icmpNo X0.here hx rfl (hb hby d20_19) rfl (teq c11).2 ?_
          refine XS.iload X0.here hx rfl (hb hby d20_22) rfl ?_
          show Steps p.tables e below (s₁.setTop (mkF m 24 #[.val (.ref qb), .val (.int 63), .val (.int 0), .val (.int 3), .val (.int 63), .val (.int 2)] [(.int 2)])) t
          exact k)
        obtain ⟨fs, hr, hrun, hended, hW, hsame⟩ := X0.leave (v := some (.int 2)) (fun h => by rw [Bd.returns] at h; cases h) (BodyLoose.notSynchronized Bd)
        refine ⟨_, _, own_from hE0 (P12 _ ?_), hrun, hended, _, _, rfl, ?_, ⟨_, rfl⟩, hW, hsame.mono (by decide) (by decide)⟩
        · show Steps p.tables e below (s₁.setTop (mkF m 24 #[.val (.ref qb), .val (.int 63), .val (.int 0), .val (.int 3), .val (.int 63), .val (.int 2)] [(.int 2)])) _
          exact retI X0 hx Bd.returns (hb hby d20_24) hr
        · show Q20n3c63 Z qb kb y0 y1 y2 h0 n0 _ s₁.heap _
          rw [e0]
          exact ⟨(congrArg (fun z => some (Value.int z)) (Eq.symm (Eq.trans (if_neg c3) (Eq.trans (if_neg c7) (if_pos c11))))), N0, rfl⟩
      · skip
        have P13 : own_Go p e below S0 (s₁.setTop (mkF m 32 #[.val (.ref qb), .val (.int 63), .val (.int 0), .val (.int 3), .val (.int 63), .val (.int 3)] [(.int (-1))])) := fun t k => P10 t (by
          refine XS.icmpYes X0.here hx rfl (pc0 := 19) (pc' := 25) rfl (hb hby d20_19) rfl (feq c11).2 (by decide) (by decide) ?_
          refine XS.iinc X0.here hx rfl (hb hby d20_25) rfl (l' := #[.val (.ref qb), .val (.int 63), .val (.int 0), .val (.int 3), .val (.int 63), .val (.int 3)]) rfl ?_
          refine XS.goto X0.here hx rfl (pc0 := 28) (pc' := 7) rfl (hb hby d20_28) (by decide) (by decide) ?_
          refine XS.iload X0.here hx rfl (hb hby d20_7) rfl ?_
          refine XS.iloadN X0.here hx rfl (hb hby d20_9) rfl ?_
          refine XS.icmpYes X0.here hx rfl (pc0 := 10) (pc' := 31) rfl (hb hby d20_10) rfl (flt (by decide)).2.1 (by decide) (by decide) ?_
          show Steps p.tables e below (s₁.setTop (mkF m 31 #[.val (.ref qb), .val (.int 63), .val (.int 0), .val (.int 3), .val (.int 63), .val (.int 3)] [])) t
          refine XS.iconst X0.here hx rfl (hb hby d20_31) ?_
          show Steps p.tables e below (s₁.setTop (mkF m 32 #[.val (.ref qb), .val (.int 63), .val (.int 0), .val (.int 3), .val (.int 63), .val (.int 3)] [(.int (-1))])) t
          exact k)
        obtain ⟨fs, hr, hrun, hended, hW, hsame⟩ := X0.leave (v := some (.int (-1))) (fun h => by rw [Bd.returns] at h; cases h) (BodyLoose.notSynchronized Bd)
        refine ⟨_, _, own_from hE0 (P13 _ ?_), hrun, hended, _, _, rfl, ?_, ⟨_, rfl⟩, hW, hsame.mono (by decide) (by decide)⟩
        · show Steps p.tables e below (s₁.setTop (mkF m 32 #[.val (.ref qb), .val (.int 63), .val (.int 0), .val (.int 3), .val (.int 63), .val (.int 3)] [(.int (-1))])) _
          exact retI X0 hx Bd.returns (hb hby d20_32) hr
        · show Q20n3c63 Z qb kb y0 y1 y2 h0 n0 _ s₁.heap _
          rw [e0]
          exact ⟨(congrArg (fun z => some (Value.int z)) (Eq.symm (Eq.trans (if_neg c3) (Eq.trans (if_neg c7) (if_neg c11))))), N0, rfl⟩
theorem ef_12n3c63 (m : MethodId) (qb : Addr) : entryFrame m #[(.ref qb), (.int 63), (.int 0), (.int 3)] 4 = mkF m 0 #[.val (.ref qb), .val (.int 63), .val (.int 0), .val (.int 3)] [] := by first | (simp [entryFrame, mkF, argsToLocals, Value.category]; done) | rfl
def Q12n3c63 (Z : State) (qb : Addr) (kb : ClassId) (y0 : Int32) (y1 : Int32) (y2 : Int32) (h0 : Heap) (n0 : Nat) (v : Option Value) (h : Heap) (L : List Loc) : Prop := v = some (.int (r20n3c63 y0 y1 y2)) ∧ Fr n0 L ∧ h = h0
set_option maxRecDepth 65536 in
set_option maxHeartbeats 40000000 in
theorem rm12n3c63 (l : Launch) (Z : State) (a0 : Array Value) (hw : ∀ d ∈ tables_1, d.before a0 Z = true) (ws : List Jvm.Cond) (qb : Addr) (kb : ClassId) (y0 : Int32) (y1 : Int32) (y2 : Int32) (h0 : Heap) (n0 : Nat) (Z0 : n0 ≤ h0.size) (A_qb : Arv Z h0 qb kb .byte (3 : Int32) [(.int y0), (.int y1), (.int y2)] (.int 0)) :
    MetFree l (⟨"java/lang/StringLatin1", "indexOf", "([BIII)I"⟩ : MethodName) (head1 (Jvm.Cond.code (⟨"java/lang/StringLatin1", "indexOf", "([BIII)I"⟩ : MethodName) jdk_43_method_22_code 4 (some .int) :: ws) ({ frames := 1, cells := 0, slots := 0, locals := 17 } : Room)) (fun a U => a = #[(.ref qb), (.int 63), (.int 0), (.int 3)] ∧ Z.Warmed39 U.vm ∧ U.heap = h0) (fun _ _ _ _ _ => True) (fun _ U o U' => ∃ v L, o = .returned v ∧ Q12n3c63 Z qb kb y0 y1 y2 h0 n0 v U'.heap L ∧ FrameEnd U o U' L ({ frames := 1, cells := 0, slots := 0, locals := 17 } : Room).cells ({ frames := 1, cells := 0, slots := 0, locals := 17 } : Room).slots) := by
  refine MetFree.of_bodySF (plainFor_of_name pn_13) hisR ?_
  intro p e s m args below meth c s₁ Bd hml0 hP hK
  obtain ⟨rfl, hZ, hh⟩ := hP
  have hx := Bd.exec
  have hby := Bd.bytes
  have hml : c.maxLocals = 4 := hml0
  have hown : s.vm.findClass "java/lang/StringLatin1" = some m.cls := findClass_of_methodNamed Bd.named
  have hnm := (name_of_methodNamed Bd.named Bd.method).1
  have X0 : Stand p l e ({ frames := 1, cells := 0, slots := 0, locals := 17 } : Room) s m #[(.ref qb), (.int 63), (.int 0), (.int 3)] below meth c s₁ [] 0 0 := Stand.of_body Bd
  have e0 : s₁.heap = h0 := by rw [← hh, Bd.state]; rfl
  have N0 := Fr.nil n0
  obtain ⟨S0, hE0⟩ : ∃ z, z = s₁.setTop (entryFrame m #[(.ref qb), (.int 63), (.int 0), (.int 3)] 4) := ⟨_, rfl⟩
  have P0 : own_Go p e below S0 (s₁.setTop (mkF m 0 #[.val (.ref qb), .val (.int 63), .val (.int 0), .val (.int 3)] [])) := fun t k => by rw [hE0]; exact castTop (ef_12n3c63 m qb) k
  have P1 : own_Go p e below S0 (s₁.setTop (mkF m 1 #[.val (.ref qb), .val (.int 63), .val (.int 0), .val (.int 3)] [(.int 63)])) := fun t k => P0 t (by
    refine XS.iloadN X0.here hx rfl (hb hby d12_0) rfl ?_
    show Steps p.tables e below (s₁.setTop (mkF m 1 #[.val (.ref qb), .val (.int 63), .val (.int 0), .val (.int 3)] [(.int 63)])) t
    exact k)
  obtain ⟨_, _, ⟨T2, L2, k2, n2⟩, -, X2, ⟨Lc2, hQ2, l2, y2, z2⟩, st2⟩ := Jvm.LawKit.callS X0 hx (y := (⟨"java/lang/StringLatin1", "canEncode", "(I)Z"⟩ : MethodName)) hown (mvT hZ (own_w hw 73 rfl)) (mvT hZ (own_w hw 74 rfl)) (mvT hZ (own_w hw 71 rfl)) (mvT hZ (own_w hw 75 rfl)) (by decide) (backOf (W := 0) (rm13c63 l Z a0 hw []  h0 n0 Z0) hZ (own_w hw 75 rfl) (own_w hw 71 rfl) (by decide) (by decide)) (g := (mkF m 1 #[.val (.ref qb), .val (.int 63), .val (.int 0), .val (.int 3)] [(.int 63)])) rfl (by rw [hml]; rfl) (argsL := [(.int 63)]) (rest := []) (lenOf pd_6 rfl) rfl (by show 2 * 0 + _ ≤ _; exact Nat.le_of_eq rfl) (hb hby d12_1) (fun _ _ => ⟨rfl, e0, (by decide : 0 + 0 ≤ _), (by decide : 0 + 0 ≤ _)⟩)
  dsimp only [Pt.U, Pt.locs, Pt.cells, Pt.slots] at X2 l2 y2 z2 st2 hQ2
  subst l2 y2 z2
  obtain ⟨rfl, N2q, e2⟩ := hQ2
  have N2 := Fr.app N0 N2q
  have P2 : own_Go p e below S0 (T2.setTop (mkF m 4 #[.val (.ref qb), .val (.int 63), .val (.int 0), .val (.int 3)] [(.int 1)])) := fun t k => P1 t (st2 _ k)
  have P3 : own_Go p e below S0 (T2.setTop (mkF m 11 #[.val (.ref qb), .val (.int 63), .val (.int 0), .val (.int 3)] [(.int 0), (.int 0)])) := fun t k => P2 t (by
    refine XS.ifYes X2.here hx rfl (pc0 := 4) (pc' := 9) rfl (hb hby d12_4) rfl ((if0 _ _).trans (feq (by decide)).2) (by decide) (by decide) ?_
    refine XS.iloadN X2.here hx rfl (hb hby d12_9) rfl ?_
    refine XS.iconst X2.here hx rfl (hb hby d12_10) ?_
    show Steps p.tables e below (T2.setTop (mkF m 11 #[.val (.ref qb), .val (.int 63), .val (.int 0), .val (.int 3)] [(.int 0), (.int 0)])) t
    exact k)
  obtain ⟨_, _, ⟨T4, L4, k4, n4⟩, -, X4, ⟨Lc4, hQ4, l4, y4, z4⟩, st4⟩ := Jvm.LawKit.callS X2 hx (y := (⟨"java/lang/Math", "max", "(II)I"⟩ : MethodName)) hown (mvT hZ (own_w hw 76 rfl)) (mvT hZ (own_w hw 77 rfl)) (mvT hZ (own_w hw 78 rfl)) (mvT hZ (own_w hw 79 rfl)) (by decide) (backOf (W := 0) (rm14 l Z a0 hw []  h0 n0 Z0) hZ (own_w hw 79 rfl) (own_w hw 78 rfl) (by decide) (by decide)) (g := (mkF m 11 #[.val (.ref qb), .val (.int 63), .val (.int 0), .val (.int 3)] [(.int 0), (.int 0)])) rfl (by rw [hml]; rfl) (argsL := [(.int 0), (.int 0)]) (rest := []) (lenOf pd_7 rfl) rfl (by show 2 * 0 + _ ≤ _; exact Nat.le_of_eq rfl) (hb hby d12_11) (fun _ _ => ⟨rfl, e2, (by decide : 0 + 0 ≤ _), (by decide : 0 + 0 ≤ _)⟩)
  dsimp only [Pt.U, Pt.locs, Pt.cells, Pt.slots] at X4 l4 y4 z4 st4 hQ4
  subst l4 y4 z4
  obtain ⟨rfl, N4q, e4⟩ := hQ4
  have N4 := Fr.app N2 N4q
  have P4 : own_Go p e below S0 (T4.setTop (mkF m 14 #[.val (.ref qb), .val (.int 63), .val (.int 0), .val (.int 3)] [(.int 0)])) := fun t k => P3 t (st4 _ k)
  obtain ⟨cl5, Ar5, q5, Sz5, Nn5, Hh5, Gg5⟩ := id A_qb
  have P6 : own_Go p e below S0 (T4.setTop (mkF m 18 #[.val (.ref qb), .val (.int 63), .val (.int 0), .val (.int 3)] [(.int 3), (.int 3)])) := fun t k => P4 t (by
    refine XS.istoreN X4.here hx rfl (hb hby d12_14) rfl (l' := #[.val (.ref qb), .val (.int 63), .val (.int 0), .val (.int 3)]) rfl ?_
    refine XS.iloadN X4.here hx rfl (hb hby d12_15) rfl ?_
    refine XS.aloadN X4.here hx rfl (hb hby d12_16) rfl rfl ?_
    show Steps p.tables e below (T4.setTop (mkF m 17 #[.val (.ref qb), .val (.int 63), .val (.int 0), .val (.int 3)] [(.ref qb), (.int 3)])) t
    refine X4.arraylength hx (by rw [e4]; exact Ar5.1) (State.isArrayOf_alike hZ.alike Ar5.2.1) (g := (mkF m 17 #[.val (.ref qb), .val (.int 63), .val (.int 0), .val (.int 3)] [(.ref qb), (.int 3)])) rfl rfl (hb hby d12_17) _ ?_
    rw [len_of Sz5 Nn5]
    show Steps p.tables e below (T4.setTop (mkF m 18 #[.val (.ref qb), .val (.int 63), .val (.int 0), .val (.int 3)] [(.int 3), (.int 3)])) t
    exact k)
  obtain ⟨_, _, ⟨T7, L7, k7, n7⟩, -, X7, ⟨Lc7, hQ7, l7, y7, z7⟩, st7⟩ := Jvm.LawKit.callS X4 hx (y := (⟨"java/lang/Math", "min", "(II)I"⟩ : MethodName)) hown (mvT hZ (own_w hw 80 rfl)) (mvT hZ (own_w hw 81 rfl)) (mvT hZ (own_w hw 78 rfl)) (mvT hZ (own_w hw 82 rfl)) (by decide) (backOf (W := 0) (rm15n3 l Z a0 hw []  h0 n0 Z0) hZ (own_w hw 82 rfl) (own_w hw 78 rfl) (by decide) (by decide)) (g := (mkF m 18 #[.val (.ref qb), .val (.int 63), .val (.int 0), .val (.int 3)] [(.int 3), (.int 3)])) rfl (by rw [hml]; rfl) (argsL := [(.int 3), (.int 3)]) (rest := []) (lenOf pd_7 rfl) rfl (by show 2 * 0 + _ ≤ _; exact Nat.le_of_eq rfl) (hb hby d12_18) (fun _ _ => ⟨rfl, e4, (by decide : 0 + 0 ≤ _), (by decide : 0 + 0 ≤ _)⟩)
  dsimp only [Pt.U, Pt.locs, Pt.cells, Pt.slots] at X7 l7 y7 z7 st7 hQ7
  subst l7 y7 z7
  obtain ⟨rfl, N7q, e7⟩ := hQ7
  have N7 := Fr.app N4 N7q
  have P7 : own_Go p e below S0 (T7.setTop (mkF m 21 #[.val (.ref qb), .val (.int 63), .val (.int 0), .val (.int 3)] [(.int 3)])) := fun t k => P6 t (st7 _ k)
  have P8 : own_Go p e below S0 (T7.setTop (mkF m 33 #[.val (.ref qb), .val (.int 63), .val (.int 0), .val (.int 3)] [(.int 3), (.int 0), (.int 63), (.ref qb)])) := fun t k => P7 t (by
    refine XS.istoreN X7.here hx rfl (hb hby d12_21) rfl (l' := #[.val (.ref qb), .val (.int 63), .val (.int 0), .val (.int 3)]) rfl ?_
    refine XS.iloadN X7.here hx rfl (hb hby d12_22) rfl ?_
    refine XS.iloadN X7.here hx rfl (hb hby d12_23) rfl ?_
    refine XS.icmpYes X7.here hx rfl (pc0 := 24) (pc' := 29) rfl (hb hby d12_24) rfl (tlt (by decide)).1 (by decide) (by decide) ?_
    refine XS.aloadN X7.here hx rfl (hb hby d12_29) rfl rfl ?_
    refine XS.iloadN X7.here hx rfl (hb hby d12_30) rfl ?_
    show Steps p.tables e below (T7.setTop (mkF m 31 #[.val (.ref qb), .val (.int 63), .val (.int 0), .val (.int 3)] [(.int 63), (.ref qb)])) t
    refine XS.iloadN X7.here hx rfl (hb hby d12_31) rfl ?_
    refine XS.iloadN X7.here hx rfl (hb hby d12_32) rfl ?_
    show Steps p.tables e below (T7.setTop (mkF m 33 #[.val (.ref qb), .val (.int 63), .val (.int 0), .val (.int 3)] [(.int 3), (.int 0), (.int 63), (.ref qb)])) t
    exact k)
  obtain ⟨_, _, ⟨T9, L9, k9, n9⟩, -, X9, ⟨Lc9, hQ9, l9, y9, z9⟩, st9⟩ := Jvm.LawKit.callS X7 hx (y := (⟨"java/lang/StringLatin1", "indexOfChar", "([BIII)I"⟩ : MethodName)) hown (mvT hZ (own_w hw 97 rfl)) (mvT hZ (own_w hw 98 rfl)) (mvT hZ (own_w hw 71 rfl)) (mvT hZ (own_w hw 99 rfl)) (by decide) (backOf (W := 0) (rm20n3c63 l Z a0 hw [] qb kb y0 y1 y2 h0 n0 Z0 A_qb) hZ (own_w hw 99 rfl) (own_w hw 71 rfl) (by decide) (by decide)) (g := (mkF m 33 #[.val (.ref qb), .val (.int 63), .val (.int 0), .val (.int 3)] [(.int 3), (.int 0), (.int 63), (.ref qb)])) rfl (by rw [hml]; rfl) (argsL := [(.ref qb), (.int 63), (.int 0), (.int 3)]) (rest := []) (lenOf pd_10 rfl) rfl (by show 2 * 0 + _ ≤ _; exact Nat.le_of_eq rfl) (hb hby d12_33) (fun _ _ => ⟨rfl, e7, (by decide : 0 + 0 ≤ _), (by decide : 0 + 0 ≤ _)⟩)
  dsimp only [Pt.U, Pt.locs, Pt.cells, Pt.slots] at X9 l9 y9 z9 st9 hQ9
  subst l9 y9 z9
  obtain ⟨rfl, N9q, e9⟩ := hQ9
  have N9 := Fr.app N7 N9q
  have P9 : own_Go p e below S0 (T9.setTop (mkF m 36 #[.val (.ref qb), .val (.int 63), .val (.int 0), .val (.int 3)] [(.int (r20n3c63 y0 y1 y2))])) := fun t k => P8 t (st9 _ k)
  obtain ⟨fs, hr, hrun, hended, hW, hsame⟩ := X9.leave (v := some (.int (r20n3c63 y0 y1 y2))) (fun h => by rw [Bd.returns] at h; cases h) (BodyLoose.notSynchronized Bd)
  refine ⟨_, _, own_from hE0 (P9 _ ?_), hrun, hended, _, _, rfl, ?_, ⟨_, rfl⟩, hW, hsame.mono (by decide) (by decide)⟩
  · show Steps p.tables e below (T9.setTop (mkF m 36 #[.val (.ref qb), .val (.int 63), .val (.int 0), .val (.int 3)] [(.int (r20n3c63 y0 y1 y2))])) _
    exact retI X9 hx Bd.returns (hb hby d12_36) hr
  · show Q12n3c63 Z qb kb y0 y1 y2 h0 n0 _ T9.heap _
    rw [e9]
    exact ⟨rfl, N9, rfl⟩
theorem ef_8n3c63 (m : MethodId) (q8n3c63_0 : Addr) : entryFrame m #[(.ref q8n3c63_0), (.int 63), (.int 0)] 3 = mkF m 0 #[.val (.ref q8n3c63_0), .val (.int 63), .val (.int 0)] [] := by first | (simp [entryFrame, mkF, argsToLocals, Value.category]; done) | rfl
def Q8n3c63 (Z : State) (q8n3c63_0 : Addr) (qb : Addr) (kb : ClassId) (y0 : Int32) (y1 : Int32) (y2 : Int32) (zc : Int32) (h0 : Heap) (n0 : Nat) (v : Option Value) (h : Heap) (L : List Loc) : Prop := v = some (.int (r20n3c63 y0 y1 y2)) ∧ Fr n0 L ∧ h = h0
set_option maxRecDepth 65536 in
set_option maxHeartbeats 40000000 in
theorem rm8n3c63 (l : Launch) (Z : State) (a0 : Array Value) (hw : ∀ d ∈ tables_1, d.before a0 Z = true) (ws : List Jvm.Cond) (q8n3c63_0 : Addr) (qb : Addr) (kb : ClassId) (y0 : Int32) (y1 : Int32) (y2 : Int32) (zc : Int32) (h0 : Heap) (n0 : Nat) (Z0 : n0 ≤ h0.size) (F_q8n3c63_0_value : Fld Z h0 q8n3c63_0 "java/lang/String" "value" "[B" (.ref qb)) (A_qb : Arv Z h0 qb kb .byte (3 : Int32) [(.int y0), (.int y1), (.int y2)] (.int 0)) (S_COMPACT_STRINGS : Sta Z h0 "java/lang/String" "COMPACT_STRINGS" "Z" (.int zc)) (hcs : ¬ (zc = (0 : Int32))) (F_q8n3c63_0_coder : Fld Z h0 q8n3c63_0 "java/lang/String" "coder" "B" (.int 0)) (E_q8n3c63_0 : Exa Z h0 q8n3c63_0 "java/lang/String") :
    MetFree l (⟨"java/lang/String", "indexOf", "(II)I"⟩ : MethodName) (head1 (Jvm.Cond.code (⟨"java/lang/String", "indexOf", "(II)I"⟩ : MethodName) jdk_42_method_80_code 3 (some .int) :: ws) ({ frames := 2, cells := 0, slots := 0, locals := 32 } : Room)) (fun a U => a = #[(.ref q8n3c63_0), (.int 63), (.int 0)] ∧ Z.Warmed39 U.vm ∧ U.heap = h0) (fun _ _ _ _ _ => True) (fun _ U o U' => ∃ v L, o = .returned v ∧ Q8n3c63 Z q8n3c63_0 qb kb y0 y1 y2 zc h0 n0 v U'.heap L ∧ FrameEnd U o U' L ({ frames := 2, cells := 0, slots := 0, locals := 32 } : Room).cells ({ frames := 2, cells := 0, slots := 0, locals := 32 } : Room).slots) := by
  refine MetFree.of_bodySF (plainFor_of_name pn_2) hisR ?_
  intro p e s m args below meth c s₁ Bd hml0 hP hK
  obtain ⟨rfl, hZ, hh⟩ := hP
  have hx := Bd.exec
  have hby := Bd.bytes
  have hml : c.maxLocals = 3 := hml0
  have hown : s.vm.findClass "java/lang/String" = some m.cls := findClass_of_methodNamed Bd.named
  have hnm := (name_of_methodNamed Bd.named Bd.method).1
  have X0 : Stand p l e ({ frames := 2, cells := 0, slots := 0, locals := 32 } : Room) s m #[(.ref q8n3c63_0), (.int 63), (.int 0)] below meth c s₁ [] 0 0 := Stand.of_body Bd
  have e0 : s₁.heap = h0 := by rw [← hh, Bd.state]; rfl
  have N0 := Fr.nil n0
  obtain ⟨S0, hE0⟩ : ∃ z, z = s₁.setTop (entryFrame m #[(.ref q8n3c63_0), (.int 63), (.int 0)] 3) := ⟨_, rfl⟩
  have P0 : own_Go p e below S0 (s₁.setTop (mkF m 0 #[.val (.ref q8n3c63_0), .val (.int 63), .val (.int 0)] [])) := fun t k => by rw [hE0]; exact castTop (ef_8n3c63 m q8n3c63_0) k
  have P1 : own_Go p e below S0 (s₁.setTop (mkF m 1 #[.val (.ref q8n3c63_0), .val (.int 63), .val (.int 0)] [(.ref q8n3c63_0)])) := fun t k => P0 t (by
    refine XS.aloadN X0.here hx rfl (hb hby d8_0) rfl rfl ?_
    show Steps p.tables e below (s₁.setTop (mkF m 1 #[.val (.ref q8n3c63_0), .val (.int 63), .val (.int 0)] [(.ref q8n3c63_0)])) t
    exact k)
  obtain ⟨cq2, kq2, q2a, q2b, q2c⟩ := isOf hZ e0 E_q8n3c63_0
  obtain ⟨_, _, ⟨T2, L2, k2, n2⟩, -, X2, ⟨Lc2, hQ2, l2, y2, z2⟩, st2⟩ := X0.virtualBack hx (y := (⟨"java/lang/String", "isLatin1", "()Z"⟩ : MethodName)) (z := (⟨"java/lang/String", "isLatin1", "()Z"⟩ : MethodName)) hown (mvT hZ (own_w hw 53 rfl)) (mvT hZ (own_w hw 54 rfl)) (notFace_of_selects (args := #[]) (mvT hZ (own_w hw 56 rfl))) (mvT hZ (own_w hw 56 rfl)) (mvT hZ (own_w hw 55 rfl)) (by decide) (backOf (W := 0) (rm9 l Z a0 hw [] q8n3c63_0 zc h0 n0 Z0 S_COMPACT_STRINGS hcs F_q8n3c63_0_coder) hZ (own_w hw 57 rfl) (own_w hw 7 rfl) (by decide) (by decide)) q2a q2c (g := (mkF m 1 #[.val (.ref q8n3c63_0), .val (.int 63), .val (.int 0)] [(.ref q8n3c63_0)])) rfl (by rw [hml]; rfl) (Steps.refl _) (argsL := []) (rest := []) (lenOf pd_8 rfl) rfl (by show 2 * 0 + _ ≤ _; exact Nat.le_of_eq rfl) (hb hby d8_1) (fun _ _ => ⟨rfl, e0, (by decide : 0 + 0 ≤ _), (by decide : 0 + 0 ≤ _)⟩)
  dsimp only [Pt.U, Pt.locs, Pt.cells, Pt.slots] at X2 l2 y2 z2 st2 hQ2
  subst l2 y2 z2
  obtain ⟨rfl, N2q, e2⟩ := hQ2
  have N2 := Fr.app N0 N2q
  have P2 : own_Go p e below S0 (T2.setTop (mkF m 4 #[.val (.ref q8n3c63_0), .val (.int 63), .val (.int 0)] [(.int 1)])) := fun t k => P1 t (st2.trans k)
  have P3 : own_Go p e below S0 (T2.setTop (mkF m 8 #[.val (.ref q8n3c63_0), .val (.int 63), .val (.int 0)] [(.ref q8n3c63_0)])) := fun t k => P2 t (by
    refine XS.ifNo X2.here hx rfl (hb hby d8_4) rfl ((if0 _ _).trans (feq (by decide)).1) ?_
    refine XS.aloadN X2.here hx rfl (hb hby d8_7) rfl rfl ?_
    show Steps p.tables e below (T2.setTop (mkF m 8 #[.val (.ref q8n3c63_0), .val (.int 63), .val (.int 0)] [(.ref q8n3c63_0)])) t
    exact k)
  obtain ⟨T4, X4, e4, st4⟩ := getF X2 hx hZ hown (host := "") (Or.inl (own_w hw 24 rfl)) Via.refl e2 F_q8n3c63_0_value (g := (mkF m 8 #[.val (.ref q8n3c63_0), .val (.int 63), .val (.int 0)] [(.ref q8n3c63_0)])) rfl rfl (hb hby d8_8)
  have P4 : own_Go p e below S0 (T4.setTop (mkF m 11 #[.val (.ref q8n3c63_0), .val (.int 63), .val (.int 0)] [(.ref qb)])) := fun t k => P3 t (st4 _ k)
  have P5 : own_Go p e below S0 (T4.setTop (mkF m 14 #[.val (.ref q8n3c63_0), .val (.int 63), .val (.int 0)] [(.ref q8n3c63_0), (.int 0), (.int 63), (.ref qb)])) := fun t k => P4 t (by
    refine XS.iloadN X4.here hx rfl (hb hby d8_11) rfl ?_
    refine XS.iloadN X4.here hx rfl (hb hby d8_12) rfl ?_
    refine XS.aloadN X4.here hx rfl (hb hby d8_13) rfl rfl ?_
    show Steps p.tables e below (T4.setTop (mkF m 14 #[.val (.ref q8n3c63_0), .val (.int 63), .val (.int 0)] [(.ref q8n3c63_0), (.int 0), (.int 63), (.ref qb)])) t
    exact k)
  obtain ⟨cq6, kq6, q6a, q6b, q6c⟩ := isOf hZ e4 E_q8n3c63_0
  obtain ⟨_, _, ⟨T6, L6, k6, n6⟩, -, X6, ⟨Lc6, hQ6, l6, y6, z6⟩, st6⟩ := X4.virtualBack hx (y := (⟨"java/lang/String", "length", "()I"⟩ : MethodName)) (z := (⟨"java/lang/String", "length", "()I"⟩ : MethodName)) hown (mvT hZ (own_w hw 59 rfl)) (mvT hZ (own_w hw 60 rfl)) (notFace_of_selects (args := #[]) (mvT hZ (own_w hw 62 rfl))) (mvT hZ (own_w hw 62 rfl)) (mvT hZ (own_w hw 61 rfl)) (by decide) (backOf (W := 3) (rm10n3 l Z a0 hw [] q8n3c63_0 qb kb y0 y1 y2 zc h0 n0 Z0 F_q8n3c63_0_value A_qb S_COMPACT_STRINGS hcs F_q8n3c63_0_coder E_q8n3c63_0) hZ (own_w hw 63 rfl) (own_w hw 7 rfl) (by decide) (by decide)) q6a q6c (g := (mkF m 14 #[.val (.ref q8n3c63_0), .val (.int 63), .val (.int 0)] [(.ref q8n3c63_0), (.int 0), (.int 63), (.ref qb)])) rfl (by rw [hml]; rfl) (Steps.refl _) (argsL := []) (rest := [(.int 0), (.int 63), (.ref qb)]) (lenOf pd_9 rfl) rfl (by show 2 * 0 + _ ≤ _; exact Nat.le_of_eq rfl) (hb hby d8_14) (fun _ _ => ⟨rfl, e4, (by decide : 0 + 0 ≤ _), (by decide : 0 + 0 ≤ _)⟩)
  dsimp only [Pt.U, Pt.locs, Pt.cells, Pt.slots] at X6 l6 y6 z6 st6 hQ6
  subst l6 y6 z6
  obtain ⟨rfl, N6q, e6⟩ := hQ6
  have N6 := Fr.app N2 N6q
  have P6 : own_Go p e below S0 (T6.setTop (mkF m 17 #[.val (.ref q8n3c63_0), .val (.int 63), .val (.int 0)] [(.int 3), (.int 0), (.int 63), (.ref qb)])) := fun t k => P5 t (st6.trans k)
  obtain ⟨_, _, ⟨T7, L7, k7, n7⟩, -, X7, ⟨Lc7, hQ7, l7, y7, z7⟩, st7⟩ := Jvm.LawKit.callS X6 hx (y := (⟨"java/lang/StringLatin1", "indexOf", "([BIII)I"⟩ : MethodName)) hown (mvT hZ (own_w hw 69 rfl)) (mvT hZ (own_w hw 70 rfl)) (mvT hZ (own_w hw 71 rfl)) (mvT hZ (own_w hw 72 rfl)) (by decide) (backOf (W := 0) (rm12n3c63 l Z a0 hw [] qb kb y0 y1 y2 h0 n0 Z0 A_qb) hZ (own_w hw 72 rfl) (own_w hw 71 rfl) (by decide) (by decide)) (g := (mkF m 17 #[.val (.ref q8n3c63_0), .val (.int 63), .val (.int 0)] [(.int 3), (.int 0), (.int 63), (.ref qb)])) rfl (by rw [hml]; rfl) (argsL := [(.ref qb), (.int 63), (.int 0), (.int 3)]) (rest := []) (lenOf pd_10 rfl) rfl (by show 2 * 0 + _ ≤ _; exact Nat.le_of_eq rfl) (hb hby d8_17) (fun _ _ => ⟨rfl, e6, (by decide : 0 + 0 ≤ _), (by decide : 0 + 0 ≤ _)⟩)
  dsimp only [Pt.U, Pt.locs, Pt.cells, Pt.slots] at X7 l7 y7 z7 st7 hQ7
  subst l7 y7 z7
  obtain ⟨rfl, N7q, e7⟩ := hQ7
  have N7 := Fr.app N6 N7q
  have P7 : own_Go p e below S0 (T7.setTop (mkF m 20 #[.val (.ref q8n3c63_0), .val (.int 63), .val (.int 0)] [(.int (r20n3c63 y0 y1 y2))])) := fun t k => P6 t (st7 _ k)
  have P8 : own_Go p e below S0 (T7.setTop (mkF m 36 #[.val (.ref q8n3c63_0), .val (.int 63), .val (.int 0)] [(.int (r20n3c63 y0 y1 y2))])) := fun t k => P7 t (by
    refine XS.goto X7.here hx rfl (pc0 := 20) (pc' := 36) rfl (hb hby d8_20) (by decide) (by decide) ?_
    show Steps p.tables e below (T7.setTop (mkF m 36 #[.val (.ref q8n3c63_0), .val (.int 63), .val (.int 0)] [(.int (r20n3c63 y0 y1 y2))])) t
    exact k)
  obtain ⟨fs, hr, hrun, hended, hW, hsame⟩ := X7.leave (v := some (.int (r20n3c63 y0 y1 y2))) (fun h => by rw [Bd.returns] at h; cases h) (BodyLoose.notSynchronized Bd)
  refine ⟨_, _, own_from hE0 (P8 _ ?_), hrun, hended, _, _, rfl, ?_, ⟨_, rfl⟩, hW, hsame.mono (by decide) (by decide)⟩
  · show Steps p.tables e below (T7.setTop (mkF m 36 #[.val (.ref q8n3c63_0), .val (.int 63), .val (.int 0)] [(.int (r20n3c63 y0 y1 y2))])) _
    exact retI X7 hx Bd.returns (hb hby d8_36) hr
  · show Q8n3c63 Z q8n3c63_0 qb kb y0 y1 y2 zc h0 n0 _ T7.heap _
    rw [e7]
    exact ⟨rfl, N7, rfl⟩
theorem ef_7n3c63 (m : MethodId) (q7n3c63_0 : Addr) : entryFrame m #[(.ref q7n3c63_0), (.int 63)] 2 = mkF m 0 #[.val (.ref q7n3c63_0), .val (.int 63)] [] := by first | (simp [entryFrame, mkF, argsToLocals, Value.category]; done) | rfl
def Q7n3c63 (Z : State) (q7n3c63_0 : Addr) (qb : Addr) (kb : ClassId) (y0 : Int32) (y1 : Int32) (y2 : Int32) (zc : Int32) (h0 : Heap) (n0 : Nat) (v : Option Value) (h : Heap) (L : List Loc) : Prop := v = some (.int (r20n3c63 y0 y1 y2)) ∧ Fr n0 L ∧ h = h0
set_option maxRecDepth 65536 in
set_option maxHeartbeats 40000000 in
theorem rm7n3c63 (l : Launch) (Z : State) (a0 : Array Value) (hw : ∀ d ∈ tables_1, d.before a0 Z = true) (ws : List Jvm.Cond) (q7n3c63_0 : Addr) (qb : Addr) (kb : ClassId) (y0 : Int32) (y1 : Int32) (y2 : Int32) (zc : Int32) (h0 : Heap) (n0 : Nat) (Z0 : n0 ≤ h0.size) (F_q7n3c63_0_value : Fld Z h0 q7n3c63_0 "java/lang/String" "value" "[B" (.ref qb)) (A_qb : Arv Z h0 qb kb .byte (3 : Int32) [(.int y0), (.int y1), (.int y2)] (.int 0)) (S_COMPACT_STRINGS : Sta Z h0 "java/lang/String" "COMPACT_STRINGS" "Z" (.int zc)) (hcs : ¬ (zc = (0 : Int32))) (F_q7n3c63_0_coder : Fld Z h0 q7n3c63_0 "java/lang/String" "coder" "B" (.int 0)) (E_q7n3c63_0 : Exa Z h0 q7n3c63_0 "java/lang/String") :
    MetFree l (⟨"java/lang/String", "indexOf", "(I)I"⟩ : MethodName) (head1 (Jvm.Cond.code (⟨"java/lang/String", "indexOf", "(I)I"⟩ : MethodName) jdk_42_method_79_code 2 (some .int) :: ws) ({ frames := 3, cells := 0, slots := 0, locals := 46 } : Room)) (fun a U => a = #[(.ref q7n3c63_0), (.int 63)] ∧ Z.Warmed39 U.vm ∧ U.heap = h0) (fun _ _ _ _ _ => True) (fun _ U o U' => ∃ v L, o = .returned v ∧ Q7n3c63 Z q7n3c63_0 qb kb y0 y1 y2 zc h0 n0 v U'.heap L ∧ FrameEnd U o U' L ({ frames := 3, cells := 0, slots := 0, locals := 46 } : Room).cells ({ frames := 3, cells := 0, slots := 0, locals := 46 } : Room).slots) := by
  refine MetFree.of_bodySF (plainFor_of_name pn_2) hisR ?_
  intro p e s m args below meth c s₁ Bd hml0 hP hK
  obtain ⟨rfl, hZ, hh⟩ := hP
  have hx := Bd.exec
  have hby := Bd.bytes
  have hml : c.maxLocals = 2 := hml0
  have hown : s.vm.findClass "java/lang/String" = some m.cls := findClass_of_methodNamed Bd.named
  have hnm := (name_of_methodNamed Bd.named Bd.method).1
  have X0 : Stand p l e ({ frames := 3, cells := 0, slots := 0, locals := 46 } : Room) s m #[(.ref q7n3c63_0), (.int 63)] below meth c s₁ [] 0 0 := Stand.of_body Bd
  have e0 : s₁.heap = h0 := by rw [← hh, Bd.state]; rfl
  have N0 := Fr.nil n0
  obtain ⟨S0, hE0⟩ : ∃ z, z = s₁.setTop (entryFrame m #[(.ref q7n3c63_0), (.int 63)] 2) := ⟨_, rfl⟩
  have P0 : own_Go p e below S0 (s₁.setTop (mkF m 0 #[.val (.ref q7n3c63_0), .val (.int 63)] [])) := fun t k => by rw [hE0]; exact castTop (ef_7n3c63 m q7n3c63_0) k
  have P1 : own_Go p e below S0 (s₁.setTop (mkF m 3 #[.val (.ref q7n3c63_0), .val (.int 63)] [(.int 0), (.int 63), (.ref q7n3c63_0)])) := fun t k => P0 t (by
    refine XS.aloadN X0.here hx rfl (hb hby d7_0) rfl rfl ?_
    refine XS.iloadN X0.here hx rfl (hb hby d7_1) rfl ?_
    refine XS.iconst X0.here hx rfl (hb hby d7_2) ?_
    show Steps p.tables e below (s₁.setTop (mkF m 3 #[.val (.ref q7n3c63_0), .val (.int 63)] [(.int 0), (.int 63), (.ref q7n3c63_0)])) t
    exact k)
  obtain ⟨cq2, kq2, q2a, q2b, q2c⟩ := isOf hZ e0 E_q7n3c63_0
  obtain ⟨_, _, ⟨T2, L2, k2, n2⟩, -, X2, ⟨Lc2, hQ2, l2, y2, z2⟩, st2⟩ := X0.virtualBack hx (y := (⟨"java/lang/String", "indexOf", "(II)I"⟩ : MethodName)) (z := (⟨"java/lang/String", "indexOf", "(II)I"⟩ : MethodName)) hown (mvT hZ (own_w hw 48 rfl)) (mvT hZ (own_w hw 49 rfl)) (notFace_of_selects (args := #[]) (mvT hZ (own_w hw 51 rfl))) (mvT hZ (own_w hw 51 rfl)) (mvT hZ (own_w hw 50 rfl)) (by decide) (backOf (W := 0) (rm8n3c63 l Z a0 hw [] q7n3c63_0 qb kb y0 y1 y2 zc h0 n0 Z0 F_q7n3c63_0_value A_qb S_COMPACT_STRINGS hcs F_q7n3c63_0_coder E_q7n3c63_0) hZ (own_w hw 52 rfl) (own_w hw 7 rfl) (by decide) (by decide)) q2a q2c (g := (mkF m 3 #[.val (.ref q7n3c63_0), .val (.int 63)] [(.int 0), (.int 63), (.ref q7n3c63_0)])) rfl (by rw [hml]; rfl) (Steps.refl _) (argsL := [(.int 63), (.int 0)]) (rest := []) (lenOf pd_7 rfl) rfl (by show 2 * 0 + _ ≤ _; exact Nat.le_of_eq rfl) (hb hby d7_3) (fun _ _ => ⟨rfl, e0, (by decide : 0 + 0 ≤ _), (by decide : 0 + 0 ≤ _)⟩)
  dsimp only [Pt.U, Pt.locs, Pt.cells, Pt.slots] at X2 l2 y2 z2 st2 hQ2
  subst l2 y2 z2
  obtain ⟨rfl, N2q, e2⟩ := hQ2
  have N2 := Fr.app N0 N2q
  have P2 : own_Go p e below S0 (T2.setTop (mkF m 6 #[.val (.ref q7n3c63_0), .val (.int 63)] [(.int (r20n3c63 y0 y1 y2))])) := fun t k => P1 t (st2.trans k)
  obtain ⟨fs, hr, hrun, hended, hW, hsame⟩ := X2.leave (v := some (.int (r20n3c63 y0 y1 y2))) (fun h => by rw [Bd.returns] at h; cases h) (BodyLoose.notSynchronized Bd)
  refine ⟨_, _, own_from hE0 (P2 _ ?_), hrun, hended, _, _, rfl, ?_, ⟨_, rfl⟩, hW, hsame.mono (by decide) (by decide)⟩
  · show Steps p.tables e below (T2.setTop (mkF m 6 #[.val (.ref q7n3c63_0), .val (.int 63)] [(.int (r20n3c63 y0 y1 y2))])) _
    exact retI X2 hx Bd.returns (hb hby d7_6) hr
  · show Q7n3c63 Z q7n3c63_0 qb kb y0 y1 y2 zc h0 n0 _ T2.heap _
    rw [e2]
    exact ⟨rfl, N2, rfl⟩
theorem ef_6n3 (m : MethodId) (q6n3_0 : Addr) : entryFrame m #[(.ref q6n3_0)] 1 = mkF m 0 #[.val (.ref q6n3_0)] [] := by first | (simp [entryFrame, mkF, argsToLocals, Value.category]; done) | rfl
def r6n3 (y0 : Int32) (y1 : Int32) (y2 : Int32) : Int32 := (if (r20n3c42 y0 y1 y2) < (0 : Int32) then (if (r20n3c63 y0 y1 y2) < (0 : Int32) then (1 : Int32) else (0 : Int32)) else (0 : Int32))
def Q6n3 (Z : State) (q6n3_0 : Addr) (qs : Addr) (qb : Addr) (kb : ClassId) (y0 : Int32) (y1 : Int32) (y2 : Int32) (zc : Int32) (h0 : Heap) (n0 : Nat) (v : Option Value) (h : Heap) (L : List Loc) : Prop := v = some (.int (r6n3 y0 y1 y2)) ∧ Fr n0 L ∧ h = h0
set_option maxRecDepth 65536 in
set_option maxHeartbeats 40000000 in
theorem rm6n3 (l : Launch) (Z : State) (a0 : Array Value) (hw : ∀ d ∈ tables_1, d.before a0 Z = true) (ws : List Jvm.Cond) (q6n3_0 : Addr) (qs : Addr) (qb : Addr) (kb : ClassId) (y0 : Int32) (y1 : Int32) (y2 : Int32) (zc : Int32) (h0 : Heap) (n0 : Nat) (Z0 : n0 ≤ h0.size) (F_q6n3_0_pattern : Fld Z h0 q6n3_0 "com/example/strict_acl/strictacl/NamePattern" "pattern" "Ljava/lang/String;" (.ref qs)) (F_qs_value : Fld Z h0 qs "java/lang/String" "value" "[B" (.ref qb)) (A_qb : Arv Z h0 qb kb .byte (3 : Int32) [(.int y0), (.int y1), (.int y2)] (.int 0)) (S_COMPACT_STRINGS : Sta Z h0 "java/lang/String" "COMPACT_STRINGS" "Z" (.int zc)) (hcs : ¬ (zc = (0 : Int32))) (F_qs_coder : Fld Z h0 qs "java/lang/String" "coder" "B" (.int 0)) (E_qs : Exa Z h0 qs "java/lang/String") :
    MetFree l (⟨"com/example/strict_acl/strictacl/NamePattern", "isLiteral", "()Z"⟩ : MethodName) (head1 (Jvm.Cond.code (⟨"com/example/strict_acl/strictacl/NamePattern", "isLiteral", "()Z"⟩ : MethodName) prog_25_method_4_code 1 (some .boolean) :: ws) ({ frames := 4, cells := 0, slots := 0, locals := 59 } : Room)) (fun a U => a = #[(.ref q6n3_0)] ∧ Z.Warmed39 U.vm ∧ U.heap = h0) (fun _ _ _ _ _ => True) (fun _ U o U' => ∃ v L, o = .returned v ∧ Q6n3 Z q6n3_0 qs qb kb y0 y1 y2 zc h0 n0 v U'.heap L ∧ FrameEnd U o U' L ({ frames := 4, cells := 0, slots := 0, locals := 59 } : Room).cells ({ frames := 4, cells := 0, slots := 0, locals := 59 } : Room).slots) := by
  refine MetFree.of_bodySF (plainFor_of_name pn_4) hisR ?_
  intro p e s m args below meth c s₁ Bd hml0 hP hK
  obtain ⟨rfl, hZ, hh⟩ := hP
  have hx := Bd.exec
  have hby := Bd.bytes
  have hml : c.maxLocals = 1 := hml0
  have hown : s.vm.findClass "com/example/strict_acl/strictacl/NamePattern" = some m.cls := findClass_of_methodNamed Bd.named
  have hnm := (name_of_methodNamed Bd.named Bd.method).1
  have X0 : Stand p l e ({ frames := 4, cells := 0, slots := 0, locals := 59 } : Room) s m #[(.ref q6n3_0)] below meth c s₁ [] 0 0 := Stand.of_body Bd
  have e0 : s₁.heap = h0 := by rw [← hh, Bd.state]; rfl
  have N0 := Fr.nil n0
  obtain ⟨S0, hE0⟩ : ∃ z, z = s₁.setTop (entryFrame m #[(.ref q6n3_0)] 1) := ⟨_, rfl⟩
  have P0 : own_Go p e below S0 (s₁.setTop (mkF m 0 #[.val (.ref q6n3_0)] [])) := fun t k => by rw [hE0]; exact castTop (ef_6n3 m q6n3_0) k
  have P1 : own_Go p e below S0 (s₁.setTop (mkF m 1 #[.val (.ref q6n3_0)] [(.ref q6n3_0)])) := fun t k => P0 t (by
    refine XS.aloadN X0.here hx rfl (hb hby d6_0) rfl rfl ?_
    show Steps p.tables e below (s₁.setTop (mkF m 1 #[.val (.ref q6n3_0)] [(.ref q6n3_0)])) t
    exact k)
  obtain ⟨T2, X2, e2, st2⟩ := getF X0 hx hZ hown (host := "") (Or.inl (own_w hw 36 rfl)) Via.refl e0 F_q6n3_0_pattern (g := (mkF m 1 #[.val (.ref q6n3_0)] [(.ref q6n3_0)])) rfl rfl (hb hby d6_1)
  have P2 : own_Go p e below S0 (T2.setTop (mkF m 4 #[.val (.ref q6n3_0)] [(.ref qs)])) := fun t k => P1 t (st2 _ k)
  have P3 : own_Go p e below S0 (T2.setTop (mkF m 6 #[.val (.ref q6n3_0)] [(.int 42), (.ref qs)])) := fun t k => P2 t (by
    refine XS.bipush X2.here hx rfl (hb hby d6_4) ?_
    show Steps p.tables e below (T2.setTop (mkF m 6 #[.val (.ref q6n3_0)] [(.int 42), (.ref qs)])) t
    exact k)
  obtain ⟨cq4, kq4, q4a, q4b, q4c⟩ := isOf hZ e2 E_qs
  obtain ⟨_, _, ⟨T4, L4, k4, n4⟩, -, X4, ⟨Lc4, hQ4, l4, y4, z4⟩, st4⟩ := X2.virtualBack hx (y := (⟨"java/lang/String", "indexOf", "(I)I"⟩ : MethodName)) (z := (⟨"java/lang/String", "indexOf", "(I)I"⟩ : MethodName)) hown (mvT hZ (own_w hw 43 rfl)) (mvT hZ (own_w hw 44 rfl)) (notFace_of_selects (args := #[]) (mvT hZ (own_w hw 46 rfl))) (mvT hZ (own_w hw 46 rfl)) (mvT hZ (own_w hw 45 rfl)) (by decide) (backOf (W := 0) (rm7n3c42 l Z a0 hw [] qs qb kb y0 y1 y2 zc h0 n0 Z0 F_qs_value A_qb S_COMPACT_STRINGS hcs F_qs_coder E_qs) hZ (own_w hw 47 rfl) (own_w hw 7 rfl) (by decide) (by decide)) q4a q4c (g := (mkF m 6 #[.val (.ref q6n3_0)] [(.int 42), (.ref qs)])) rfl (by rw [hml]; rfl) (Steps.refl _) (argsL := [(.int 42)]) (rest := []) (lenOf pd_11 rfl) rfl (by show 2 * 0 + _ ≤ _; exact Nat.le_of_eq rfl) (hb hby d6_6) (fun _ _ => ⟨rfl, e2, (by decide : 0 + 0 ≤ _), (by decide : 0 + 0 ≤ _)⟩)
  dsimp only [Pt.U, Pt.locs, Pt.cells, Pt.slots] at X4 l4 y4 z4 st4 hQ4
  subst l4 y4 z4
  obtain ⟨rfl, N4q, e4⟩ := hQ4
  have N4 := Fr.app N0 N4q
  have P4 : own_Go p e below S0 (T4.setTop (mkF m 9 #[.val (.ref q6n3_0)] [(.int (r20n3c42 y0 y1 y2))])) := fun t k => P3 t (st4.trans k)
  by_cases c5 : (r20n3c42 y0 y1 y2) < (0 : Int32)
  · skip
    have P6 : own_Go p e below S0 (T4.setTop (mkF m 13 #[.val (.ref q6n3_0)] [(.ref q6n3_0)])) := fun t k => P4 t (by
      refine XS.ifNo X4.here hx rfl (hb hby d6_9) rfl ((if0 _ _).trans (tlt c5).2.1) ?_
      refine XS.aloadN X4.here hx rfl (hb hby d6_12) rfl rfl ?_
      show Steps p.tables e below (T4.setTop (mkF m 13 #[.val (.ref q6n3_0)] [(.ref q6n3_0)])) t
      exact k)
    obtain ⟨T7, X7, e7, st7⟩ := getF X4 hx hZ hown (host := "") (Or.inl (own_w hw 36 rfl)) Via.refl e4 F_q6n3_0_pattern (g := (mkF m 13 #[.val (.ref q6n3_0)] [(.ref q6n3_0)])) rfl rfl (hb hby d6_13)
    have P7 : own_Go p e below S0 (T7.setTop (mkF m 16 #[.val (.ref q6n3_0)] [(.ref qs)])) := fun t k => P6 t (st7 _ k)
    have P8 : own_Go p e below S0 (T7.setTop (mkF m 18 #[.val (.ref q6n3_0)] [(.int 63), (.ref qs)])) := fun t k => P7 t (by
      refine XS.bipush X7.here hx rfl (hb hby d6_16) ?_
      show Steps p.tables e below (T7.setTop (mkF m 18 #[.val (.ref q6n3_0)] [(.int 63), (.ref qs)])) t
      exact k)
    obtain ⟨cq9, kq9, q9a, q9b, q9c⟩ := isOf hZ e7 E_qs
    obtain ⟨_, _, ⟨T9, L9, k9, n9⟩, -, X9, ⟨Lc9, hQ9, l9, y9, z9⟩, st9⟩ := X7.virtualBack hx (y := (⟨"java/lang/String", "indexOf", "(I)I"⟩ : MethodName)) (z := (⟨"java/lang/String", "indexOf", "(I)I"⟩ : MethodName)) hown (mvT hZ (own_w hw 43 rfl)) (mvT hZ (own_w hw 44 rfl)) (notFace_of_selects (args := #[]) (mvT hZ (own_w hw 46 rfl))) (mvT hZ (own_w hw 46 rfl)) (mvT hZ (own_w hw 45 rfl)) (by decide) (backOf (W := 0) (rm7n3c63 l Z a0 hw [] qs qb kb y0 y1 y2 zc h0 n0 Z0 F_qs_value A_qb S_COMPACT_STRINGS hcs F_qs_coder E_qs) hZ (own_w hw 47 rfl) (own_w hw 7 rfl) (by decide) (by decide)) q9a q9c (g := (mkF m 18 #[.val (.ref q6n3_0)] [(.int 63), (.ref qs)])) rfl (by rw [hml]; rfl) (Steps.refl _) (argsL := [(.int 63)]) (rest := []) (lenOf pd_11 rfl) rfl (by show 2 * 0 + _ ≤ _; exact Nat.le_of_eq rfl) (hb hby d6_18) (fun _ _ => ⟨rfl, e7, (by decide : 0 + 0 ≤ _), (by decide : 0 + 0 ≤ _)⟩)
    dsimp only [Pt.U, Pt.locs, Pt.cells, Pt.slots] at X9 l9 y9 z9 st9 hQ9
    subst l9 y9 z9
    obtain ⟨rfl, N9q, e9⟩ := hQ9
    have N9 := Fr.app N4 N9q
    have P9 : own_Go p e below S0 (T9.setTop (mkF m 21 #[.val (.ref q6n3_0)] [(.int (r20n3c63 y0 y1 y2))])) := fun t k => P8 t (st9.trans k)
    by_cases c10 : (r20n3c63 y0 y1 y2) < (0 : Int32)
    · skip
      have P11 : own_Go p e below S0 (T9.setTop (mkF m 29 #[.val (.ref q6n3_0)] [(.int 1)])) := fun t k => P9 t (by
        refine XS.ifNo X9.here hx rfl (hb hby d6_21) rfl ((if0 _ _).trans (tlt c10).2.1) ?_
        refine XS.iconst X9.here hx rfl (hb hby d6_24) ?_
        refine XS.goto X9.here hx rfl (pc0 := 25) (pc' := 29) rfl (hb hby d6_25) (by decide) (by decide) ?_
        show Steps p.tables e below (T9.setTop (mkF m 29 #[.val (.ref q6n3_0)] [(.int 1)])) t
        exact k)
      obtain ⟨fs, hr, hrun, hended, hW, hsame⟩ := X9.leave (v := some (.int 1)) (fun h => by rw [Bd.returns] at h; cases h) (BodyLoose.notSynchronized Bd)
      refine ⟨_, _, own_from hE0 (P11 _ ?_), hrun, hended, _, _, rfl, ?_, ⟨_, rfl⟩, hW, hsame.mono (by decide) (by decide)⟩
      · show Steps p.tables e below (T9.setTop (mkF m 29 #[.val (.ref q6n3_0)] [(.int 1)])) _
        exact retN X9 hx (t := .boolean) Bd.returns (by simp) (hb hby d6_29) hr
      · show Q6n3 Z q6n3_0 qs qb kb y0 y1 y2 zc h0 n0 _ T9.heap _
        rw [e9]
        exact ⟨(congrArg (fun z => some (Value.int z)) (Eq.symm (Eq.trans (if_pos c5) (if_pos c10)))), N9, rfl⟩
    · skip
      have P12 : own_Go p e below S0 (T9.setTop (mkF m 29 #[.val (.ref q6n3_0)] [(.int 0)])) := fun t k => P9 t (by
        refine XS.ifYes X9.here hx rfl (pc0 := 21) (pc' := 28) rfl (hb hby d6_21) rfl ((if0 _ _).trans (flt c10).2.1) (by decide) (by decide) ?_
        refine XS.iconst X9.here hx rfl (hb hby d6_28) ?_
        show Steps p.tables e below (T9.setTop (mkF m 29 #[.val (.ref q6n3_0)] [(.int 0)])) t
        exact k)
      obtain ⟨fs, hr, hrun, hended, hW, hsame⟩ := X9.leave (v := some (.int 0)) (fun h => by rw [Bd.returns] at h; cases h) (BodyLoose.notSynchronized Bd)
      refine ⟨_, _, own_from hE0 (P12 _ ?_), hrun, hended, _, _, rfl, ?_, ⟨_, rfl⟩, hW, hsame.mono (by decide) (by decide)⟩
      · show Steps p.tables e below (T9.setTop (mkF m 29 #[.val (.ref q6n3_0)] [(.int 0)])) _
        exact retN X9 hx (t := .boolean) Bd.returns (by simp) (hb hby d6_29) hr
      · show Q6n3 Z q6n3_0 qs qb kb y0 y1 y2 zc h0 n0 _ T9.heap _
        rw [e9]
        exact ⟨(congrArg (fun z => some (Value.int z)) (Eq.symm (Eq.trans (if_pos c5) (if_neg c10)))), N9, rfl⟩
  · skip
    have P13 : own_Go p e below S0 (T4.setTop (mkF m 29 #[.val (.ref q6n3_0)] [(.int 0)])) := fun t k => P4 t (by
      refine XS.ifYes X4.here hx rfl (pc0 := 9) (pc' := 28) rfl (hb hby d6_9) rfl ((if0 _ _).trans (flt c5).2.1) (by decide) (by decide) ?_
      refine XS.iconst X4.here hx rfl (hb hby d6_28) ?_
      show Steps p.tables e below (T4.setTop (mkF m 29 #[.val (.ref q6n3_0)] [(.int 0)])) t
      exact k)
    obtain ⟨fs, hr, hrun, hended, hW, hsame⟩ := X4.leave (v := some (.int 0)) (fun h => by rw [Bd.returns] at h; cases h) (BodyLoose.notSynchronized Bd)
    refine ⟨_, _, own_from hE0 (P13 _ ?_), hrun, hended, _, _, rfl, ?_, ⟨_, rfl⟩, hW, hsame.mono (by decide) (by decide)⟩
    · show Steps p.tables e below (T4.setTop (mkF m 29 #[.val (.ref q6n3_0)] [(.int 0)])) _
      exact retN X4 hx (t := .boolean) Bd.returns (by simp) (hb hby d6_29) hr
    · show Q6n3 Z q6n3_0 qs qb kb y0 y1 y2 zc h0 n0 _ T4.heap _
      rw [e4]
      exact ⟨(congrArg (fun z => some (Value.int z)) (Eq.symm (if_neg c5))), N4, rfl⟩
theorem ef_15n4 (m : MethodId)  : entryFrame m #[(.int 4), (.int 4)] 2 = mkF m 0 #[.val (.int 4), .val (.int 4)] [] := by first | (simp [entryFrame, mkF, argsToLocals, Value.category]; done) | rfl
def Q15n4 (Z : State)  (h0 : Heap) (n0 : Nat) (v : Option Value) (h : Heap) (L : List Loc) : Prop := v = some (.int 4) ∧ Fr n0 L ∧ h = h0
set_option maxRecDepth 65536 in
set_option maxHeartbeats 40000000 in
theorem rm15n4 (l : Launch) (Z : State) (a0 : Array Value) (hw : ∀ d ∈ tables_1, d.before a0 Z = true) (ws : List Jvm.Cond)  (h0 : Heap) (n0 : Nat) (Z0 : n0 ≤ h0.size) :
    MetFree l (⟨"java/lang/Math", "min", "(II)I"⟩ : MethodName) (head1 (Jvm.Cond.code (⟨"java/lang/Math", "min", "(II)I"⟩ : MethodName) jdk_29_method_69_code 2 (some .int) :: ws) ({ frames := 0, cells := 0, slots := 0, locals := 0 } : Room)) (fun a U => a = #[(.int 4), (.int 4)] ∧ Z.Warmed39 U.vm ∧ U.heap = h0) (fun _ _ _ _ _ => True) (fun _ U o U' => ∃ v L, o = .returned v ∧ Q15n4 Z  h0 n0 v U'.heap L ∧ FrameEnd U o U' L ({ frames := 0, cells := 0, slots := 0, locals := 0 } : Room).cells ({ frames := 0, cells := 0, slots := 0, locals := 0 } : Room).slots) := by
  refine MetFree.of_bodySF (Jvm.Free.JP.mathPlain rfl (by decide +kernel)) hisR ?_
  intro p e s m args below meth c s₁ Bd hml0 hP hK
  obtain ⟨rfl, hZ, hh⟩ := hP
  have hx := Bd.exec
  have hby := Bd.bytes
  have hml : c.maxLocals = 2 := hml0
  have hown : s.vm.findClass "java/lang/Math" = some m.cls := findClass_of_methodNamed Bd.named
  have hnm := (name_of_methodNamed Bd.named Bd.method).1
  have X0 : Stand p l e ({ frames := 0, cells := 0, slots := 0, locals := 0 } : Room) s m #[(.int 4), (.int 4)] below meth c s₁ [] 0 0 := Stand.of_body Bd
  have e0 : s₁.heap = h0 := by rw [← hh, Bd.state]; rfl
  have N0 := Fr.nil n0
  obtain ⟨S0, hE0⟩ : ∃ z, z = s₁.setTop (entryFrame m #[(.int 4), (.int 4)] 2) := ⟨_, rfl⟩
  have P0 : own_Go p e below S0 (s₁.setTop (mkF m 0 #[.val (.int 4), .val (.int 4)] [])) := fun t k => by rw [hE0]; exact castTop (ef_15n4 m ) k
  have P1 : own_Go p e below S0 (s₁.setTop (mkF m 10 #[.val (.int 4), .val (.int 4)] [(.int 4)])) := fun t k => P0 t (by
    refine XS.iloadN X0.here hx rfl (hb hby d15_0) rfl ?_
    refine XS.iloadN X0.here hx rfl (hb hby d15_1) rfl ?_
    refine XS.icmpNo X0.here hx rfl (hb hby d15_2) rfl (flt (by decide)).2.2.1 ?_
    refine XS.iloadN X0.here hx rfl (hb hby d15_5) rfl ?_
    refine XS.goto X0.here hx rfl (pc0 := 6) (pc' := 10) rfl (hb hby d15_6) (by decide) (by decide) ?_
    show Steps p.tables e below (s₁.setTop (mkF m 10 #[.val (.int 4), .val (.int 4)] [(.int 4)])) t
    exact k)
  obtain ⟨fs, hr, hrun, hended, hW, hsame⟩ := X0.leave (v := some (.int 4)) (fun h => by rw [Bd.returns] at h; cases h) (BodyLoose.notSynchronized Bd)
  refine ⟨_, _, own_from hE0 (P1 _ ?_), hrun, hended, _, _, rfl, ?_, ⟨_, rfl⟩, hW, hsame.mono (by decide) (by decide)⟩
  · show Steps p.tables e below (s₁.setTop (mkF m 10 #[.val (.int 4), .val (.int 4)] [(.int 4)])) _
    exact retI X0 hx Bd.returns (hb hby d15_10) hr
  · show Q15n4 Z  h0 n0 _ s₁.heap _
    rw [e0]
    exact ⟨rfl, N0, rfl⟩
theorem ef_10n4 (m : MethodId) (q10n4_0 : Addr) : entryFrame m #[(.ref q10n4_0)] 1 = mkF m 0 #[.val (.ref q10n4_0)] [] := by first | (simp [entryFrame, mkF, argsToLocals, Value.category]; done) | rfl
def Q10n4 (Z : State) (q10n4_0 : Addr) (qb : Addr) (kb : ClassId) (y0 : Int32) (y1 : Int32) (y2 : Int32) (y3 : Int32) (zc : Int32) (h0 : Heap) (n0 : Nat) (v : Option Value) (h : Heap) (L : List Loc) : Prop := v = some (.int 4) ∧ Fr n0 L ∧ h = h0
set_option maxRecDepth 65536 in
set_option maxHeartbeats 40000000 in
theorem rm10n4 (l : Launch) (Z : State) (a0 : Array Value) (hw : ∀ d ∈ tables_1, d.before a0 Z = true) (ws : List Jvm.Cond) (q10n4_0 : Addr) (qb : Addr) (kb : ClassId) (y0 : Int32) (y1 : Int32) (y2 : Int32) (y3 : Int32) (zc : Int32) (h0 : Heap) (n0 : Nat) (Z0 : n0 ≤ h0.size) (F_q10n4_0_value : Fld Z h0 q10n4_0 "java/lang/String" "value" "[B" (.ref qb)) (A_qb : Arv Z h0 qb kb .byte (4 : Int32) [(.int y0), (.int y1), (.int y2), (.int y3)] (.int 0)) (S_COMPACT_STRINGS : Sta Z h0 "java/lang/String" "COMPACT_STRINGS" "Z" (.int zc)) (hcs : ¬ (zc = (0 : Int32))) (F_q10n4_0_coder : Fld Z h0 q10n4_0 "java/lang/String" "coder" "B" (.int 0)) (E_q10n4_0 : Exa Z h0 q10n4_0 "java/lang/String") :
    MetFree l (⟨"java/lang/String", "length", "()I"⟩ : MethodName) (head1 (Jvm.Cond.code (⟨"java/lang/String", "length", "()I"⟩ : MethodName) jdk_42_method_54_code 1 (some .int) :: ws) ({ frames := 1, cells := 0, slots := 0, locals := 13 } : Room)) (fun a U => a = #[(.ref q10n4_0)] ∧ Z.Warmed39 U.vm ∧ U.heap = h0) (fun _ _ _ _ _ => True) (fun _ U o U' => ∃ v L, o = .returned v ∧ Q10n4 Z q10n4_0 qb kb y0 y1 y2 y3 zc h0 n0 v U'.heap L ∧ FrameEnd U o U' L ({ frames := 1, cells := 0, slots := 0, locals := 13 } : Room).cells ({ frames := 1, cells := 0, slots := 0, locals := 13 } : Room).slots) := by
  refine MetFree.of_bodySF (plainFor_of_name pn_2) hisR ?_
  intro p e s m args below meth c s₁ Bd hml0 hP hK
  obtain ⟨rfl, hZ, hh⟩ := hP
  have hx := Bd.exec
  have hby := Bd.bytes
  have hml : c.maxLocals = 1 := hml0
  have hown : s.vm.findClass "java/lang/String" = some m.cls := findClass_of_methodNamed Bd.named
  have hnm := (name_of_methodNamed Bd.named Bd.method).1
  have X0 : Stand p l e ({ frames := 1, cells := 0, slots := 0, locals := 13 } : Room) s m #[(.ref q10n4_0)] below meth c s₁ [] 0 0 := Stand.of_body Bd
  have e0 : s₁.heap = h0 := by rw [← hh, Bd.state]; rfl
  have N0 := Fr.nil n0
  obtain ⟨S0, hE0⟩ : ∃ z, z = s₁.setTop (entryFrame m #[(.ref q10n4_0)] 1) := ⟨_, rfl⟩
  have P0 : own_Go p e below S0 (s₁.setTop (mkF m 0 #[.val (.ref q10n4_0)] [])) := fun t k => by rw [hE0]; exact castTop (ef_10n4 m q10n4_0) k
  have P1 : own_Go p e below S0 (s₁.setTop (mkF m 1 #[.val (.ref q10n4_0)] [(.ref q10n4_0)])) := fun t k => P0 t (by
    refine XS.aloadN X0.here hx rfl (hb hby d10_0) rfl rfl ?_
    show Steps p.tables e below (s₁.setTop (mkF m 1 #[.val (.ref q10n4_0)] [(.ref q10n4_0)])) t
    exact k)
  obtain ⟨T2, X2, e2, st2⟩ := getF X0 hx hZ hown (host := "") (Or.inl (own_w hw 24 rfl)) Via.refl e0 F_q10n4_0_value (g := (mkF m 1 #[.val (.ref q10n4_0)] [(.ref q10n4_0)])) rfl rfl (hb hby d10_1)
  have P2 : own_Go p e below S0 (T2.setTop (mkF m 4 #[.val (.ref q10n4_0)] [(.ref qb)])) := fun t k => P1 t (st2 _ k)
  obtain ⟨cl3, Ar3, q3, Sz3, Nn3, Hh3, Gg3⟩ := id A_qb
  have P4 : own_Go p e below S0 (T2.setTop (mkF m 6 #[.val (.ref q10n4_0)] [(.ref q10n4_0), (.int 4)])) := fun t k => P2 t (by
    show Steps p.tables e below (T2.setTop (mkF m 4 #[.val (.ref q10n4_0)] [(.ref qb)])) t
    refine X2.arraylength hx (by rw [e2]; exact Ar3.1) (State.isArrayOf_alike hZ.alike Ar3.2.1) (g := (mkF m 4 #[.val (.ref q10n4_0)] [(.ref qb)])) rfl rfl (hb hby d10_4) _ ?_
    rw [len_of Sz3 Nn3]
    refine XS.aloadN X2.here hx rfl (hb hby d10_5) rfl rfl ?_
    show Steps p.tables e below (T2.setTop (mkF m 6 #[.val (.ref q10n4_0)] [(.ref q10n4_0), (.int 4)])) t
    exact k)
  obtain ⟨cq5, kq5, q5a, q5b, q5c⟩ := isOf hZ e2 E_q10n4_0
  obtain ⟨_, _, ⟨T5, L5, k5, n5⟩, -, X5, ⟨Lc5, hQ5, l5, y5, z5⟩, st5⟩ := X2.virtualBack hx (y := (⟨"java/lang/String", "coder", "()B"⟩ : MethodName)) (z := (⟨"java/lang/String", "coder", "()B"⟩ : MethodName)) hown (mvT hZ (own_w hw 64 rfl)) (mvT hZ (own_w hw 65 rfl)) (notFace_of_selects (args := #[]) (mvT hZ (own_w hw 67 rfl))) (mvT hZ (own_w hw 67 rfl)) (mvT hZ (own_w hw 66 rfl)) (by decide) (backOf (W := 1) (rm11 l Z a0 hw [] q10n4_0 zc h0 n0 Z0 S_COMPACT_STRINGS hcs F_q10n4_0_coder) hZ (own_w hw 68 rfl) (own_w hw 7 rfl) (by decide) (by decide)) q5a q5c (g := (mkF m 6 #[.val (.ref q10n4_0)] [(.ref q10n4_0), (.int 4)])) rfl (by rw [hml]; rfl) (Steps.refl _) (argsL := []) (rest := [(.int 4)]) (lenOf pd_5 rfl) rfl (by show 2 * 0 + _ ≤ _; exact Nat.le_of_eq rfl) (hb hby d10_6) (fun _ _ => ⟨rfl, e2, (by decide : 0 + 0 ≤ _), (by decide : 0 + 0 ≤ _)⟩)
  dsimp only [Pt.U, Pt.locs, Pt.cells, Pt.slots] at X5 l5 y5 z5 st5 hQ5
  subst l5 y5 z5
  obtain ⟨rfl, N5q, e5⟩ := hQ5
  have N5 := Fr.app N0 N5q
  have P5 : own_Go p e below S0 (T5.setTop (mkF m 9 #[.val (.ref q10n4_0)] [(.int 0), (.int 4)])) := fun t k => P4 t (st5.trans k)
  have P6 : own_Go p e below S0 (T5.setTop (mkF m 10 #[.val (.ref q10n4_0)] [(.int 4)])) := fun t k => P5 t (by
    refine XS.ishr X5.here hx rfl (hb hby d10_9) rfl ?_
    show Steps p.tables e below (T5.setTop (mkF m 10 #[.val (.ref q10n4_0)] [(.int 4)])) t
    exact k)
  obtain ⟨fs, hr, hrun, hended, hW, hsame⟩ := X5.leave (v := some (.int 4)) (fun h => by rw [Bd.returns] at h; cases h) (BodyLoose.notSynchronized Bd)
  refine ⟨_, _, own_from hE0 (P6 _ ?_), hrun, hended, _, _, rfl, ?_, ⟨_, rfl⟩, hW, hsame.mono (by decide) (by decide)⟩
  · show Steps p.tables e below (T5.setTop (mkF m 10 #[.val (.ref q10n4_0)] [(.int 4)])) _
    exact retI X5 hx Bd.returns (hb hby d10_10) hr
  · show Q10n4 Z q10n4_0 qb kb y0 y1 y2 y3 zc h0 n0 _ T5.heap _
    rw [e5]
    exact ⟨rfl, N5, rfl⟩
theorem ef_20n4c42 (m : MethodId) (qb : Addr) : entryFrame m #[(.ref qb), (.int 42), (.int 0), (.int 4)] 6 = mkF m 0 #[.val (.ref qb), .val (.int 42), .val (.int 0), .val (.int 4), .unset, .unset] [] := by first | (simp [entryFrame, mkF, argsToLocals, Value.category]; done) | rfl
def r20n4c42 (y0 : Int32) (y1 : Int32) (y2 : Int32) (y3 : Int32) : Int32 := (if y0 = (42 : Int32) then (0 : Int32) else (if y1 = (42 : Int32) then (1 : Int32) else (if y2 = (42 : Int32) then (2 : Int32) else (if y3 = (42 : Int32) then (3 : Int32) else (-1 : Int32)))))
def Q20n4c42 (Z : State) (qb : Addr) (kb : ClassId) (y0 : Int32) (y1 : Int32) (y2 : Int32) (y3 : Int32) (h0 : Heap) (n0 : Nat) (v : Option Value) (h : Heap) (L : List Loc) : Prop := v = some (.int (r20n4c42 y0 y1 y2 y3)) ∧ Fr n0 L ∧ h = h0
set_option maxRecDepth 65536 in
set_option maxHeartbeats 40000000 in
theorem rm20n4c42 (l : Launch) (Z : State) (a0 : Array Value) (hw : ∀ d ∈ tables_1, d.before a0 Z = true) (ws : List Jvm.Cond) (qb : Addr) (kb : ClassId) (y0 : Int32) (y1 : Int32) (y2 : Int32) (y3 : Int32) (h0 : Heap) (n0 : Nat) (Z0 : n0 ≤ h0.size) (A_qb : Arv Z h0 qb kb .byte (4 : Int32) [(.int y0), (.int y1), (.int y2), (.int y3)] (.int 0)) :
    MetFree l (⟨"java/lang/StringLatin1", "indexOfChar", "([BIII)I"⟩ : MethodName) (head1 (Jvm.Cond.code (⟨"java/lang/StringLatin1", "indexOfChar", "([BIII)I"⟩ : MethodName) jdk_43_method_23_code 6 (some .int) :: ws) ({ frames := 0, cells := 0, slots := 0, locals := 0 } : Room)) (fun a U => a = #[(.ref qb), (.int 42), (.int 0), (.int 4)] ∧ Z.Warmed39 U.vm ∧ U.heap = h0) (fun _ _ _ _ _ => True) (fun _ U o U' => ∃ v L, o = .returned v ∧ Q20n4c42 Z qb kb y0 y1 y2 y3 h0 n0 v U'.heap L ∧ FrameEnd U o U' L ({ frames := 0, cells := 0, slots := 0, locals := 0 } : Room).cells ({ frames := 0, cells := 0, slots := 0, locals := 0 } : Room).slots) := by
  refine MetFree.of_bodySF (plainFor_of_name pn_13) hisR ?_
  intro p e s m args below meth c s₁ Bd hml0 hP hK
  obtain ⟨rfl, hZ, hh⟩ := hP
  have hx := Bd.exec
  have hby := Bd.bytes
  have hml : c.maxLocals = 6 := hml0
  have hown : s.vm.findClass "java/lang/StringLatin1" = some m.cls := findClass_of_methodNamed Bd.named
  have hnm := (name_of_methodNamed Bd.named Bd.method).1
  have X0 : Stand p l e ({ frames := 0, cells := 0, slots := 0, locals := 0 } : Room) s m #[(.ref qb), (.int 42), (.int 0), (.int 4)] below meth c s₁ [] 0 0 := Stand.of_body Bd
  have e0 : s₁.heap = h0 := by rw [← hh, Bd.state]; rfl
  have N0 := Fr.nil n0
  obtain ⟨S0, hE0⟩ : ∃ z, z = s₁.setTop (entryFrame m #[(.ref qb), (.int 42), (.int 0), (.int 4)] 6) := ⟨_, rfl⟩
  have P0 : own_Go p e below S0 (s₁.setTop (mkF m 0 #[.val (.ref qb), .val (.int 42), .val (.int 0), .val (.int 4), .unset, .unset] [])) := fun t k => by rw [hE0]; exact castTop (ef_20n4c42 m qb) k
  obtain ⟨cl1, Ar1, q1, Sz1, Nn1, Hh1, Gg1⟩ := id A_qb
  have hin1 : ¬ ((0 : Int32) < 0 ∨ cl1.slots.size ≤ ((0 : Int32)).toNatClampNeg) := inb_of Sz1 ⟨by decide, by decide⟩
  have hat1 : cl1.slots[((0 : Int32)).toNatClampNeg]? = some (.int y0) := Has.at Hh1 hin1 rfl
  have P2 : own_Go p e below S0 (s₁.setTop (mkF m 19 #[.val (.ref qb), .val (.int 42), .val (.int 0), .val (.int 4), .val (.int 42), .val (.int 0)] [(.int 42), (.int y0)])) := fun t k => P0 t (by
    refine XS.iloadN X0.here hx rfl (hb hby d20_0) rfl ?_
    refine XS.i2b X0.here hx rfl (hb hby d20_1) rfl ?_
    refine XS.istore X0.here hx rfl (hb hby d20_2) rfl (l' := #[.val (.ref qb), .val (.int 42), .val (.int 0), .val (.int 4), .val (.int 42), .unset]) rfl ?_
    refine XS.iloadN X0.here hx rfl (hb hby d20_4) rfl ?_
    refine XS.istore X0.here hx rfl (hb hby d20_5) rfl (l' := #[.val (.ref qb), .val (.int 42), .val (.int 0), .val (.int 4), .val (.int 42), .val (.int 0)]) rfl ?_
    refine XS.iload X0.here hx rfl (hb hby d20_7) rfl ?_
    show Steps p.tables e below (s₁.setTop (mkF m 9 #[.val (.ref qb), .val (.int 42), .val (.int 0), .val (.int 4), .val (.int 42), .val (.int 0)] [(.int 0)])) t
    refine XS.iloadN X0.here hx rfl (hb hby d20_9) rfl ?_
    refine XS.icmpNo X0.here hx rfl (hb hby d20_10) rfl (tlt (by decide)).2.1 ?_
    refine XS.aloadN X0.here hx rfl (hb hby d20_13) rfl rfl ?_
    refine XS.iload X0.here hx rfl (hb hby d20_14) rfl ?_
    show Steps p.tables e below (s₁.setTop (mkF m 16 #[.val (.ref qb), .val (.int 42), .val (.int 0), .val (.int 4), .val (.int 42), .val (.int 0)] [(.int 0), (.ref qb)])) t
    refine X0.baloadBytes hx (j := (0 : Int32)) (v := (.int y0)) (by rw [e0]; exact Ar1.1) (State.isArrayOf_alike hZ.alike Ar1.2.1) Ar1.2.2 hin1 hat1 (g := (mkF m 16 #[.val (.ref qb), .val (.int 42), .val (.int 0), .val (.int 4), .val (.int 42), .val (.int 0)] [(.int 0), (.ref qb)])) rfl rfl (hb hby d20_16) _ ?_
    refine XS.iload X0.here hx rfl (hb hby d20_17) rfl ?_
    show Steps p.tables e below (s₁.setTop (mkF m 19 #[.val (.ref qb), .val (.int 42), .val (.int 0), .val (.int 4), .val (.int 42), .val (.int 0)] [(.int 42), (.int y0)])) t
    exact k)
  by_cases c3 : y0 = (42 : Int32)
  · skip
    have P4 : own_Go p e below S0 (s₁.setTop (mkF m 24 #[.val (.ref qb), .val (.int 42), .val (.int 0), .val (.int 4), .val (.int 42), .val (.int 0)] [(.int 0)])) := fun t k => P2 t (by
      refine XS.icmpNo X0.here hx rfl (hb hby d20_19) rfl (teq c3).2 ?_
      refine XS.iload X0.here hx rfl (hb hby d20_22) rfl ?_
      show Steps p.tables e below (s₁.setTop (mkF m 24 #[.val (.ref qb), .val (.int 42), .val (.int 0), .val (.int 4), .val (.int 42), .val (.int 0)] [(.int 0)])) t
      exact k)
    obtain ⟨fs, hr, hrun, hended, hW, hsame⟩ := X0.leave (v := some (.int 0)) (fun h => by rw [Bd.returns] at h; cases h) (BodyLoose.notSynchronized Bd)
    refine ⟨_, _, own_from hE0 (P4 _ ?_), hrun, hended, _, _, rfl, ?_, ⟨_, rfl⟩, hW, hsame.mono (by decide) (by decide)⟩
    · show Steps p.tables e below (s₁.setTop (mkF m 24 #[.val (.ref qb), .val (.int 42), .val (.int 0), .val (.int 4), .val (.int 42), .val (.int 0)] [(.int 0)])) _
      exact retI X0 hx Bd.returns (hb hby d20_24) hr
    · show Q20n4c42 Z qb kb y0 y1 y2 y3 h0 n0 _ s₁.heap _
      rw [e0]
      exact ⟨(congrArg (fun z => some (Value.int z)) (Eq.symm (if_pos c3))), N0, rfl⟩
  · skip
    obtain ⟨cl5, Ar5, q5, Sz5, Nn5, Hh5, Gg5⟩ := id A_qb
    have hin5 : ¬ ((1 : Int32) < 0 ∨ cl5.slots.size ≤ ((1 : Int32)).toNatClampNeg) := inb_of Sz5 ⟨by decide, by decide⟩
    have hat5 : cl5.slots[((1 : Int32)).toNatClampNeg]? = some (.int y1) := Has.at Hh5 hin5 rfl
    have P6 : own_Go p e below S0 (s₁.setTop (mkF m 19 #[.val (.ref qb), .val (.int 42), .val (.int 0), .val (.int 4), .val (.int 42), .val (.int 1)] [(.int 42), (.int y1)])) := fun t k => P2 t (by
      refine XS.icmpYes X0.here hx rfl (pc0 := 19) (pc' := 25) rfl (hb hby d20_19) rfl (feq c3).2 (by decide) (by decide) ?_
      refine XS.iinc X0.here hx rfl (hb hby d20_25) rfl (l' := #[.val (.ref qb), .val (.int 42), .val (.int 0), .val (.int 4), .val (.int 42), .val (.int 1)]) rfl ?_
      refine XS.goto X0.here hx rfl (pc0 := 28) (pc' := 7) rfl (hb hby d20_28) (by decide) (by decide) ?_
      refine XS.iload X0.here hx rfl (hb hby d20_7) rfl ?_
      refine XS.iloadN X0.here hx rfl (hb hby d20_9) rfl ?_
      refine XS.icmpNo X0.here hx rfl (hb hby d20_10) rfl (tlt (by decide)).2.1 ?_
      show Steps p.tables e below (s₁.setTop (mkF m 13 #[.val (.ref qb), .val (.int 42), .val (.int 0), .val (.int 4), .val (.int 42), .val (.int 1)] [])) t
      refine XS.aloadN X0.here hx rfl (hb hby d20_13) rfl rfl ?_
      refine XS.iload X0.here hx rfl (hb hby d20_14) rfl ?_
      show Steps p.tables e below (s₁.setTop (mkF m 16 #[.val (.ref qb), .val (.int 42), .val (.int 0), .val (.int 4), .val (.int 42), .val (.int 1)] [(.int 1), (.ref qb)])) t
      refine X0.baloadBytes hx (j := (1 : Int32)) (v := (.int y1)) (by rw [e0]; exact Ar5.1) (State.isArrayOf_alike hZ.alike Ar5.2.1) Ar5.2.2 hin5 hat5 (g := (mkF m 16 #[.val (.ref qb), .val (.int 42), .val (.int 0), .val (.int 4), .val (.int 42), .val (.int 1)] [(.int 1), (.ref qb)])) rfl rfl (hb hby d20_16) _ ?_
      refine XS.iload X0.here hx rfl (hb hby d20_17) rfl ?_
      show Steps p.tables e below (s₁.setTop (mkF m 19 #[.val (.ref qb), .val (.int 42), .val (.int 0), .val (.int 4), .val (.int 42), .val (.int 1)] [(.int 42), (.int y1)])) t
      exact k)
    by_cases c7 : y1 = (42 : Int32)
    · skip
      have P8 : own_Go p e below S0 (s₁.setTop (mkF m 24 #[.val (.ref qb), .val (.int 42), .val (.int 0), .val (.int 4), .val (.int 42), .val (.int 1)] [(.int 1)])) := fun t k => P6 t (by
        refine XS.icmpNo X0.here hx rfl (hb hby d20_19) rfl (teq c7).2 ?_
        refine XS.iload X0.here hx rfl (hb hby d20_22) rfl ?_
        show Steps p.tables e below (s₁.setTop (mkF m 24 #[.val (.ref qb), .val (.int 42), .val (.int 0), .val (.int 4), .val (.int 42), .val (.int 1)] [(.int 1)])) t
        exact k)
      obtain ⟨fs, hr, hrun, hended, hW, hsame⟩ := X0.leave (v := some (.int 1)) (fun h => by rw [Bd.returns] at h; cases h) (BodyLoose.notSynchronized Bd)
      refine ⟨_, _, own_from hE0 (P8 _ ?_), hrun, hended, _, _, rfl, ?_, ⟨_, rfl⟩, hW, hsame.mono (by decide) (by decide)⟩
      · show Steps p.tables e below (s₁.setTop (mkF m 24 #[.val (.ref qb), .val (.int 42), .val (.int 0), .val (.int 4), .val (.int 42), .val (.int 1)] [(.int 1)])) _
        exact retI X0 hx Bd.returns (hb hby d20_24) hr
      · show Q20n4c42 Z qb kb y0 y1 y2 y3 h0 n0 _ s₁.heap _
        rw [e0]
        exact ⟨(congrArg (fun z => some (Value.int z)) (Eq.symm (Eq.trans (if_neg c3) (if_pos c7)))), N0, rfl⟩
    · skip
      obtain ⟨cl9, Ar9, q9, Sz9, Nn9, Hh9, Gg9⟩ := id A_qb
      have hin9 : ¬ ((2 : Int32) < 0 ∨ cl9.slots.size ≤ ((2 : Int32)).toNatClampNeg) := inb_of Sz9 ⟨by decide, by decide⟩
      have hat9 : cl9.slots[((2 : Int32)).toNatClampNeg]? = some (.int y2) := Has.at Hh9 hin9 rfl
      have P10 : own_Go p e below S0 (s₁.setTop (mkF m 19 #[.val (.ref qb), .val (.int 42), .val (.int 0), .val (.int 4), .val (.int 42), .val (.int 2)] [(.int 42), (.int y2)])) := fun t k => P6 t (by
        refine XS.icmpYes X0.here hx rfl (pc0 := 19) (pc' := 25) rfl (hb hby d20_19) rfl (feq c7).2 (by decide) (by decide) ?_
        refine XS.iinc X0.here hx rfl (hb hby d20_25) rfl (l' := #[.val (.ref qb), .val (.int 42), .val (.int 0), .val (.int 4), .val (.int 42), .val (.int 2)]) rfl ?_
        refine XS.goto X0.here hx rfl (pc0 := 28) (pc' := 7) rfl (hb hby d20_28) (by decide) (by decide) ?_
        refine XS.iload X0.here hx rfl (hb hby d20_7) rfl ?_
        refine XS.iloadN X0.here hx rfl (hb hby d20_9) rfl ?_
        refine XS.icmpNo X0.here hx rfl (hb hby d20_10) rfl (tlt (by decide)).2.1 ?_
        show Steps p.tables e below (s₁.setTop (mkF m 13 #[.val (.ref qb), .val (.int 42), .val (.int 0), .val (.int 4), .val (.int 42), .val (.int 2)] [])) t
        refine XS.aloadN X0.here hx rfl (hb hby d20_13) rfl rfl ?_
        refine XS.iload X0.here hx rfl (hb hby d20_14) rfl ?_
        show Steps p.tables e below (s₁.setTop (mkF m 16 #[.val (.ref qb), .val (.int 42), .val (.int 0), .val (.int 4), .val (.int 42), .val (.int 2)] [(.int 2), (.ref qb)])) t
        refine X0.baloadBytes hx (j := (2 : Int32)) (v := (.int y2)) (by rw [e0]; exact Ar9.1) (State.isArrayOf_alike hZ.alike Ar9.2.1) Ar9.2.2 hin9 hat9 (g := (mkF m 16 #[.val (.ref qb), .val (.int 42), .val (.int 0), .val (.int 4), .val (.int 42), .val (.int 2)] [(.int 2), (.ref qb)])) rfl rfl (hb hby d20_16) _ ?_
        refine XS.iload X0.here hx rfl (hb hby d20_17) rfl ?_
        show Steps p.tables e below (s₁.setTop (mkF m 19 #[.val (.ref qb), .val (.int 42), .val (.int 0), .val (.int 4), .val (.int 42), .val (.int 2)] [(.int 42), (.int y2)])) t
        exact k)
      by_cases c11 : y2 = (42 : Int32)
      · skip
        have P12 : own_Go p e below S0 (s₁.setTop (mkF m 24 #[.val (.ref qb), .val (.int 42), .val (.int 0), .val (.int 4), .val (.int 42), .val (.int 2)] [(.int 2)])) := fun t k => P10 t (by
          refine XS.icmpNo X0.here hx rfl (hb hby d20_19) rfl (teq c11).2 ?_
          refine XS.iload X0.here hx rfl (hb hby d20_22) rfl ?_
          show Steps p.tables e below (s₁.setTop (mkF m 24 #[.val (.ref qb), .val (.int 42), .val (.int 0), .val (.int 4), .val (.int 42), .val (.int 2)] [(.int 2)])) t
          exact k)
        obtain ⟨fs, hr, hrun, hended, hW, hsame⟩ := X0.leave (v := some (.int 2)) (fun h => by rw [Bd.returns] at h; cases h) (BodyLoose.notSynchronized Bd)
        refine ⟨_, _, own_from hE0 (P12 _ ?_), hrun, hended, _, _, rfl, ?_, ⟨_, rfl⟩, hW, hsame.mono (by decide) (by decide)⟩
        · show Steps p.tables e below (s₁.setTop (mkF m 24 #[.val (.ref qb), .val (.int 42), .val (.int 0), .val (.int 4), .val (.int 42), .val (.int 2)] [(.int 2)])) _
          exact retI X0 hx Bd.returns (hb hby d20_24) hr
        · show Q20n4c42 Z qb kb y0 y1 y2 y3 h0 n0 _ s₁.heap _
          rw [e0]
          exact ⟨(congrArg (fun z => some (Value.int z)) (Eq.symm (Eq.trans (if_neg c3) (Eq.trans (if_neg c7) (if_pos c11))))), N0, rfl⟩
      · skip
        obtain ⟨cl13, Ar13, q13, Sz13, Nn13, Hh13, Gg13⟩ := id A_qb
        have hin13 : ¬ ((3 : Int32) < 0 ∨ cl13.slots.size ≤ ((3 : Int32)).toNatClampNeg) := inb_of Sz13 ⟨by decide, by decide⟩
        have hat13 : cl13.slots[((3 : Int32)).toNatClampNeg]? = some (.int y3) := Has.at Hh13 hin13 rfl
        have P14 : own_Go p e below S0 (s₁.setTop (mkF m 19 #[.val (.ref qb), .val (.int 42), .val (.int 0), .val (.int 4), .val (.int 42), .val (.int 3)] [(.int 42), (.int y3)])) := fun t k => P10 t (by
          refine XS.icmpYes X0.here hx rfl (pc0 := 19) (pc' := 25) rfl (hb hby d20_19) rfl (feq c11).2 (by decide) (by decide) ?_
          refine XS.iinc X0.here hx rfl (hb hby d20_25) rfl (l' := #[.val (.ref qb), .val (.int 42), .val (.int 0), .val (.int 4), .val (.int 42), .val (.int 3)]) rfl ?_
          refine XS.goto X0.here hx rfl (pc0 := 28) (pc' := 7) rfl (hb hby d20_28) (by decide) (by decide) ?_
          refine XS.iload X0.here hx rfl (hb hby d20_7) rfl ?_
          refine XS.iloadN X0.here hx rfl (hb hby d20_9) rfl ?_
          refine XS.icmpNo X0.here hx rfl (hb hby d20_10) rfl (tlt (by decide)).2.1 ?_
          show Steps p.tables e below (s₁.setTop (mkF m 13 #[.val (.ref qb), .val (.int 42), .val (.int 0), .val (.int 4), .val (.int 42), .val (.int 3)] [])) t
          refine XS.aloadN X0.here hx rfl (hb hby d20_13) rfl rfl ?_
          refine XS.iload X0.here hx rfl (hb hby d20_14) rfl ?_
          show Steps p.tables e below (s₁.setTop (mkF m 16 #[.val (.ref qb), .val (.int 42), .val (.int 0), .val (.int 4), .val (.int 42), .val (.int 3)] [(.int 3), (.ref qb)])) t
          refine X0.baloadBytes hx (j := (3 : Int32)) (v := (.int y3)) (by rw [e0]; exact Ar13.1) (State.isArrayOf_alike hZ.alike Ar13.2.1) Ar13.2.2 hin13 hat13 (g := (mkF m 16 #[.val (.ref qb), .val (.int 42), .val (.int 0), .val (.int 4), .val (.int 42), .val (.int 3)] [(.int 3), (.ref qb)])) rfl rfl (hb hby d20_16) _ ?_
          refine XS.iload X0.here hx rfl (hb hby d20_17) rfl ?_
          show Steps p.tables e below (s₁.setTop (mkF m 19 #[.val (.ref qb), .val (.int 42), .val (.int 0), .val (.int 4), .val (.int 42), .val (.int 3)] [(.int 42), (.int y3)])) t
          exact k)
        by_cases c15 : y3 = (42 : Int32)
        · skip
          have P16 : own_Go p e below S0 (s₁.setTop (mkF m 24 #[.val (.ref qb), .val (.int 42), .val (.int 0), .val (.int 4), .val (.int 42), .val (.int 3)] [(.int 3)])) := fun t k => P14 t (by
            refine XS.icmpNo X0.here hx rfl (hb hby d20_19) rfl (teq c15).2 ?_
            refine XS.iload X0.here hx rfl (hb hby d20_22) rfl ?_
            show Steps p.tables e below (s₁.setTop (mkF m 24 #[.val (.ref qb), .val (.int 42), .val (.int 0), .val (.int 4), .val (.int 42), .val (.int 3)] [(.int 3)])) t
            exact k)
          obtain ⟨fs, hr, hrun, hended, hW, hsame⟩ := X0.leave (v := some (.int 3)) (fun h => by rw [Bd.returns] at h; cases h) (BodyLoose.notSynchronized Bd)
          refine ⟨_, _, own_from hE0 (P16 _ ?_), hrun, hended, _, _, rfl, ?_, ⟨_, rfl⟩, hW, hsame.mono (by decide) (by decide)⟩
          · show Steps p.tables e below (s₁.setTop (mkF m 24 #[.val (.ref qb), .val (.int 42), .val (.int 0), .val (.int 4), .val (.int 42), .val (.int 3)] [(.int 3)])) _
            exact retI X0 hx Bd.returns (hb hby d20_24) hr
          · show Q20n4c42 Z qb kb y0 y1 y2 y3 h0 n0 _ s₁.heap _
            rw [e0]
            exact ⟨(congrArg (fun z => some (Value.int z)) (Eq.symm (Eq.trans (if_neg c3) (Eq.trans (if_neg c7) (Eq.trans (if_neg c11) (if_pos c15)))))), N0, rfl⟩
        · skip
          have P17 : own_Go p e below S0 (s₁.setTop (mkF m 32 #[.val (.ref qb), .val (.int 42), .val (.int 0), .val (.int 4), .val (.int 42), .val (.int 4)] [(.int (-1))])) := fun t k => P14 t (by
            refine XS.icmpYes X0.here hx rfl (pc0 := 19) (pc' := 25) rfl (hb hby d20_19) rfl (feq c15).2 (by decide) (by decide) ?_
            refine XS.iinc X0.here hx rfl (hb hby d20_25) rfl (l' := #[.val (.ref qb), .val (.int 42), .val (.int 0), .val (.int 4), .val (.int 42), .val (.int 4)]) rfl ?_
            refine XS.goto X0.here hx rfl (pc0 := 28) (pc' := 7) rfl (hb hby d20_28) (by decide) (by decide) ?_
            refine XS.iload X0.here hx rfl (hb hby d20_7) rfl ?_
            refine XS.iloadN X0.here hx rfl (hb hby d20_9) rfl ?_
            refine XS.icmpYes X0.here hx rfl (pc0 := 10) (pc' := 31) rfl (hb hby d20_10) rfl (flt (by decide)).2.1 (by decide) (by decide) ?_
            show Steps p.tables e below (s₁.setTop (mkF m 31 #[.val (.ref qb), .val (.int 42), .val (.int 0), .val (.int 4), .val (.int 42), .val (.int 4)] [])) t
            refine XS.iconst X0.here hx rfl (hb hby d20_31) ?_
            show Steps p.tables e below (s₁.setTop (mkF m 32 #[.val (.ref qb), .val (.int 42), .val (.int 0), .val (.int 4), .val (.int 42), .val (.int 4)] [(.int (-1))])) t
            exact k)
          obtain ⟨fs, hr, hrun, hended, hW, hsame⟩ := X0.leave (v := some (.int (-1))) (fun h => by rw [Bd.returns] at h; cases h) (BodyLoose.notSynchronized Bd)
          refine ⟨_, _, own_from hE0 (P17 _ ?_), hrun, hended, _, _, rfl, ?_, ⟨_, rfl⟩, hW, hsame.mono (by decide) (by decide)⟩
          · show Steps p.tables e below (s₁.setTop (mkF m 32 #[.val (.ref qb), .val (.int 42), .val (.int 0), .val (.int 4), .val (.int 42), .val (.int 4)] [(.int (-1))])) _
            exact retI X0 hx Bd.returns (hb hby d20_32) hr
          · show Q20n4c42 Z qb kb y0 y1 y2 y3 h0 n0 _ s₁.heap _
            rw [e0]
            exact ⟨(congrArg (fun z => some (Value.int z)) (Eq.symm (Eq.trans (if_neg c3) (Eq.trans (if_neg c7) (Eq.trans (if_neg c11) (if_neg c15)))))), N0, rfl⟩
theorem ef_12n4c42 (m : MethodId) (qb : Addr) : entryFrame m #[(.ref qb), (.int 42), (.int 0), (.int 4)] 4 = mkF m 0 #[.val (.ref qb), .val (.int 42), .val (.int 0), .val (.int 4)] [] := by first | (simp [entryFrame, mkF, argsToLocals, Value.category]; done) | rfl
def Q12n4c42 (Z : State) (qb : Addr) (kb : ClassId) (y0 : Int32) (y1 : Int32) (y2 : Int32) (y3 : Int32) (h0 : Heap) (n0 : Nat) (v : Option Value) (h : Heap) (L : List Loc) : Prop := v = some (.int (r20n4c42 y0 y1 y2 y3)) ∧ Fr n0 L ∧ h = h0
set_option maxRecDepth 65536 in
set_option maxHeartbeats 40000000 in
theorem rm12n4c42 (l : Launch) (Z : State) (a0 : Array Value) (hw : ∀ d ∈ tables_1, d.before a0 Z = true) (ws : List Jvm.Cond) (qb : Addr) (kb : ClassId) (y0 : Int32) (y1 : Int32) (y2 : Int32) (y3 : Int32) (h0 : Heap) (n0 : Nat) (Z0 : n0 ≤ h0.size) (A_qb : Arv Z h0 qb kb .byte (4 : Int32) [(.int y0), (.int y1), (.int y2), (.int y3)] (.int 0)) :
    MetFree l (⟨"java/lang/StringLatin1", "indexOf", "([BIII)I"⟩ : MethodName) (head1 (Jvm.Cond.code (⟨"java/lang/StringLatin1", "indexOf", "([BIII)I"⟩ : MethodName) jdk_43_method_22_code 4 (some .int) :: ws) ({ frames := 1, cells := 0, slots := 0, locals := 17 } : Room)) (fun a U => a = #[(.ref qb), (.int 42), (.int 0), (.int 4)] ∧ Z.Warmed39 U.vm ∧ U.heap = h0) (fun _ _ _ _ _ => True) (fun _ U o U' => ∃ v L, o = .returned v ∧ Q12n4c42 Z qb kb y0 y1 y2 y3 h0 n0 v U'.heap L ∧ FrameEnd U o U' L ({ frames := 1, cells := 0, slots := 0, locals := 17 } : Room).cells ({ frames := 1, cells := 0, slots := 0, locals := 17 } : Room).slots) := by
  refine MetFree.of_bodySF (plainFor_of_name pn_13) hisR ?_
  intro p e s m args below meth c s₁ Bd hml0 hP hK
  obtain ⟨rfl, hZ, hh⟩ := hP
  have hx := Bd.exec
  have hby := Bd.bytes
  have hml : c.maxLocals = 4 := hml0
  have hown : s.vm.findClass "java/lang/StringLatin1" = some m.cls := findClass_of_methodNamed Bd.named
  have hnm := (name_of_methodNamed Bd.named Bd.method).1
  have X0 : Stand p l e ({ frames := 1, cells := 0, slots := 0, locals := 17 } : Room) s m #[(.ref qb), (.int 42), (.int 0), (.int 4)] below meth c s₁ [] 0 0 := Stand.of_body Bd
  have e0 : s₁.heap = h0 := by rw [← hh, Bd.state]; rfl
  have N0 := Fr.nil n0
  obtain ⟨S0, hE0⟩ : ∃ z, z = s₁.setTop (entryFrame m #[(.ref qb), (.int 42), (.int 0), (.int 4)] 4) := ⟨_, rfl⟩
  have P0 : own_Go p e below S0 (s₁.setTop (mkF m 0 #[.val (.ref qb), .val (.int 42), .val (.int 0), .val (.int 4)] [])) := fun t k => by rw [hE0]; exact castTop (ef_12n4c42 m qb) k
  have P1 : own_Go p e below S0 (s₁.setTop (mkF m 1 #[.val (.ref qb), .val (.int 42), .val (.int 0), .val (.int 4)] [(.int 42)])) := fun t k => P0 t (by
    refine XS.iloadN X0.here hx rfl (hb hby d12_0) rfl ?_
    show Steps p.tables e below (s₁.setTop (mkF m 1 #[.val (.ref qb), .val (.int 42), .val (.int 0), .val (.int 4)] [(.int 42)])) t
    exact k)
  obtain ⟨_, _, ⟨T2, L2, k2, n2⟩, -, X2, ⟨Lc2, hQ2, l2, y2, z2⟩, st2⟩ := Jvm.LawKit.callS X0 hx (y := (⟨"java/lang/StringLatin1", "canEncode", "(I)Z"⟩ : MethodName)) hown (mvT hZ (own_w hw 73 rfl)) (mvT hZ (own_w hw 74 rfl)) (mvT hZ (own_w hw 71 rfl)) (mvT hZ (own_w hw 75 rfl)) (by decide) (backOf (W := 0) (rm13c42 l Z a0 hw []  h0 n0 Z0) hZ (own_w hw 75 rfl) (own_w hw 71 rfl) (by decide) (by decide)) (g := (mkF m 1 #[.val (.ref qb), .val (.int 42), .val (.int 0), .val (.int 4)] [(.int 42)])) rfl (by rw [hml]; rfl) (argsL := [(.int 42)]) (rest := []) (lenOf pd_6 rfl) rfl (by show 2 * 0 + _ ≤ _; exact Nat.le_of_eq rfl) (hb hby d12_1) (fun _ _ => ⟨rfl, e0, (by decide : 0 + 0 ≤ _), (by decide : 0 + 0 ≤ _)⟩)
  dsimp only [Pt.U, Pt.locs, Pt.cells, Pt.slots] at X2 l2 y2 z2 st2 hQ2
  subst l2 y2 z2
  obtain ⟨rfl, N2q, e2⟩ := hQ2
  have N2 := Fr.app N0 N2q
  have P2 : own_Go p e below S0 (T2.setTop (mkF m 4 #[.val (.ref qb), .val (.int 42), .val (.int 0), .val (.int 4)] [(.int 1)])) := fun t k => P1 t (st2 _ k)
  have P3 : own_Go p e below S0 (T2.setTop (mkF m 11 #[.val (.ref qb), .val (.int 42), .val (.int 0), .val (.int 4)] [(.int 0), (.int 0)])) := fun t k => P2 t (by
    refine XS.ifYes X2.here hx rfl (pc0 := 4) (pc' := 9) rfl (hb hby d12_4) rfl ((if0 _ _).trans (feq (by decide)).2) (by decide) (by decide) ?_
    refine XS.iloadN X2.here hx rfl (hb hby d12_9) rfl ?_
    refine XS.iconst X2.here hx rfl (hb hby d12_10) ?_
    show Steps p.tables e below (T2.setTop (mkF m 11 #[.val (.ref qb), .val (.int 42), .val (.int 0), .val (.int 4)] [(.int 0), (.int 0)])) t
    exact k)
  obtain ⟨_, _, ⟨T4, L4, k4, n4⟩, -, X4, ⟨Lc4, hQ4, l4, y4, z4⟩, st4⟩ := Jvm.LawKit.callS X2 hx (y := (⟨"java/lang/Math", "max", "(II)I"⟩ : MethodName)) hown (mvT hZ (own_w hw 76 rfl)) (mvT hZ (own_w hw 77 rfl)) (mvT hZ (own_w hw 78 rfl)) (mvT hZ (own_w hw 79 rfl)) (by decide) (backOf (W := 0) (rm14 l Z a0 hw []  h0 n0 Z0) hZ (own_w hw 79 rfl) (own_w hw 78 rfl) (by decide) (by decide)) (g := (mkF m 11 #[.val (.ref qb), .val (.int 42), .val (.int 0), .val (.int 4)] [(.int 0), (.int 0)])) rfl (by rw [hml]; rfl) (argsL := [(.int 0), (.int 0)]) (rest := []) (lenOf pd_7 rfl) rfl (by show 2 * 0 + _ ≤ _; exact Nat.le_of_eq rfl) (hb hby d12_11) (fun _ _ => ⟨rfl, e2, (by decide : 0 + 0 ≤ _), (by decide : 0 + 0 ≤ _)⟩)
  dsimp only [Pt.U, Pt.locs, Pt.cells, Pt.slots] at X4 l4 y4 z4 st4 hQ4
  subst l4 y4 z4
  obtain ⟨rfl, N4q, e4⟩ := hQ4
  have N4 := Fr.app N2 N4q
  have P4 : own_Go p e below S0 (T4.setTop (mkF m 14 #[.val (.ref qb), .val (.int 42), .val (.int 0), .val (.int 4)] [(.int 0)])) := fun t k => P3 t (st4 _ k)
  obtain ⟨cl5, Ar5, q5, Sz5, Nn5, Hh5, Gg5⟩ := id A_qb
  have P6 : own_Go p e below S0 (T4.setTop (mkF m 18 #[.val (.ref qb), .val (.int 42), .val (.int 0), .val (.int 4)] [(.int 4), (.int 4)])) := fun t k => P4 t (by
    refine XS.istoreN X4.here hx rfl (hb hby d12_14) rfl (l' := #[.val (.ref qb), .val (.int 42), .val (.int 0), .val (.int 4)]) rfl ?_
    refine XS.iloadN X4.here hx rfl (hb hby d12_15) rfl ?_
    refine XS.aloadN X4.here hx rfl (hb hby d12_16) rfl rfl ?_
    show Steps p.tables e below (T4.setTop (mkF m 17 #[.val (.ref qb), .val (.int 42), .val (.int 0), .val (.int 4)] [(.ref qb), (.int 4)])) t
    refine X4.arraylength hx (by rw [e4]; exact Ar5.1) (State.isArrayOf_alike hZ.alike Ar5.2.1) (g := (mkF m 17 #[.val (.ref qb), .val (.int 42), .val (.int 0), .val (.int 4)] [(.ref qb), (.int 4)])) rfl rfl (hb hby d12_17) _ ?_
    rw [len_of Sz5 Nn5]
    show Steps p.tables e below (T4.setTop (mkF m 18 #[.val (.ref qb), .val (.int 42), .val (.int 0), .val (.int 4)] [(.int 4), (.int 4)])) t
    exact k)
  obtain ⟨_, _, ⟨T7, L7, k7, n7⟩, -, X7, ⟨Lc7, hQ7, l7, y7, z7⟩, st7⟩ := Jvm.LawKit.callS X4 hx (y := (⟨"java/lang/Math", "min", "(II)I"⟩ : MethodName)) hown (mvT hZ (own_w hw 80 rfl)) (mvT hZ (own_w hw 81 rfl)) (mvT hZ (own_w hw 78 rfl)) (mvT hZ (own_w hw 82 rfl)) (by decide) (backOf (W := 0) (rm15n4 l Z a0 hw []  h0 n0 Z0) hZ (own_w hw 82 rfl) (own_w hw 78 rfl) (by decide) (by decide)) (g := (mkF m 18 #[.val (.ref qb), .val (.int 42), .val (.int 0), .val (.int 4)] [(.int 4), (.int 4)])) rfl (by rw [hml]; rfl) (argsL := [(.int 4), (.int 4)]) (rest := []) (lenOf pd_7 rfl) rfl (by show 2 * 0 + _ ≤ _; exact Nat.le_of_eq rfl) (hb hby d12_18) (fun _ _ => ⟨rfl, e4, (by decide : 0 + 0 ≤ _), (by decide : 0 + 0 ≤ _)⟩)
  dsimp only [Pt.U, Pt.locs, Pt.cells, Pt.slots] at X7 l7 y7 z7 st7 hQ7
  subst l7 y7 z7
  obtain ⟨rfl, N7q, e7⟩ := hQ7
  have N7 := Fr.app N4 N7q
  have P7 : own_Go p e below S0 (T7.setTop (mkF m 21 #[.val (.ref qb), .val (.int 42), .val (.int 0), .val (.int 4)] [(.int 4)])) := fun t k => P6 t (st7 _ k)
  have P8 : own_Go p e below S0 (T7.setTop (mkF m 33 #[.val (.ref qb), .val (.int 42), .val (.int 0), .val (.int 4)] [(.int 4), (.int 0), (.int 42), (.ref qb)])) := fun t k => P7 t (by
    refine XS.istoreN X7.here hx rfl (hb hby d12_21) rfl (l' := #[.val (.ref qb), .val (.int 42), .val (.int 0), .val (.int 4)]) rfl ?_
    refine XS.iloadN X7.here hx rfl (hb hby d12_22) rfl ?_
    refine XS.iloadN X7.here hx rfl (hb hby d12_23) rfl ?_
    refine XS.icmpYes X7.here hx rfl (pc0 := 24) (pc' := 29) rfl (hb hby d12_24) rfl (tlt (by decide)).1 (by decide) (by decide) ?_
    refine XS.aloadN X7.here hx rfl (hb hby d12_29) rfl rfl ?_
    refine XS.iloadN X7.here hx rfl (hb hby d12_30) rfl ?_
    show Steps p.tables e below (T7.setTop (mkF m 31 #[.val (.ref qb), .val (.int 42), .val (.int 0), .val (.int 4)] [(.int 42), (.ref qb)])) t
    refine XS.iloadN X7.here hx rfl (hb hby d12_31) rfl ?_
    refine XS.iloadN X7.here hx rfl (hb hby d12_32) rfl ?_
    show Steps p.tables e below (T7.setTop (mkF m 33 #[.val (.ref qb), .val (.int 42), .val (.int 0), .val (.int 4)] [(.int 4), (.int 0), (.int 42), (.ref qb)])) t
    exact k)
  obtain ⟨_, _, ⟨T9, L9, k9, n9⟩, -, X9, ⟨Lc9, hQ9, l9, y9, z9⟩, st9⟩ := Jvm.LawKit.callS X7 hx (y := (⟨"java/lang/StringLatin1", "indexOfChar", "([BIII)I"⟩ : MethodName)) hown (mvT hZ (own_w hw 97 rfl)) (mvT hZ (own_w hw 98 rfl)) (mvT hZ (own_w hw 71 rfl)) (mvT hZ (own_w hw 99 rfl)) (by decide) (backOf (W := 0) (rm20n4c42 l Z a0 hw [] qb kb y0 y1 y2 y3 h0 n0 Z0 A_qb) hZ (own_w hw 99 rfl) (own_w hw 71 rfl) (by decide) (by decide)) (g := (mkF m 33 #[.val (.ref qb), .val (.int 42), .val (.int 0), .val (.int 4)] [(.int 4), (.int 0), (.int 42), (.ref qb)])) rfl (by rw [hml]; rfl) (argsL := [(.ref qb), (.int 42), (.int 0), (.int 4)]) (rest := []) (lenOf pd_10 rfl) rfl (by show 2 * 0 + _ ≤ _; exact Nat.le_of_eq rfl) (hb hby d12_33) (fun _ _ => ⟨rfl, e7, (by decide : 0 + 0 ≤ _), (by decide : 0 + 0 ≤ _)⟩)
  dsimp only [Pt.U, Pt.locs, Pt.cells, Pt.slots] at X9 l9 y9 z9 st9 hQ9
  subst l9 y9 z9
  obtain ⟨rfl, N9q, e9⟩ := hQ9
  have N9 := Fr.app N7 N9q
  have P9 : own_Go p e below S0 (T9.setTop (mkF m 36 #[.val (.ref qb), .val (.int 42), .val (.int 0), .val (.int 4)] [(.int (r20n4c42 y0 y1 y2 y3))])) := fun t k => P8 t (st9 _ k)
  obtain ⟨fs, hr, hrun, hended, hW, hsame⟩ := X9.leave (v := some (.int (r20n4c42 y0 y1 y2 y3))) (fun h => by rw [Bd.returns] at h; cases h) (BodyLoose.notSynchronized Bd)
  refine ⟨_, _, own_from hE0 (P9 _ ?_), hrun, hended, _, _, rfl, ?_, ⟨_, rfl⟩, hW, hsame.mono (by decide) (by decide)⟩
  · show Steps p.tables e below (T9.setTop (mkF m 36 #[.val (.ref qb), .val (.int 42), .val (.int 0), .val (.int 4)] [(.int (r20n4c42 y0 y1 y2 y3))])) _
    exact retI X9 hx Bd.returns (hb hby d12_36) hr
  · show Q12n4c42 Z qb kb y0 y1 y2 y3 h0 n0 _ T9.heap _
    rw [e9]
    exact ⟨rfl, N9, rfl⟩
theorem ef_8n4c42 (m : MethodId) (q8n4c42_0 : Addr) : entryFrame m #[(.ref q8n4c42_0), (.int 42), (.int 0)] 3 = mkF m 0 #[.val (.ref q8n4c42_0), .val (.int 42), .val (.int 0)] [] := by first | (simp [entryFrame, mkF, argsToLocals, Value.category]; done) | rfl
def Q8n4c42 (Z : State) (q8n4c42_0 : Addr) (qb : Addr) (kb : ClassId) (y0 : Int32) (y1 : Int32) (y2 : Int32) (y3 : Int32) (zc : Int32) (h0 : Heap) (n0 : Nat) (v : Option Value) (h : Heap) (L : List Loc) : Prop := v = some (.int (r20n4c42 y0 y1 y2 y3)) ∧ Fr n0 L ∧ h = h0
set_option maxRecDepth 65536 in
set_option maxHeartbeats 40000000 in
theorem rm8n4c42 (l : Launch) (Z : State) (a0 : Array Value) (hw : ∀ d ∈ tables_1, d.before a0 Z = true) (ws : List Jvm.Cond) (q8n4c42_0 : Addr) (qb : Addr) (kb : ClassId) (y0 : Int32) (y1 : Int32) (y2 : Int32) (y3 : Int32) (zc : Int32) (h0 : Heap) (n0 : Nat) (Z0 : n0 ≤ h0.size) (F_q8n4c42_0_value : Fld Z h0 q8n4c42_0 "java/lang/String" "value" "[B" (.ref qb)) (A_qb : Arv Z h0 qb kb .byte (4 : Int32) [(.int y0), (.int y1), (.int y2), (.int y3)] (.int 0)) (S_COMPACT_STRINGS : Sta Z h0 "java/lang/String" "COMPACT_STRINGS" "Z" (.int zc)) (hcs : ¬ (zc = (0 : Int32))) (F_q8n4c42_0_coder : Fld Z h0 q8n4c42_0 "java/lang/String" "coder" "B" (.int 0)) (E_q8n4c42_0 : Exa Z h0 q8n4c42_0 "java/lang/String") :
    MetFree l (⟨"java/lang/String", "indexOf", "(II)I"⟩ : MethodName) (head1 (Jvm.Cond.code (⟨"java/lang/String", "indexOf", "(II)I"⟩ : MethodName) jdk_42_method_80_code 3 (some .int) :: ws) ({ frames := 2, cells := 0, slots := 0, locals := 32 } : Room)) (fun a U => a = #[(.ref q8n4c42_0), (.int 42), (.int 0)] ∧ Z.Warmed39 U.vm ∧ U.heap = h0) (fun _ _ _ _ _ => True) (fun _ U o U' => ∃ v L, o = .returned v ∧ Q8n4c42 Z q8n4c42_0 qb kb y0 y1 y2 y3 zc h0 n0 v U'.heap L ∧ FrameEnd U o U' L ({ frames := 2, cells := 0, slots := 0, locals := 32 } : Room).cells ({ frames := 2, cells := 0, slots := 0, locals := 32 } : Room).slots) := by
  refine MetFree.of_bodySF (plainFor_of_name pn_2) hisR ?_
  intro p e s m args below meth c s₁ Bd hml0 hP hK
  obtain ⟨rfl, hZ, hh⟩ := hP
  have hx := Bd.exec
  have hby := Bd.bytes
  have hml : c.maxLocals = 3 := hml0
  have hown : s.vm.findClass "java/lang/String" = some m.cls := findClass_of_methodNamed Bd.named
  have hnm := (name_of_methodNamed Bd.named Bd.method).1
  have X0 : Stand p l e ({ frames := 2, cells := 0, slots := 0, locals := 32 } : Room) s m #[(.ref q8n4c42_0), (.int 42), (.int 0)] below meth c s₁ [] 0 0 := Stand.of_body Bd
  have e0 : s₁.heap = h0 := by rw [← hh, Bd.state]; rfl
  have N0 := Fr.nil n0
  obtain ⟨S0, hE0⟩ : ∃ z, z = s₁.setTop (entryFrame m #[(.ref q8n4c42_0), (.int 42), (.int 0)] 3) := ⟨_, rfl⟩
  have P0 : own_Go p e below S0 (s₁.setTop (mkF m 0 #[.val (.ref q8n4c42_0), .val (.int 42), .val (.int 0)] [])) := fun t k => by rw [hE0]; exact castTop (ef_8n4c42 m q8n4c42_0) k
  have P1 : own_Go p e below S0 (s₁.setTop (mkF m 1 #[.val (.ref q8n4c42_0), .val (.int 42), .val (.int 0)] [(.ref q8n4c42_0)])) := fun t k => P0 t (by
    refine XS.aloadN X0.here hx rfl (hb hby d8_0) rfl rfl ?_
    show Steps p.tables e below (s₁.setTop (mkF m 1 #[.val (.ref q8n4c42_0), .val (.int 42), .val (.int 0)] [(.ref q8n4c42_0)])) t
    exact k)
  obtain ⟨cq2, kq2, q2a, q2b, q2c⟩ := isOf hZ e0 E_q8n4c42_0
  obtain ⟨_, _, ⟨T2, L2, k2, n2⟩, -, X2, ⟨Lc2, hQ2, l2, y2, z2⟩, st2⟩ := X0.virtualBack hx (y := (⟨"java/lang/String", "isLatin1", "()Z"⟩ : MethodName)) (z := (⟨"java/lang/String", "isLatin1", "()Z"⟩ : MethodName)) hown (mvT hZ (own_w hw 53 rfl)) (mvT hZ (own_w hw 54 rfl)) (notFace_of_selects (args := #[]) (mvT hZ (own_w hw 56 rfl))) (mvT hZ (own_w hw 56 rfl)) (mvT hZ (own_w hw 55 rfl)) (by decide) (backOf (W := 0) (rm9 l Z a0 hw [] q8n4c42_0 zc h0 n0 Z0 S_COMPACT_STRINGS hcs F_q8n4c42_0_coder) hZ (own_w hw 57 rfl) (own_w hw 7 rfl) (by decide) (by decide)) q2a q2c (g := (mkF m 1 #[.val (.ref q8n4c42_0), .val (.int 42), .val (.int 0)] [(.ref q8n4c42_0)])) rfl (by rw [hml]; rfl) (Steps.refl _) (argsL := []) (rest := []) (lenOf pd_8 rfl) rfl (by show 2 * 0 + _ ≤ _; exact Nat.le_of_eq rfl) (hb hby d8_1) (fun _ _ => ⟨rfl, e0, (by decide : 0 + 0 ≤ _), (by decide : 0 + 0 ≤ _)⟩)
  dsimp only [Pt.U, Pt.locs, Pt.cells, Pt.slots] at X2 l2 y2 z2 st2 hQ2
  subst l2 y2 z2
  obtain ⟨rfl, N2q, e2⟩ := hQ2
  have N2 := Fr.app N0 N2q
  have P2 : own_Go p e below S0 (T2.setTop (mkF m 4 #[.val (.ref q8n4c42_0), .val (.int 42), .val (.int 0)] [(.int 1)])) := fun t k => P1 t (st2.trans k)
  have P3 : own_Go p e below S0 (T2.setTop (mkF m 8 #[.val (.ref q8n4c42_0), .val (.int 42), .val (.int 0)] [(.ref q8n4c42_0)])) := fun t k => P2 t (by
    refine XS.ifNo X2.here hx rfl (hb hby d8_4) rfl ((if0 _ _).trans (feq (by decide)).1) ?_
    refine XS.aloadN X2.here hx rfl (hb hby d8_7) rfl rfl ?_
    show Steps p.tables e below (T2.setTop (mkF m 8 #[.val (.ref q8n4c42_0), .val (.int 42), .val (.int 0)] [(.ref q8n4c42_0)])) t
    exact k)
  obtain ⟨T4, X4, e4, st4⟩ := getF X2 hx hZ hown (host := "") (Or.inl (own_w hw 24 rfl)) Via.refl e2 F_q8n4c42_0_value (g := (mkF m 8 #[.val (.ref q8n4c42_0), .val (.int 42), .val (.int 0)] [(.ref q8n4c42_0)])) rfl rfl (hb hby d8_8)
  have P4 : own_Go p e below S0 (T4.setTop (mkF m 11 #[.val (.ref q8n4c42_0), .val (.int 42), .val (.int 0)] [(.ref qb)])) := fun t k => P3 t (st4 _ k)
  have P5 : own_Go p e below S0 (T4.setTop (mkF m 14 #[.val (.ref q8n4c42_0), .val (.int 42), .val (.int 0)] [(.ref q8n4c42_0), (.int 0), (.int 42), (.ref qb)])) := fun t k => P4 t (by
    refine XS.iloadN X4.here hx rfl (hb hby d8_11) rfl ?_
    refine XS.iloadN X4.here hx rfl (hb hby d8_12) rfl ?_
    refine XS.aloadN X4.here hx rfl (hb hby d8_13) rfl rfl ?_
    show Steps p.tables e below (T4.setTop (mkF m 14 #[.val (.ref q8n4c42_0), .val (.int 42), .val (.int 0)] [(.ref q8n4c42_0), (.int 0), (.int 42), (.ref qb)])) t
    exact k)
  obtain ⟨cq6, kq6, q6a, q6b, q6c⟩ := isOf hZ e4 E_q8n4c42_0
  obtain ⟨_, _, ⟨T6, L6, k6, n6⟩, -, X6, ⟨Lc6, hQ6, l6, y6, z6⟩, st6⟩ := X4.virtualBack hx (y := (⟨"java/lang/String", "length", "()I"⟩ : MethodName)) (z := (⟨"java/lang/String", "length", "()I"⟩ : MethodName)) hown (mvT hZ (own_w hw 59 rfl)) (mvT hZ (own_w hw 60 rfl)) (notFace_of_selects (args := #[]) (mvT hZ (own_w hw 62 rfl))) (mvT hZ (own_w hw 62 rfl)) (mvT hZ (own_w hw 61 rfl)) (by decide) (backOf (W := 3) (rm10n4 l Z a0 hw [] q8n4c42_0 qb kb y0 y1 y2 y3 zc h0 n0 Z0 F_q8n4c42_0_value A_qb S_COMPACT_STRINGS hcs F_q8n4c42_0_coder E_q8n4c42_0) hZ (own_w hw 63 rfl) (own_w hw 7 rfl) (by decide) (by decide)) q6a q6c (g := (mkF m 14 #[.val (.ref q8n4c42_0), .val (.int 42), .val (.int 0)] [(.ref q8n4c42_0), (.int 0), (.int 42), (.ref qb)])) rfl (by rw [hml]; rfl) (Steps.refl _) (argsL := []) (rest := [(.int 0), (.int 42), (.ref qb)]) (lenOf pd_9 rfl) rfl (by show 2 * 0 + _ ≤ _; exact Nat.le_of_eq rfl) (hb hby d8_14) (fun _ _ => ⟨rfl, e4, (by decide : 0 + 0 ≤ _), (by decide : 0 + 0 ≤ _)⟩)
  dsimp only [Pt.U, Pt.locs, Pt.cells, Pt.slots] at X6 l6 y6 z6 st6 hQ6
  subst l6 y6 z6
  obtain ⟨rfl, N6q, e6⟩ := hQ6
  have N6 := Fr.app N2 N6q
  have P6 : own_Go p e below S0 (T6.setTop (mkF m 17 #[.val (.ref q8n4c42_0), .val (.int 42), .val (.int 0)] [(.int 4), (.int 0), (.int 42), (.ref qb)])) := fun t k => P5 t (st6.trans k)
  obtain ⟨_, _, ⟨T7, L7, k7, n7⟩, -, X7, ⟨Lc7, hQ7, l7, y7, z7⟩, st7⟩ := Jvm.LawKit.callS X6 hx (y := (⟨"java/lang/StringLatin1", "indexOf", "([BIII)I"⟩ : MethodName)) hown (mvT hZ (own_w hw 69 rfl)) (mvT hZ (own_w hw 70 rfl)) (mvT hZ (own_w hw 71 rfl)) (mvT hZ (own_w hw 72 rfl)) (by decide) (backOf (W := 0) (rm12n4c42 l Z a0 hw [] qb kb y0 y1 y2 y3 h0 n0 Z0 A_qb) hZ (own_w hw 72 rfl) (own_w hw 71 rfl) (by decide) (by decide)) (g := (mkF m 17 #[.val (.ref q8n4c42_0), .val (.int 42), .val (.int 0)] [(.int 4), (.int 0), (.int 42), (.ref qb)])) rfl (by rw [hml]; rfl) (argsL := [(.ref qb), (.int 42), (.int 0), (.int 4)]) (rest := []) (lenOf pd_10 rfl) rfl (by show 2 * 0 + _ ≤ _; exact Nat.le_of_eq rfl) (hb hby d8_17) (fun _ _ => ⟨rfl, e6, (by decide : 0 + 0 ≤ _), (by decide : 0 + 0 ≤ _)⟩)
  dsimp only [Pt.U, Pt.locs, Pt.cells, Pt.slots] at X7 l7 y7 z7 st7 hQ7
  subst l7 y7 z7
  obtain ⟨rfl, N7q, e7⟩ := hQ7
  have N7 := Fr.app N6 N7q
  have P7 : own_Go p e below S0 (T7.setTop (mkF m 20 #[.val (.ref q8n4c42_0), .val (.int 42), .val (.int 0)] [(.int (r20n4c42 y0 y1 y2 y3))])) := fun t k => P6 t (st7 _ k)
  have P8 : own_Go p e below S0 (T7.setTop (mkF m 36 #[.val (.ref q8n4c42_0), .val (.int 42), .val (.int 0)] [(.int (r20n4c42 y0 y1 y2 y3))])) := fun t k => P7 t (by
    refine XS.goto X7.here hx rfl (pc0 := 20) (pc' := 36) rfl (hb hby d8_20) (by decide) (by decide) ?_
    show Steps p.tables e below (T7.setTop (mkF m 36 #[.val (.ref q8n4c42_0), .val (.int 42), .val (.int 0)] [(.int (r20n4c42 y0 y1 y2 y3))])) t
    exact k)
  obtain ⟨fs, hr, hrun, hended, hW, hsame⟩ := X7.leave (v := some (.int (r20n4c42 y0 y1 y2 y3))) (fun h => by rw [Bd.returns] at h; cases h) (BodyLoose.notSynchronized Bd)
  refine ⟨_, _, own_from hE0 (P8 _ ?_), hrun, hended, _, _, rfl, ?_, ⟨_, rfl⟩, hW, hsame.mono (by decide) (by decide)⟩
  · show Steps p.tables e below (T7.setTop (mkF m 36 #[.val (.ref q8n4c42_0), .val (.int 42), .val (.int 0)] [(.int (r20n4c42 y0 y1 y2 y3))])) _
    exact retI X7 hx Bd.returns (hb hby d8_36) hr
  · show Q8n4c42 Z q8n4c42_0 qb kb y0 y1 y2 y3 zc h0 n0 _ T7.heap _
    rw [e7]
    exact ⟨rfl, N7, rfl⟩
theorem ef_7n4c42 (m : MethodId) (q7n4c42_0 : Addr) : entryFrame m #[(.ref q7n4c42_0), (.int 42)] 2 = mkF m 0 #[.val (.ref q7n4c42_0), .val (.int 42)] [] := by first | (simp [entryFrame, mkF, argsToLocals, Value.category]; done) | rfl
def Q7n4c42 (Z : State) (q7n4c42_0 : Addr) (qb : Addr) (kb : ClassId) (y0 : Int32) (y1 : Int32) (y2 : Int32) (y3 : Int32) (zc : Int32) (h0 : Heap) (n0 : Nat) (v : Option Value) (h : Heap) (L : List Loc) : Prop := v = some (.int (r20n4c42 y0 y1 y2 y3)) ∧ Fr n0 L ∧ h = h0
set_option maxRecDepth 65536 in
set_option maxHeartbeats 40000000 in
theorem rm7n4c42 (l : Launch) (Z : State) (a0 : Array Value) (hw : ∀ d ∈ tables_1, d.before a0 Z = true) (ws : List Jvm.Cond) (q7n4c42_0 : Addr) (qb : Addr) (kb : ClassId) (y0 : Int32) (y1 : Int32) (y2 : Int32) (y3 : Int32) (zc : Int32) (h0 : Heap) (n0 : Nat) (Z0 : n0 ≤ h0.size) (F_q7n4c42_0_value : Fld Z h0 q7n4c42_0 "java/lang/String" "value" "[B" (.ref qb)) (A_qb : Arv Z h0 qb kb .byte (4 : Int32) [(.int y0), (.int y1), (.int y2), (.int y3)] (.int 0)) (S_COMPACT_STRINGS : Sta Z h0 "java/lang/String" "COMPACT_STRINGS" "Z" (.int zc)) (hcs : ¬ (zc = (0 : Int32))) (F_q7n4c42_0_coder : Fld Z h0 q7n4c42_0 "java/lang/String" "coder" "B" (.int 0)) (E_q7n4c42_0 : Exa Z h0 q7n4c42_0 "java/lang/String") :
    MetFree l (⟨"java/lang/String", "indexOf", "(I)I"⟩ : MethodName) (head1 (Jvm.Cond.code (⟨"java/lang/String", "indexOf", "(I)I"⟩ : MethodName) jdk_42_method_79_code 2 (some .int) :: ws) ({ frames := 3, cells := 0, slots := 0, locals := 46 } : Room)) (fun a U => a = #[(.ref q7n4c42_0), (.int 42)] ∧ Z.Warmed39 U.vm ∧ U.heap = h0) (fun _ _ _ _ _ => True) (fun _ U o U' => ∃ v L, o = .returned v ∧ Q7n4c42 Z q7n4c42_0 qb kb y0 y1 y2 y3 zc h0 n0 v U'.heap L ∧ FrameEnd U o U' L ({ frames := 3, cells := 0, slots := 0, locals := 46 } : Room).cells ({ frames := 3, cells := 0, slots := 0, locals := 46 } : Room).slots) := by
  refine MetFree.of_bodySF (plainFor_of_name pn_2) hisR ?_
  intro p e s m args below meth c s₁ Bd hml0 hP hK
  obtain ⟨rfl, hZ, hh⟩ := hP
  have hx := Bd.exec
  have hby := Bd.bytes
  have hml : c.maxLocals = 2 := hml0
  have hown : s.vm.findClass "java/lang/String" = some m.cls := findClass_of_methodNamed Bd.named
  have hnm := (name_of_methodNamed Bd.named Bd.method).1
  have X0 : Stand p l e ({ frames := 3, cells := 0, slots := 0, locals := 46 } : Room) s m #[(.ref q7n4c42_0), (.int 42)] below meth c s₁ [] 0 0 := Stand.of_body Bd
  have e0 : s₁.heap = h0 := by rw [← hh, Bd.state]; rfl
  have N0 := Fr.nil n0
  obtain ⟨S0, hE0⟩ : ∃ z, z = s₁.setTop (entryFrame m #[(.ref q7n4c42_0), (.int 42)] 2) := ⟨_, rfl⟩
  have P0 : own_Go p e below S0 (s₁.setTop (mkF m 0 #[.val (.ref q7n4c42_0), .val (.int 42)] [])) := fun t k => by rw [hE0]; exact castTop (ef_7n4c42 m q7n4c42_0) k
  have P1 : own_Go p e below S0 (s₁.setTop (mkF m 3 #[.val (.ref q7n4c42_0), .val (.int 42)] [(.int 0), (.int 42), (.ref q7n4c42_0)])) := fun t k => P0 t (by
    refine XS.aloadN X0.here hx rfl (hb hby d7_0) rfl rfl ?_
    refine XS.iloadN X0.here hx rfl (hb hby d7_1) rfl ?_
    refine XS.iconst X0.here hx rfl (hb hby d7_2) ?_
    show Steps p.tables e below (s₁.setTop (mkF m 3 #[.val (.ref q7n4c42_0), .val (.int 42)] [(.int 0), (.int 42), (.ref q7n4c42_0)])) t
    exact k)
  obtain ⟨cq2, kq2, q2a, q2b, q2c⟩ := isOf hZ e0 E_q7n4c42_0
  obtain ⟨_, _, ⟨T2, L2, k2, n2⟩, -, X2, ⟨Lc2, hQ2, l2, y2, z2⟩, st2⟩ := X0.virtualBack hx (y := (⟨"java/lang/String", "indexOf", "(II)I"⟩ : MethodName)) (z := (⟨"java/lang/String", "indexOf", "(II)I"⟩ : MethodName)) hown (mvT hZ (own_w hw 48 rfl)) (mvT hZ (own_w hw 49 rfl)) (notFace_of_selects (args := #[]) (mvT hZ (own_w hw 51 rfl))) (mvT hZ (own_w hw 51 rfl)) (mvT hZ (own_w hw 50 rfl)) (by decide) (backOf (W := 0) (rm8n4c42 l Z a0 hw [] q7n4c42_0 qb kb y0 y1 y2 y3 zc h0 n0 Z0 F_q7n4c42_0_value A_qb S_COMPACT_STRINGS hcs F_q7n4c42_0_coder E_q7n4c42_0) hZ (own_w hw 52 rfl) (own_w hw 7 rfl) (by decide) (by decide)) q2a q2c (g := (mkF m 3 #[.val (.ref q7n4c42_0), .val (.int 42)] [(.int 0), (.int 42), (.ref q7n4c42_0)])) rfl (by rw [hml]; rfl) (Steps.refl _) (argsL := [(.int 42), (.int 0)]) (rest := []) (lenOf pd_7 rfl) rfl (by show 2 * 0 + _ ≤ _; exact Nat.le_of_eq rfl) (hb hby d7_3) (fun _ _ => ⟨rfl, e0, (by decide : 0 + 0 ≤ _), (by decide : 0 + 0 ≤ _)⟩)
  dsimp only [Pt.U, Pt.locs, Pt.cells, Pt.slots] at X2 l2 y2 z2 st2 hQ2
  subst l2 y2 z2
  obtain ⟨rfl, N2q, e2⟩ := hQ2
  have N2 := Fr.app N0 N2q
  have P2 : own_Go p e below S0 (T2.setTop (mkF m 6 #[.val (.ref q7n4c42_0), .val (.int 42)] [(.int (r20n4c42 y0 y1 y2 y3))])) := fun t k => P1 t (st2.trans k)
  obtain ⟨fs, hr, hrun, hended, hW, hsame⟩ := X2.leave (v := some (.int (r20n4c42 y0 y1 y2 y3))) (fun h => by rw [Bd.returns] at h; cases h) (BodyLoose.notSynchronized Bd)
  refine ⟨_, _, own_from hE0 (P2 _ ?_), hrun, hended, _, _, rfl, ?_, ⟨_, rfl⟩, hW, hsame.mono (by decide) (by decide)⟩
  · show Steps p.tables e below (T2.setTop (mkF m 6 #[.val (.ref q7n4c42_0), .val (.int 42)] [(.int (r20n4c42 y0 y1 y2 y3))])) _
    exact retI X2 hx Bd.returns (hb hby d7_6) hr
  · show Q7n4c42 Z q7n4c42_0 qb kb y0 y1 y2 y3 zc h0 n0 _ T2.heap _
    rw [e2]
    exact ⟨rfl, N2, rfl⟩
theorem ef_20n4c63 (m : MethodId) (qb : Addr) : entryFrame m #[(.ref qb), (.int 63), (.int 0), (.int 4)] 6 = mkF m 0 #[.val (.ref qb), .val (.int 63), .val (.int 0), .val (.int 4), .unset, .unset] [] := by first | (simp [entryFrame, mkF, argsToLocals, Value.category]; done) | rfl
def r20n4c63 (y0 : Int32) (y1 : Int32) (y2 : Int32) (y3 : Int32) : Int32 := (if y0 = (63 : Int32) then (0 : Int32) else (if y1 = (63 : Int32) then (1 : Int32) else (if y2 = (63 : Int32) then (2 : Int32) else (if y3 = (63 : Int32) then (3 : Int32) else (-1 : Int32)))))
def Q20n4c63 (Z : State) (qb : Addr) (kb : ClassId) (y0 : Int32) (y1 : Int32) (y2 : Int32) (y3 : Int32) (h0 : Heap) (n0 : Nat) (v : Option Value) (h : Heap) (L : List Loc) : Prop := v = some (.int (r20n4c63 y0 y1 y2 y3)) ∧ Fr n0 L ∧ h = h0
set_option maxRecDepth 65536 in
set_option maxHeartbeats 40000000 in
theorem rm20n4c63 (l : Launch) (Z : State) (a0 : Array Value) (hw : ∀ d ∈ tables_1, d.before a0 Z = true) (ws : List Jvm.Cond) (qb : Addr) (kb : ClassId) (y0 : Int32) (y1 : Int32) (y2 : Int32) (y3 : Int32) (h0 : Heap) (n0 : Nat) (Z0 : n0 ≤ h0.size) (A_qb : Arv Z h0 qb kb .byte (4 : Int32) [(.int y0), (.int y1), (.int y2), (.int y3)] (.int 0)) :
    MetFree l (⟨"java/lang/StringLatin1", "indexOfChar", "([BIII)I"⟩ : MethodName) (head1 (Jvm.Cond.code (⟨"java/lang/StringLatin1", "indexOfChar", "([BIII)I"⟩ : MethodName) jdk_43_method_23_code 6 (some .int) :: ws) ({ frames := 0, cells := 0, slots := 0, locals := 0 } : Room)) (fun a U => a = #[(.ref qb), (.int 63), (.int 0), (.int 4)] ∧ Z.Warmed39 U.vm ∧ U.heap = h0) (fun _ _ _ _ _ => True) (fun _ U o U' => ∃ v L, o = .returned v ∧ Q20n4c63 Z qb kb y0 y1 y2 y3 h0 n0 v U'.heap L ∧ FrameEnd U o U' L ({ frames := 0, cells := 0, slots := 0, locals := 0 } : Room).cells ({ frames := 0, cells := 0, slots := 0, locals := 0 } : Room).slots) := by
  refine MetFree.of_bodySF (plainFor_of_name pn_13) hisR ?_
  intro p e s m args below meth c s₁ Bd hml0 hP hK
  obtain ⟨rfl, hZ, hh⟩ := hP
  have hx := Bd.exec
  have hby := Bd.bytes
  have hml : c.maxLocals = 6 := hml0
  have hown : s.vm.findClass "java/lang/StringLatin1" = some m.cls := findClass_of_methodNamed Bd.named
  have hnm := (name_of_methodNamed Bd.named Bd.method).1
  have X0 : Stand p l e ({ frames := 0, cells := 0, slots := 0, locals := 0 } : Room) s m #[(.ref qb), (.int 63), (.int 0), (.int 4)] below meth c s₁ [] 0 0 := Stand.of_body Bd
  have e0 : s₁.heap = h0 := by rw [← hh, Bd.state]; rfl
  have N0 := Fr.nil n0
  obtain ⟨S0, hE0⟩ : ∃ z, z = s₁.setTop (entryFrame m #[(.ref qb), (.int 63), (.int 0), (.int 4)] 6) := ⟨_, rfl⟩
  have P0 : own_Go p e below S0 (s₁.setTop (mkF m 0 #[.val (.ref qb), .val (.int 63), .val (.int 0), .val (.int 4), .unset, .unset] [])) := fun t k => by rw [hE0]; exact castTop (ef_20n4c63 m qb) k
  obtain ⟨cl1, Ar1, q1, Sz1, Nn1, Hh1, Gg1⟩ := id A_qb
  have hin1 : ¬ ((0 : Int32) < 0 ∨ cl1.slots.size ≤ ((0 : Int32)).toNatClampNeg) := inb_of Sz1 ⟨by decide, by decide⟩
  have hat1 : cl1.slots[((0 : Int32)).toNatClampNeg]? = some (.int y0) := Has.at Hh1 hin1 rfl
  have P2 : own_Go p e below S0 (s₁.setTop (mkF m 19 #[.val (.ref qb), .val (.int 63), .val (.int 0), .val (.int 4), .val (.int 63), .val (.int 0)] [(.int 63), (.int y0)])) := fun t k => P0 t (by
    refine XS.iloadN X0.here hx rfl (hb hby d20_0) rfl ?_
    refine XS.i2b X0.here hx rfl (hb hby d20_1) rfl ?_
    refine XS.istore X0.here hx rfl (hb hby d20_2) rfl (l' := #[.val (.ref qb), .val (.int 63), .val (.int 0), .val (.int 4), .val (.int 63), .unset]) rfl ?_
    refine XS.iloadN X0.here hx rfl (hb hby d20_4) rfl ?_
    refine XS.istore X0.here hx rfl (hb hby d20_5) rfl (l' := #[.val (.ref qb), .val (.int 63), .val (.int 0), .val (.int 4), .val (.int 63), .val (.int 0)]) rfl ?_
    refine XS.iload X0.here hx rfl (hb hby d20_7) rfl ?_
    show Steps p.tables e below (s₁.setTop (mkF m 9 #[.val (.ref qb), .val (.int 63), .val (.int 0), .val (.int 4), .val (.int 63), .val (.int 0)] [(.int 0)])) t
    refine XS.iloadN X0.here hx rfl (hb hby d20_9) rfl ?_
    refine XS.icmpNo X0.here hx rfl (hb hby d20_10) rfl (tlt (by decide)).2.1 ?_
    refine XS.aloadN X0.here hx rfl (hb hby d20_13) rfl rfl ?_
    refine XS.iload X0.here hx rfl (hb hby d20_14) rfl ?_
    show Steps p.tables e below (s₁.setTop (mkF m 16 #[.val (.ref qb), .val (.int 63), .val (.int 0), .val (.int 4), .val (.int 63), .val (.int 0)] [(.int 0), (.ref qb)])) t
    refine X0.baloadBytes hx (j := (0 : Int32)) (v := (.int y0)) (by rw [e0]; exact Ar1.1) (State.isArrayOf_alike hZ.alike Ar1.2.1) Ar1.2.2 hin1 hat1 (g := (mkF m 16 #[.val (.ref qb), .val (.int 63), .val (.int 0), .val (.int 4), .val (.int 63), .val (.int 0)] [(.int 0), (.ref qb)])) rfl rfl (hb hby d20_16) _ ?_
    refine XS.iload X0.here hx rfl (hb hby d20_17) rfl ?_
    show Steps p.tables e below (s₁.setTop (mkF m 19 #[.val (.ref qb), .val (.int 63), .val (.int 0), .val (.int 4), .val (.int 63), .val (.int 0)] [(.int 63), (.int y0)])) t
    exact k)
  by_cases c3 : y0 = (63 : Int32)
  · skip
    have P4 : own_Go p e below S0 (s₁.setTop (mkF m 24 #[.val (.ref qb), .val (.int 63), .val (.int 0), .val (.int 4), .val (.int 63), .val (.int 0)] [(.int 0)])) := fun t k => P2 t (by
      refine XS.icmpNo X0.here hx rfl (hb hby d20_19) rfl (teq c3).2 ?_
      refine XS.iload X0.here hx rfl (hb hby d20_22) rfl ?_
      show Steps p.tables e below (s₁.setTop (mkF m 24 #[.val (.ref qb), .val (.int 63), .val (.int 0), .val (.int 4), .val (.int 63), .val (.int 0)] [(.int 0)])) t
      exact k)
    obtain ⟨fs, hr, hrun, hended, hW, hsame⟩ := X0.leave (v := some (.int 0)) (fun h => by rw [Bd.returns] at h; cases h) (BodyLoose.notSynchronized Bd)
    refine ⟨_, _, own_from hE0 (P4 _ ?_), hrun, hended, _, _, rfl, ?_, ⟨_, rfl⟩, hW, hsame.mono (by decide) (by decide)⟩
    · show Steps p.tables e below (s₁.setTop (mkF m 24 #[.val (.ref qb), .val (.int 63), .val (.int 0), .val (.int 4), .val (.int 63), .val (.int 0)] [(.int 0)])) _
      exact retI X0 hx Bd.returns (hb hby d20_24) hr
    · show Q20n4c63 Z qb kb y0 y1 y2 y3 h0 n0 _ s₁.heap _
      rw [e0]
      exact ⟨(congrArg (fun z => some (Value.int z)) (Eq.symm (if_pos c3))), N0, rfl⟩
  · skip
    obtain ⟨cl5, Ar5, q5, Sz5, Nn5, Hh5, Gg5⟩ := id A_qb
    have hin5 : ¬ ((1 : Int32) < 0 ∨ cl5.slots.size ≤ ((1 : Int32)).toNatClampNeg) := inb_of Sz5 ⟨by decide, by decide⟩
    have hat5 : cl5.slots[((1 : Int32)).toNatClampNeg]? = some (.int y1) := Has.at Hh5 hin5 rfl
    have P6 : own_Go p e below S0 (s₁.setTop (mkF m 19 #[.val (.ref qb), .val (.int 63), .val (.int 0), .val (.int 4), .val (.int 63), .val (.int 1)] [(.int 63), (.int y1)])) := fun t k => P2 t (by
      refine XS.icmpYes X0.here hx rfl (pc0 := 19) (pc' := 25) rfl (hb hby d20_19) rfl (feq c3).2 (by decide) (by decide) ?_
      refine XS.iinc X0.here hx rfl (hb hby d20_25) rfl (l' := #[.val (.ref qb), .val (.int 63), .val (.int 0), .val (.int 4), .val (.int 63), .val (.int 1)]) rfl ?_
      refine XS.goto X0.here hx rfl (pc0 := 28) (pc' := 7) rfl (hb hby d20_28) (by decide) (by decide) ?_
      refine XS.iload X0.here hx rfl (hb hby d20_7) rfl ?_
      refine XS.iloadN X0.here hx rfl (hb hby d20_9) rfl ?_
      refine XS.icmpNo X0.here hx rfl (hb hby d20_10) rfl (tlt (by decide)).2.1 ?_
      show Steps p.tables e below (s₁.setTop (mkF m 13 #[.val (.ref qb), .val (.int 63), .val (.int 0), .val (.int 4), .val (.int 63), .val (.int 1)] [])) t
      refine XS.aloadN X0.here hx rfl (hb hby d20_13) rfl rfl ?_
      refine XS.iload X0.here hx rfl (hb hby d20_14) rfl ?_
      show Steps p.tables e below (s₁.setTop (mkF m 16 #[.val (.ref qb), .val (.int 63), .val (.int 0), .val (.int 4), .val (.int 63), .val (.int 1)] [(.int 1), (.ref qb)])) t
      refine X0.baloadBytes hx (j := (1 : Int32)) (v := (.int y1)) (by rw [e0]; exact Ar5.1) (State.isArrayOf_alike hZ.alike Ar5.2.1) Ar5.2.2 hin5 hat5 (g := (mkF m 16 #[.val (.ref qb), .val (.int 63), .val (.int 0), .val (.int 4), .val (.int 63), .val (.int 1)] [(.int 1), (.ref qb)])) rfl rfl (hb hby d20_16) _ ?_
      refine XS.iload X0.here hx rfl (hb hby d20_17) rfl ?_
      show Steps p.tables e below (s₁.setTop (mkF m 19 #[.val (.ref qb), .val (.int 63), .val (.int 0), .val (.int 4), .val (.int 63), .val (.int 1)] [(.int 63), (.int y1)])) t
      exact k)
    by_cases c7 : y1 = (63 : Int32)
    · skip
      have P8 : own_Go p e below S0 (s₁.setTop (mkF m 24 #[.val (.ref qb), .val (.int 63), .val (.int 0), .val (.int 4), .val (.int 63), .val (.int 1)] [(.int 1)])) := fun t k => P6 t (by
        refine XS.icmpNo X0.here hx rfl (hb hby d20_19) rfl (teq c7).2 ?_
        refine XS.iload X0.here hx rfl (hb hby d20_22) rfl ?_
        show Steps p.tables e below (s₁.setTop (mkF m 24 #[.val (.ref qb), .val (.int 63), .val (.int 0), .val (.int 4), .val (.int 63), .val (.int 1)] [(.int 1)])) t
        exact k)
      obtain ⟨fs, hr, hrun, hended, hW, hsame⟩ := X0.leave (v := some (.int 1)) (fun h => by rw [Bd.returns] at h; cases h) (BodyLoose.notSynchronized Bd)
      refine ⟨_, _, own_from hE0 (P8 _ ?_), hrun, hended, _, _, rfl, ?_, ⟨_, rfl⟩, hW, hsame.mono (by decide) (by decide)⟩
      · show Steps p.tables e below (s₁.setTop (mkF m 24 #[.val (.ref qb), .val (.int 63), .val (.int 0), .val (.int 4), .val (.int 63), .val (.int 1)] [(.int 1)])) _
        exact retI X0 hx Bd.returns (hb hby d20_24) hr
      · show Q20n4c63 Z qb kb y0 y1 y2 y3 h0 n0 _ s₁.heap _
        rw [e0]
        exact ⟨(congrArg (fun z => some (Value.int z)) (Eq.symm (Eq.trans (if_neg c3) (if_pos c7)))), N0, rfl⟩
    · skip
      obtain ⟨cl9, Ar9, q9, Sz9, Nn9, Hh9, Gg9⟩ := id A_qb
      have hin9 : ¬ ((2 : Int32) < 0 ∨ cl9.slots.size ≤ ((2 : Int32)).toNatClampNeg) := inb_of Sz9 ⟨by decide, by decide⟩
      have hat9 : cl9.slots[((2 : Int32)).toNatClampNeg]? = some (.int y2) := Has.at Hh9 hin9 rfl
      have P10 : own_Go p e below S0 (s₁.setTop (mkF m 19 #[.val (.ref qb), .val (.int 63), .val (.int 0), .val (.int 4), .val (.int 63), .val (.int 2)] [(.int 63), (.int y2)])) := fun t k => P6 t (by
        refine XS.icmpYes X0.here hx rfl (pc0 := 19) (pc' := 25) rfl (hb hby d20_19) rfl (feq c7).2 (by decide) (by decide) ?_
        refine XS.iinc X0.here hx rfl (hb hby d20_25) rfl (l' := #[.val (.ref qb), .val (.int 63), .val (.int 0), .val (.int 4), .val (.int 63), .val (.int 2)]) rfl ?_
        refine XS.goto X0.here hx rfl (pc0 := 28) (pc' := 7) rfl (hb hby d20_28) (by decide) (by decide) ?_
        refine XS.iload X0.here hx rfl (hb hby d20_7) rfl ?_
        refine XS.iloadN X0.here hx rfl (hb hby d20_9) rfl ?_
        refine XS.icmpNo X0.here hx rfl (hb hby d20_10) rfl (tlt (by decide)).2.1 ?_
        show Steps p.tables e below (s₁.setTop (mkF m 13 #[.val (.ref qb), .val (.int 63), .val (.int 0), .val (.int 4), .val (.int 63), .val (.int 2)] [])) t
        refine XS.aloadN X0.here hx rfl (hb hby d20_13) rfl rfl ?_
        refine XS.iload X0.here hx rfl (hb hby d20_14) rfl ?_
        show Steps p.tables e below (s₁.setTop (mkF m 16 #[.val (.ref qb), .val (.int 63), .val (.int 0), .val (.int 4), .val (.int 63), .val (.int 2)] [(.int 2), (.ref qb)])) t
        refine X0.baloadBytes hx (j := (2 : Int32)) (v := (.int y2)) (by rw [e0]; exact Ar9.1) (State.isArrayOf_alike hZ.alike Ar9.2.1) Ar9.2.2 hin9 hat9 (g := (mkF m 16 #[.val (.ref qb), .val (.int 63), .val (.int 0), .val (.int 4), .val (.int 63), .val (.int 2)] [(.int 2), (.ref qb)])) rfl rfl (hb hby d20_16) _ ?_
        refine XS.iload X0.here hx rfl (hb hby d20_17) rfl ?_
        show Steps p.tables e below (s₁.setTop (mkF m 19 #[.val (.ref qb), .val (.int 63), .val (.int 0), .val (.int 4), .val (.int 63), .val (.int 2)] [(.int 63), (.int y2)])) t
        exact k)
      by_cases c11 : y2 = (63 : Int32)
      · skip
        have P12 : own_Go p e below S0 (s₁.setTop (mkF m 24 #[.val (.ref qb), .val (.int 63), .val (.int 0), .val (.int 4), .val (.int 63), .val (.int 2)] [(.int 2)])) := fun t k => P10 t (by
          refine XS.icmpNo X0.here hx rfl (hb hby d20_19) rfl (teq c11).2 ?_
          refine XS.iload X0.here hx rfl (hb hby d20_22) rfl ?_
          show Steps p.tables e below (s₁.setTop (mkF m 24 #[.val (.ref qb), .val (.int 63), .val (.int 0), .val (.int 4), .val (.int 63), .val (.int 2)] [(.int 2)])) t
          exact k)
        obtain ⟨fs, hr, hrun, hended, hW, hsame⟩ := X0.leave (v := some (.int 2)) (fun h => by rw [Bd.returns] at h; cases h) (BodyLoose.notSynchronized Bd)
        refine ⟨_, _, own_from hE0 (P12 _ ?_), hrun, hended, _, _, rfl, ?_, ⟨_, rfl⟩, hW, hsame.mono (by decide) (by decide)⟩
        · show Steps p.tables e below (s₁.setTop (mkF m 24 #[.val (.ref qb), .val (.int 63), .val (.int 0), .val (.int 4), .val (.int 63), .val (.int 2)] [(.int 2)])) _
          exact retI X0 hx Bd.returns (hb hby d20_24) hr
        · show Q20n4c63 Z qb kb y0 y1 y2 y3 h0 n0 _ s₁.heap _
          rw [e0]
          exact ⟨(congrArg (fun z => some (Value.int z)) (Eq.symm (Eq.trans (if_neg c3) (Eq.trans (if_neg c7) (if_pos c11))))), N0, rfl⟩
      · skip
        obtain ⟨cl13, Ar13, q13, Sz13, Nn13, Hh13, Gg13⟩ := id A_qb
        have hin13 : ¬ ((3 : Int32) < 0 ∨ cl13.slots.size ≤ ((3 : Int32)).toNatClampNeg) := inb_of Sz13 ⟨by decide, by decide⟩
        have hat13 : cl13.slots[((3 : Int32)).toNatClampNeg]? = some (.int y3) := Has.at Hh13 hin13 rfl
        have P14 : own_Go p e below S0 (s₁.setTop (mkF m 19 #[.val (.ref qb), .val (.int 63), .val (.int 0), .val (.int 4), .val (.int 63), .val (.int 3)] [(.int 63), (.int y3)])) := fun t k => P10 t (by
          refine XS.icmpYes X0.here hx rfl (pc0 := 19) (pc' := 25) rfl (hb hby d20_19) rfl (feq c11).2 (by decide) (by decide) ?_
          refine XS.iinc X0.here hx rfl (hb hby d20_25) rfl (l' := #[.val (.ref qb), .val (.int 63), .val (.int 0), .val (.int 4), .val (.int 63), .val (.int 3)]) rfl ?_
          refine XS.goto X0.here hx rfl (pc0 := 28) (pc' := 7) rfl (hb hby d20_28) (by decide) (by decide) ?_
          refine XS.iload X0.here hx rfl (hb hby d20_7) rfl ?_
          refine XS.iloadN X0.here hx rfl (hb hby d20_9) rfl ?_
          refine XS.icmpNo X0.here hx rfl (hb hby d20_10) rfl (tlt (by decide)).2.1 ?_
          show Steps p.tables e below (s₁.setTop (mkF m 13 #[.val (.ref qb), .val (.int 63), .val (.int 0), .val (.int 4), .val (.int 63), .val (.int 3)] [])) t
          refine XS.aloadN X0.here hx rfl (hb hby d20_13) rfl rfl ?_
          refine XS.iload X0.here hx rfl (hb hby d20_14) rfl ?_
          show Steps p.tables e below (s₁.setTop (mkF m 16 #[.val (.ref qb), .val (.int 63), .val (.int 0), .val (.int 4), .val (.int 63), .val (.int 3)] [(.int 3), (.ref qb)])) t
          refine X0.baloadBytes hx (j := (3 : Int32)) (v := (.int y3)) (by rw [e0]; exact Ar13.1) (State.isArrayOf_alike hZ.alike Ar13.2.1) Ar13.2.2 hin13 hat13 (g := (mkF m 16 #[.val (.ref qb), .val (.int 63), .val (.int 0), .val (.int 4), .val (.int 63), .val (.int 3)] [(.int 3), (.ref qb)])) rfl rfl (hb hby d20_16) _ ?_
          refine XS.iload X0.here hx rfl (hb hby d20_17) rfl ?_
          show Steps p.tables e below (s₁.setTop (mkF m 19 #[.val (.ref qb), .val (.int 63), .val (.int 0), .val (.int 4), .val (.int 63), .val (.int 3)] [(.int 63), (.int y3)])) t
          exact k)
        by_cases c15 : y3 = (63 : Int32)
        · skip
          have P16 : own_Go p e below S0 (s₁.setTop (mkF m 24 #[.val (.ref qb), .val (.int 63), .val (.int 0), .val (.int 4), .val (.int 63), .val (.int 3)] [(.int 3)])) := fun t k => P14 t (by
            refine XS.icmpNo X0.here hx rfl (hb hby d20_19) rfl (teq c15).2 ?_
            refine XS.iload X0.here hx rfl (hb hby d20_22) rfl ?_
            show Steps p.tables e below (s₁.setTop (mkF m 24 #[.val (.ref qb), .val (.int 63), .val (.int 0), .val (.int 4), .val (.int 63), .val (.int 3)] [(.int 3)])) t
            exact k)
          obtain ⟨fs, hr, hrun, hended, hW, hsame⟩ := X0.leave (v := some (.int 3)) (fun h => by rw [Bd.returns] at h; cases h) (BodyLoose.notSynchronized Bd)
          refine ⟨_, _, own_from hE0 (P16 _ ?_), hrun, hended, _, _, rfl, ?_, ⟨_, rfl⟩, hW, hsame.mono (by decide) (by decide)⟩
          · show Steps p.tables e below (s₁.setTop (mkF m 24 #[.val (.ref qb), .val (.int 63), .val (.int 0), .val (.int 4), .val (.int 63), .val (.int 3)] [(.int 3)])) _
            exact retI X0 hx Bd.returns (hb hby d20_24) hr
          · show Q20n4c63 Z qb kb y0 y1 y2 y3 h0 n0 _ s₁.heap _
            rw [e0]
            exact ⟨(congrArg (fun z => some (Value.int z)) (Eq.symm (Eq.trans (if_neg c3) (Eq.trans (if_neg c7) (Eq.trans (if_neg c11) (if_pos c15)))))), N0, rfl⟩
        · skip
          have P17 : own_Go p e below S0 (s₁.setTop (mkF m 32 #[.val (.ref qb), .val (.int 63), .val (.int 0), .val (.int 4), .val (.int 63), .val (.int 4)] [(.int (-1))])) := fun t k => P14 t (by
            refine XS.icmpYes X0.here hx rfl (pc0 := 19) (pc' := 25) rfl (hb hby d20_19) rfl (feq c15).2 (by decide) (by decide) ?_
            refine XS.iinc X0.here hx rfl (hb hby d20_25) rfl (l' := #[.val (.ref qb), .val (.int 63), .val (.int 0), .val (.int 4), .val (.int 63), .val (.int 4)]) rfl ?_
            refine XS.goto X0.here hx rfl (pc0 := 28) (pc' := 7) rfl (hb hby d20_28) (by decide) (by decide) ?_
            refine XS.iload X0.here hx rfl (hb hby d20_7) rfl ?_
            refine XS.iloadN X0.here hx rfl (hb hby d20_9) rfl ?_
            refine XS.icmpYes X0.here hx rfl (pc0 := 10) (pc' := 31) rfl (hb hby d20_10) rfl (flt (by decide)).2.1 (by decide) (by decide) ?_
            show Steps p.tables e below (s₁.setTop (mkF m 31 #[.val (.ref qb), .val (.int 63), .val (.int 0), .val (.int 4), .val (.int 63), .val (.int 4)] [])) t
            refine XS.iconst X0.here hx rfl (hb hby d20_31) ?_
            show Steps p.tables e below (s₁.setTop (mkF m 32 #[.val (.ref qb), .val (.int 63), .val (.int 0), .val (.int 4), .val (.int 63), .val (.int 4)] [(.int (-1))])) t
            exact k)
          obtain ⟨fs, hr, hrun, hended, hW, hsame⟩ := X0.leave (v := some (.int (-1))) (fun h => by rw [Bd.returns] at h; cases h) (BodyLoose.notSynchronized Bd)
          refine ⟨_, _, own_from hE0 (P17 _ ?_), hrun, hended, _, _, rfl, ?_, ⟨_, rfl⟩, hW, hsame.mono (by decide) (by decide)⟩
          · show Steps p.tables e below (s₁.setTop (mkF m 32 #[.val (.ref qb), .val (.int 63), .val (.int 0), .val (.int 4), .val (.int 63), .val (.int 4)] [(.int (-1))])) _
            exact retI X0 hx Bd.returns (hb hby d20_32) hr
          · show Q20n4c63 Z qb kb y0 y1 y2 y3 h0 n0 _ s₁.heap _
            rw [e0]
            exact ⟨(congrArg (fun z => some (Value.int z)) (Eq.symm (Eq.trans (if_neg c3) (Eq.trans (if_neg c7) (Eq.trans (if_neg c11) (if_neg c15)))))), N0, rfl⟩
theorem ef_12n4c63 (m : MethodId) (qb : Addr) : entryFrame m #[(.ref qb), (.int 63), (.int 0), (.int 4)] 4 = mkF m 0 #[.val (.ref qb), .val (.int 63), .val (.int 0), .val (.int 4)] [] := by first | (simp [entryFrame, mkF, argsToLocals, Value.category]; done) | rfl
def Q12n4c63 (Z : State) (qb : Addr) (kb : ClassId) (y0 : Int32) (y1 : Int32) (y2 : Int32) (y3 : Int32) (h0 : Heap) (n0 : Nat) (v : Option Value) (h : Heap) (L : List Loc) : Prop := v = some (.int (r20n4c63 y0 y1 y2 y3)) ∧ Fr n0 L ∧ h = h0
set_option maxRecDepth 65536 in
set_option maxHeartbeats 40000000 in
theorem rm12n4c63 (l : Launch) (Z : State) (a0 : Array Value) (hw : ∀ d ∈ tables_1, d.before a0 Z = true) (ws : List Jvm.Cond) (qb : Addr) (kb : ClassId) (y0 : Int32) (y1 : Int32) (y2 : Int32) (y3 : Int32) (h0 : Heap) (n0 : Nat) (Z0 : n0 ≤ h0.size) (A_qb : Arv Z h0 qb kb .byte (4 : Int32) [(.int y0), (.int y1), (.int y2), (.int y3)] (.int 0)) :
    MetFree l (⟨"java/lang/StringLatin1", "indexOf", "([BIII)I"⟩ : MethodName) (head1 (Jvm.Cond.code (⟨"java/lang/StringLatin1", "indexOf", "([BIII)I"⟩ : MethodName) jdk_43_method_22_code 4 (some .int) :: ws) ({ frames := 1, cells := 0, slots := 0, locals := 17 } : Room)) (fun a U => a = #[(.ref qb), (.int 63), (.int 0), (.int 4)] ∧ Z.Warmed39 U.vm ∧ U.heap = h0) (fun _ _ _ _ _ => True) (fun _ U o U' => ∃ v L, o = .returned v ∧ Q12n4c63 Z qb kb y0 y1 y2 y3 h0 n0 v U'.heap L ∧ FrameEnd U o U' L ({ frames := 1, cells := 0, slots := 0, locals := 17 } : Room).cells ({ frames := 1, cells := 0, slots := 0, locals := 17 } : Room).slots) := by
  refine MetFree.of_bodySF (plainFor_of_name pn_13) hisR ?_
  intro p e s m args below meth c s₁ Bd hml0 hP hK
  obtain ⟨rfl, hZ, hh⟩ := hP
  have hx := Bd.exec
  have hby := Bd.bytes
  have hml : c.maxLocals = 4 := hml0
  have hown : s.vm.findClass "java/lang/StringLatin1" = some m.cls := findClass_of_methodNamed Bd.named
  have hnm := (name_of_methodNamed Bd.named Bd.method).1
  have X0 : Stand p l e ({ frames := 1, cells := 0, slots := 0, locals := 17 } : Room) s m #[(.ref qb), (.int 63), (.int 0), (.int 4)] below meth c s₁ [] 0 0 := Stand.of_body Bd
  have e0 : s₁.heap = h0 := by rw [← hh, Bd.state]; rfl
  have N0 := Fr.nil n0
  obtain ⟨S0, hE0⟩ : ∃ z, z = s₁.setTop (entryFrame m #[(.ref qb), (.int 63), (.int 0), (.int 4)] 4) := ⟨_, rfl⟩
  have P0 : own_Go p e below S0 (s₁.setTop (mkF m 0 #[.val (.ref qb), .val (.int 63), .val (.int 0), .val (.int 4)] [])) := fun t k => by rw [hE0]; exact castTop (ef_12n4c63 m qb) k
  have P1 : own_Go p e below S0 (s₁.setTop (mkF m 1 #[.val (.ref qb), .val (.int 63), .val (.int 0), .val (.int 4)] [(.int 63)])) := fun t k => P0 t (by
    refine XS.iloadN X0.here hx rfl (hb hby d12_0) rfl ?_
    show Steps p.tables e below (s₁.setTop (mkF m 1 #[.val (.ref qb), .val (.int 63), .val (.int 0), .val (.int 4)] [(.int 63)])) t
    exact k)
  obtain ⟨_, _, ⟨T2, L2, k2, n2⟩, -, X2, ⟨Lc2, hQ2, l2, y2, z2⟩, st2⟩ := Jvm.LawKit.callS X0 hx (y := (⟨"java/lang/StringLatin1", "canEncode", "(I)Z"⟩ : MethodName)) hown (mvT hZ (own_w hw 73 rfl)) (mvT hZ (own_w hw 74 rfl)) (mvT hZ (own_w hw 71 rfl)) (mvT hZ (own_w hw 75 rfl)) (by decide) (backOf (W := 0) (rm13c63 l Z a0 hw []  h0 n0 Z0) hZ (own_w hw 75 rfl) (own_w hw 71 rfl) (by decide) (by decide)) (g := (mkF m 1 #[.val (.ref qb), .val (.int 63), .val (.int 0), .val (.int 4)] [(.int 63)])) rfl (by rw [hml]; rfl) (argsL := [(.int 63)]) (rest := []) (lenOf pd_6 rfl) rfl (by show 2 * 0 + _ ≤ _; exact Nat.le_of_eq rfl) (hb hby d12_1) (fun _ _ => ⟨rfl, e0, (by decide : 0 + 0 ≤ _), (by decide : 0 + 0 ≤ _)⟩)
  dsimp only [Pt.U, Pt.locs, Pt.cells, Pt.slots] at X2 l2 y2 z2 st2 hQ2
  subst l2 y2 z2
  obtain ⟨rfl, N2q, e2⟩ := hQ2
  have N2 := Fr.app N0 N2q
  have P2 : own_Go p e below S0 (T2.setTop (mkF m 4 #[.val (.ref qb), .val (.int 63), .val (.int 0), .val (.int 4)] [(.int 1)])) := fun t k => P1 t (st2 _ k)
  have P3 : own_Go p e below S0 (T2.setTop (mkF m 11 #[.val (.ref qb), .val (.int 63), .val (.int 0), .val (.int 4)] [(.int 0), (.int 0)])) := fun t k => P2 t (by
    refine XS.ifYes X2.here hx rfl (pc0 := 4) (pc' := 9) rfl (hb hby d12_4) rfl ((if0 _ _).trans (feq (by decide)).2) (by decide) (by decide) ?_
    refine XS.iloadN X2.here hx rfl (hb hby d12_9) rfl ?_
    refine XS.iconst X2.here hx rfl (hb hby d12_10) ?_
    show Steps p.tables e below (T2.setTop (mkF m 11 #[.val (.ref qb), .val (.int 63), .val (.int 0), .val (.int 4)] [(.int 0), (.int 0)])) t
    exact k)
  obtain ⟨_, _, ⟨T4, L4, k4, n4⟩, -, X4, ⟨Lc4, hQ4, l4, y4, z4⟩, st4⟩ := Jvm.LawKit.callS X2 hx (y := (⟨"java/lang/Math", "max", "(II)I"⟩ : MethodName)) hown (mvT hZ (own_w hw 76 rfl)) (mvT hZ (own_w hw 77 rfl)) (mvT hZ (own_w hw 78 rfl)) (mvT hZ (own_w hw 79 rfl)) (by decide) (backOf (W := 0) (rm14 l Z a0 hw []  h0 n0 Z0) hZ (own_w hw 79 rfl) (own_w hw 78 rfl) (by decide) (by decide)) (g := (mkF m 11 #[.val (.ref qb), .val (.int 63), .val (.int 0), .val (.int 4)] [(.int 0), (.int 0)])) rfl (by rw [hml]; rfl) (argsL := [(.int 0), (.int 0)]) (rest := []) (lenOf pd_7 rfl) rfl (by show 2 * 0 + _ ≤ _; exact Nat.le_of_eq rfl) (hb hby d12_11) (fun _ _ => ⟨rfl, e2, (by decide : 0 + 0 ≤ _), (by decide : 0 + 0 ≤ _)⟩)
  dsimp only [Pt.U, Pt.locs, Pt.cells, Pt.slots] at X4 l4 y4 z4 st4 hQ4
  subst l4 y4 z4
  obtain ⟨rfl, N4q, e4⟩ := hQ4
  have N4 := Fr.app N2 N4q
  have P4 : own_Go p e below S0 (T4.setTop (mkF m 14 #[.val (.ref qb), .val (.int 63), .val (.int 0), .val (.int 4)] [(.int 0)])) := fun t k => P3 t (st4 _ k)
  obtain ⟨cl5, Ar5, q5, Sz5, Nn5, Hh5, Gg5⟩ := id A_qb
  have P6 : own_Go p e below S0 (T4.setTop (mkF m 18 #[.val (.ref qb), .val (.int 63), .val (.int 0), .val (.int 4)] [(.int 4), (.int 4)])) := fun t k => P4 t (by
    refine XS.istoreN X4.here hx rfl (hb hby d12_14) rfl (l' := #[.val (.ref qb), .val (.int 63), .val (.int 0), .val (.int 4)]) rfl ?_
    refine XS.iloadN X4.here hx rfl (hb hby d12_15) rfl ?_
    refine XS.aloadN X4.here hx rfl (hb hby d12_16) rfl rfl ?_
    show Steps p.tables e below (T4.setTop (mkF m 17 #[.val (.ref qb), .val (.int 63), .val (.int 0), .val (.int 4)] [(.ref qb), (.int 4)])) t
    refine X4.arraylength hx (by rw [e4]; exact Ar5.1) (State.isArrayOf_alike hZ.alike Ar5.2.1) (g := (mkF m 17 #[.val (.ref qb), .val (.int 63), .val (.int 0), .val (.int 4)] [(.ref qb), (.int 4)])) rfl rfl (hb hby d12_17) _ ?_
    rw [len_of Sz5 Nn5]
    show Steps p.tables e below (T4.setTop (mkF m 18 #[.val (.ref qb), .val (.int 63), .val (.int 0), .val (.int 4)] [(.int 4), (.int 4)])) t
    exact k)
  obtain ⟨_, _, ⟨T7, L7, k7, n7⟩, -, X7, ⟨Lc7, hQ7, l7, y7, z7⟩, st7⟩ := Jvm.LawKit.callS X4 hx (y := (⟨"java/lang/Math", "min", "(II)I"⟩ : MethodName)) hown (mvT hZ (own_w hw 80 rfl)) (mvT hZ (own_w hw 81 rfl)) (mvT hZ (own_w hw 78 rfl)) (mvT hZ (own_w hw 82 rfl)) (by decide) (backOf (W := 0) (rm15n4 l Z a0 hw []  h0 n0 Z0) hZ (own_w hw 82 rfl) (own_w hw 78 rfl) (by decide) (by decide)) (g := (mkF m 18 #[.val (.ref qb), .val (.int 63), .val (.int 0), .val (.int 4)] [(.int 4), (.int 4)])) rfl (by rw [hml]; rfl) (argsL := [(.int 4), (.int 4)]) (rest := []) (lenOf pd_7 rfl) rfl (by show 2 * 0 + _ ≤ _; exact Nat.le_of_eq rfl) (hb hby d12_18) (fun _ _ => ⟨rfl, e4, (by decide : 0 + 0 ≤ _), (by decide : 0 + 0 ≤ _)⟩)
  dsimp only [Pt.U, Pt.locs, Pt.cells, Pt.slots] at X7 l7 y7 z7 st7 hQ7
  subst l7 y7 z7
  obtain ⟨rfl, N7q, e7⟩ := hQ7
  have N7 := Fr.app N4 N7q
  have P7 : own_Go p e below S0 (T7.setTop (mkF m 21 #[.val (.ref qb), .val (.int 63), .val (.int 0), .val (.int 4)] [(.int 4)])) := fun t k => P6 t (st7 _ k)
  have P8 : own_Go p e below S0 (T7.setTop (mkF m 33 #[.val (.ref qb), .val (.int 63), .val (.int 0), .val (.int 4)] [(.int 4), (.int 0), (.int 63), (.ref qb)])) := fun t k => P7 t (by
    refine XS.istoreN X7.here hx rfl (hb hby d12_21) rfl (l' := #[.val (.ref qb), .val (.int 63), .val (.int 0), .val (.int 4)]) rfl ?_
    refine XS.iloadN X7.here hx rfl (hb hby d12_22) rfl ?_
    refine XS.iloadN X7.here hx rfl (hb hby d12_23) rfl ?_
    refine XS.icmpYes X7.here hx rfl (pc0 := 24) (pc' := 29) rfl (hb hby d12_24) rfl (tlt (by decide)).1 (by decide) (by decide) ?_
    refine XS.aloadN X7.here hx rfl (hb hby d12_29) rfl rfl ?_
    refine XS.iloadN X7.here hx rfl (hb hby d12_30) rfl ?_
    show Steps p.tables e below (T7.setTop (mkF m 31 #[.val (.ref qb), .val (.int 63), .val (.int 0), .val (.int 4)] [(.int 63), (.ref qb)])) t
    refine XS.iloadN X7.here hx rfl (hb hby d12_31) rfl ?_
    refine XS.iloadN X7.here hx rfl (hb hby d12_32) rfl ?_
    show Steps p.tables e below (T7.setTop (mkF m 33 #[.val (.ref qb), .val (.int 63), .val (.int 0), .val (.int 4)] [(.int 4), (.int 0), (.int 63), (.ref qb)])) t
    exact k)
  obtain ⟨_, _, ⟨T9, L9, k9, n9⟩, -, X9, ⟨Lc9, hQ9, l9, y9, z9⟩, st9⟩ := Jvm.LawKit.callS X7 hx (y := (⟨"java/lang/StringLatin1", "indexOfChar", "([BIII)I"⟩ : MethodName)) hown (mvT hZ (own_w hw 97 rfl)) (mvT hZ (own_w hw 98 rfl)) (mvT hZ (own_w hw 71 rfl)) (mvT hZ (own_w hw 99 rfl)) (by decide) (backOf (W := 0) (rm20n4c63 l Z a0 hw [] qb kb y0 y1 y2 y3 h0 n0 Z0 A_qb) hZ (own_w hw 99 rfl) (own_w hw 71 rfl) (by decide) (by decide)) (g := (mkF m 33 #[.val (.ref qb), .val (.int 63), .val (.int 0), .val (.int 4)] [(.int 4), (.int 0), (.int 63), (.ref qb)])) rfl (by rw [hml]; rfl) (argsL := [(.ref qb), (.int 63), (.int 0), (.int 4)]) (rest := []) (lenOf pd_10 rfl) rfl (by show 2 * 0 + _ ≤ _; exact Nat.le_of_eq rfl) (hb hby d12_33) (fun _ _ => ⟨rfl, e7, (by decide : 0 + 0 ≤ _), (by decide : 0 + 0 ≤ _)⟩)
  dsimp only [Pt.U, Pt.locs, Pt.cells, Pt.slots] at X9 l9 y9 z9 st9 hQ9
  subst l9 y9 z9
  obtain ⟨rfl, N9q, e9⟩ := hQ9
  have N9 := Fr.app N7 N9q
  have P9 : own_Go p e below S0 (T9.setTop (mkF m 36 #[.val (.ref qb), .val (.int 63), .val (.int 0), .val (.int 4)] [(.int (r20n4c63 y0 y1 y2 y3))])) := fun t k => P8 t (st9 _ k)
  obtain ⟨fs, hr, hrun, hended, hW, hsame⟩ := X9.leave (v := some (.int (r20n4c63 y0 y1 y2 y3))) (fun h => by rw [Bd.returns] at h; cases h) (BodyLoose.notSynchronized Bd)
  refine ⟨_, _, own_from hE0 (P9 _ ?_), hrun, hended, _, _, rfl, ?_, ⟨_, rfl⟩, hW, hsame.mono (by decide) (by decide)⟩
  · show Steps p.tables e below (T9.setTop (mkF m 36 #[.val (.ref qb), .val (.int 63), .val (.int 0), .val (.int 4)] [(.int (r20n4c63 y0 y1 y2 y3))])) _
    exact retI X9 hx Bd.returns (hb hby d12_36) hr
  · show Q12n4c63 Z qb kb y0 y1 y2 y3 h0 n0 _ T9.heap _
    rw [e9]
    exact ⟨rfl, N9, rfl⟩
theorem ef_8n4c63 (m : MethodId) (q8n4c63_0 : Addr) : entryFrame m #[(.ref q8n4c63_0), (.int 63), (.int 0)] 3 = mkF m 0 #[.val (.ref q8n4c63_0), .val (.int 63), .val (.int 0)] [] := by first | (simp [entryFrame, mkF, argsToLocals, Value.category]; done) | rfl
def Q8n4c63 (Z : State) (q8n4c63_0 : Addr) (qb : Addr) (kb : ClassId) (y0 : Int32) (y1 : Int32) (y2 : Int32) (y3 : Int32) (zc : Int32) (h0 : Heap) (n0 : Nat) (v : Option Value) (h : Heap) (L : List Loc) : Prop := v = some (.int (r20n4c63 y0 y1 y2 y3)) ∧ Fr n0 L ∧ h = h0
set_option maxRecDepth 65536 in
set_option maxHeartbeats 40000000 in
theorem rm8n4c63 (l : Launch) (Z : State) (a0 : Array Value) (hw : ∀ d ∈ tables_1, d.before a0 Z = true) (ws : List Jvm.Cond) (q8n4c63_0 : Addr) (qb : Addr) (kb : ClassId) (y0 : Int32) (y1 : Int32) (y2 : Int32) (y3 : Int32) (zc : Int32) (h0 : Heap) (n0 : Nat) (Z0 : n0 ≤ h0.size) (F_q8n4c63_0_value : Fld Z h0 q8n4c63_0 "java/lang/String" "value" "[B" (.ref qb)) (A_qb : Arv Z h0 qb kb .byte (4 : Int32) [(.int y0), (.int y1), (.int y2), (.int y3)] (.int 0)) (S_COMPACT_STRINGS : Sta Z h0 "java/lang/String" "COMPACT_STRINGS" "Z" (.int zc)) (hcs : ¬ (zc = (0 : Int32))) (F_q8n4c63_0_coder : Fld Z h0 q8n4c63_0 "java/lang/String" "coder" "B" (.int 0)) (E_q8n4c63_0 : Exa Z h0 q8n4c63_0 "java/lang/String") :
    MetFree l (⟨"java/lang/String", "indexOf", "(II)I"⟩ : MethodName) (head1 (Jvm.Cond.code (⟨"java/lang/String", "indexOf", "(II)I"⟩ : MethodName) jdk_42_method_80_code 3 (some .int) :: ws) ({ frames := 2, cells := 0, slots := 0, locals := 32 } : Room)) (fun a U => a = #[(.ref q8n4c63_0), (.int 63), (.int 0)] ∧ Z.Warmed39 U.vm ∧ U.heap = h0) (fun _ _ _ _ _ => True) (fun _ U o U' => ∃ v L, o = .returned v ∧ Q8n4c63 Z q8n4c63_0 qb kb y0 y1 y2 y3 zc h0 n0 v U'.heap L ∧ FrameEnd U o U' L ({ frames := 2, cells := 0, slots := 0, locals := 32 } : Room).cells ({ frames := 2, cells := 0, slots := 0, locals := 32 } : Room).slots) := by
  refine MetFree.of_bodySF (plainFor_of_name pn_2) hisR ?_
  intro p e s m args below meth c s₁ Bd hml0 hP hK
  obtain ⟨rfl, hZ, hh⟩ := hP
  have hx := Bd.exec
  have hby := Bd.bytes
  have hml : c.maxLocals = 3 := hml0
  have hown : s.vm.findClass "java/lang/String" = some m.cls := findClass_of_methodNamed Bd.named
  have hnm := (name_of_methodNamed Bd.named Bd.method).1
  have X0 : Stand p l e ({ frames := 2, cells := 0, slots := 0, locals := 32 } : Room) s m #[(.ref q8n4c63_0), (.int 63), (.int 0)] below meth c s₁ [] 0 0 := Stand.of_body Bd
  have e0 : s₁.heap = h0 := by rw [← hh, Bd.state]; rfl
  have N0 := Fr.nil n0
  obtain ⟨S0, hE0⟩ : ∃ z, z = s₁.setTop (entryFrame m #[(.ref q8n4c63_0), (.int 63), (.int 0)] 3) := ⟨_, rfl⟩
  have P0 : own_Go p e below S0 (s₁.setTop (mkF m 0 #[.val (.ref q8n4c63_0), .val (.int 63), .val (.int 0)] [])) := fun t k => by rw [hE0]; exact castTop (ef_8n4c63 m q8n4c63_0) k
  have P1 : own_Go p e below S0 (s₁.setTop (mkF m 1 #[.val (.ref q8n4c63_0), .val (.int 63), .val (.int 0)] [(.ref q8n4c63_0)])) := fun t k => P0 t (by
    refine XS.aloadN X0.here hx rfl (hb hby d8_0) rfl rfl ?_
    show Steps p.tables e below (s₁.setTop (mkF m 1 #[.val (.ref q8n4c63_0), .val (.int 63), .val (.int 0)] [(.ref q8n4c63_0)])) t
    exact k)
  obtain ⟨cq2, kq2, q2a, q2b, q2c⟩ := isOf hZ e0 E_q8n4c63_0
  obtain ⟨_, _, ⟨T2, L2, k2, n2⟩, -, X2, ⟨Lc2, hQ2, l2, y2, z2⟩, st2⟩ := X0.virtualBack hx (y := (⟨"java/lang/String", "isLatin1", "()Z"⟩ : MethodName)) (z := (⟨"java/lang/String", "isLatin1", "()Z"⟩ : MethodName)) hown (mvT hZ (own_w hw 53 rfl)) (mvT hZ (own_w hw 54 rfl)) (notFace_of_selects (args := #[]) (mvT hZ (own_w hw 56 rfl))) (mvT hZ (own_w hw 56 rfl)) (mvT hZ (own_w hw 55 rfl)) (by decide) (backOf (W := 0) (rm9 l Z a0 hw [] q8n4c63_0 zc h0 n0 Z0 S_COMPACT_STRINGS hcs F_q8n4c63_0_coder) hZ (own_w hw 57 rfl) (own_w hw 7 rfl) (by decide) (by decide)) q2a q2c (g := (mkF m 1 #[.val (.ref q8n4c63_0), .val (.int 63), .val (.int 0)] [(.ref q8n4c63_0)])) rfl (by rw [hml]; rfl) (Steps.refl _) (argsL := []) (rest := []) (lenOf pd_8 rfl) rfl (by show 2 * 0 + _ ≤ _; exact Nat.le_of_eq rfl) (hb hby d8_1) (fun _ _ => ⟨rfl, e0, (by decide : 0 + 0 ≤ _), (by decide : 0 + 0 ≤ _)⟩)
  dsimp only [Pt.U, Pt.locs, Pt.cells, Pt.slots] at X2 l2 y2 z2 st2 hQ2
  subst l2 y2 z2
  obtain ⟨rfl, N2q, e2⟩ := hQ2
  have N2 := Fr.app N0 N2q
  have P2 : own_Go p e below S0 (T2.setTop (mkF m 4 #[.val (.ref q8n4c63_0), .val (.int 63), .val (.int 0)] [(.int 1)])) := fun t k => P1 t (st2.trans k)
  have P3 : own_Go p e below S0 (T2.setTop (mkF m 8 #[.val (.ref q8n4c63_0), .val (.int 63), .val (.int 0)] [(.ref q8n4c63_0)])) := fun t k => P2 t (by
    refine XS.ifNo X2.here hx rfl (hb hby d8_4) rfl ((if0 _ _).trans (feq (by decide)).1) ?_
    refine XS.aloadN X2.here hx rfl (hb hby d8_7) rfl rfl ?_
    show Steps p.tables e below (T2.setTop (mkF m 8 #[.val (.ref q8n4c63_0), .val (.int 63), .val (.int 0)] [(.ref q8n4c63_0)])) t
    exact k)
  obtain ⟨T4, X4, e4, st4⟩ := getF X2 hx hZ hown (host := "") (Or.inl (own_w hw 24 rfl)) Via.refl e2 F_q8n4c63_0_value (g := (mkF m 8 #[.val (.ref q8n4c63_0), .val (.int 63), .val (.int 0)] [(.ref q8n4c63_0)])) rfl rfl (hb hby d8_8)
  have P4 : own_Go p e below S0 (T4.setTop (mkF m 11 #[.val (.ref q8n4c63_0), .val (.int 63), .val (.int 0)] [(.ref qb)])) := fun t k => P3 t (st4 _ k)
  have P5 : own_Go p e below S0 (T4.setTop (mkF m 14 #[.val (.ref q8n4c63_0), .val (.int 63), .val (.int 0)] [(.ref q8n4c63_0), (.int 0), (.int 63), (.ref qb)])) := fun t k => P4 t (by
    refine XS.iloadN X4.here hx rfl (hb hby d8_11) rfl ?_
    refine XS.iloadN X4.here hx rfl (hb hby d8_12) rfl ?_
    refine XS.aloadN X4.here hx rfl (hb hby d8_13) rfl rfl ?_
    show Steps p.tables e below (T4.setTop (mkF m 14 #[.val (.ref q8n4c63_0), .val (.int 63), .val (.int 0)] [(.ref q8n4c63_0), (.int 0), (.int 63), (.ref qb)])) t
    exact k)
  obtain ⟨cq6, kq6, q6a, q6b, q6c⟩ := isOf hZ e4 E_q8n4c63_0
  obtain ⟨_, _, ⟨T6, L6, k6, n6⟩, -, X6, ⟨Lc6, hQ6, l6, y6, z6⟩, st6⟩ := X4.virtualBack hx (y := (⟨"java/lang/String", "length", "()I"⟩ : MethodName)) (z := (⟨"java/lang/String", "length", "()I"⟩ : MethodName)) hown (mvT hZ (own_w hw 59 rfl)) (mvT hZ (own_w hw 60 rfl)) (notFace_of_selects (args := #[]) (mvT hZ (own_w hw 62 rfl))) (mvT hZ (own_w hw 62 rfl)) (mvT hZ (own_w hw 61 rfl)) (by decide) (backOf (W := 3) (rm10n4 l Z a0 hw [] q8n4c63_0 qb kb y0 y1 y2 y3 zc h0 n0 Z0 F_q8n4c63_0_value A_qb S_COMPACT_STRINGS hcs F_q8n4c63_0_coder E_q8n4c63_0) hZ (own_w hw 63 rfl) (own_w hw 7 rfl) (by decide) (by decide)) q6a q6c (g := (mkF m 14 #[.val (.ref q8n4c63_0), .val (.int 63), .val (.int 0)] [(.ref q8n4c63_0), (.int 0), (.int 63), (.ref qb)])) rfl (by rw [hml]; rfl) (Steps.refl _) (argsL := []) (rest := [(.int 0), (.int 63), (.ref qb)]) (lenOf pd_9 rfl) rfl (by show 2 * 0 + _ ≤ _; exact Nat.le_of_eq rfl) (hb hby d8_14) (fun _ _ => ⟨rfl, e4, (by decide : 0 + 0 ≤ _), (by decide : 0 + 0 ≤ _)⟩)
  dsimp only [Pt.U, Pt.locs, Pt.cells, Pt.slots] at X6 l6 y6 z6 st6 hQ6
  subst l6 y6 z6
  obtain ⟨rfl, N6q, e6⟩ := hQ6
  have N6 := Fr.app N2 N6q
  have P6 : own_Go p e below S0 (T6.setTop (mkF m 17 #[.val (.ref q8n4c63_0), .val (.int 63), .val (.int 0)] [(.int 4), (.int 0), (.int 63), (.ref qb)])) := fun t k => P5 t (st6.trans k)
  obtain ⟨_, _, ⟨T7, L7, k7, n7⟩, -, X7, ⟨Lc7, hQ7, l7, y7, z7⟩, st7⟩ := Jvm.LawKit.callS X6 hx (y := (⟨"java/lang/StringLatin1", "indexOf", "([BIII)I"⟩ : MethodName)) hown (mvT hZ (own_w hw 69 rfl)) (mvT hZ (own_w hw 70 rfl)) (mvT hZ (own_w hw 71 rfl)) (mvT hZ (own_w hw 72 rfl)) (by decide) (backOf (W := 0) (rm12n4c63 l Z a0 hw [] qb kb y0 y1 y2 y3 h0 n0 Z0 A_qb) hZ (own_w hw 72 rfl) (own_w hw 71 rfl) (by decide) (by decide)) (g := (mkF m 17 #[.val (.ref q8n4c63_0), .val (.int 63), .val (.int 0)] [(.int 4), (.int 0), (.int 63), (.ref qb)])) rfl (by rw [hml]; rfl) (argsL := [(.ref qb), (.int 63), (.int 0), (.int 4)]) (rest := []) (lenOf pd_10 rfl) rfl (by show 2 * 0 + _ ≤ _; exact Nat.le_of_eq rfl) (hb hby d8_17) (fun _ _ => ⟨rfl, e6, (by decide : 0 + 0 ≤ _), (by decide : 0 + 0 ≤ _)⟩)
  dsimp only [Pt.U, Pt.locs, Pt.cells, Pt.slots] at X7 l7 y7 z7 st7 hQ7
  subst l7 y7 z7
  obtain ⟨rfl, N7q, e7⟩ := hQ7
  have N7 := Fr.app N6 N7q
  have P7 : own_Go p e below S0 (T7.setTop (mkF m 20 #[.val (.ref q8n4c63_0), .val (.int 63), .val (.int 0)] [(.int (r20n4c63 y0 y1 y2 y3))])) := fun t k => P6 t (st7 _ k)
  have P8 : own_Go p e below S0 (T7.setTop (mkF m 36 #[.val (.ref q8n4c63_0), .val (.int 63), .val (.int 0)] [(.int (r20n4c63 y0 y1 y2 y3))])) := fun t k => P7 t (by
    refine XS.goto X7.here hx rfl (pc0 := 20) (pc' := 36) rfl (hb hby d8_20) (by decide) (by decide) ?_
    show Steps p.tables e below (T7.setTop (mkF m 36 #[.val (.ref q8n4c63_0), .val (.int 63), .val (.int 0)] [(.int (r20n4c63 y0 y1 y2 y3))])) t
    exact k)
  obtain ⟨fs, hr, hrun, hended, hW, hsame⟩ := X7.leave (v := some (.int (r20n4c63 y0 y1 y2 y3))) (fun h => by rw [Bd.returns] at h; cases h) (BodyLoose.notSynchronized Bd)
  refine ⟨_, _, own_from hE0 (P8 _ ?_), hrun, hended, _, _, rfl, ?_, ⟨_, rfl⟩, hW, hsame.mono (by decide) (by decide)⟩
  · show Steps p.tables e below (T7.setTop (mkF m 36 #[.val (.ref q8n4c63_0), .val (.int 63), .val (.int 0)] [(.int (r20n4c63 y0 y1 y2 y3))])) _
    exact retI X7 hx Bd.returns (hb hby d8_36) hr
  · show Q8n4c63 Z q8n4c63_0 qb kb y0 y1 y2 y3 zc h0 n0 _ T7.heap _
    rw [e7]
    exact ⟨rfl, N7, rfl⟩
theorem ef_7n4c63 (m : MethodId) (q7n4c63_0 : Addr) : entryFrame m #[(.ref q7n4c63_0), (.int 63)] 2 = mkF m 0 #[.val (.ref q7n4c63_0), .val (.int 63)] [] := by first | (simp [entryFrame, mkF, argsToLocals, Value.category]; done) | rfl
def Q7n4c63 (Z : State) (q7n4c63_0 : Addr) (qb : Addr) (kb : ClassId) (y0 : Int32) (y1 : Int32) (y2 : Int32) (y3 : Int32) (zc : Int32) (h0 : Heap) (n0 : Nat) (v : Option Value) (h : Heap) (L : List Loc) : Prop := v = some (.int (r20n4c63 y0 y1 y2 y3)) ∧ Fr n0 L ∧ h = h0
set_option maxRecDepth 65536 in
set_option maxHeartbeats 40000000 in
theorem rm7n4c63 (l : Launch) (Z : State) (a0 : Array Value) (hw : ∀ d ∈ tables_1, d.before a0 Z = true) (ws : List Jvm.Cond) (q7n4c63_0 : Addr) (qb : Addr) (kb : ClassId) (y0 : Int32) (y1 : Int32) (y2 : Int32) (y3 : Int32) (zc : Int32) (h0 : Heap) (n0 : Nat) (Z0 : n0 ≤ h0.size) (F_q7n4c63_0_value : Fld Z h0 q7n4c63_0 "java/lang/String" "value" "[B" (.ref qb)) (A_qb : Arv Z h0 qb kb .byte (4 : Int32) [(.int y0), (.int y1), (.int y2), (.int y3)] (.int 0)) (S_COMPACT_STRINGS : Sta Z h0 "java/lang/String" "COMPACT_STRINGS" "Z" (.int zc)) (hcs : ¬ (zc = (0 : Int32))) (F_q7n4c63_0_coder : Fld Z h0 q7n4c63_0 "java/lang/String" "coder" "B" (.int 0)) (E_q7n4c63_0 : Exa Z h0 q7n4c63_0 "java/lang/String") :
    MetFree l (⟨"java/lang/String", "indexOf", "(I)I"⟩ : MethodName) (head1 (Jvm.Cond.code (⟨"java/lang/String", "indexOf", "(I)I"⟩ : MethodName) jdk_42_method_79_code 2 (some .int) :: ws) ({ frames := 3, cells := 0, slots := 0, locals := 46 } : Room)) (fun a U => a = #[(.ref q7n4c63_0), (.int 63)] ∧ Z.Warmed39 U.vm ∧ U.heap = h0) (fun _ _ _ _ _ => True) (fun _ U o U' => ∃ v L, o = .returned v ∧ Q7n4c63 Z q7n4c63_0 qb kb y0 y1 y2 y3 zc h0 n0 v U'.heap L ∧ FrameEnd U o U' L ({ frames := 3, cells := 0, slots := 0, locals := 46 } : Room).cells ({ frames := 3, cells := 0, slots := 0, locals := 46 } : Room).slots) := by
  refine MetFree.of_bodySF (plainFor_of_name pn_2) hisR ?_
  intro p e s m args below meth c s₁ Bd hml0 hP hK
  obtain ⟨rfl, hZ, hh⟩ := hP
  have hx := Bd.exec
  have hby := Bd.bytes
  have hml : c.maxLocals = 2 := hml0
  have hown : s.vm.findClass "java/lang/String" = some m.cls := findClass_of_methodNamed Bd.named
  have hnm := (name_of_methodNamed Bd.named Bd.method).1
  have X0 : Stand p l e ({ frames := 3, cells := 0, slots := 0, locals := 46 } : Room) s m #[(.ref q7n4c63_0), (.int 63)] below meth c s₁ [] 0 0 := Stand.of_body Bd
  have e0 : s₁.heap = h0 := by rw [← hh, Bd.state]; rfl
  have N0 := Fr.nil n0
  obtain ⟨S0, hE0⟩ : ∃ z, z = s₁.setTop (entryFrame m #[(.ref q7n4c63_0), (.int 63)] 2) := ⟨_, rfl⟩
  have P0 : own_Go p e below S0 (s₁.setTop (mkF m 0 #[.val (.ref q7n4c63_0), .val (.int 63)] [])) := fun t k => by rw [hE0]; exact castTop (ef_7n4c63 m q7n4c63_0) k
  have P1 : own_Go p e below S0 (s₁.setTop (mkF m 3 #[.val (.ref q7n4c63_0), .val (.int 63)] [(.int 0), (.int 63), (.ref q7n4c63_0)])) := fun t k => P0 t (by
    refine XS.aloadN X0.here hx rfl (hb hby d7_0) rfl rfl ?_
    refine XS.iloadN X0.here hx rfl (hb hby d7_1) rfl ?_
    refine XS.iconst X0.here hx rfl (hb hby d7_2) ?_
    show Steps p.tables e below (s₁.setTop (mkF m 3 #[.val (.ref q7n4c63_0), .val (.int 63)] [(.int 0), (.int 63), (.ref q7n4c63_0)])) t
    exact k)
  obtain ⟨cq2, kq2, q2a, q2b, q2c⟩ := isOf hZ e0 E_q7n4c63_0
  obtain ⟨_, _, ⟨T2, L2, k2, n2⟩, -, X2, ⟨Lc2, hQ2, l2, y2, z2⟩, st2⟩ := X0.virtualBack hx (y := (⟨"java/lang/String", "indexOf", "(II)I"⟩ : MethodName)) (z := (⟨"java/lang/String", "indexOf", "(II)I"⟩ : MethodName)) hown (mvT hZ (own_w hw 48 rfl)) (mvT hZ (own_w hw 49 rfl)) (notFace_of_selects (args := #[]) (mvT hZ (own_w hw 51 rfl))) (mvT hZ (own_w hw 51 rfl)) (mvT hZ (own_w hw 50 rfl)) (by decide) (backOf (W := 0) (rm8n4c63 l Z a0 hw [] q7n4c63_0 qb kb y0 y1 y2 y3 zc h0 n0 Z0 F_q7n4c63_0_value A_qb S_COMPACT_STRINGS hcs F_q7n4c63_0_coder E_q7n4c63_0) hZ (own_w hw 52 rfl) (own_w hw 7 rfl) (by decide) (by decide)) q2a q2c (g := (mkF m 3 #[.val (.ref q7n4c63_0), .val (.int 63)] [(.int 0), (.int 63), (.ref q7n4c63_0)])) rfl (by rw [hml]; rfl) (Steps.refl _) (argsL := [(.int 63), (.int 0)]) (rest := []) (lenOf pd_7 rfl) rfl (by show 2 * 0 + _ ≤ _; exact Nat.le_of_eq rfl) (hb hby d7_3) (fun _ _ => ⟨rfl, e0, (by decide : 0 + 0 ≤ _), (by decide : 0 + 0 ≤ _)⟩)
  dsimp only [Pt.U, Pt.locs, Pt.cells, Pt.slots] at X2 l2 y2 z2 st2 hQ2
  subst l2 y2 z2
  obtain ⟨rfl, N2q, e2⟩ := hQ2
  have N2 := Fr.app N0 N2q
  have P2 : own_Go p e below S0 (T2.setTop (mkF m 6 #[.val (.ref q7n4c63_0), .val (.int 63)] [(.int (r20n4c63 y0 y1 y2 y3))])) := fun t k => P1 t (st2.trans k)
  obtain ⟨fs, hr, hrun, hended, hW, hsame⟩ := X2.leave (v := some (.int (r20n4c63 y0 y1 y2 y3))) (fun h => by rw [Bd.returns] at h; cases h) (BodyLoose.notSynchronized Bd)
  refine ⟨_, _, own_from hE0 (P2 _ ?_), hrun, hended, _, _, rfl, ?_, ⟨_, rfl⟩, hW, hsame.mono (by decide) (by decide)⟩
  · show Steps p.tables e below (T2.setTop (mkF m 6 #[.val (.ref q7n4c63_0), .val (.int 63)] [(.int (r20n4c63 y0 y1 y2 y3))])) _
    exact retI X2 hx Bd.returns (hb hby d7_6) hr
  · show Q7n4c63 Z q7n4c63_0 qb kb y0 y1 y2 y3 zc h0 n0 _ T2.heap _
    rw [e2]
    exact ⟨rfl, N2, rfl⟩
theorem ef_6n4 (m : MethodId) (q6n4_0 : Addr) : entryFrame m #[(.ref q6n4_0)] 1 = mkF m 0 #[.val (.ref q6n4_0)] [] := by first | (simp [entryFrame, mkF, argsToLocals, Value.category]; done) | rfl
def r6n4 (y0 : Int32) (y1 : Int32) (y2 : Int32) (y3 : Int32) : Int32 := (if (r20n4c42 y0 y1 y2 y3) < (0 : Int32) then (if (r20n4c63 y0 y1 y2 y3) < (0 : Int32) then (1 : Int32) else (0 : Int32)) else (0 : Int32))
def Q6n4 (Z : State) (q6n4_0 : Addr) (qs : Addr) (qb : Addr) (kb : ClassId) (y0 : Int32) (y1 : Int32) (y2 : Int32) (y3 : Int32) (zc : Int32) (h0 : Heap) (n0 : Nat) (v : Option Value) (h : Heap) (L : List Loc) : Prop := v = some (.int (r6n4 y0 y1 y2 y3)) ∧ Fr n0 L ∧ h = h0
set_option maxRecDepth 65536 in
set_option maxHeartbeats 40000000 in
theorem rm6n4 (l : Launch) (Z : State) (a0 : Array Value) (hw : ∀ d ∈ tables_1, d.before a0 Z = true) (ws : List Jvm.Cond) (q6n4_0 : Addr) (qs : Addr) (qb : Addr) (kb : ClassId) (y0 : Int32) (y1 : Int32) (y2 : Int32) (y3 : Int32) (zc : Int32) (h0 : Heap) (n0 : Nat) (Z0 : n0 ≤ h0.size) (F_q6n4_0_pattern : Fld Z h0 q6n4_0 "com/example/strict_acl/strictacl/NamePattern" "pattern" "Ljava/lang/String;" (.ref qs)) (F_qs_value : Fld Z h0 qs "java/lang/String" "value" "[B" (.ref qb)) (A_qb : Arv Z h0 qb kb .byte (4 : Int32) [(.int y0), (.int y1), (.int y2), (.int y3)] (.int 0)) (S_COMPACT_STRINGS : Sta Z h0 "java/lang/String" "COMPACT_STRINGS" "Z" (.int zc)) (hcs : ¬ (zc = (0 : Int32))) (F_qs_coder : Fld Z h0 qs "java/lang/String" "coder" "B" (.int 0)) (E_qs : Exa Z h0 qs "java/lang/String") :
    MetFree l (⟨"com/example/strict_acl/strictacl/NamePattern", "isLiteral", "()Z"⟩ : MethodName) (head1 (Jvm.Cond.code (⟨"com/example/strict_acl/strictacl/NamePattern", "isLiteral", "()Z"⟩ : MethodName) prog_25_method_4_code 1 (some .boolean) :: ws) ({ frames := 4, cells := 0, slots := 0, locals := 59 } : Room)) (fun a U => a = #[(.ref q6n4_0)] ∧ Z.Warmed39 U.vm ∧ U.heap = h0) (fun _ _ _ _ _ => True) (fun _ U o U' => ∃ v L, o = .returned v ∧ Q6n4 Z q6n4_0 qs qb kb y0 y1 y2 y3 zc h0 n0 v U'.heap L ∧ FrameEnd U o U' L ({ frames := 4, cells := 0, slots := 0, locals := 59 } : Room).cells ({ frames := 4, cells := 0, slots := 0, locals := 59 } : Room).slots) := by
  refine MetFree.of_bodySF (plainFor_of_name pn_4) hisR ?_
  intro p e s m args below meth c s₁ Bd hml0 hP hK
  obtain ⟨rfl, hZ, hh⟩ := hP
  have hx := Bd.exec
  have hby := Bd.bytes
  have hml : c.maxLocals = 1 := hml0
  have hown : s.vm.findClass "com/example/strict_acl/strictacl/NamePattern" = some m.cls := findClass_of_methodNamed Bd.named
  have hnm := (name_of_methodNamed Bd.named Bd.method).1
  have X0 : Stand p l e ({ frames := 4, cells := 0, slots := 0, locals := 59 } : Room) s m #[(.ref q6n4_0)] below meth c s₁ [] 0 0 := Stand.of_body Bd
  have e0 : s₁.heap = h0 := by rw [← hh, Bd.state]; rfl
  have N0 := Fr.nil n0
  obtain ⟨S0, hE0⟩ : ∃ z, z = s₁.setTop (entryFrame m #[(.ref q6n4_0)] 1) := ⟨_, rfl⟩
  have P0 : own_Go p e below S0 (s₁.setTop (mkF m 0 #[.val (.ref q6n4_0)] [])) := fun t k => by rw [hE0]; exact castTop (ef_6n4 m q6n4_0) k
  have P1 : own_Go p e below S0 (s₁.setTop (mkF m 1 #[.val (.ref q6n4_0)] [(.ref q6n4_0)])) := fun t k => P0 t (by
    refine XS.aloadN X0.here hx rfl (hb hby d6_0) rfl rfl ?_
    show Steps p.tables e below (s₁.setTop (mkF m 1 #[.val (.ref q6n4_0)] [(.ref q6n4_0)])) t
    exact k)
  obtain ⟨T2, X2, e2, st2⟩ := getF X0 hx hZ hown (host := "") (Or.inl (own_w hw 36 rfl)) Via.refl e0 F_q6n4_0_pattern (g := (mkF m 1 #[.val (.ref q6n4_0)] [(.ref q6n4_0)])) rfl rfl (hb hby d6_1)
  have P2 : own_Go p e below S0 (T2.setTop (mkF m 4 #[.val (.ref q6n4_0)] [(.ref qs)])) := fun t k => P1 t (st2 _ k)
  have P3 : own_Go p e below S0 (T2.setTop (mkF m 6 #[.val (.ref q6n4_0)] [(.int 42), (.ref qs)])) := fun t k => P2 t (by
    refine XS.bipush X2.here hx rfl (hb hby d6_4) ?_
    show Steps p.tables e below (T2.setTop (mkF m 6 #[.val (.ref q6n4_0)] [(.int 42), (.ref qs)])) t
    exact k)
  obtain ⟨cq4, kq4, q4a, q4b, q4c⟩ := isOf hZ e2 E_qs
  obtain ⟨_, _, ⟨T4, L4, k4, n4⟩, -, X4, ⟨Lc4, hQ4, l4, y4, z4⟩, st4⟩ := X2.virtualBack hx (y := (⟨"java/lang/String", "indexOf", "(I)I"⟩ : MethodName)) (z := (⟨"java/lang/String", "indexOf", "(I)I"⟩ : MethodName)) hown (mvT hZ (own_w hw 43 rfl)) (mvT hZ (own_w hw 44 rfl)) (notFace_of_selects (args := #[]) (mvT hZ (own_w hw 46 rfl))) (mvT hZ (own_w hw 46 rfl)) (mvT hZ (own_w hw 45 rfl)) (by decide) (backOf (W := 0) (rm7n4c42 l Z a0 hw [] qs qb kb y0 y1 y2 y3 zc h0 n0 Z0 F_qs_value A_qb S_COMPACT_STRINGS hcs F_qs_coder E_qs) hZ (own_w hw 47 rfl) (own_w hw 7 rfl) (by decide) (by decide)) q4a q4c (g := (mkF m 6 #[.val (.ref q6n4_0)] [(.int 42), (.ref qs)])) rfl (by rw [hml]; rfl) (Steps.refl _) (argsL := [(.int 42)]) (rest := []) (lenOf pd_11 rfl) rfl (by show 2 * 0 + _ ≤ _; exact Nat.le_of_eq rfl) (hb hby d6_6) (fun _ _ => ⟨rfl, e2, (by decide : 0 + 0 ≤ _), (by decide : 0 + 0 ≤ _)⟩)
  dsimp only [Pt.U, Pt.locs, Pt.cells, Pt.slots] at X4 l4 y4 z4 st4 hQ4
  subst l4 y4 z4
  obtain ⟨rfl, N4q, e4⟩ := hQ4
  have N4 := Fr.app N0 N4q
  have P4 : own_Go p e below S0 (T4.setTop (mkF m 9 #[.val (.ref q6n4_0)] [(.int (r20n4c42 y0 y1 y2 y3))])) := fun t k => P3 t (st4.trans k)
  by_cases c5 : (r20n4c42 y0 y1 y2 y3) < (0 : Int32)
  · skip
    have P6 : own_Go p e below S0 (T4.setTop (mkF m 13 #[.val (.ref q6n4_0)] [(.ref q6n4_0)])) := fun t k => P4 t (by
      refine XS.ifNo X4.here hx rfl (hb hby d6_9) rfl ((if0 _ _).trans (tlt c5).2.1) ?_
      refine XS.aloadN X4.here hx rfl (hb hby d6_12) rfl rfl ?_
      show Steps p.tables e below (T4.setTop (mkF m 13 #[.val (.ref q6n4_0)] [(.ref q6n4_0)])) t
      exact k)
    obtain ⟨T7, X7, e7, st7⟩ := getF X4 hx hZ hown (host := "") (Or.inl (own_w hw 36 rfl)) Via.refl e4 F_q6n4_0_pattern (g := (mkF m 13 #[.val (.ref q6n4_0)] [(.ref q6n4_0)])) rfl rfl (hb hby d6_13)
    have P7 : own_Go p e below S0 (T7.setTop (mkF m 16 #[.val (.ref q6n4_0)] [(.ref qs)])) := fun t k => P6 t (st7 _ k)
    have P8 : own_Go p e below S0 (T7.setTop (mkF m 18 #[.val (.ref q6n4_0)] [(.int 63), (.ref qs)])) := fun t k => P7 t (by
      refine XS.bipush X7.here hx rfl (hb hby d6_16) ?_
      show Steps p.tables e below (T7.setTop (mkF m 18 #[.val (.ref q6n4_0)] [(.int 63), (.ref qs)])) t
      exact k)
    obtain ⟨cq9, kq9, q9a, q9b, q9c⟩ := isOf hZ e7 E_qs
    obtain ⟨_, _, ⟨T9, L9, k9, n9⟩, -, X9, ⟨Lc9, hQ9, l9, y9, z9⟩, st9⟩ := X7.virtualBack hx (y := (⟨"java/lang/String", "indexOf", "(I)I"⟩ : MethodName)) (z := (⟨"java/lang/String", "indexOf", "(I)I"⟩ : MethodName)) hown (mvT hZ (own_w hw 43 rfl)) (mvT hZ (own_w hw 44 rfl)) (notFace_of_selects (args := #[]) (mvT hZ (own_w hw 46 rfl))) (mvT hZ (own_w hw 46 rfl)) (mvT hZ (own_w hw 45 rfl)) (by decide) (backOf (W := 0) (rm7n4c63 l Z a0 hw [] qs qb kb y0 y1 y2 y3 zc h0 n0 Z0 F_qs_value A_qb S_COMPACT_STRINGS hcs F_qs_coder E_qs) hZ (own_w hw 47 rfl) (own_w hw 7 rfl) (by decide) (by decide)) q9a q9c (g := (mkF m 18 #[.val (.ref q6n4_0)] [(.int 63), (.ref qs)])) rfl (by rw [hml]; rfl) (Steps.refl _) (argsL := [(.int 63)]) (rest := []) (lenOf pd_11 rfl) rfl (by show 2 * 0 + _ ≤ _; exact Nat.le_of_eq rfl) (hb hby d6_18) (fun _ _ => ⟨rfl, e7, (by decide : 0 + 0 ≤ _), (by decide : 0 + 0 ≤ _)⟩)
    dsimp only [Pt.U, Pt.locs, Pt.cells, Pt.slots] at X9 l9 y9 z9 st9 hQ9
    subst l9 y9 z9
    obtain ⟨rfl, N9q, e9⟩ := hQ9
    have N9 := Fr.app N4 N9q
    have P9 : own_Go p e below S0 (T9.setTop (mkF m 21 #[.val (.ref q6n4_0)] [(.int (r20n4c63 y0 y1 y2 y3))])) := fun t k => P8 t (st9.trans k)
    by_cases c10 : (r20n4c63 y0 y1 y2 y3) < (0 : Int32)
    · skip
      have P11 : own_Go p e below S0 (T9.setTop (mkF m 29 #[.val (.ref q6n4_0)] [(.int 1)])) := fun t k => P9 t (by
        refine XS.ifNo X9.here hx rfl (hb hby d6_21) rfl ((if0 _ _).trans (tlt c10).2.1) ?_
        refine XS.iconst X9.here hx rfl (hb hby d6_24) ?_
        refine XS.goto X9.here hx rfl (pc0 := 25) (pc' := 29) rfl (hb hby d6_25) (by decide) (by decide) ?_
        show Steps p.tables e below (T9.setTop (mkF m 29 #[.val (.ref q6n4_0)] [(.int 1)])) t
        exact k)
      obtain ⟨fs, hr, hrun, hended, hW, hsame⟩ := X9.leave (v := some (.int 1)) (fun h => by rw [Bd.returns] at h; cases h) (BodyLoose.notSynchronized Bd)
      refine ⟨_, _, own_from hE0 (P11 _ ?_), hrun, hended, _, _, rfl, ?_, ⟨_, rfl⟩, hW, hsame.mono (by decide) (by decide)⟩
      · show Steps p.tables e below (T9.setTop (mkF m 29 #[.val (.ref q6n4_0)] [(.int 1)])) _
        exact retN X9 hx (t := .boolean) Bd.returns (by simp) (hb hby d6_29) hr
      · show Q6n4 Z q6n4_0 qs qb kb y0 y1 y2 y3 zc h0 n0 _ T9.heap _
        rw [e9]
        exact ⟨(congrArg (fun z => some (Value.int z)) (Eq.symm (Eq.trans (if_pos c5) (if_pos c10)))), N9, rfl⟩
    · skip
      have P12 : own_Go p e below S0 (T9.setTop (mkF m 29 #[.val (.ref q6n4_0)] [(.int 0)])) := fun t k => P9 t (by
        refine XS.ifYes X9.here hx rfl (pc0 := 21) (pc' := 28) rfl (hb hby d6_21) rfl ((if0 _ _).trans (flt c10).2.1) (by decide) (by decide) ?_
        refine XS.iconst X9.here hx rfl (hb hby d6_28) ?_
        show Steps p.tables e below (T9.setTop (mkF m 29 #[.val (.ref q6n4_0)] [(.int 0)])) t
        exact k)
      obtain ⟨fs, hr, hrun, hended, hW, hsame⟩ := X9.leave (v := some (.int 0)) (fun h => by rw [Bd.returns] at h; cases h) (BodyLoose.notSynchronized Bd)
      refine ⟨_, _, own_from hE0 (P12 _ ?_), hrun, hended, _, _, rfl, ?_, ⟨_, rfl⟩, hW, hsame.mono (by decide) (by decide)⟩
      · show Steps p.tables e below (T9.setTop (mkF m 29 #[.val (.ref q6n4_0)] [(.int 0)])) _
        exact retN X9 hx (t := .boolean) Bd.returns (by simp) (hb hby d6_29) hr
      · show Q6n4 Z q6n4_0 qs qb kb y0 y1 y2 y3 zc h0 n0 _ T9.heap _
        rw [e9]
        exact ⟨(congrArg (fun z => some (Value.int z)) (Eq.symm (Eq.trans (if_pos c5) (if_neg c10)))), N9, rfl⟩
  · skip
    have P13 : own_Go p e below S0 (T4.setTop (mkF m 29 #[.val (.ref q6n4_0)] [(.int 0)])) := fun t k => P4 t (by
      refine XS.ifYes X4.here hx rfl (pc0 := 9) (pc' := 28) rfl (hb hby d6_9) rfl ((if0 _ _).trans (flt c5).2.1) (by decide) (by decide) ?_
      refine XS.iconst X4.here hx rfl (hb hby d6_28) ?_
      show Steps p.tables e below (T4.setTop (mkF m 29 #[.val (.ref q6n4_0)] [(.int 0)])) t
      exact k)
    obtain ⟨fs, hr, hrun, hended, hW, hsame⟩ := X4.leave (v := some (.int 0)) (fun h => by rw [Bd.returns] at h; cases h) (BodyLoose.notSynchronized Bd)
    refine ⟨_, _, own_from hE0 (P13 _ ?_), hrun, hended, _, _, rfl, ?_, ⟨_, rfl⟩, hW, hsame.mono (by decide) (by decide)⟩
    · show Steps p.tables e below (T4.setTop (mkF m 29 #[.val (.ref q6n4_0)] [(.int 0)])) _
      exact retN X4 hx (t := .boolean) Bd.returns (by simp) (hb hby d6_29) hr
    · show Q6n4 Z q6n4_0 qs qb kb y0 y1 y2 y3 zc h0 n0 _ T4.heap _
      rw [e4]
      exact ⟨(congrArg (fun z => some (Value.int z)) (Eq.symm (if_neg c5))), N4, rfl⟩
theorem own_law1 (b0 m0 : Int32) (h0 : (b0 = (42 : Int32) ↔ m0 = (42 : Int32)) ∧ (b0 = (63 : Int32) ↔ m0 = (63 : Int32))) : r6n1 b0 = (if (if (own_wild m0) = (0 : Int32) then (0 : Int32) else (1 : Int32)) = (0 : Int32) then (1 : Int32) else (0 : Int32)) := by
  simp only [r6n1, r20n1c42, r20n1c63, own_wild, h0.1, h0.2]
  clear h0
  rcases own_3 m0 with rfl | rfl | ⟨p0, q0⟩
  all_goals first | decide | (simp [*] <;> decide)
theorem own_law2 (b0 m0 : Int32) (h0 : (b0 = (42 : Int32) ↔ m0 = (42 : Int32)) ∧ (b0 = (63 : Int32) ↔ m0 = (63 : Int32))) (b1 m1 : Int32) (h1 : (b1 = (42 : Int32) ↔ m1 = (42 : Int32)) ∧ (b1 = (63 : Int32) ↔ m1 = (63 : Int32))) : r6n2 b0 b1 = (if (if (own_wild m0) = (0 : Int32) then (if (own_wild m1) = (0 : Int32) then (0 : Int32) else (1 : Int32)) else (1 : Int32)) = (0 : Int32) then (1 : Int32) else (0 : Int32)) := by
  simp only [r6n2, r20n2c42, r20n2c63, own_wild, h0.1, h0.2, h1.1, h1.2]
  clear h0 h1
  rcases own_3 m0 with rfl | rfl | ⟨p0, q0⟩
  all_goals rcases own_3 m1 with rfl | rfl | ⟨p1, q1⟩
  all_goals first | decide | (simp [*] <;> decide)
theorem own_law3 (b0 m0 : Int32) (h0 : (b0 = (42 : Int32) ↔ m0 = (42 : Int32)) ∧ (b0 = (63 : Int32) ↔ m0 = (63 : Int32))) (b1 m1 : Int32) (h1 : (b1 = (42 : Int32) ↔ m1 = (42 : Int32)) ∧ (b1 = (63 : Int32) ↔ m1 = (63 : Int32))) (b2 m2 : Int32) (h2 : (b2 = (42 : Int32) ↔ m2 = (42 : Int32)) ∧ (b2 = (63 : Int32) ↔ m2 = (63 : Int32))) : r6n3 b0 b1 b2 = (if (if (own_wild m0) = (0 : Int32) then (if (own_wild m1) = (0 : Int32) then (if (own_wild m2) = (0 : Int32) then (0 : Int32) else (1 : Int32)) else (1 : Int32)) else (1 : Int32)) = (0 : Int32) then (1 : Int32) else (0 : Int32)) := by
  simp only [r6n3, r20n3c42, r20n3c63, own_wild, h0.1, h0.2, h1.1, h1.2, h2.1, h2.2]
  clear h0 h1 h2
  rcases own_3 m0 with rfl | rfl | ⟨p0, q0⟩
  all_goals rcases own_3 m1 with rfl | rfl | ⟨p1, q1⟩
  all_goals rcases own_3 m2 with rfl | rfl | ⟨p2, q2⟩
  all_goals first | decide | (simp [*] <;> decide)
theorem own_law4 (b0 m0 : Int32) (h0 : (b0 = (42 : Int32) ↔ m0 = (42 : Int32)) ∧ (b0 = (63 : Int32) ↔ m0 = (63 : Int32))) (b1 m1 : Int32) (h1 : (b1 = (42 : Int32) ↔ m1 = (42 : Int32)) ∧ (b1 = (63 : Int32) ↔ m1 = (63 : Int32))) (b2 m2 : Int32) (h2 : (b2 = (42 : Int32) ↔ m2 = (42 : Int32)) ∧ (b2 = (63 : Int32) ↔ m2 = (63 : Int32))) (b3 m3 : Int32) (h3 : (b3 = (42 : Int32) ↔ m3 = (42 : Int32)) ∧ (b3 = (63 : Int32) ↔ m3 = (63 : Int32))) : r6n4 b0 b1 b2 b3 = (if (if (own_wild m0) = (0 : Int32) then (if (own_wild m1) = (0 : Int32) then (if (own_wild m2) = (0 : Int32) then (if (own_wild m3) = (0 : Int32) then (0 : Int32) else (1 : Int32)) else (1 : Int32)) else (1 : Int32)) else (1 : Int32)) = (0 : Int32) then (1 : Int32) else (0 : Int32)) := by
  simp only [r6n4, r20n4c42, r20n4c63, own_wild, h0.1, h0.2, h1.1, h1.2, h2.1, h2.2, h3.1, h3.2]
  clear h0 h1 h2 h3
  rcases own_3 m0 with rfl | rfl | ⟨p0, q0⟩
  all_goals rcases own_3 m1 with rfl | rfl | ⟨p1, q1⟩
  all_goals rcases own_3 m2 with rfl | rfl | ⟨p2, q2⟩
  all_goals rcases own_3 m3 with rfl | rfl | ⟨p3, q3⟩
  all_goals first | decide | (simp [*] <;> decide)
theorem pd_12 : parseMethodDescriptor "([C)V" = some ⟨[(.array .char)], none⟩ := by decide +kernel
theorem pd_13 : parseMethodDescriptor "(Ljava/lang/String;)V" = some ⟨[(.object "java/lang/String")], none⟩ := by decide +kernel
theorem pd_14 : parseMethodDescriptor "(C)Z" = some ⟨[.char], some .boolean⟩ := by decide +kernel
theorem ef_0 (m : MethodId) (i0 : Int32) (i1 : Int32) (i2 : Int32) (i3 : Int32) (i4 : Int32) : entryFrame m #[(.int i0), (.int i1), (.int i2), (.int i3), (.int i4)] maxLocals = mkF m 0 #[.val (.int i0), .val (.int i1), .val (.int i2), .val (.int i3), .val (.int i4), .unset, .unset, .unset, .unset, .unset, .unset, .unset, .unset, .unset] [] := by first | (simp [entryFrame, mkF, argsToLocals, Value.category, maxLocals]; done) | rfl
def Q0 (Z : State) (i0 : Int32) (i1 : Int32) (i2 : Int32) (i3 : Int32) (i4 : Int32) (zc : Int32) (h0 : Heap) (n0 : Nat) (v : Option Value) (h : Heap) (L : List Loc) : Prop := v = some (.int 1) ∧ Fr n0 L
set_option maxRecDepth 65536 in
set_option maxHeartbeats 40000000 in
theorem rm0 (l : Launch) (Z : State) (a0 : Array Value) (hw : ∀ d ∈ tables_1, d.before a0 Z = true) (ws : List Jvm.Cond) (i0 : Int32) (i1 : Int32) (i2 : Int32) (i3 : Int32) (i4 : Int32) (zc : Int32) (h0 : Heap) (n0 : Nat) (Z0 : n0 ≤ h0.size) (S_COMPACT_STRINGS : Sta Z h0 "java/lang/String" "COMPACT_STRINGS" "Z" (.int zc)) (hcs : ¬ (zc = (0 : Int32))) :
    MetFree l x (head1 (Jvm.Cond.code x code maxLocals ret :: ws) room_1) (fun a U => a = #[(.int i0), (.int i1), (.int i2), (.int i3), (.int i4)] ∧ Z.Warmed39 U.vm ∧ U.heap = h0 ∧ CHv Z own_EL U.vm h0) (fun _ _ _ _ _ => True) (fun _ U o U' => ∃ v L, o = .returned v ∧ Q0 Z i0 i1 i2 i3 i4 zc h0 n0 v U'.heap L ∧ ReturnedEndW U o U' L room_1.cells room_1.slots) := by
  refine MetFree.of_bodySF (plainFor_of_name pn_16) hisR ?_
  intro p e s m args below meth c s₁ Bd hml0 hP hK
  obtain ⟨rfl, hZ, hh, hC0⟩ := hP
  have hx := Bd.exec
  have hby := Bd.bytes
  have hml : c.maxLocals = 14 := hml0
  have hown : s.vm.findClass "com/example/strict_acl/strictacl/NamePatternIsLiteralPinLaw" = some m.cls := findClass_of_methodNamed Bd.named
  have hnm := (name_of_methodNamed Bd.named Bd.method).1
  have X0 : Stand p l e room_1 (s.setVm s.vm) m #[(.int i0), (.int i1), (.int i2), (.int i3), (.int i4)] below meth c s₁ [] 0 0 := Stand.of_body Bd
  have e0 : s₁.heap = h0 := by rw [← hh, Bd.state]; rfl
  have N0 := Fr.nil n0
  have hS0 : s.Since s.vm h0.size := (State.WarmedH.refl s).since _
  obtain ⟨S0, hE0⟩ : ∃ z, z = s₁.setTop (entryFrame m #[(.int i0), (.int i1), (.int i2), (.int i3), (.int i4)] maxLocals) := ⟨_, rfl⟩
  have P0 : own_Go p e below S0 (s₁.setTop (mkF m 0 #[.val (.int i0), .val (.int i1), .val (.int i2), .val (.int i3), .val (.int i4), .unset, .unset, .unset, .unset, .unset, .unset, .unset, .unset, .unset] [])) := fun t k => by rw [hE0]; exact castTop (ef_0 m i0 i1 i2 i3 i4) k
  have P1 : own_Go p e below S0 (s₁.setTop (mkF m 8 #[.val (.int i0), .val (.int i1), .val (.int i2), .val (.int i3), .val (.int i4), .val (.int ((i0 &&& (2147483647 : Int32)) % (5 : Int32))), .unset, .unset, .unset, .unset, .unset, .unset, .unset, .unset] [])) := fun t k => P0 t (by
    refine XS.iloadN X0.here hx rfl (hb hby at_0) rfl ?_
    show Steps p.tables e below (s₁.setTop (mkF m 1 #[.val (.int i0), .val (.int i1), .val (.int i2), .val (.int i3), .val (.int i4), .unset, .unset, .unset, .unset, .unset, .unset, .unset, .unset, .unset] [(.int i0)])) t
    refine X0.ldcInt hx hown (mvT hZ (own_w hw 0 rfl)) (g := (mkF m 1 #[.val (.int i0), .val (.int i1), .val (.int i2), .val (.int i3), .val (.int i4), .unset, .unset, .unset, .unset, .unset, .unset, .unset, .unset, .unset] [(.int i0)])) rfl (hb hby at_1) _ ?_
    refine XS.iand X0.here hx rfl (hb hby at_3) rfl ?_
    refine XS.iconst X0.here hx rfl (hb hby at_4) ?_
    refine iremM (g := (mkF m 5 #[.val (.int i0), .val (.int i1), .val (.int i2), .val (.int i3), .val (.int i4), .unset, .unset, .unset, .unset, .unset, .unset, .unset, .unset, .unset] [(.int 5), (.int (i0 &&& (2147483647 : Int32)))])) X0 hx rfl (hb hby at_5) rfl (by decide) ?_
    refine XS.istore X0.here hx rfl (hb hby at_6) rfl (l' := #[.val (.int i0), .val (.int i1), .val (.int i2), .val (.int i3), .val (.int i4), .val (.int ((i0 &&& (2147483647 : Int32)) % (5 : Int32))), .unset, .unset, .unset, .unset, .unset, .unset, .unset, .unset]) rfl ?_
    show Steps p.tables e below (s₁.setTop (mkF m 8 #[.val (.int i0), .val (.int i1), .val (.int i2), .val (.int i3), .val (.int i4), .val (.int ((i0 &&& (2147483647 : Int32)) % (5 : Int32))), .unset, .unset, .unset, .unset, .unset, .unset, .unset, .unset] [])) t
    exact k)
  obtain ⟨n2, hn2⟩ : ∃ z : Int32, z = ((i0 &&& (2147483647 : Int32)) % (5 : Int32)) := ⟨_, rfl⟩
  have P2 : own_Go p e below S0 (s₁.setTop (mkF m 8 #[.val (.int i0), .val (.int i1), .val (.int i2), .val (.int i3), .val (.int i4), .val (.int n2), .unset, .unset, .unset, .unset, .unset, .unset, .unset, .unset] [])) := by rw [hn2]; exact P1
  have P3 : own_Go p e below S0 (s₁.setTop (mkF m 16 #[.val (.int i0), .val (.int i1), .val (.int i2), .val (.int i3), .val (.int i4), .val (.int n2), .val (.int ((i1 &&& (255 : Int32)).toUInt32.toUInt16.toUInt32.toInt32)), .unset, .unset, .unset, .unset, .unset, .unset, .unset] [])) := fun t k => P2 t (by
    refine XS.iloadN X0.here hx rfl (hb hby at_8) rfl ?_
    refine XS.sipush X0.here hx rfl (hb hby at_9) ?_
    refine XS.iand X0.here hx rfl (hb hby at_12) rfl ?_
    refine XS.i2c X0.here hx rfl (hb hby at_13) rfl ?_
    refine XS.istore X0.here hx rfl (hb hby at_14) rfl (l' := #[.val (.int i0), .val (.int i1), .val (.int i2), .val (.int i3), .val (.int i4), .val (.int n2), .val (.int ((i1 &&& (255 : Int32)).toUInt32.toUInt16.toUInt32.toInt32)), .unset, .unset, .unset, .unset, .unset, .unset, .unset]) rfl ?_
    show Steps p.tables e below (s₁.setTop (mkF m 16 #[.val (.int i0), .val (.int i1), .val (.int i2), .val (.int i3), .val (.int i4), .val (.int n2), .val (.int ((i1 &&& (255 : Int32)).toUInt32.toUInt16.toUInt32.toInt32)), .unset, .unset, .unset, .unset, .unset, .unset, .unset] [])) t
    exact k)
  obtain ⟨n4, hn4⟩ : ∃ z : Int32, z = ((i1 &&& (255 : Int32)).toUInt32.toUInt16.toUInt32.toInt32) := ⟨_, rfl⟩
  have P4 : own_Go p e below S0 (s₁.setTop (mkF m 16 #[.val (.int i0), .val (.int i1), .val (.int i2), .val (.int i3), .val (.int i4), .val (.int n2), .val (.int n4), .unset, .unset, .unset, .unset, .unset, .unset, .unset] [])) := by rw [hn4]; exact P3
  have P5 : own_Go p e below S0 (s₁.setTop (mkF m 24 #[.val (.int i0), .val (.int i1), .val (.int i2), .val (.int i3), .val (.int i4), .val (.int n2), .val (.int n4), .val (.int ((i2 &&& (255 : Int32)).toUInt32.toUInt16.toUInt32.toInt32)), .unset, .unset, .unset, .unset, .unset, .unset] [])) := fun t k => P4 t (by
    refine XS.iloadN X0.here hx rfl (hb hby at_16) rfl ?_
    refine XS.sipush X0.here hx rfl (hb hby at_17) ?_
    refine XS.iand X0.here hx rfl (hb hby at_20) rfl ?_
    refine XS.i2c X0.here hx rfl (hb hby at_21) rfl ?_
    refine XS.istore X0.here hx rfl (hb hby at_22) rfl (l' := #[.val (.int i0), .val (.int i1), .val (.int i2), .val (.int i3), .val (.int i4), .val (.int n2), .val (.int n4), .val (.int ((i2 &&& (255 : Int32)).toUInt32.toUInt16.toUInt32.toInt32)), .unset, .unset, .unset, .unset, .unset, .unset]) rfl ?_
    show Steps p.tables e below (s₁.setTop (mkF m 24 #[.val (.int i0), .val (.int i1), .val (.int i2), .val (.int i3), .val (.int i4), .val (.int n2), .val (.int n4), .val (.int ((i2 &&& (255 : Int32)).toUInt32.toUInt16.toUInt32.toInt32)), .unset, .unset, .unset, .unset, .unset, .unset] [])) t
    exact k)
  obtain ⟨n6, hn6⟩ : ∃ z : Int32, z = ((i2 &&& (255 : Int32)).toUInt32.toUInt16.toUInt32.toInt32) := ⟨_, rfl⟩
  have P6 : own_Go p e below S0 (s₁.setTop (mkF m 24 #[.val (.int i0), .val (.int i1), .val (.int i2), .val (.int i3), .val (.int i4), .val (.int n2), .val (.int n4), .val (.int n6), .unset, .unset, .unset, .unset, .unset, .unset] [])) := by rw [hn6]; exact P5
  have P7 : own_Go p e below S0 (s₁.setTop (mkF m 32 #[.val (.int i0), .val (.int i1), .val (.int i2), .val (.int i3), .val (.int i4), .val (.int n2), .val (.int n4), .val (.int n6), .val (.int ((i3 &&& (255 : Int32)).toUInt32.toUInt16.toUInt32.toInt32)), .unset, .unset, .unset, .unset, .unset] [])) := fun t k => P6 t (by
    refine XS.iloadN X0.here hx rfl (hb hby at_24) rfl ?_
    refine XS.sipush X0.here hx rfl (hb hby at_25) ?_
    refine XS.iand X0.here hx rfl (hb hby at_28) rfl ?_
    refine XS.i2c X0.here hx rfl (hb hby at_29) rfl ?_
    refine XS.istore X0.here hx rfl (hb hby at_30) rfl (l' := #[.val (.int i0), .val (.int i1), .val (.int i2), .val (.int i3), .val (.int i4), .val (.int n2), .val (.int n4), .val (.int n6), .val (.int ((i3 &&& (255 : Int32)).toUInt32.toUInt16.toUInt32.toInt32)), .unset, .unset, .unset, .unset, .unset]) rfl ?_
    show Steps p.tables e below (s₁.setTop (mkF m 32 #[.val (.int i0), .val (.int i1), .val (.int i2), .val (.int i3), .val (.int i4), .val (.int n2), .val (.int n4), .val (.int n6), .val (.int ((i3 &&& (255 : Int32)).toUInt32.toUInt16.toUInt32.toInt32)), .unset, .unset, .unset, .unset, .unset] [])) t
    exact k)
  obtain ⟨n8, hn8⟩ : ∃ z : Int32, z = ((i3 &&& (255 : Int32)).toUInt32.toUInt16.toUInt32.toInt32) := ⟨_, rfl⟩
  have P8 : own_Go p e below S0 (s₁.setTop (mkF m 32 #[.val (.int i0), .val (.int i1), .val (.int i2), .val (.int i3), .val (.int i4), .val (.int n2), .val (.int n4), .val (.int n6), .val (.int n8), .unset, .unset, .unset, .unset, .unset] [])) := by rw [hn8]; exact P7
  have P9 : own_Go p e below S0 (s₁.setTop (mkF m 41 #[.val (.int i0), .val (.int i1), .val (.int i2), .val (.int i3), .val (.int i4), .val (.int n2), .val (.int n4), .val (.int n6), .val (.int n8), .val (.int ((i4 &&& (255 : Int32)).toUInt32.toUInt16.toUInt32.toInt32)), .unset, .unset, .unset, .unset] [])) := fun t k => P8 t (by
    refine XS.iload X0.here hx rfl (hb hby at_32) rfl ?_
    refine XS.sipush X0.here hx rfl (hb hby at_34) ?_
    refine XS.iand X0.here hx rfl (hb hby at_37) rfl ?_
    refine XS.i2c X0.here hx rfl (hb hby at_38) rfl ?_
    refine XS.istore X0.here hx rfl (hb hby at_39) rfl (l' := #[.val (.int i0), .val (.int i1), .val (.int i2), .val (.int i3), .val (.int i4), .val (.int n2), .val (.int n4), .val (.int n6), .val (.int n8), .val (.int ((i4 &&& (255 : Int32)).toUInt32.toUInt16.toUInt32.toInt32)), .unset, .unset, .unset, .unset]) rfl ?_
    show Steps p.tables e below (s₁.setTop (mkF m 41 #[.val (.int i0), .val (.int i1), .val (.int i2), .val (.int i3), .val (.int i4), .val (.int n2), .val (.int n4), .val (.int n6), .val (.int n8), .val (.int ((i4 &&& (255 : Int32)).toUInt32.toUInt16.toUInt32.toInt32)), .unset, .unset, .unset, .unset] [])) t
    exact k)
  obtain ⟨n10, hn10⟩ : ∃ z : Int32, z = ((i4 &&& (255 : Int32)).toUInt32.toUInt16.toUInt32.toInt32) := ⟨_, rfl⟩
  have P10 : own_Go p e below S0 (s₁.setTop (mkF m 41 #[.val (.int i0), .val (.int i1), .val (.int i2), .val (.int i3), .val (.int i4), .val (.int n2), .val (.int n4), .val (.int n6), .val (.int n8), .val (.int n10), .unset, .unset, .unset, .unset] [])) := by rw [hn10]; exact P9
  rcases (by rw [hn2]; exact own_mod5 _ : n2 = (0 : Int32) ∨ n2 = (1 : Int32) ∨ n2 = (2 : Int32) ∨ n2 = (3 : Int32) ∨ n2 = (4 : Int32)) with c11 | c11 | c11 | c11 | c11
  · skip
    subst c11
    have P12 : own_Go p e below S0 (s₁.setTop (mkF m 47 #[.val (.int i0), .val (.int i1), .val (.int i2), .val (.int i3), .val (.int i4), .val (.int 0), .val (.int n4), .val (.int n6), .val (.int n8), .val (.int n10), .unset, .unset, .unset, .unset] [(.int 0)])) := fun t k => P10 t (by
      refine XS.iload X0.here hx rfl (hb hby at_41) rfl ?_
      refine XS.ifNo X0.here hx rfl (hb hby at_43) rfl ((if0 _ _).trans (teq (by decide)).2) ?_
      refine XS.iconst X0.here hx rfl (hb hby at_46) ?_
      show Steps p.tables e below (s₁.setTop (mkF m 47 #[.val (.int i0), .val (.int i1), .val (.int i2), .val (.int i3), .val (.int i4), .val (.int 0), .val (.int n4), .val (.int n6), .val (.int n8), .val (.int n10), .unset, .unset, .unset, .unset] [(.int 0)])) t
      exact k)
    obtain ⟨T13, h13, k13, X13, e13, E13, A13, st13⟩ := newP X0 hx hZ (own_w hw 1 rfl) e0 (g := (mkF m 47 #[.val (.int i0), .val (.int i1), .val (.int i2), .val (.int i3), .val (.int i4), .val (.int 0), .val (.int n4), .val (.int n6), .val (.int n8), .val (.int n10), .unset, .unset, .unset, .unset] [(.int 0)])) rfl (hb hby at_47) rfl (by decide) (cap := 0) (by decide) (by decide) (by decide) (by decide)
    obtain ⟨b13, g13⟩ : ∃ z, z = h0.size := ⟨_, rfl⟩
    rw [← g13] at A13 st13
    have sz_b13 : h0.size ≤ b13 := Nat.le_of_eq g13.symm
    have g_b13 : n0 ≤ b13 := Nat.le_trans Z0 sz_b13
    have o_b13 : h0.size ≤ b13 := sz_b13
    have hk13 : h0.size ≤ h13.size := Nat.le_trans (Nat.le_refl _) E13.1
    have HC13 := CHv.ext E13 hC0
    have K13 : Keep h0 h13 [] := (Keep.refl h0 []).ext E13
    have V13 : Arv Z h13 b13 k13 .char (0 : Int32) [] (.int 0) := (Arv.new A13 (by decide)).pad (pad_rep [] (.int 0) 0)
    have P13 : own_Go p e below S0 (T13.setTop (mkF m 49 #[.val (.int i0), .val (.int i1), .val (.int i2), .val (.int i3), .val (.int i4), .val (.int 0), .val (.int n4), .val (.int n6), .val (.int n8), .val (.int n10), .unset, .unset, .unset, .unset] [(.ref b13)])) := fun t k => P12 t (st13 _ k)
    have P14 : own_Go p e below S0 (T13.setTop (mkF m 226 #[.val (.int i0), .val (.int i1), .val (.int i2), .val (.int i3), .val (.int i4), .val (.int 0), .val (.int n4), .val (.int n6), .val (.int n8), .val (.int n10), .val (.ref b13), .val (.int 0), .val (.int 1), .unset] [])) := fun t k => P13 t (by
      refine XS.astore X13.here hx rfl (hb hby at_49) rfl rfl (l' := #[.val (.int i0), .val (.int i1), .val (.int i2), .val (.int i3), .val (.int i4), .val (.int 0), .val (.int n4), .val (.int n6), .val (.int n8), .val (.int n10), .val (.ref b13), .unset, .unset, .unset]) rfl ?_
      refine XS.goto X13.here hx rfl (pc0 := 51) (pc' := 151) rfl (hb hby at_51) (by decide) (by decide) ?_
      refine XS.iload X13.here hx rfl (hb hby at_151) rfl ?_
      refine XS.iconst X13.here hx rfl (hb hby at_153) ?_
      refine XS.icmpYes X13.here hx rfl (pc0 := 154) (pc' := 165) rfl (hb hby at_154) rfl (tlt (by decide)).1 (by decide) (by decide) ?_
      refine XS.iload X13.here hx rfl (hb hby at_165) rfl ?_
      show Steps p.tables e below (T13.setTop (mkF m 167 #[.val (.int i0), .val (.int i1), .val (.int i2), .val (.int i3), .val (.int i4), .val (.int 0), .val (.int n4), .val (.int n6), .val (.int n8), .val (.int n10), .val (.ref b13), .unset, .unset, .unset] [(.int 0)])) t
      refine XS.iconst X13.here hx rfl (hb hby at_167) ?_
      refine XS.icmpYes X13.here hx rfl (pc0 := 168) (pc' := 179) rfl (hb hby at_168) rfl (tlt (by decide)).1 (by decide) (by decide) ?_
      refine XS.iload X13.here hx rfl (hb hby at_179) rfl ?_
      refine XS.iconst X13.here hx rfl (hb hby at_181) ?_
      refine XS.icmpYes X13.here hx rfl (pc0 := 182) (pc' := 193) rfl (hb hby at_182) rfl (tlt (by decide)).1 (by decide) (by decide) ?_
      refine XS.iload X13.here hx rfl (hb hby at_193) rfl ?_
      show Steps p.tables e below (T13.setTop (mkF m 195 #[.val (.int i0), .val (.int i1), .val (.int i2), .val (.int i3), .val (.int i4), .val (.int 0), .val (.int n4), .val (.int n6), .val (.int n8), .val (.int n10), .val (.ref b13), .unset, .unset, .unset] [(.int 0)])) t
      refine XS.iconst X13.here hx rfl (hb hby at_195) ?_
      refine XS.icmpYes X13.here hx rfl (pc0 := 196) (pc' := 211) rfl (hb hby at_196) rfl (tlt (by decide)).1 (by decide) (by decide) ?_
      refine XS.iconst X13.here hx rfl (hb hby at_211) ?_
      refine XS.istore X13.here hx rfl (hb hby at_212) rfl (l' := #[.val (.int i0), .val (.int i1), .val (.int i2), .val (.int i3), .val (.int i4), .val (.int 0), .val (.int n4), .val (.int n6), .val (.int n8), .val (.int n10), .val (.ref b13), .val (.int 0), .unset, .unset]) rfl ?_
      refine XS.iload X13.here hx rfl (hb hby at_214) rfl ?_
      refine XS.ifNo X13.here hx rfl (hb hby at_216) rfl ((if0 _ _).trans (teq (by decide)).2) ?_
      show Steps p.tables e below (T13.setTop (mkF m 219 #[.val (.int i0), .val (.int i1), .val (.int i2), .val (.int i3), .val (.int i4), .val (.int 0), .val (.int n4), .val (.int n6), .val (.int n8), .val (.int n10), .val (.ref b13), .val (.int 0), .unset, .unset] [])) t
      refine XS.iconst X13.here hx rfl (hb hby at_219) ?_
      refine XS.goto X13.here hx rfl (pc0 := 220) (pc' := 224) rfl (hb hby at_220) (by decide) (by decide) ?_
      refine XS.istore X13.here hx rfl (hb hby at_224) rfl (l' := #[.val (.int i0), .val (.int i1), .val (.int i2), .val (.int i3), .val (.int i4), .val (.int 0), .val (.int n4), .val (.int n6), .val (.int n8), .val (.int n10), .val (.ref b13), .val (.int 0), .val (.int 1), .unset]) rfl ?_
      show Steps p.tables e below (T13.setTop (mkF m 226 #[.val (.int i0), .val (.int i1), .val (.int i2), .val (.int i3), .val (.int i4), .val (.int 0), .val (.int n4), .val (.int n6), .val (.int n8), .val (.int n10), .val (.ref b13), .val (.int 0), .val (.int 1), .unset] [])) t
      exact k)
    obtain ⟨T15, h15, X15, e15, E15, A15, D15, -, st15⟩ := newO X13 hx hZ hown (own_w hw 2 rfl) (own_w hw 3 rfl) (own_w hw 4 rfl) e13 (g := (mkF m 226 #[.val (.int i0), .val (.int i1), .val (.int i2), .val (.int i3), .val (.int i4), .val (.int 0), .val (.int n4), .val (.int n6), .val (.int n8), .val (.int n10), .val (.ref b13), .val (.int 0), .val (.int 1), .unset] [])) rfl (hb hby at_226) (by decide) (by decide)
    obtain ⟨b15, g15⟩ : ∃ z, z = h13.size := ⟨_, rfl⟩
    rw [← g15] at A15 D15 st15
    have sz_b15 : h13.size ≤ b15 := Nat.le_of_eq g15.symm
    have ne_b13_b15 : b13 ≠ b15 := Nat.ne_of_lt (Nat.lt_of_lt_of_le V13.lt sz_b15)
    have g_b15 : n0 ≤ b15 := Nat.le_trans (Nat.le_trans Z0 K13.1) sz_b15
    have o_b15 : h0.size ≤ b15 := Nat.le_trans K13.1 sz_b15
    have hk15 : h0.size ≤ h15.size := Nat.le_trans hk13 E15.1
    have HC15 := CHv.ext E15 HC13
    have K15 : Keep h0 h15 [] := K13.ext E15
    have F15_pattern : Fld Z h15 b15 "com/example/strict_acl/strictacl/NamePattern" "pattern" "Ljava/lang/String;" .null := D15 (Or.inr (own_w hw 37 rfl)) (ty := (.object "java/lang/String")) (by decide)
    have P15 : own_Go p e below S0 (T15.setTop (mkF m 229 #[.val (.int i0), .val (.int i1), .val (.int i2), .val (.int i3), .val (.int i4), .val (.int 0), .val (.int n4), .val (.int n6), .val (.int n8), .val (.int n10), .val (.ref b13), .val (.int 0), .val (.int 1), .unset] [(.ref b15)])) := fun t k => P14 t (st15 _ k)
    have F16 : Arv Z h15 b13 k13 .char (0 : Int32) [] (.int 0) := V13.ext E15
    have P17 : own_Go p e below S0 (T15.setTop (mkF m 230 #[.val (.int i0), .val (.int i1), .val (.int i2), .val (.int i3), .val (.int i4), .val (.int 0), .val (.int n4), .val (.int n6), .val (.int n8), .val (.int n10), .val (.ref b13), .val (.int 0), .val (.int 1), .unset] [(.ref b15), (.ref b15)])) := fun t k => P15 t (by
      refine XS.dup X15.here hx rfl (hb hby at_229) rfl rfl ?_
      show Steps p.tables e below (T15.setTop (mkF m 230 #[.val (.int i0), .val (.int i1), .val (.int i2), .val (.int i3), .val (.int i4), .val (.int 0), .val (.int n4), .val (.int n6), .val (.int n8), .val (.int n10), .val (.ref b13), .val (.int 0), .val (.int 1), .unset] [(.ref b15), (.ref b15)])) t
      exact k)
    obtain ⟨T18, h18, X18, e18, E18, A18, D18, -, st18⟩ := newO X15 hx hZ hown (own_w hw 5 rfl) (own_w hw 6 rfl) (own_w hw 7 rfl) e15 (g := (mkF m 230 #[.val (.int i0), .val (.int i1), .val (.int i2), .val (.int i3), .val (.int i4), .val (.int 0), .val (.int n4), .val (.int n6), .val (.int n8), .val (.int n10), .val (.ref b13), .val (.int 0), .val (.int 1), .unset] [(.ref b15), (.ref b15)])) rfl (hb hby at_230) (by decide) (by decide)
    obtain ⟨b18, g18⟩ : ∃ z, z = h15.size := ⟨_, rfl⟩
    rw [← g18] at A18 D18 st18
    have sz_b18 : h15.size ≤ b18 := Nat.le_of_eq g18.symm
    have ne_b13_b18 : b13 ≠ b18 := Nat.ne_of_lt (Nat.lt_of_lt_of_le F16.lt sz_b18)
    have ne_b15_b18 : b15 ≠ b18 := Nat.ne_of_lt (Nat.lt_of_lt_of_le A15.lt sz_b18)
    have g_b18 : n0 ≤ b18 := Nat.le_trans (Nat.le_trans Z0 K15.1) sz_b18
    have o_b18 : h0.size ≤ b18 := Nat.le_trans K15.1 sz_b18
    have hk18 : h0.size ≤ h18.size := Nat.le_trans hk15 E18.1
    have HC18 := CHv.ext E18 HC15
    have K18 : Keep h0 h18 [] := K15.ext E18
    have sf_b18 := Safe.ext E18 HC15 (Safe.new sz_b18)
    have F18_value : Fld Z h18 b18 "java/lang/String" "value" "[B" .null := D18 (Or.inr (own_w hw 20 rfl)) (ty := (.array .byte)) (by decide)
    have F18_coder : Fld Z h18 b18 "java/lang/String" "coder" "B" (.int 0) := D18 (Or.inr (own_w hw 21 rfl)) (ty := .byte) (by decide)
    have P18 : own_Go p e below S0 (T18.setTop (mkF m 233 #[.val (.int i0), .val (.int i1), .val (.int i2), .val (.int i3), .val (.int i4), .val (.int 0), .val (.int n4), .val (.int n6), .val (.int n8), .val (.int n10), .val (.ref b13), .val (.int 0), .val (.int 1), .unset] [(.ref b18), (.ref b15), (.ref b15)])) := fun t k => P17 t (st18 _ k)
    have F19 : Arv Z h18 b13 k13 .char (0 : Int32) [] (.int 0) := F16.ext E18
    have F20 : Exa Z h18 b15 "com/example/strict_acl/strictacl/NamePattern" := A15.ext E18
    have P21 : own_Go p e below S0 (T18.setTop (mkF m 236 #[.val (.int i0), .val (.int i1), .val (.int i2), .val (.int i3), .val (.int i4), .val (.int 0), .val (.int n4), .val (.int n6), .val (.int n8), .val (.int n10), .val (.ref b13), .val (.int 0), .val (.int 1), .unset] [(.ref b13), (.ref b18), (.ref b18), (.ref b15), (.ref b15)])) := fun t k => P18 t (by
      refine XS.dup X18.here hx rfl (hb hby at_233) rfl rfl ?_
      refine XS.aload X18.here hx rfl (hb hby at_234) rfl rfl ?_
      show Steps p.tables e below (T18.setTop (mkF m 236 #[.val (.int i0), .val (.int i1), .val (.int i2), .val (.int i3), .val (.int i4), .val (.int 0), .val (.int n4), .val (.int n6), .val (.int n8), .val (.int n10), .val (.ref b13), .val (.int 0), .val (.int 1), .unset] [(.ref b13), (.ref b18), (.ref b18), (.ref b15), (.ref b15)])) t
      exact k)
    obtain ⟨_, _, ⟨T22, L22, k22, n22⟩, -, X22, hSq22, hgr22, ⟨Lc22, hQ22, l22, y22, z22⟩, st22⟩ := X18.specialBackS hx (y := (⟨"java/lang/String", "<init>", "([C)V"⟩ : MethodName)) rfl hown (mvT hZ (own_w hw 8 rfl)) (mvT hZ (own_w hw 9 rfl)) (mvT hZ (own_w hw 10 rfl)) (by decide) (own_backOfSC (W := 3) (rm1z l Z a0 hw [] b18 b13 k13 .null (.int 0) h18 n0 (Nat.le_trans Z0 K18.1) F19 A18 F18_value g_b18 F18_coder) hZ (own_w hw 10 rfl) (own_w hw 7 rfl) (by decide) (by decide) (own_EW hw) HC18 A18.lt sf_b18) (g := (mkF m 236 #[.val (.int i0), .val (.int i1), .val (.int i2), .val (.int i3), .val (.int i4), .val (.int 0), .val (.int n4), .val (.int n6), .val (.int n8), .val (.int n10), .val (.ref b13), .val (.int 0), .val (.int 1), .unset] [(.ref b13), (.ref b18), (.ref b18), (.ref b15), (.ref b15)])) rfl (by rw [hml]; rfl) (Steps.refl _) (a := b18) (argsL := [(.ref b13)]) (rest := [(.ref b18), (.ref b15), (.ref b15)]) (lenOf pd_12 rfl) rfl (by show 2 * 0 + _ ≤ _; exact Nat.le_of_eq rfl) (hb hby at_236) (fun _ _ => ⟨rfl, e18, (by decide : 3 + 2 ≤ _), (by decide : 5 + 4 ≤ _)⟩)
    dsimp only [Pt.U, Pt.locs, Pt.cells, Pt.slots] at X22 l22 y22 z22 st22 hQ22 hSq22 hgr22
    subst l22 y22 z22
    obtain ⟨hS22, hZ22, hown22⟩ := own_fold hS0 hSq22 (Nat.le_trans hk18 (by rw [← e18]; exact hgr22)) hZ hown
    replace X22 := own_flat X22
    obtain ⟨bo_22, ko_22, rfl, N22q, Kc22, F22_0, F22_1, F22_2⟩ := hQ22
    have N22 := Fr.app N0 N22q
    have K22 : Keep h0 T22.heap [] := Keep.trans K18 Kc22 (allS (Or.inr o_b18) all0)
    have P22 : own_Go p e below S0 (T22.setTop (mkF m 239 #[.val (.int i0), .val (.int i1), .val (.int i2), .val (.int i3), .val (.int i4), .val (.int 0), .val (.int n4), .val (.int n6), .val (.int n8), .val (.int n10), .val (.ref b13), .val (.int 0), .val (.int 1), .unset] [(.ref b18), (.ref b15), (.ref b15)])) := fun t k => P21 t (st22.trans k)
    obtain ⟨clz, Arz, -⟩ := id F22_2
    have F24 : Exa Z T22.heap b15 "com/example/strict_acl/strictacl/NamePattern" := F20.keep Kc22
    have nez : b15 ≠ bo_22 := ne_arr F24 (own_w hw 3 rfl) Arz
    have F25 : Exa Z T22.heap b18 "java/lang/String" := A18.keep Kc22
    have F26 : Fld Z h18 b15 "com/example/strict_acl/strictacl/NamePattern" "pattern" "Ljava/lang/String;" .null := F15_pattern.ext E18
    have F27 : Fld Z T22.heap b15 "com/example/strict_acl/strictacl/NamePattern" "pattern" "Ljava/lang/String;" .null := F26.keep Kc22 (ninS ne_b15_b18 nin0)
    obtain ⟨_, _, ⟨T28, L28, k28, n28⟩, -, X28, hSq28, hgr28, ⟨Lc28, hQ28, l28, y28, z28⟩, st28⟩ := X22.specialBackS hx (y := (⟨"com/example/strict_acl/strictacl/NamePattern", "<init>", "(Ljava/lang/String;)V"⟩ : MethodName)) rfl hown22 (mvT hZ22 (own_w hw 26 rfl)) (mvT hZ22 (own_w hw 27 rfl)) (mvT hZ22 (own_w hw 28 rfl)) (by decide) (backOfS (W := 1) (rm4 l Z a0 hw [] b15 b18 .null T22.heap n0 (Nat.le_trans Z0 K22.1) F25 F24 F27 g_b15) hZ22 (own_w hw 28 rfl) (own_w hw 4 rfl) (by decide) (by decide)) (g := (mkF m 239 #[.val (.int i0), .val (.int i1), .val (.int i2), .val (.int i3), .val (.int i4), .val (.int 0), .val (.int n4), .val (.int n6), .val (.int n8), .val (.int n10), .val (.ref b13), .val (.int 0), .val (.int 1), .unset] [(.ref b18), (.ref b15), (.ref b15)])) rfl (by rw [hml]; rfl) (Steps.refl _) (a := b15) (argsL := [(.ref b18)]) (rest := [(.ref b15)]) (lenOf pd_13 rfl) rfl (by show 2 * 0 + _ ≤ _; exact Nat.le_of_eq rfl) (hb hby at_239) (fun _ _ => ⟨rfl, rfl, (by decide : 5 + 2 ≤ _), (by decide : 9 + 32 ≤ _)⟩)
    dsimp only [Pt.U, Pt.locs, Pt.cells, Pt.slots] at X28 l28 y28 z28 st28 hQ28 hSq28 hgr28
    subst l28 y28 z28
    obtain ⟨hS28, hZ28, hown28⟩ := own_fold hS22 hSq28 (Nat.le_trans (Nat.le_refl _) hgr28) hZ22 hown22
    replace X28 := own_flat X28
    obtain ⟨rfl, N28q, Kc28, F28_0⟩ := hQ28
    have N28 := Fr.app N22 N28q
    have K28 : Keep h0 T28.heap [] := Keep.trans K22 Kc28 (allS (Or.inr o_b15) all0)
    have P28 : own_Go p e below S0 (T28.setTop (mkF m 242 #[.val (.int i0), .val (.int i1), .val (.int i2), .val (.int i3), .val (.int i4), .val (.int 0), .val (.int n4), .val (.int n6), .val (.int n8), .val (.int n10), .val (.ref b13), .val (.int 0), .val (.int 1), .unset] [(.ref b15)])) := fun t k => P22 t (st28.trans k)
    have F29 : Exa Z T28.heap b15 "com/example/strict_acl/strictacl/NamePattern" := F24.keep Kc28
    have F30 : Fld Z T28.heap b18 "java/lang/String" "value" "[B" (.ref bo_22) := F22_0.keep Kc28 (ninS (Ne.symm ne_b15_b18) nin0)
    have F31 : Arv Z T28.heap bo_22 ko_22 .byte (0 : Int32) [] (.int 0) := F22_2.keep Kc28 (ninS (Ne.symm nez) nin0)
    have F32 : Sta Z h13 "java/lang/String" "COMPACT_STRINGS" "Z" (.int zc) := S_COMPACT_STRINGS.ext E13
    have F33 : Sta Z h15 "java/lang/String" "COMPACT_STRINGS" "Z" (.int zc) := F32.ext E15
    have F34 : Sta Z h18 "java/lang/String" "COMPACT_STRINGS" "Z" (.int zc) := F33.ext E18
    have F35 : Sta Z T22.heap "java/lang/String" "COMPACT_STRINGS" "Z" (.int zc) := own_staK F34 Kc22 (allS (own_plE A18) all0)
    have F36 : Sta Z T28.heap "java/lang/String" "COMPACT_STRINGS" "Z" (.int zc) := own_staK F35 Kc28 (allS (own_plE F24) all0)
    have F37 : Fld Z T28.heap b18 "java/lang/String" "coder" "B" (.int 0) := F22_1.keep Kc28 (ninS (Ne.symm ne_b15_b18) nin0)
    have F38 : Exa Z T28.heap b18 "java/lang/String" := F25.keep Kc28
    have P39 : own_Go p e below S0 (T28.setTop (mkF m 246 #[.val (.int i0), .val (.int i1), .val (.int i2), .val (.int i3), .val (.int i4), .val (.int 0), .val (.int n4), .val (.int n6), .val (.int n8), .val (.int n10), .val (.ref b13), .val (.int 0), .val (.int 1), .val (.ref b15)] [(.ref b15)])) := fun t k => P28 t (by
      refine XS.astore X28.here hx rfl (hb hby at_242) rfl rfl (l' := #[.val (.int i0), .val (.int i1), .val (.int i2), .val (.int i3), .val (.int i4), .val (.int 0), .val (.int n4), .val (.int n6), .val (.int n8), .val (.int n10), .val (.ref b13), .val (.int 0), .val (.int 1), .val (.ref b15)]) rfl ?_
      refine XS.aload X28.here hx rfl (hb hby at_244) rfl rfl ?_
      show Steps p.tables e below (T28.setTop (mkF m 246 #[.val (.int i0), .val (.int i1), .val (.int i2), .val (.int i3), .val (.int i4), .val (.int 0), .val (.int n4), .val (.int n6), .val (.int n8), .val (.int n10), .val (.ref b13), .val (.int 0), .val (.int 1), .val (.ref b15)] [(.ref b15)])) t
      exact k)
    obtain ⟨cq40, kq40, q40a, q40b, q40c⟩ := isOf hZ28 rfl F29
    obtain ⟨_, _, ⟨T40, L40, k40, n40⟩, -, X40, ⟨Lc40, hQ40, l40, y40, z40⟩, st40⟩ := X28.virtualBack hx (y := (⟨"com/example/strict_acl/strictacl/NamePattern", "isLiteral", "()Z"⟩ : MethodName)) (z := (⟨"com/example/strict_acl/strictacl/NamePattern", "isLiteral", "()Z"⟩ : MethodName)) hown28 (mvT hZ28 (own_w hw 38 rfl)) (mvT hZ28 (own_w hw 39 rfl)) (notFace_of_selects (args := #[]) (mvT hZ28 (own_w hw 41 rfl))) (mvT hZ28 (own_w hw 41 rfl)) (mvT hZ28 (own_w hw 40 rfl)) (by decide) (backOf (W := 0) (rm6n0 l Z a0 hw [] b15 b18 bo_22 ko_22 zc T28.heap n0 (Nat.le_trans Z0 K28.1) F28_0 F30 F31 F36 hcs F37 F38) hZ28 (own_w hw 42 rfl) (own_w hw 4 rfl) (by decide) (by decide)) q40a q40c (g := (mkF m 246 #[.val (.int i0), .val (.int i1), .val (.int i2), .val (.int i3), .val (.int i4), .val (.int 0), .val (.int n4), .val (.int n6), .val (.int n8), .val (.int n10), .val (.ref b13), .val (.int 0), .val (.int 1), .val (.ref b15)] [(.ref b15)])) rfl (by rw [hml]; rfl) (Steps.refl _) (argsL := []) (rest := []) (lenOf pd_8 rfl) rfl (by show 2 * 0 + _ ≤ _; exact Nat.le_of_eq rfl) (hb hby at_246) (fun _ _ => ⟨rfl, rfl, (by decide : 7 + 0 ≤ _), (by decide : 41 + 0 ≤ _)⟩)
    dsimp only [Pt.U, Pt.locs, Pt.cells, Pt.slots] at X40 l40 y40 z40 st40 hQ40
    subst l40 y40 z40
    obtain ⟨rfl, N40q, e40⟩ := hQ40
    have N40 := Fr.app N28 N40q
    have P40 : own_Go p e below S0 (T40.setTop (mkF m 249 #[.val (.int i0), .val (.int i1), .val (.int i2), .val (.int i3), .val (.int i4), .val (.int 0), .val (.int n4), .val (.int n6), .val (.int n8), .val (.int n10), .val (.ref b13), .val (.int 0), .val (.int 1), .val (.ref b15)] [(.int 1)])) := fun t k => P39 t (st40.trans k)
    have P41 : own_Go p e below S0 (T40.setTop (mkF m 259 #[.val (.int i0), .val (.int i1), .val (.int i2), .val (.int i3), .val (.int i4), .val (.int 0), .val (.int n4), .val (.int n6), .val (.int n8), .val (.int n10), .val (.ref b13), .val (.int 0), .val (.int 1), .val (.ref b15)] [(.int 1)])) := fun t k => P40 t (by
      refine XS.iload X40.here hx rfl (hb hby at_249) rfl ?_
      refine XS.icmpNo X40.here hx rfl (hb hby at_251) rfl (teq (by decide)).2 ?_
      refine XS.iconst X40.here hx rfl (hb hby at_254) ?_
      refine XS.goto X40.here hx rfl (pc0 := 255) (pc' := 259) rfl (hb hby at_255) (by decide) (by decide) ?_
      show Steps p.tables e below (T40.setTop (mkF m 259 #[.val (.int i0), .val (.int i1), .val (.int i2), .val (.int i3), .val (.int i4), .val (.int 0), .val (.int n4), .val (.int n6), .val (.int n8), .val (.int n10), .val (.ref b13), .val (.int 0), .val (.int 1), .val (.ref b15)] [(.int 1)])) t
      exact k)
    have F42 : Arv Z T22.heap b13 k13 .char (0 : Int32) [] (.int 0) := F19.keep Kc22 (ninS ne_b13_b18 nin0)
    have F43 : Arv Z T28.heap b13 k13 .char (0 : Int32) [] (.int 0) := F42.keep Kc28 (ninS ne_b13_b15 nin0)
    obtain ⟨fs, hr, hrun, hended, hend⟩ := X40.leaveW hS28 (by rw [e40]; exact (Nat.le_refl _)) (v := some (.int 1)) (fun h => by rw [Bd.returns] at h; cases h) (BodyLoose.notSynchronized Bd)
    refine ⟨_, _, own_from hE0 (P41 _ ?_), hrun, hended, _, _, rfl, ?_, hend.1, hend.2.1, hend.2.2.1, hend.2.2.2.mono (by decide) (by decide)⟩
    · show Steps p.tables e below (T40.setTop (mkF m 259 #[.val (.int i0), .val (.int i1), .val (.int i2), .val (.int i3), .val (.int i4), .val (.int 0), .val (.int n4), .val (.int n6), .val (.int n8), .val (.int n10), .val (.ref b13), .val (.int 0), .val (.int 1), .val (.ref b15)] [(.int 1)])) _
      exact retN X40 hx (t := .boolean) Bd.returns (by simp) (hb hby at_259) hr
    · show Q0 Z i0 i1 i2 i3 i4 zc h0 n0 _ T40.heap _
      rw [e40]
      exact ⟨rfl, N40⟩
  · skip
    subst c11
    have P44 : own_Go p e below S0 (s₁.setTop (mkF m 61 #[.val (.int i0), .val (.int i1), .val (.int i2), .val (.int i3), .val (.int i4), .val (.int 1), .val (.int n4), .val (.int n6), .val (.int n8), .val (.int n10), .unset, .unset, .unset, .unset] [(.int 1)])) := fun t k => P10 t (by
      refine XS.iload X0.here hx rfl (hb hby at_41) rfl ?_
      refine XS.ifYes X0.here hx rfl (pc0 := 43) (pc' := 54) rfl (hb hby at_43) rfl ((if0 _ _).trans (feq (by decide)).2) (by decide) (by decide) ?_
      refine XS.iload X0.here hx rfl (hb hby at_54) rfl ?_
      refine XS.iconst X0.here hx rfl (hb hby at_56) ?_
      refine XS.icmpNo X0.here hx rfl (hb hby at_57) rfl (teq (by decide)).2 ?_
      refine XS.iconst X0.here hx rfl (hb hby at_60) ?_
      show Steps p.tables e below (s₁.setTop (mkF m 61 #[.val (.int i0), .val (.int i1), .val (.int i2), .val (.int i3), .val (.int i4), .val (.int 1), .val (.int n4), .val (.int n6), .val (.int n8), .val (.int n10), .unset, .unset, .unset, .unset] [(.int 1)])) t
      exact k)
    obtain ⟨T45, h45, k45, X45, e45, E45, A45, st45⟩ := newP X0 hx hZ (own_w hw 1 rfl) e0 (g := (mkF m 61 #[.val (.int i0), .val (.int i1), .val (.int i2), .val (.int i3), .val (.int i4), .val (.int 1), .val (.int n4), .val (.int n6), .val (.int n8), .val (.int n10), .unset, .unset, .unset, .unset] [(.int 1)])) rfl (hb hby at_61) rfl (by decide) (cap := 1) (by decide) (by decide) (by decide) (by decide)
    obtain ⟨b45, g45⟩ : ∃ z, z = h0.size := ⟨_, rfl⟩
    rw [← g45] at A45 st45
    have sz_b45 : h0.size ≤ b45 := Nat.le_of_eq g45.symm
    have g_b45 : n0 ≤ b45 := Nat.le_trans Z0 sz_b45
    have o_b45 : h0.size ≤ b45 := sz_b45
    have hk45 : h0.size ≤ h45.size := Nat.le_trans (Nat.le_refl _) E45.1
    have HC45 := CHv.ext E45 hC0
    have K45 : Keep h0 h45 [] := (Keep.refl h0 []).ext E45
    have V45 : Arv Z h45 b45 k45 .char (1 : Int32) [(.int 0)] (.int 0) := (Arv.new A45 (by decide)).pad (pad_rep [] (.int 0) 1)
    have P45 : own_Go p e below S0 (T45.setTop (mkF m 63 #[.val (.int i0), .val (.int i1), .val (.int i2), .val (.int i3), .val (.int i4), .val (.int 1), .val (.int n4), .val (.int n6), .val (.int n8), .val (.int n10), .unset, .unset, .unset, .unset] [(.ref b45)])) := fun t k => P44 t (st45 _ k)
    have P46 : own_Go p e below S0 (T45.setTop (mkF m 67 #[.val (.int i0), .val (.int i1), .val (.int i2), .val (.int i3), .val (.int i4), .val (.int 1), .val (.int n4), .val (.int n6), .val (.int n8), .val (.int n10), .unset, .unset, .unset, .unset] [(.int n4), (.int 0), (.ref b45), (.ref b45)])) := fun t k => P45 t (by
      refine XS.dup X45.here hx rfl (hb hby at_63) rfl rfl ?_
      refine XS.iconst X45.here hx rfl (hb hby at_64) ?_
      refine XS.iload X45.here hx rfl (hb hby at_65) rfl ?_
      show Steps p.tables e below (T45.setTop (mkF m 67 #[.val (.int i0), .val (.int i1), .val (.int i2), .val (.int i3), .val (.int i4), .val (.int 1), .val (.int n4), .val (.int n6), .val (.int n8), .val (.int n10), .unset, .unset, .unset, .unset] [(.int n4), (.int 0), (.ref b45), (.ref b45)])) t
      exact k)
    obtain ⟨cl48, Ar48, q48, Sz48, Nn48, Hh48, Gg48⟩ := id V45
    have hin48 : ¬ ((0 : Int32) < 0 ∨ cl48.slots.size ≤ ((0 : Int32)).toNatClampNeg) := inb_of Sz48 ⟨by decide, by decide⟩
    obtain ⟨T47, h47, X47, e47, W47, st47⟩ := stC X45 hx hZ e45 Ar48 (j := (0 : Int32)) hin48 (g := (mkF m 67 #[.val (.int i0), .val (.int i1), .val (.int i2), .val (.int i3), .val (.int i4), .val (.int 1), .val (.int n4), .val (.int n6), .val (.int n8), .val (.int n10), .unset, .unset, .unset, .unset] [(.int n4), (.int 0), (.ref b45), (.ref b45)])) rfl rfl (hb hby at_67)
    have hk47 : h0.size ≤ h47.size := Nat.le_trans hk45 (Keep.of_wr W47).1
    have K47 : Keep h0 h47 [] := K45.wr W47 (Or.inr o_b45)
    have N47 := Fr.snoc X47 N0 g_b45
    have V47 : Arv Z h47 b45 k45 .char (1 : Int32) [(.int (nar .char n4))] (.int 0) := Arv.set Ar48 q48 Sz48 Nn48 Hh48 Gg48 (fits_nar_char _) W47 0 rfl (Nat.le_of_ble_eq_true rfl)
    have P47 : own_Go p e below S0 (T47.setTop (mkF m 68 #[.val (.int i0), .val (.int i1), .val (.int i2), .val (.int i3), .val (.int i4), .val (.int 1), .val (.int n4), .val (.int n6), .val (.int n8), .val (.int n10), .unset, .unset, .unset, .unset] [(.ref b45)])) := fun t k => P46 t (st47 _ k)
    have P49 : own_Go p e below S0 (T47.setTop (mkF m 159 #[.val (.int i0), .val (.int i1), .val (.int i2), .val (.int i3), .val (.int i4), .val (.int 1), .val (.int n4), .val (.int n6), .val (.int n8), .val (.int n10), .val (.ref b45), .unset, .unset, .unset] [(.int n4)])) := fun t k => P47 t (by
      refine XS.astore X47.here hx rfl (hb hby at_68) rfl rfl (l' := #[.val (.int i0), .val (.int i1), .val (.int i2), .val (.int i3), .val (.int i4), .val (.int 1), .val (.int n4), .val (.int n6), .val (.int n8), .val (.int n10), .val (.ref b45), .unset, .unset, .unset]) rfl ?_
      refine XS.goto X47.here hx rfl (pc0 := 70) (pc' := 151) rfl (hb hby at_70) (by decide) (by decide) ?_
      refine XS.iload X47.here hx rfl (hb hby at_151) rfl ?_
      refine XS.iconst X47.here hx rfl (hb hby at_153) ?_
      refine XS.icmpNo X47.here hx rfl (hb hby at_154) rfl (flt (by decide)).1 ?_
      refine XS.iload X47.here hx rfl (hb hby at_157) rfl ?_
      show Steps p.tables e below (T47.setTop (mkF m 159 #[.val (.int i0), .val (.int i1), .val (.int i2), .val (.int i3), .val (.int i4), .val (.int 1), .val (.int n4), .val (.int n6), .val (.int n8), .val (.int n10), .val (.ref b45), .unset, .unset, .unset] [(.int n4)])) t
      exact k)
    obtain ⟨_, _, ⟨T50, L50, k50, n50⟩, -, X50, ⟨Lc50, hQ50, l50, y50, z50⟩, st50⟩ := Jvm.LawKit.callS X47 hx (y := (⟨"com/example/strict_acl/strictacl/NamePatternIsLiteralPinLaw", "wild", "(C)Z"⟩ : MethodName)) hown (mvT hZ (own_w hw 83 rfl)) (mvT hZ (own_w hw 84 rfl)) (mvT hZ (own_w hw 85 rfl)) (mvT hZ (own_w hw 86 rfl)) (by decide) (backOf (W := 0) (rm16 l Z a0 hw [] n4 h47 n0 (Nat.le_trans Z0 K47.1)) hZ (own_w hw 86 rfl) (own_w hw 85 rfl) (by decide) (by decide)) (g := (mkF m 159 #[.val (.int i0), .val (.int i1), .val (.int i2), .val (.int i3), .val (.int i4), .val (.int 1), .val (.int n4), .val (.int n6), .val (.int n8), .val (.int n10), .val (.ref b45), .unset, .unset, .unset] [(.int n4)])) rfl (by rw [hml]; rfl) (argsL := [(.int n4)]) (rest := []) (lenOf pd_14 rfl) rfl (by show 2 * 0 + _ ≤ _; exact Nat.le_of_eq rfl) (hb hby at_159) (fun _ _ => ⟨rfl, e47, (by decide : 1 + 0 ≤ _), (by decide : 1 + 0 ≤ _)⟩)
    dsimp only [Pt.U, Pt.locs, Pt.cells, Pt.slots] at X50 l50 y50 z50 st50 hQ50
    subst l50 y50 z50
    obtain ⟨rfl, N50q, e50⟩ := hQ50
    have N50 := Fr.app N47 N50q
    have P50 : own_Go p e below S0 (T50.setTop (mkF m 162 #[.val (.int i0), .val (.int i1), .val (.int i2), .val (.int i3), .val (.int i4), .val (.int 1), .val (.int n4), .val (.int n6), .val (.int n8), .val (.int n10), .val (.ref b45), .unset, .unset, .unset] [(.int (own_wild n4))])) := fun t k => P49 t (st50 _ k)
    obtain ⟨v54_s0, hv54_s0, P54⟩ : ∃ (v54_s0 : Int32), (v54_s0 = (if (own_wild n4) = (0 : Int32) then (0 : Int32) else (1 : Int32))) ∧ (own_Go p e below S0 (T50.setTop (mkF m 212 #[.val (.int i0), .val (.int i1), .val (.int i2), .val (.int i3), .val (.int i4), .val (.int 1), .val (.int n4), .val (.int n6), .val (.int n8), .val (.int n10), .val (.ref b45), .unset, .unset, .unset] [(.int v54_s0)]))) := by
      by_cases c51 : (own_wild n4) = (0 : Int32)
      · skip
        have P52 : own_Go p e below S0 (T50.setTop (mkF m 212 #[.val (.int i0), .val (.int i1), .val (.int i2), .val (.int i3), .val (.int i4), .val (.int 1), .val (.int n4), .val (.int n6), .val (.int n8), .val (.int n10), .val (.ref b45), .unset, .unset, .unset] [(.int 0)])) := fun t k => P50 t (by
          refine XS.ifNo X50.here hx rfl (hb hby at_162) rfl ((if0 _ _).trans (teq c51).2) ?_
          refine XS.iload X50.here hx rfl (hb hby at_165) rfl ?_
          refine XS.iconst X50.here hx rfl (hb hby at_167) ?_
          refine XS.icmpYes X50.here hx rfl (pc0 := 168) (pc' := 179) rfl (hb hby at_168) rfl (tlt (by decide)).1 (by decide) (by decide) ?_
          refine XS.iload X50.here hx rfl (hb hby at_179) rfl ?_
          refine XS.iconst X50.here hx rfl (hb hby at_181) ?_
          show Steps p.tables e below (T50.setTop (mkF m 182 #[.val (.int i0), .val (.int i1), .val (.int i2), .val (.int i3), .val (.int i4), .val (.int 1), .val (.int n4), .val (.int n6), .val (.int n8), .val (.int n10), .val (.ref b45), .unset, .unset, .unset] [(.int 3), (.int 1)])) t
          refine XS.icmpYes X50.here hx rfl (pc0 := 182) (pc' := 193) rfl (hb hby at_182) rfl (tlt (by decide)).1 (by decide) (by decide) ?_
          refine XS.iload X50.here hx rfl (hb hby at_193) rfl ?_
          refine XS.iconst X50.here hx rfl (hb hby at_195) ?_
          refine XS.icmpYes X50.here hx rfl (pc0 := 196) (pc' := 211) rfl (hb hby at_196) rfl (tlt (by decide)).1 (by decide) (by decide) ?_
          refine XS.iconst X50.here hx rfl (hb hby at_211) ?_
          show Steps p.tables e below (T50.setTop (mkF m 212 #[.val (.int i0), .val (.int i1), .val (.int i2), .val (.int i3), .val (.int i4), .val (.int 1), .val (.int n4), .val (.int n6), .val (.int n8), .val (.int n10), .val (.ref b45), .unset, .unset, .unset] [(.int 0)])) t
          exact k)
        exact ⟨(0 : Int32), (Eq.symm (if_pos c51)), P52⟩
      · skip
        have P53 : own_Go p e below S0 (T50.setTop (mkF m 212 #[.val (.int i0), .val (.int i1), .val (.int i2), .val (.int i3), .val (.int i4), .val (.int 1), .val (.int n4), .val (.int n6), .val (.int n8), .val (.int n10), .val (.ref b45), .unset, .unset, .unset] [(.int 1)])) := fun t k => P50 t (by
          refine XS.ifYes X50.here hx rfl (pc0 := 162) (pc' := 207) rfl (hb hby at_162) rfl ((if0 _ _).trans (feq c51).2) (by decide) (by decide) ?_
          refine XS.iconst X50.here hx rfl (hb hby at_207) ?_
          refine XS.goto X50.here hx rfl (pc0 := 208) (pc' := 212) rfl (hb hby at_208) (by decide) (by decide) ?_
          show Steps p.tables e below (T50.setTop (mkF m 212 #[.val (.int i0), .val (.int i1), .val (.int i2), .val (.int i3), .val (.int i4), .val (.int 1), .val (.int n4), .val (.int n6), .val (.int n8), .val (.int n10), .val (.ref b45), .unset, .unset, .unset] [(.int 1)])) t
          exact k)
        exact ⟨(1 : Int32), (Eq.symm (if_neg c51)), P53⟩
    have P55 : own_Go p e below S0 (T50.setTop (mkF m 216 #[.val (.int i0), .val (.int i1), .val (.int i2), .val (.int i3), .val (.int i4), .val (.int 1), .val (.int n4), .val (.int n6), .val (.int n8), .val (.int n10), .val (.ref b45), .val (.int v54_s0), .unset, .unset] [(.int v54_s0)])) := fun t k => P54 t (by
      refine XS.istore X50.here hx rfl (hb hby at_212) rfl (l' := #[.val (.int i0), .val (.int i1), .val (.int i2), .val (.int i3), .val (.int i4), .val (.int 1), .val (.int n4), .val (.int n6), .val (.int n8), .val (.int n10), .val (.ref b45), .val (.int v54_s0), .unset, .unset]) rfl ?_
      refine XS.iload X50.here hx rfl (hb hby at_214) rfl ?_
      show Steps p.tables e below (T50.setTop (mkF m 216 #[.val (.int i0), .val (.int i1), .val (.int i2), .val (.int i3), .val (.int i4), .val (.int 1), .val (.int n4), .val (.int n6), .val (.int n8), .val (.int n10), .val (.ref b45), .val (.int v54_s0), .unset, .unset] [(.int v54_s0)])) t
      exact k)
    obtain ⟨v59_s0, hv59_s0, P59⟩ : ∃ (v59_s0 : Int32), (v59_s0 = (if v54_s0 = (0 : Int32) then (1 : Int32) else (0 : Int32))) ∧ (own_Go p e below S0 (T50.setTop (mkF m 224 #[.val (.int i0), .val (.int i1), .val (.int i2), .val (.int i3), .val (.int i4), .val (.int 1), .val (.int n4), .val (.int n6), .val (.int n8), .val (.int n10), .val (.ref b45), .val (.int v54_s0), .unset, .unset] [(.int v59_s0)]))) := by
      by_cases c56 : v54_s0 = (0 : Int32)
      · skip
        have P57 : own_Go p e below S0 (T50.setTop (mkF m 224 #[.val (.int i0), .val (.int i1), .val (.int i2), .val (.int i3), .val (.int i4), .val (.int 1), .val (.int n4), .val (.int n6), .val (.int n8), .val (.int n10), .val (.ref b45), .val (.int v54_s0), .unset, .unset] [(.int 1)])) := fun t k => P55 t (by
          refine XS.ifNo X50.here hx rfl (hb hby at_216) rfl ((if0 _ _).trans (teq c56).2) ?_
          refine XS.iconst X50.here hx rfl (hb hby at_219) ?_
          refine XS.goto X50.here hx rfl (pc0 := 220) (pc' := 224) rfl (hb hby at_220) (by decide) (by decide) ?_
          show Steps p.tables e below (T50.setTop (mkF m 224 #[.val (.int i0), .val (.int i1), .val (.int i2), .val (.int i3), .val (.int i4), .val (.int 1), .val (.int n4), .val (.int n6), .val (.int n8), .val (.int n10), .val (.ref b45), .val (.int v54_s0), .unset, .unset] [(.int 1)])) t
          exact k)
        exact ⟨(1 : Int32), (Eq.symm (if_pos c56)), P57⟩
      · skip
        have P58 : own_Go p e below S0 (T50.setTop (mkF m 224 #[.val (.int i0), .val (.int i1), .val (.int i2), .val (.int i3), .val (.int i4), .val (.int 1), .val (.int n4), .val (.int n6), .val (.int n8), .val (.int n10), .val (.ref b45), .val (.int v54_s0), .unset, .unset] [(.int 0)])) := fun t k => P55 t (by
          refine XS.ifYes X50.here hx rfl (pc0 := 216) (pc' := 223) rfl (hb hby at_216) rfl ((if0 _ _).trans (feq c56).2) (by decide) (by decide) ?_
          refine XS.iconst X50.here hx rfl (hb hby at_223) ?_
          show Steps p.tables e below (T50.setTop (mkF m 224 #[.val (.int i0), .val (.int i1), .val (.int i2), .val (.int i3), .val (.int i4), .val (.int 1), .val (.int n4), .val (.int n6), .val (.int n8), .val (.int n10), .val (.ref b45), .val (.int v54_s0), .unset, .unset] [(.int 0)])) t
          exact k)
        exact ⟨(0 : Int32), (Eq.symm (if_neg c56)), P58⟩
    have P60 : own_Go p e below S0 (T50.setTop (mkF m 226 #[.val (.int i0), .val (.int i1), .val (.int i2), .val (.int i3), .val (.int i4), .val (.int 1), .val (.int n4), .val (.int n6), .val (.int n8), .val (.int n10), .val (.ref b45), .val (.int v54_s0), .val (.int v59_s0), .unset] [])) := fun t k => P59 t (by
      refine XS.istore X50.here hx rfl (hb hby at_224) rfl (l' := #[.val (.int i0), .val (.int i1), .val (.int i2), .val (.int i3), .val (.int i4), .val (.int 1), .val (.int n4), .val (.int n6), .val (.int n8), .val (.int n10), .val (.ref b45), .val (.int v54_s0), .val (.int v59_s0), .unset]) rfl ?_
      show Steps p.tables e below (T50.setTop (mkF m 226 #[.val (.int i0), .val (.int i1), .val (.int i2), .val (.int i3), .val (.int i4), .val (.int 1), .val (.int n4), .val (.int n6), .val (.int n8), .val (.int n10), .val (.ref b45), .val (.int v54_s0), .val (.int v59_s0), .unset] [])) t
      exact k)
    obtain ⟨T61, h61, X61, e61, E61, A61, D61, -, st61⟩ := newO X50 hx hZ hown (own_w hw 2 rfl) (own_w hw 3 rfl) (own_w hw 4 rfl) e50 (g := (mkF m 226 #[.val (.int i0), .val (.int i1), .val (.int i2), .val (.int i3), .val (.int i4), .val (.int 1), .val (.int n4), .val (.int n6), .val (.int n8), .val (.int n10), .val (.ref b45), .val (.int v54_s0), .val (.int v59_s0), .unset] [])) rfl (hb hby at_226) (by decide) (by decide)
    obtain ⟨b61, g61⟩ : ∃ z, z = h47.size := ⟨_, rfl⟩
    rw [← g61] at A61 D61 st61
    have sz_b61 : h47.size ≤ b61 := Nat.le_of_eq g61.symm
    have ne_b45_b61 : b45 ≠ b61 := Nat.ne_of_lt (Nat.lt_of_lt_of_le V47.lt sz_b61)
    have g_b61 : n0 ≤ b61 := Nat.le_trans (Nat.le_trans Z0 K47.1) sz_b61
    have o_b61 : h0.size ≤ b61 := Nat.le_trans K47.1 sz_b61
    have hk61 : h0.size ≤ h61.size := Nat.le_trans hk47 E61.1
    have K61 : Keep h0 h61 [] := K47.ext E61
    have F61_pattern : Fld Z h61 b61 "com/example/strict_acl/strictacl/NamePattern" "pattern" "Ljava/lang/String;" .null := D61 (Or.inr (own_w hw 37 rfl)) (ty := (.object "java/lang/String")) (by decide)
    have P61 : own_Go p e below S0 (T61.setTop (mkF m 229 #[.val (.int i0), .val (.int i1), .val (.int i2), .val (.int i3), .val (.int i4), .val (.int 1), .val (.int n4), .val (.int n6), .val (.int n8), .val (.int n10), .val (.ref b45), .val (.int v54_s0), .val (.int v59_s0), .unset] [(.ref b61)])) := fun t k => P60 t (st61 _ k)
    have F62 : Arv Z h61 b45 k45 .char (1 : Int32) [(.int (nar .char n4))] (.int 0) := V47.ext E61
    have P63 : own_Go p e below S0 (T61.setTop (mkF m 230 #[.val (.int i0), .val (.int i1), .val (.int i2), .val (.int i3), .val (.int i4), .val (.int 1), .val (.int n4), .val (.int n6), .val (.int n8), .val (.int n10), .val (.ref b45), .val (.int v54_s0), .val (.int v59_s0), .unset] [(.ref b61), (.ref b61)])) := fun t k => P61 t (by
      refine XS.dup X61.here hx rfl (hb hby at_229) rfl rfl ?_
      show Steps p.tables e below (T61.setTop (mkF m 230 #[.val (.int i0), .val (.int i1), .val (.int i2), .val (.int i3), .val (.int i4), .val (.int 1), .val (.int n4), .val (.int n6), .val (.int n8), .val (.int n10), .val (.ref b45), .val (.int v54_s0), .val (.int v59_s0), .unset] [(.ref b61), (.ref b61)])) t
      exact k)
    obtain ⟨T64, h64, X64, e64, E64, A64, D64, -, st64⟩ := newO X61 hx hZ hown (own_w hw 5 rfl) (own_w hw 6 rfl) (own_w hw 7 rfl) e61 (g := (mkF m 230 #[.val (.int i0), .val (.int i1), .val (.int i2), .val (.int i3), .val (.int i4), .val (.int 1), .val (.int n4), .val (.int n6), .val (.int n8), .val (.int n10), .val (.ref b45), .val (.int v54_s0), .val (.int v59_s0), .unset] [(.ref b61), (.ref b61)])) rfl (hb hby at_230) (by decide) (by decide)
    obtain ⟨b64, g64⟩ : ∃ z, z = h61.size := ⟨_, rfl⟩
    rw [← g64] at A64 D64 st64
    have sz_b64 : h61.size ≤ b64 := Nat.le_of_eq g64.symm
    have ne_b45_b64 : b45 ≠ b64 := Nat.ne_of_lt (Nat.lt_of_lt_of_le F62.lt sz_b64)
    have ne_b61_b64 : b61 ≠ b64 := Nat.ne_of_lt (Nat.lt_of_lt_of_le A61.lt sz_b64)
    have g_b64 : n0 ≤ b64 := Nat.le_trans (Nat.le_trans Z0 K61.1) sz_b64
    have o_b64 : h0.size ≤ b64 := Nat.le_trans K61.1 sz_b64
    have hk64 : h0.size ≤ h64.size := Nat.le_trans hk61 E64.1
    have K64 : Keep h0 h64 [] := K61.ext E64
    have F64_value : Fld Z h64 b64 "java/lang/String" "value" "[B" .null := D64 (Or.inr (own_w hw 20 rfl)) (ty := (.array .byte)) (by decide)
    have F64_coder : Fld Z h64 b64 "java/lang/String" "coder" "B" (.int 0) := D64 (Or.inr (own_w hw 21 rfl)) (ty := .byte) (by decide)
    have P64 : own_Go p e below S0 (T64.setTop (mkF m 233 #[.val (.int i0), .val (.int i1), .val (.int i2), .val (.int i3), .val (.int i4), .val (.int 1), .val (.int n4), .val (.int n6), .val (.int n8), .val (.int n10), .val (.ref b45), .val (.int v54_s0), .val (.int v59_s0), .unset] [(.ref b64), (.ref b61), (.ref b61)])) := fun t k => P63 t (st64 _ k)
    have F65 : Arv Z h64 b45 k45 .char (1 : Int32) [(.int (nar .char n4))] (.int 0) := F62.ext E64
    have F66 : Sta Z h45 "java/lang/String" "COMPACT_STRINGS" "Z" (.int zc) := S_COMPACT_STRINGS.ext E45
    have F67 : Sta Z h47 "java/lang/String" "COMPACT_STRINGS" "Z" (.int zc) := F66.wr W47
    have F68 : Sta Z h61 "java/lang/String" "COMPACT_STRINGS" "Z" (.int zc) := F67.ext E61
    have F69 : Sta Z h64 "java/lang/String" "COMPACT_STRINGS" "Z" (.int zc) := F68.ext E64
    have F70 : Exa Z h64 b61 "com/example/strict_acl/strictacl/NamePattern" := A61.ext E64
    have P71 : own_Go p e below S0 (T64.setTop (mkF m 236 #[.val (.int i0), .val (.int i1), .val (.int i2), .val (.int i3), .val (.int i4), .val (.int 1), .val (.int n4), .val (.int n6), .val (.int n8), .val (.int n10), .val (.ref b45), .val (.int v54_s0), .val (.int v59_s0), .unset] [(.ref b45), (.ref b64), (.ref b64), (.ref b61), (.ref b61)])) := fun t k => P64 t (by
      refine XS.dup X64.here hx rfl (hb hby at_233) rfl rfl ?_
      refine XS.aload X64.here hx rfl (hb hby at_234) rfl rfl ?_
      show Steps p.tables e below (T64.setTop (mkF m 236 #[.val (.int i0), .val (.int i1), .val (.int i2), .val (.int i3), .val (.int i4), .val (.int 1), .val (.int n4), .val (.int n6), .val (.int n8), .val (.int n10), .val (.ref b45), .val (.int v54_s0), .val (.int v59_s0), .unset] [(.ref b45), (.ref b64), (.ref b64), (.ref b61), (.ref b61)])) t
      exact k)
    obtain ⟨_, _, ⟨T72, L72, k72, n72⟩, -, X72, ⟨Lc72, hQ72, l72, y72, z72⟩, st72⟩ := X64.specialBack hx (y := (⟨"java/lang/String", "<init>", "([C)V"⟩ : MethodName)) rfl hown (mvT hZ (own_w hw 8 rfl)) (mvT hZ (own_w hw 9 rfl)) (mvT hZ (own_w hw 10 rfl)) (by decide) (backOf (W := 3) (rm1s1 l Z a0 hw [] b64 b45 k45 zc (nar .char n4) (.int 0) .null h64 n0 (Nat.le_trans Z0 K64.1) A64 F65 F69 hcs (own_hx hn4) F64_coder g_b64 F64_value) hZ (own_w hw 10 rfl) (own_w hw 7 rfl) (by decide) (by decide)) (g := (mkF m 236 #[.val (.int i0), .val (.int i1), .val (.int i2), .val (.int i3), .val (.int i4), .val (.int 1), .val (.int n4), .val (.int n6), .val (.int n8), .val (.int n10), .val (.ref b45), .val (.int v54_s0), .val (.int v59_s0), .unset] [(.ref b45), (.ref b64), (.ref b64), (.ref b61), (.ref b61)])) rfl (by rw [hml]; rfl) (Steps.refl _) (a := b64) (argsL := [(.ref b45)]) (rest := [(.ref b64), (.ref b61), (.ref b61)]) (lenOf pd_12 rfl) rfl (by show 2 * 0 + _ ≤ _; exact Nat.le_of_eq rfl) (hb hby at_236) (fun _ _ => ⟨rfl, e64, (by decide : 3 + 1 ≤ _), (by decide : 6 + 1 ≤ _)⟩)
    dsimp only [Pt.U, Pt.locs, Pt.cells, Pt.slots] at X72 l72 y72 z72 st72 hQ72
    subst l72 y72 z72
    obtain ⟨b2_7_3_72, k2_7_3_72, rfl, N72q, Kc72, sz_b2_7_3_72, F72_0, F72_1, F72_2⟩ := hQ72
    have N72 := Fr.app N50 N72q
    have ne_b45_b2_7_3_72 : b45 ≠ b2_7_3_72 := Nat.ne_of_lt (Nat.lt_of_lt_of_le F65.lt sz_b2_7_3_72)
    have ne_b61_b2_7_3_72 : b61 ≠ b2_7_3_72 := Nat.ne_of_lt (Nat.lt_of_lt_of_le F70.lt sz_b2_7_3_72)
    have ne_b64_b2_7_3_72 : b64 ≠ b2_7_3_72 := Nat.ne_of_lt (Nat.lt_of_lt_of_le A64.lt sz_b2_7_3_72)
    have g_b2_7_3_72 : n0 ≤ b2_7_3_72 := Nat.le_trans (Nat.le_trans Z0 K64.1) sz_b2_7_3_72
    have o_b2_7_3_72 : h0.size ≤ b2_7_3_72 := Nat.le_trans K64.1 sz_b2_7_3_72
    have hk72 : h0.size ≤ T72.heap.size := Nat.le_trans hk64 Kc72.1
    have K72 : Keep h0 T72.heap [] := Keep.trans K64 Kc72 (allS (Or.inr o_b64) all0)
    have P72 : own_Go p e below S0 (T72.setTop (mkF m 239 #[.val (.int i0), .val (.int i1), .val (.int i2), .val (.int i3), .val (.int i4), .val (.int 1), .val (.int n4), .val (.int n6), .val (.int n8), .val (.int n10), .val (.ref b45), .val (.int v54_s0), .val (.int v59_s0), .unset] [(.ref b64), (.ref b61), (.ref b61)])) := fun t k => P71 t (st72.trans k)
    have F73 : Exa Z T72.heap b64 "java/lang/String" := A64.keep Kc72
    have F74 : Exa Z T72.heap b61 "com/example/strict_acl/strictacl/NamePattern" := F70.keep Kc72
    have F75 : Fld Z h64 b61 "com/example/strict_acl/strictacl/NamePattern" "pattern" "Ljava/lang/String;" .null := F61_pattern.ext E64
    have F76 : Fld Z T72.heap b61 "com/example/strict_acl/strictacl/NamePattern" "pattern" "Ljava/lang/String;" .null := F75.keep Kc72 (ninS ne_b61_b64 nin0)
    obtain ⟨_, _, ⟨T77, L77, k77, n77⟩, -, X77, hSq77, hgr77, ⟨Lc77, hQ77, l77, y77, z77⟩, st77⟩ := X72.specialBackS hx (y := (⟨"com/example/strict_acl/strictacl/NamePattern", "<init>", "(Ljava/lang/String;)V"⟩ : MethodName)) rfl hown (mvT hZ (own_w hw 26 rfl)) (mvT hZ (own_w hw 27 rfl)) (mvT hZ (own_w hw 28 rfl)) (by decide) (backOfS (W := 1) (rm4 l Z a0 hw [] b61 b64 .null T72.heap n0 (Nat.le_trans Z0 K72.1) F73 F74 F76 g_b61) hZ (own_w hw 28 rfl) (own_w hw 4 rfl) (by decide) (by decide)) (g := (mkF m 239 #[.val (.int i0), .val (.int i1), .val (.int i2), .val (.int i3), .val (.int i4), .val (.int 1), .val (.int n4), .val (.int n6), .val (.int n8), .val (.int n10), .val (.ref b45), .val (.int v54_s0), .val (.int v59_s0), .unset] [(.ref b64), (.ref b61), (.ref b61)])) rfl (by rw [hml]; rfl) (Steps.refl _) (a := b61) (argsL := [(.ref b64)]) (rest := [(.ref b61)]) (lenOf pd_13 rfl) rfl (by show 2 * 0 + _ ≤ _; exact Nat.le_of_eq rfl) (hb hby at_239) (fun _ _ => ⟨rfl, rfl, (by decide : 4 + 2 ≤ _), (by decide : 7 + 32 ≤ _)⟩)
    dsimp only [Pt.U, Pt.locs, Pt.cells, Pt.slots] at X77 l77 y77 z77 st77 hQ77 hSq77 hgr77
    subst l77 y77 z77
    obtain ⟨hS77, hZ77, hown77⟩ := own_fold hS0 hSq77 (Nat.le_trans hk72 hgr77) hZ hown
    replace X77 := own_flat X77
    obtain ⟨rfl, N77q, Kc77, F77_0⟩ := hQ77
    have N77 := Fr.app N72 N77q
    have K77 : Keep h0 T77.heap [] := Keep.trans K72 Kc77 (allS (Or.inr o_b61) all0)
    have P77 : own_Go p e below S0 (T77.setTop (mkF m 242 #[.val (.int i0), .val (.int i1), .val (.int i2), .val (.int i3), .val (.int i4), .val (.int 1), .val (.int n4), .val (.int n6), .val (.int n8), .val (.int n10), .val (.ref b45), .val (.int v54_s0), .val (.int v59_s0), .unset] [(.ref b61)])) := fun t k => P72 t (st77.trans k)
    have F78 : Exa Z T77.heap b61 "com/example/strict_acl/strictacl/NamePattern" := F74.keep Kc77
    have F79 : Fld Z T77.heap b64 "java/lang/String" "value" "[B" (.ref b2_7_3_72) := F72_2.keep Kc77 (ninS (Ne.symm ne_b61_b64) nin0)
    have F80 : Arv Z T77.heap b2_7_3_72 k2_7_3_72 .byte (1 : Int32) [(.int (nar .byte ((nar .char n4).toInt8.toInt32)))] (.int 0) := F72_0.keep Kc77 (ninS (Ne.symm ne_b61_b2_7_3_72) nin0)
    have F81 : Sta Z T72.heap "java/lang/String" "COMPACT_STRINGS" "Z" (.int zc) := own_staK F69 Kc72 (allS (own_plE A64) all0)
    have F82 : Sta Z T77.heap "java/lang/String" "COMPACT_STRINGS" "Z" (.int zc) := own_staK F81 Kc77 (allS (own_plE F74) all0)
    have F83 : Fld Z T77.heap b64 "java/lang/String" "coder" "B" (.int 0) := F72_1.keep Kc77 (ninS (Ne.symm ne_b61_b64) nin0)
    have F84 : Exa Z T77.heap b64 "java/lang/String" := F73.keep Kc77
    have P85 : own_Go p e below S0 (T77.setTop (mkF m 246 #[.val (.int i0), .val (.int i1), .val (.int i2), .val (.int i3), .val (.int i4), .val (.int 1), .val (.int n4), .val (.int n6), .val (.int n8), .val (.int n10), .val (.ref b45), .val (.int v54_s0), .val (.int v59_s0), .val (.ref b61)] [(.ref b61)])) := fun t k => P77 t (by
      refine XS.astore X77.here hx rfl (hb hby at_242) rfl rfl (l' := #[.val (.int i0), .val (.int i1), .val (.int i2), .val (.int i3), .val (.int i4), .val (.int 1), .val (.int n4), .val (.int n6), .val (.int n8), .val (.int n10), .val (.ref b45), .val (.int v54_s0), .val (.int v59_s0), .val (.ref b61)]) rfl ?_
      refine XS.aload X77.here hx rfl (hb hby at_244) rfl rfl ?_
      show Steps p.tables e below (T77.setTop (mkF m 246 #[.val (.int i0), .val (.int i1), .val (.int i2), .val (.int i3), .val (.int i4), .val (.int 1), .val (.int n4), .val (.int n6), .val (.int n8), .val (.int n10), .val (.ref b45), .val (.int v54_s0), .val (.int v59_s0), .val (.ref b61)] [(.ref b61)])) t
      exact k)
    obtain ⟨cq86, kq86, q86a, q86b, q86c⟩ := isOf hZ77 rfl F78
    obtain ⟨_, _, ⟨T86, L86, k86, n86⟩, -, X86, ⟨Lc86, hQ86, l86, y86, z86⟩, st86⟩ := X77.virtualBack hx (y := (⟨"com/example/strict_acl/strictacl/NamePattern", "isLiteral", "()Z"⟩ : MethodName)) (z := (⟨"com/example/strict_acl/strictacl/NamePattern", "isLiteral", "()Z"⟩ : MethodName)) hown77 (mvT hZ77 (own_w hw 38 rfl)) (mvT hZ77 (own_w hw 39 rfl)) (notFace_of_selects (args := #[]) (mvT hZ77 (own_w hw 41 rfl))) (mvT hZ77 (own_w hw 41 rfl)) (mvT hZ77 (own_w hw 40 rfl)) (by decide) (backOf (W := 0) (rm6n1 l Z a0 hw [] b61 b64 b2_7_3_72 k2_7_3_72 (nar .byte ((nar .char n4).toInt8.toInt32)) zc T77.heap n0 (Nat.le_trans Z0 K77.1) F77_0 F79 F80 F82 hcs F83 F84) hZ77 (own_w hw 42 rfl) (own_w hw 4 rfl) (by decide) (by decide)) q86a q86c (g := (mkF m 246 #[.val (.int i0), .val (.int i1), .val (.int i2), .val (.int i3), .val (.int i4), .val (.int 1), .val (.int n4), .val (.int n6), .val (.int n8), .val (.int n10), .val (.ref b45), .val (.int v54_s0), .val (.int v59_s0), .val (.ref b61)] [(.ref b61)])) rfl (by rw [hml]; rfl) (Steps.refl _) (argsL := []) (rest := []) (lenOf pd_8 rfl) rfl (by show 2 * 0 + _ ≤ _; exact Nat.le_of_eq rfl) (hb hby at_246) (fun _ _ => ⟨rfl, rfl, (by decide : 6 + 0 ≤ _), (by decide : 39 + 0 ≤ _)⟩)
    dsimp only [Pt.U, Pt.locs, Pt.cells, Pt.slots] at X86 l86 y86 z86 st86 hQ86
    subst l86 y86 z86
    obtain ⟨rfl, N86q, e86⟩ := hQ86
    have N86 := Fr.app N77 N86q
    have P86 : own_Go p e below S0 (T86.setTop (mkF m 249 #[.val (.int i0), .val (.int i1), .val (.int i2), .val (.int i3), .val (.int i4), .val (.int 1), .val (.int n4), .val (.int n6), .val (.int n8), .val (.int n10), .val (.ref b45), .val (.int v54_s0), .val (.int v59_s0), .val (.ref b61)] [(.int (r6n1 (nar .byte ((nar .char n4).toInt8.toInt32))))])) := fun t k => P85 t (st86.trans k)
    have c87 : (r6n1 (nar .byte ((nar .char n4).toInt8.toInt32))) = v59_s0 := by rw [hv59_s0, hv54_s0]; exact own_law1 _ _ (own_nb hn4)
    have P88 : own_Go p e below S0 (T86.setTop (mkF m 259 #[.val (.int i0), .val (.int i1), .val (.int i2), .val (.int i3), .val (.int i4), .val (.int 1), .val (.int n4), .val (.int n6), .val (.int n8), .val (.int n10), .val (.ref b45), .val (.int v54_s0), .val (.int v59_s0), .val (.ref b61)] [(.int 1)])) := fun t k => P86 t (by
      refine XS.iload X86.here hx rfl (hb hby at_249) rfl ?_
      refine XS.icmpNo X86.here hx rfl (hb hby at_251) rfl (teq c87).2 ?_
      refine XS.iconst X86.here hx rfl (hb hby at_254) ?_
      refine XS.goto X86.here hx rfl (pc0 := 255) (pc' := 259) rfl (hb hby at_255) (by decide) (by decide) ?_
      show Steps p.tables e below (T86.setTop (mkF m 259 #[.val (.int i0), .val (.int i1), .val (.int i2), .val (.int i3), .val (.int i4), .val (.int 1), .val (.int n4), .val (.int n6), .val (.int n8), .val (.int n10), .val (.ref b45), .val (.int v54_s0), .val (.int v59_s0), .val (.ref b61)] [(.int 1)])) t
      exact k)
    have F89 : Arv Z T72.heap b45 k45 .char (1 : Int32) [(.int (nar .char n4))] (.int 0) := F65.keep Kc72 (ninS ne_b45_b64 nin0)
    have F90 : Arv Z T77.heap b45 k45 .char (1 : Int32) [(.int (nar .char n4))] (.int 0) := F89.keep Kc77 (ninS ne_b45_b61 nin0)
    obtain ⟨fs, hr, hrun, hended, hend⟩ := X86.leaveW hS77 (by rw [e86]; exact (Nat.le_refl _)) (v := some (.int 1)) (fun h => by rw [Bd.returns] at h; cases h) (BodyLoose.notSynchronized Bd)
    refine ⟨_, _, own_from hE0 (P88 _ ?_), hrun, hended, _, _, rfl, ?_, hend.1, hend.2.1, hend.2.2.1, hend.2.2.2.mono (by decide) (by decide)⟩
    · show Steps p.tables e below (T86.setTop (mkF m 259 #[.val (.int i0), .val (.int i1), .val (.int i2), .val (.int i3), .val (.int i4), .val (.int 1), .val (.int n4), .val (.int n6), .val (.int n8), .val (.int n10), .val (.ref b45), .val (.int v54_s0), .val (.int v59_s0), .val (.ref b61)] [(.int 1)])) _
      exact retN X86 hx (t := .boolean) Bd.returns (by simp) (hb hby at_259) hr
    · show Q0 Z i0 i1 i2 i3 i4 zc h0 n0 _ T86.heap _
      rw [e86]
      exact ⟨rfl, N86⟩
  · skip
    subst c11
    have P91 : own_Go p e below S0 (s₁.setTop (mkF m 80 #[.val (.int i0), .val (.int i1), .val (.int i2), .val (.int i3), .val (.int i4), .val (.int 2), .val (.int n4), .val (.int n6), .val (.int n8), .val (.int n10), .unset, .unset, .unset, .unset] [(.int 2)])) := fun t k => P10 t (by
      refine XS.iload X0.here hx rfl (hb hby at_41) rfl ?_
      refine XS.ifYes X0.here hx rfl (pc0 := 43) (pc' := 54) rfl (hb hby at_43) rfl ((if0 _ _).trans (feq (by decide)).2) (by decide) (by decide) ?_
      refine XS.iload X0.here hx rfl (hb hby at_54) rfl ?_
      refine XS.iconst X0.here hx rfl (hb hby at_56) ?_
      refine XS.icmpYes X0.here hx rfl (pc0 := 57) (pc' := 73) rfl (hb hby at_57) rfl (feq (by decide)).2 (by decide) (by decide) ?_
      refine XS.iload X0.here hx rfl (hb hby at_73) rfl ?_
      show Steps p.tables e below (s₁.setTop (mkF m 75 #[.val (.int i0), .val (.int i1), .val (.int i2), .val (.int i3), .val (.int i4), .val (.int 2), .val (.int n4), .val (.int n6), .val (.int n8), .val (.int n10), .unset, .unset, .unset, .unset] [(.int 2)])) t
      refine XS.iconst X0.here hx rfl (hb hby at_75) ?_
      refine XS.icmpNo X0.here hx rfl (hb hby at_76) rfl (teq (by decide)).2 ?_
      refine XS.iconst X0.here hx rfl (hb hby at_79) ?_
      show Steps p.tables e below (s₁.setTop (mkF m 80 #[.val (.int i0), .val (.int i1), .val (.int i2), .val (.int i3), .val (.int i4), .val (.int 2), .val (.int n4), .val (.int n6), .val (.int n8), .val (.int n10), .unset, .unset, .unset, .unset] [(.int 2)])) t
      exact k)
    obtain ⟨T92, h92, k92, X92, e92, E92, A92, st92⟩ := newP X0 hx hZ (own_w hw 1 rfl) e0 (g := (mkF m 80 #[.val (.int i0), .val (.int i1), .val (.int i2), .val (.int i3), .val (.int i4), .val (.int 2), .val (.int n4), .val (.int n6), .val (.int n8), .val (.int n10), .unset, .unset, .unset, .unset] [(.int 2)])) rfl (hb hby at_80) rfl (by decide) (cap := 2) (by decide) (by decide) (by decide) (by decide)
    obtain ⟨b92, g92⟩ : ∃ z, z = h0.size := ⟨_, rfl⟩
    rw [← g92] at A92 st92
    have sz_b92 : h0.size ≤ b92 := Nat.le_of_eq g92.symm
    have g_b92 : n0 ≤ b92 := Nat.le_trans Z0 sz_b92
    have o_b92 : h0.size ≤ b92 := sz_b92
    have hk92 : h0.size ≤ h92.size := Nat.le_trans (Nat.le_refl _) E92.1
    have HC92 := CHv.ext E92 hC0
    have K92 : Keep h0 h92 [] := (Keep.refl h0 []).ext E92
    have V92 : Arv Z h92 b92 k92 .char (2 : Int32) [(.int 0), (.int 0)] (.int 0) := (Arv.new A92 (by decide)).pad (pad_rep [] (.int 0) 2)
    have P92 : own_Go p e below S0 (T92.setTop (mkF m 82 #[.val (.int i0), .val (.int i1), .val (.int i2), .val (.int i3), .val (.int i4), .val (.int 2), .val (.int n4), .val (.int n6), .val (.int n8), .val (.int n10), .unset, .unset, .unset, .unset] [(.ref b92)])) := fun t k => P91 t (st92 _ k)
    have P93 : own_Go p e below S0 (T92.setTop (mkF m 86 #[.val (.int i0), .val (.int i1), .val (.int i2), .val (.int i3), .val (.int i4), .val (.int 2), .val (.int n4), .val (.int n6), .val (.int n8), .val (.int n10), .unset, .unset, .unset, .unset] [(.int n4), (.int 0), (.ref b92), (.ref b92)])) := fun t k => P92 t (by
      refine XS.dup X92.here hx rfl (hb hby at_82) rfl rfl ?_
      refine XS.iconst X92.here hx rfl (hb hby at_83) ?_
      refine XS.iload X92.here hx rfl (hb hby at_84) rfl ?_
      show Steps p.tables e below (T92.setTop (mkF m 86 #[.val (.int i0), .val (.int i1), .val (.int i2), .val (.int i3), .val (.int i4), .val (.int 2), .val (.int n4), .val (.int n6), .val (.int n8), .val (.int n10), .unset, .unset, .unset, .unset] [(.int n4), (.int 0), (.ref b92), (.ref b92)])) t
      exact k)
    obtain ⟨cl95, Ar95, q95, Sz95, Nn95, Hh95, Gg95⟩ := id V92
    have hin95 : ¬ ((0 : Int32) < 0 ∨ cl95.slots.size ≤ ((0 : Int32)).toNatClampNeg) := inb_of Sz95 ⟨by decide, by decide⟩
    obtain ⟨T94, h94, X94, e94, W94, st94⟩ := stC X92 hx hZ e92 Ar95 (j := (0 : Int32)) hin95 (g := (mkF m 86 #[.val (.int i0), .val (.int i1), .val (.int i2), .val (.int i3), .val (.int i4), .val (.int 2), .val (.int n4), .val (.int n6), .val (.int n8), .val (.int n10), .unset, .unset, .unset, .unset] [(.int n4), (.int 0), (.ref b92), (.ref b92)])) rfl rfl (hb hby at_86)
    have hk94 : h0.size ≤ h94.size := Nat.le_trans hk92 (Keep.of_wr W94).1
    have K94 : Keep h0 h94 [] := K92.wr W94 (Or.inr o_b92)
    have N94 := Fr.snoc X94 N0 g_b92
    have V94 : Arv Z h94 b92 k92 .char (2 : Int32) [(.int (nar .char n4)), (.int 0)] (.int 0) := Arv.set Ar95 q95 Sz95 Nn95 Hh95 Gg95 (fits_nar_char _) W94 0 rfl (Nat.le_of_ble_eq_true rfl)
    have P94 : own_Go p e below S0 (T94.setTop (mkF m 87 #[.val (.int i0), .val (.int i1), .val (.int i2), .val (.int i3), .val (.int i4), .val (.int 2), .val (.int n4), .val (.int n6), .val (.int n8), .val (.int n10), .unset, .unset, .unset, .unset] [(.ref b92)])) := fun t k => P93 t (st94 _ k)
    have P96 : own_Go p e below S0 (T94.setTop (mkF m 91 #[.val (.int i0), .val (.int i1), .val (.int i2), .val (.int i3), .val (.int i4), .val (.int 2), .val (.int n4), .val (.int n6), .val (.int n8), .val (.int n10), .unset, .unset, .unset, .unset] [(.int n6), (.int 1), (.ref b92), (.ref b92)])) := fun t k => P94 t (by
      refine XS.dup X94.here hx rfl (hb hby at_87) rfl rfl ?_
      refine XS.iconst X94.here hx rfl (hb hby at_88) ?_
      refine XS.iload X94.here hx rfl (hb hby at_89) rfl ?_
      show Steps p.tables e below (T94.setTop (mkF m 91 #[.val (.int i0), .val (.int i1), .val (.int i2), .val (.int i3), .val (.int i4), .val (.int 2), .val (.int n4), .val (.int n6), .val (.int n8), .val (.int n10), .unset, .unset, .unset, .unset] [(.int n6), (.int 1), (.ref b92), (.ref b92)])) t
      exact k)
    obtain ⟨cl98, Ar98, q98, Sz98, Nn98, Hh98, Gg98⟩ := id V94
    have hin98 : ¬ ((1 : Int32) < 0 ∨ cl98.slots.size ≤ ((1 : Int32)).toNatClampNeg) := inb_of Sz98 ⟨by decide, by decide⟩
    obtain ⟨T97, h97, X97, e97, W97, st97⟩ := stC X94 hx hZ e94 Ar98 (j := (1 : Int32)) hin98 (g := (mkF m 91 #[.val (.int i0), .val (.int i1), .val (.int i2), .val (.int i3), .val (.int i4), .val (.int 2), .val (.int n4), .val (.int n6), .val (.int n8), .val (.int n10), .unset, .unset, .unset, .unset] [(.int n6), (.int 1), (.ref b92), (.ref b92)])) rfl rfl (hb hby at_91)
    have hk97 : h0.size ≤ h97.size := Nat.le_trans hk94 (Keep.of_wr W97).1
    have K97 : Keep h0 h97 [] := K94.wr W97 (Or.inr o_b92)
    have N97 := Fr.snoc X97 N94 g_b92
    have V97 : Arv Z h97 b92 k92 .char (2 : Int32) [(.int (nar .char n4)), (.int (nar .char n6))] (.int 0) := Arv.set Ar98 q98 Sz98 Nn98 Hh98 Gg98 (fits_nar_char _) W97 1 rfl (Nat.le_of_ble_eq_true rfl)
    have P97 : own_Go p e below S0 (T97.setTop (mkF m 92 #[.val (.int i0), .val (.int i1), .val (.int i2), .val (.int i3), .val (.int i4), .val (.int 2), .val (.int n4), .val (.int n6), .val (.int n8), .val (.int n10), .unset, .unset, .unset, .unset] [(.ref b92)])) := fun t k => P96 t (st97 _ k)
    have P99 : own_Go p e below S0 (T97.setTop (mkF m 159 #[.val (.int i0), .val (.int i1), .val (.int i2), .val (.int i3), .val (.int i4), .val (.int 2), .val (.int n4), .val (.int n6), .val (.int n8), .val (.int n10), .val (.ref b92), .unset, .unset, .unset] [(.int n4)])) := fun t k => P97 t (by
      refine XS.astore X97.here hx rfl (hb hby at_92) rfl rfl (l' := #[.val (.int i0), .val (.int i1), .val (.int i2), .val (.int i3), .val (.int i4), .val (.int 2), .val (.int n4), .val (.int n6), .val (.int n8), .val (.int n10), .val (.ref b92), .unset, .unset, .unset]) rfl ?_
      refine XS.goto X97.here hx rfl (pc0 := 94) (pc' := 151) rfl (hb hby at_94) (by decide) (by decide) ?_
      refine XS.iload X97.here hx rfl (hb hby at_151) rfl ?_
      refine XS.iconst X97.here hx rfl (hb hby at_153) ?_
      refine XS.icmpNo X97.here hx rfl (hb hby at_154) rfl (flt (by decide)).1 ?_
      refine XS.iload X97.here hx rfl (hb hby at_157) rfl ?_
      show Steps p.tables e below (T97.setTop (mkF m 159 #[.val (.int i0), .val (.int i1), .val (.int i2), .val (.int i3), .val (.int i4), .val (.int 2), .val (.int n4), .val (.int n6), .val (.int n8), .val (.int n10), .val (.ref b92), .unset, .unset, .unset] [(.int n4)])) t
      exact k)
    obtain ⟨_, _, ⟨T100, L100, k100, n100⟩, -, X100, ⟨Lc100, hQ100, l100, y100, z100⟩, st100⟩ := Jvm.LawKit.callS X97 hx (y := (⟨"com/example/strict_acl/strictacl/NamePatternIsLiteralPinLaw", "wild", "(C)Z"⟩ : MethodName)) hown (mvT hZ (own_w hw 83 rfl)) (mvT hZ (own_w hw 84 rfl)) (mvT hZ (own_w hw 85 rfl)) (mvT hZ (own_w hw 86 rfl)) (by decide) (backOf (W := 0) (rm16 l Z a0 hw [] n4 h97 n0 (Nat.le_trans Z0 K97.1)) hZ (own_w hw 86 rfl) (own_w hw 85 rfl) (by decide) (by decide)) (g := (mkF m 159 #[.val (.int i0), .val (.int i1), .val (.int i2), .val (.int i3), .val (.int i4), .val (.int 2), .val (.int n4), .val (.int n6), .val (.int n8), .val (.int n10), .val (.ref b92), .unset, .unset, .unset] [(.int n4)])) rfl (by rw [hml]; rfl) (argsL := [(.int n4)]) (rest := []) (lenOf pd_14 rfl) rfl (by show 2 * 0 + _ ≤ _; exact Nat.le_of_eq rfl) (hb hby at_159) (fun _ _ => ⟨rfl, e97, (by decide : 1 + 0 ≤ _), (by decide : 2 + 0 ≤ _)⟩)
    dsimp only [Pt.U, Pt.locs, Pt.cells, Pt.slots] at X100 l100 y100 z100 st100 hQ100
    subst l100 y100 z100
    obtain ⟨rfl, N100q, e100⟩ := hQ100
    have N100 := Fr.app N97 N100q
    have P100 : own_Go p e below S0 (T100.setTop (mkF m 162 #[.val (.int i0), .val (.int i1), .val (.int i2), .val (.int i3), .val (.int i4), .val (.int 2), .val (.int n4), .val (.int n6), .val (.int n8), .val (.int n10), .val (.ref b92), .unset, .unset, .unset] [(.int (own_wild n4))])) := fun t k => P99 t (st100 _ k)
    obtain ⟨T108, lo108, v108_s0, X108, e108, N108, hv108_s0, P108⟩ : ∃ (T108 : State) (lo108 : List Loc) (v108_s0 : Int32), (Stand p l e room_1 (s.setVm s.vm) m #[(.int i0), (.int i1), (.int i2), (.int i3), (.int i4)] below meth c T108 lo108 1 2) ∧ (T108.heap = h97) ∧ (Fr n0 lo108) ∧ (v108_s0 = (if (own_wild n4) = (0 : Int32) then (if (own_wild n6) = (0 : Int32) then (0 : Int32) else (1 : Int32)) else (1 : Int32))) ∧ (own_Go p e below S0 (T108.setTop (mkF m 212 #[.val (.int i0), .val (.int i1), .val (.int i2), .val (.int i3), .val (.int i4), .val (.int 2), .val (.int n4), .val (.int n6), .val (.int n8), .val (.int n10), .val (.ref b92), .unset, .unset, .unset] [(.int v108_s0)]))) := by
      by_cases c101 : (own_wild n4) = (0 : Int32)
      · skip
        have P102 : own_Go p e below S0 (T100.setTop (mkF m 173 #[.val (.int i0), .val (.int i1), .val (.int i2), .val (.int i3), .val (.int i4), .val (.int 2), .val (.int n4), .val (.int n6), .val (.int n8), .val (.int n10), .val (.ref b92), .unset, .unset, .unset] [(.int n6)])) := fun t k => P100 t (by
          refine XS.ifNo X100.here hx rfl (hb hby at_162) rfl ((if0 _ _).trans (teq c101).2) ?_
          refine XS.iload X100.here hx rfl (hb hby at_165) rfl ?_
          refine XS.iconst X100.here hx rfl (hb hby at_167) ?_
          refine XS.icmpNo X100.here hx rfl (hb hby at_168) rfl (flt (by decide)).1 ?_
          refine XS.iload X100.here hx rfl (hb hby at_171) rfl ?_
          show Steps p.tables e below (T100.setTop (mkF m 173 #[.val (.int i0), .val (.int i1), .val (.int i2), .val (.int i3), .val (.int i4), .val (.int 2), .val (.int n4), .val (.int n6), .val (.int n8), .val (.int n10), .val (.ref b92), .unset, .unset, .unset] [(.int n6)])) t
          exact k)
        obtain ⟨_, _, ⟨T103, L103, k103, n103⟩, -, X103, ⟨Lc103, hQ103, l103, y103, z103⟩, st103⟩ := Jvm.LawKit.callS X100 hx (y := (⟨"com/example/strict_acl/strictacl/NamePatternIsLiteralPinLaw", "wild", "(C)Z"⟩ : MethodName)) hown (mvT hZ (own_w hw 83 rfl)) (mvT hZ (own_w hw 84 rfl)) (mvT hZ (own_w hw 85 rfl)) (mvT hZ (own_w hw 86 rfl)) (by decide) (backOf (W := 0) (rm16 l Z a0 hw [] n6 h97 n0 (Nat.le_trans Z0 K97.1)) hZ (own_w hw 86 rfl) (own_w hw 85 rfl) (by decide) (by decide)) (g := (mkF m 173 #[.val (.int i0), .val (.int i1), .val (.int i2), .val (.int i3), .val (.int i4), .val (.int 2), .val (.int n4), .val (.int n6), .val (.int n8), .val (.int n10), .val (.ref b92), .unset, .unset, .unset] [(.int n6)])) rfl (by rw [hml]; rfl) (argsL := [(.int n6)]) (rest := []) (lenOf pd_14 rfl) rfl (by show 2 * 0 + _ ≤ _; exact Nat.le_of_eq rfl) (hb hby at_173) (fun _ _ => ⟨rfl, e100, (by decide : 1 + 0 ≤ _), (by decide : 2 + 0 ≤ _)⟩)
        dsimp only [Pt.U, Pt.locs, Pt.cells, Pt.slots] at X103 l103 y103 z103 st103 hQ103
        subst l103 y103 z103
        obtain ⟨rfl, N103q, e103⟩ := hQ103
        have N103 := Fr.app N100 N103q
        have P103 : own_Go p e below S0 (T103.setTop (mkF m 176 #[.val (.int i0), .val (.int i1), .val (.int i2), .val (.int i3), .val (.int i4), .val (.int 2), .val (.int n4), .val (.int n6), .val (.int n8), .val (.int n10), .val (.ref b92), .unset, .unset, .unset] [(.int (own_wild n6))])) := fun t k => P102 t (st103 _ k)
        by_cases c104 : (own_wild n6) = (0 : Int32)
        · skip
          have P105 : own_Go p e below S0 (T103.setTop (mkF m 212 #[.val (.int i0), .val (.int i1), .val (.int i2), .val (.int i3), .val (.int i4), .val (.int 2), .val (.int n4), .val (.int n6), .val (.int n8), .val (.int n10), .val (.ref b92), .unset, .unset, .unset] [(.int 0)])) := fun t k => P103 t (by
            refine XS.ifNo X103.here hx rfl (hb hby at_176) rfl ((if0 _ _).trans (teq c104).2) ?_
            refine XS.iload X103.here hx rfl (hb hby at_179) rfl ?_
            refine XS.iconst X103.here hx rfl (hb hby at_181) ?_
            refine XS.icmpYes X103.here hx rfl (pc0 := 182) (pc' := 193) rfl (hb hby at_182) rfl (tlt (by decide)).1 (by decide) (by decide) ?_
            refine XS.iload X103.here hx rfl (hb hby at_193) rfl ?_
            refine XS.iconst X103.here hx rfl (hb hby at_195) ?_
            show Steps p.tables e below (T103.setTop (mkF m 196 #[.val (.int i0), .val (.int i1), .val (.int i2), .val (.int i3), .val (.int i4), .val (.int 2), .val (.int n4), .val (.int n6), .val (.int n8), .val (.int n10), .val (.ref b92), .unset, .unset, .unset] [(.int 4), (.int 2)])) t
            refine XS.icmpYes X103.here hx rfl (pc0 := 196) (pc' := 211) rfl (hb hby at_196) rfl (tlt (by decide)).1 (by decide) (by decide) ?_
            refine XS.iconst X103.here hx rfl (hb hby at_211) ?_
            show Steps p.tables e below (T103.setTop (mkF m 212 #[.val (.int i0), .val (.int i1), .val (.int i2), .val (.int i3), .val (.int i4), .val (.int 2), .val (.int n4), .val (.int n6), .val (.int n8), .val (.int n10), .val (.ref b92), .unset, .unset, .unset] [(.int 0)])) t
            exact k)
          exact ⟨T103, _, (0 : Int32), X103, e103, N103, (Eq.symm (Eq.trans (if_pos c101) (if_pos c104))), P105⟩
        · skip
          have P106 : own_Go p e below S0 (T103.setTop (mkF m 212 #[.val (.int i0), .val (.int i1), .val (.int i2), .val (.int i3), .val (.int i4), .val (.int 2), .val (.int n4), .val (.int n6), .val (.int n8), .val (.int n10), .val (.ref b92), .unset, .unset, .unset] [(.int 1)])) := fun t k => P103 t (by
            refine XS.ifYes X103.here hx rfl (pc0 := 176) (pc' := 207) rfl (hb hby at_176) rfl ((if0 _ _).trans (feq c104).2) (by decide) (by decide) ?_
            refine XS.iconst X103.here hx rfl (hb hby at_207) ?_
            refine XS.goto X103.here hx rfl (pc0 := 208) (pc' := 212) rfl (hb hby at_208) (by decide) (by decide) ?_
            show Steps p.tables e below (T103.setTop (mkF m 212 #[.val (.int i0), .val (.int i1), .val (.int i2), .val (.int i3), .val (.int i4), .val (.int 2), .val (.int n4), .val (.int n6), .val (.int n8), .val (.int n10), .val (.ref b92), .unset, .unset, .unset] [(.int 1)])) t
            exact k)
          exact ⟨T103, _, (1 : Int32), X103, e103, N103, (Eq.symm (Eq.trans (if_pos c101) (if_neg c104))), P106⟩
      · skip
        have P107 : own_Go p e below S0 (T100.setTop (mkF m 212 #[.val (.int i0), .val (.int i1), .val (.int i2), .val (.int i3), .val (.int i4), .val (.int 2), .val (.int n4), .val (.int n6), .val (.int n8), .val (.int n10), .val (.ref b92), .unset, .unset, .unset] [(.int 1)])) := fun t k => P100 t (by
          refine XS.ifYes X100.here hx rfl (pc0 := 162) (pc' := 207) rfl (hb hby at_162) rfl ((if0 _ _).trans (feq c101).2) (by decide) (by decide) ?_
          refine XS.iconst X100.here hx rfl (hb hby at_207) ?_
          refine XS.goto X100.here hx rfl (pc0 := 208) (pc' := 212) rfl (hb hby at_208) (by decide) (by decide) ?_
          show Steps p.tables e below (T100.setTop (mkF m 212 #[.val (.int i0), .val (.int i1), .val (.int i2), .val (.int i3), .val (.int i4), .val (.int 2), .val (.int n4), .val (.int n6), .val (.int n8), .val (.int n10), .val (.ref b92), .unset, .unset, .unset] [(.int 1)])) t
          exact k)
        exact ⟨T100, _, (1 : Int32), X100, e100, N100, (Eq.symm (if_neg c101)), P107⟩
    have P109 : own_Go p e below S0 (T108.setTop (mkF m 216 #[.val (.int i0), .val (.int i1), .val (.int i2), .val (.int i3), .val (.int i4), .val (.int 2), .val (.int n4), .val (.int n6), .val (.int n8), .val (.int n10), .val (.ref b92), .val (.int v108_s0), .unset, .unset] [(.int v108_s0)])) := fun t k => P108 t (by
      refine XS.istore X108.here hx rfl (hb hby at_212) rfl (l' := #[.val (.int i0), .val (.int i1), .val (.int i2), .val (.int i3), .val (.int i4), .val (.int 2), .val (.int n4), .val (.int n6), .val (.int n8), .val (.int n10), .val (.ref b92), .val (.int v108_s0), .unset, .unset]) rfl ?_
      refine XS.iload X108.here hx rfl (hb hby at_214) rfl ?_
      show Steps p.tables e below (T108.setTop (mkF m 216 #[.val (.int i0), .val (.int i1), .val (.int i2), .val (.int i3), .val (.int i4), .val (.int 2), .val (.int n4), .val (.int n6), .val (.int n8), .val (.int n10), .val (.ref b92), .val (.int v108_s0), .unset, .unset] [(.int v108_s0)])) t
      exact k)
    obtain ⟨v113_s0, hv113_s0, P113⟩ : ∃ (v113_s0 : Int32), (v113_s0 = (if v108_s0 = (0 : Int32) then (1 : Int32) else (0 : Int32))) ∧ (own_Go p e below S0 (T108.setTop (mkF m 224 #[.val (.int i0), .val (.int i1), .val (.int i2), .val (.int i3), .val (.int i4), .val (.int 2), .val (.int n4), .val (.int n6), .val (.int n8), .val (.int n10), .val (.ref b92), .val (.int v108_s0), .unset, .unset] [(.int v113_s0)]))) := by
      by_cases c110 : v108_s0 = (0 : Int32)
      · skip
        have P111 : own_Go p e below S0 (T108.setTop (mkF m 224 #[.val (.int i0), .val (.int i1), .val (.int i2), .val (.int i3), .val (.int i4), .val (.int 2), .val (.int n4), .val (.int n6), .val (.int n8), .val (.int n10), .val (.ref b92), .val (.int v108_s0), .unset, .unset] [(.int 1)])) := fun t k => P109 t (by
          refine XS.ifNo X108.here hx rfl (hb hby at_216) rfl ((if0 _ _).trans (teq c110).2) ?_
          refine XS.iconst X108.here hx rfl (hb hby at_219) ?_
          refine XS.goto X108.here hx rfl (pc0 := 220) (pc' := 224) rfl (hb hby at_220) (by decide) (by decide) ?_
          show Steps p.tables e below (T108.setTop (mkF m 224 #[.val (.int i0), .val (.int i1), .val (.int i2), .val (.int i3), .val (.int i4), .val (.int 2), .val (.int n4), .val (.int n6), .val (.int n8), .val (.int n10), .val (.ref b92), .val (.int v108_s0), .unset, .unset] [(.int 1)])) t
          exact k)
        exact ⟨(1 : Int32), (Eq.symm (if_pos c110)), P111⟩
      · skip
        have P112 : own_Go p e below S0 (T108.setTop (mkF m 224 #[.val (.int i0), .val (.int i1), .val (.int i2), .val (.int i3), .val (.int i4), .val (.int 2), .val (.int n4), .val (.int n6), .val (.int n8), .val (.int n10), .val (.ref b92), .val (.int v108_s0), .unset, .unset] [(.int 0)])) := fun t k => P109 t (by
          refine XS.ifYes X108.here hx rfl (pc0 := 216) (pc' := 223) rfl (hb hby at_216) rfl ((if0 _ _).trans (feq c110).2) (by decide) (by decide) ?_
          refine XS.iconst X108.here hx rfl (hb hby at_223) ?_
          show Steps p.tables e below (T108.setTop (mkF m 224 #[.val (.int i0), .val (.int i1), .val (.int i2), .val (.int i3), .val (.int i4), .val (.int 2), .val (.int n4), .val (.int n6), .val (.int n8), .val (.int n10), .val (.ref b92), .val (.int v108_s0), .unset, .unset] [(.int 0)])) t
          exact k)
        exact ⟨(0 : Int32), (Eq.symm (if_neg c110)), P112⟩
    have P114 : own_Go p e below S0 (T108.setTop (mkF m 226 #[.val (.int i0), .val (.int i1), .val (.int i2), .val (.int i3), .val (.int i4), .val (.int 2), .val (.int n4), .val (.int n6), .val (.int n8), .val (.int n10), .val (.ref b92), .val (.int v108_s0), .val (.int v113_s0), .unset] [])) := fun t k => P113 t (by
      refine XS.istore X108.here hx rfl (hb hby at_224) rfl (l' := #[.val (.int i0), .val (.int i1), .val (.int i2), .val (.int i3), .val (.int i4), .val (.int 2), .val (.int n4), .val (.int n6), .val (.int n8), .val (.int n10), .val (.ref b92), .val (.int v108_s0), .val (.int v113_s0), .unset]) rfl ?_
      show Steps p.tables e below (T108.setTop (mkF m 226 #[.val (.int i0), .val (.int i1), .val (.int i2), .val (.int i3), .val (.int i4), .val (.int 2), .val (.int n4), .val (.int n6), .val (.int n8), .val (.int n10), .val (.ref b92), .val (.int v108_s0), .val (.int v113_s0), .unset] [])) t
      exact k)
    obtain ⟨T115, h115, X115, e115, E115, A115, D115, -, st115⟩ := newO X108 hx hZ hown (own_w hw 2 rfl) (own_w hw 3 rfl) (own_w hw 4 rfl) e108 (g := (mkF m 226 #[.val (.int i0), .val (.int i1), .val (.int i2), .val (.int i3), .val (.int i4), .val (.int 2), .val (.int n4), .val (.int n6), .val (.int n8), .val (.int n10), .val (.ref b92), .val (.int v108_s0), .val (.int v113_s0), .unset] [])) rfl (hb hby at_226) (by decide) (by decide)
    obtain ⟨b115, g115⟩ : ∃ z, z = h97.size := ⟨_, rfl⟩
    rw [← g115] at A115 D115 st115
    have sz_b115 : h97.size ≤ b115 := Nat.le_of_eq g115.symm
    have ne_b92_b115 : b92 ≠ b115 := Nat.ne_of_lt (Nat.lt_of_lt_of_le V97.lt sz_b115)
    have g_b115 : n0 ≤ b115 := Nat.le_trans (Nat.le_trans Z0 K97.1) sz_b115
    have o_b115 : h0.size ≤ b115 := Nat.le_trans K97.1 sz_b115
    have hk115 : h0.size ≤ h115.size := Nat.le_trans hk97 E115.1
    have K115 : Keep h0 h115 [] := K97.ext E115
    have F115_pattern : Fld Z h115 b115 "com/example/strict_acl/strictacl/NamePattern" "pattern" "Ljava/lang/String;" .null := D115 (Or.inr (own_w hw 37 rfl)) (ty := (.object "java/lang/String")) (by decide)
    have P115 : own_Go p e below S0 (T115.setTop (mkF m 229 #[.val (.int i0), .val (.int i1), .val (.int i2), .val (.int i3), .val (.int i4), .val (.int 2), .val (.int n4), .val (.int n6), .val (.int n8), .val (.int n10), .val (.ref b92), .val (.int v108_s0), .val (.int v113_s0), .unset] [(.ref b115)])) := fun t k => P114 t (st115 _ k)
    have F116 : Arv Z h115 b92 k92 .char (2 : Int32) [(.int (nar .char n4)), (.int (nar .char n6))] (.int 0) := V97.ext E115
    have P117 : own_Go p e below S0 (T115.setTop (mkF m 230 #[.val (.int i0), .val (.int i1), .val (.int i2), .val (.int i3), .val (.int i4), .val (.int 2), .val (.int n4), .val (.int n6), .val (.int n8), .val (.int n10), .val (.ref b92), .val (.int v108_s0), .val (.int v113_s0), .unset] [(.ref b115), (.ref b115)])) := fun t k => P115 t (by
      refine XS.dup X115.here hx rfl (hb hby at_229) rfl rfl ?_
      show Steps p.tables e below (T115.setTop (mkF m 230 #[.val (.int i0), .val (.int i1), .val (.int i2), .val (.int i3), .val (.int i4), .val (.int 2), .val (.int n4), .val (.int n6), .val (.int n8), .val (.int n10), .val (.ref b92), .val (.int v108_s0), .val (.int v113_s0), .unset] [(.ref b115), (.ref b115)])) t
      exact k)
    obtain ⟨T118, h118, X118, e118, E118, A118, D118, -, st118⟩ := newO X115 hx hZ hown (own_w hw 5 rfl) (own_w hw 6 rfl) (own_w hw 7 rfl) e115 (g := (mkF m 230 #[.val (.int i0), .val (.int i1), .val (.int i2), .val (.int i3), .val (.int i4), .val (.int 2), .val (.int n4), .val (.int n6), .val (.int n8), .val (.int n10), .val (.ref b92), .val (.int v108_s0), .val (.int v113_s0), .unset] [(.ref b115), (.ref b115)])) rfl (hb hby at_230) (by decide) (by decide)
    obtain ⟨b118, g118⟩ : ∃ z, z = h115.size := ⟨_, rfl⟩
    rw [← g118] at A118 D118 st118
    have sz_b118 : h115.size ≤ b118 := Nat.le_of_eq g118.symm
    have ne_b92_b118 : b92 ≠ b118 := Nat.ne_of_lt (Nat.lt_of_lt_of_le F116.lt sz_b118)
    have ne_b115_b118 : b115 ≠ b118 := Nat.ne_of_lt (Nat.lt_of_lt_of_le A115.lt sz_b118)
    have g_b118 : n0 ≤ b118 := Nat.le_trans (Nat.le_trans Z0 K115.1) sz_b118
    have o_b118 : h0.size ≤ b118 := Nat.le_trans K115.1 sz_b118
    have hk118 : h0.size ≤ h118.size := Nat.le_trans hk115 E118.1
    have K118 : Keep h0 h118 [] := K115.ext E118
    have F118_value : Fld Z h118 b118 "java/lang/String" "value" "[B" .null := D118 (Or.inr (own_w hw 20 rfl)) (ty := (.array .byte)) (by decide)
    have F118_coder : Fld Z h118 b118 "java/lang/String" "coder" "B" (.int 0) := D118 (Or.inr (own_w hw 21 rfl)) (ty := .byte) (by decide)
    have P118 : own_Go p e below S0 (T118.setTop (mkF m 233 #[.val (.int i0), .val (.int i1), .val (.int i2), .val (.int i3), .val (.int i4), .val (.int 2), .val (.int n4), .val (.int n6), .val (.int n8), .val (.int n10), .val (.ref b92), .val (.int v108_s0), .val (.int v113_s0), .unset] [(.ref b118), (.ref b115), (.ref b115)])) := fun t k => P117 t (st118 _ k)
    have F119 : Arv Z h118 b92 k92 .char (2 : Int32) [(.int (nar .char n4)), (.int (nar .char n6))] (.int 0) := F116.ext E118
    have F120 : Sta Z h92 "java/lang/String" "COMPACT_STRINGS" "Z" (.int zc) := S_COMPACT_STRINGS.ext E92
    have F121 : Sta Z h94 "java/lang/String" "COMPACT_STRINGS" "Z" (.int zc) := F120.wr W94
    have F122 : Sta Z h97 "java/lang/String" "COMPACT_STRINGS" "Z" (.int zc) := F121.wr W97
    have F123 : Sta Z h115 "java/lang/String" "COMPACT_STRINGS" "Z" (.int zc) := F122.ext E115
    have F124 : Sta Z h118 "java/lang/String" "COMPACT_STRINGS" "Z" (.int zc) := F123.ext E118
    have F125 : Exa Z h118 b115 "com/example/strict_acl/strictacl/NamePattern" := A115.ext E118
    have P126 : own_Go p e below S0 (T118.setTop (mkF m 236 #[.val (.int i0), .val (.int i1), .val (.int i2), .val (.int i3), .val (.int i4), .val (.int 2), .val (.int n4), .val (.int n6), .val (.int n8), .val (.int n10), .val (.ref b92), .val (.int v108_s0), .val (.int v113_s0), .unset] [(.ref b92), (.ref b118), (.ref b118), (.ref b115), (.ref b115)])) := fun t k => P118 t (by
      refine XS.dup X118.here hx rfl (hb hby at_233) rfl rfl ?_
      refine XS.aload X118.here hx rfl (hb hby at_234) rfl rfl ?_
      show Steps p.tables e below (T118.setTop (mkF m 236 #[.val (.int i0), .val (.int i1), .val (.int i2), .val (.int i3), .val (.int i4), .val (.int 2), .val (.int n4), .val (.int n6), .val (.int n8), .val (.int n10), .val (.ref b92), .val (.int v108_s0), .val (.int v113_s0), .unset] [(.ref b92), (.ref b118), (.ref b118), (.ref b115), (.ref b115)])) t
      exact k)
    obtain ⟨_, _, ⟨T127, L127, k127, n127⟩, -, X127, ⟨Lc127, hQ127, l127, y127, z127⟩, st127⟩ := X118.specialBack hx (y := (⟨"java/lang/String", "<init>", "([C)V"⟩ : MethodName)) rfl hown (mvT hZ (own_w hw 8 rfl)) (mvT hZ (own_w hw 9 rfl)) (mvT hZ (own_w hw 10 rfl)) (by decide) (backOf (W := 3) (rm1s2 l Z a0 hw [] b118 b92 k92 zc (nar .char n4) (nar .char n6) (.int 0) .null h118 n0 (Nat.le_trans Z0 K118.1) A118 F119 F124 hcs (own_hx hn4) (own_hx hn6) F118_coder g_b118 F118_value) hZ (own_w hw 10 rfl) (own_w hw 7 rfl) (by decide) (by decide)) (g := (mkF m 236 #[.val (.int i0), .val (.int i1), .val (.int i2), .val (.int i3), .val (.int i4), .val (.int 2), .val (.int n4), .val (.int n6), .val (.int n8), .val (.int n10), .val (.ref b92), .val (.int v108_s0), .val (.int v113_s0), .unset] [(.ref b92), (.ref b118), (.ref b118), (.ref b115), (.ref b115)])) rfl (by rw [hml]; rfl) (Steps.refl _) (a := b118) (argsL := [(.ref b92)]) (rest := [(.ref b118), (.ref b115), (.ref b115)]) (lenOf pd_12 rfl) rfl (by show 2 * 0 + _ ≤ _; exact Nat.le_of_eq rfl) (hb hby at_236) (fun _ _ => ⟨rfl, e118, (by decide : 3 + 1 ≤ _), (by decide : 7 + 2 ≤ _)⟩)
    dsimp only [Pt.U, Pt.locs, Pt.cells, Pt.slots] at X127 l127 y127 z127 st127 hQ127
    subst l127 y127 z127
    obtain ⟨b2_7_3_127, k2_7_3_127, rfl, N127q, Kc127, sz_b2_7_3_127, F127_0, F127_1, F127_2⟩ := hQ127
    have N127 := Fr.app N108 N127q
    have ne_b92_b2_7_3_127 : b92 ≠ b2_7_3_127 := Nat.ne_of_lt (Nat.lt_of_lt_of_le F119.lt sz_b2_7_3_127)
    have ne_b115_b2_7_3_127 : b115 ≠ b2_7_3_127 := Nat.ne_of_lt (Nat.lt_of_lt_of_le F125.lt sz_b2_7_3_127)
    have ne_b118_b2_7_3_127 : b118 ≠ b2_7_3_127 := Nat.ne_of_lt (Nat.lt_of_lt_of_le A118.lt sz_b2_7_3_127)
    have g_b2_7_3_127 : n0 ≤ b2_7_3_127 := Nat.le_trans (Nat.le_trans Z0 K118.1) sz_b2_7_3_127
    have o_b2_7_3_127 : h0.size ≤ b2_7_3_127 := Nat.le_trans K118.1 sz_b2_7_3_127
    have hk127 : h0.size ≤ T127.heap.size := Nat.le_trans hk118 Kc127.1
    have K127 : Keep h0 T127.heap [] := Keep.trans K118 Kc127 (allS (Or.inr o_b118) all0)
    have P127 : own_Go p e below S0 (T127.setTop (mkF m 239 #[.val (.int i0), .val (.int i1), .val (.int i2), .val (.int i3), .val (.int i4), .val (.int 2), .val (.int n4), .val (.int n6), .val (.int n8), .val (.int n10), .val (.ref b92), .val (.int v108_s0), .val (.int v113_s0), .unset] [(.ref b118), (.ref b115), (.ref b115)])) := fun t k => P126 t (st127.trans k)
    have F128 : Exa Z T127.heap b118 "java/lang/String" := A118.keep Kc127
    have F129 : Exa Z T127.heap b115 "com/example/strict_acl/strictacl/NamePattern" := F125.keep Kc127
    have F130 : Fld Z h118 b115 "com/example/strict_acl/strictacl/NamePattern" "pattern" "Ljava/lang/String;" .null := F115_pattern.ext E118
    have F131 : Fld Z T127.heap b115 "com/example/strict_acl/strictacl/NamePattern" "pattern" "Ljava/lang/String;" .null := F130.keep Kc127 (ninS ne_b115_b118 nin0)
    obtain ⟨_, _, ⟨T132, L132, k132, n132⟩, -, X132, hSq132, hgr132, ⟨Lc132, hQ132, l132, y132, z132⟩, st132⟩ := X127.specialBackS hx (y := (⟨"com/example/strict_acl/strictacl/NamePattern", "<init>", "(Ljava/lang/String;)V"⟩ : MethodName)) rfl hown (mvT hZ (own_w hw 26 rfl)) (mvT hZ (own_w hw 27 rfl)) (mvT hZ (own_w hw 28 rfl)) (by decide) (backOfS (W := 1) (rm4 l Z a0 hw [] b115 b118 .null T127.heap n0 (Nat.le_trans Z0 K127.1) F128 F129 F131 g_b115) hZ (own_w hw 28 rfl) (own_w hw 4 rfl) (by decide) (by decide)) (g := (mkF m 239 #[.val (.int i0), .val (.int i1), .val (.int i2), .val (.int i3), .val (.int i4), .val (.int 2), .val (.int n4), .val (.int n6), .val (.int n8), .val (.int n10), .val (.ref b92), .val (.int v108_s0), .val (.int v113_s0), .unset] [(.ref b118), (.ref b115), (.ref b115)])) rfl (by rw [hml]; rfl) (Steps.refl _) (a := b115) (argsL := [(.ref b118)]) (rest := [(.ref b115)]) (lenOf pd_13 rfl) rfl (by show 2 * 0 + _ ≤ _; exact Nat.le_of_eq rfl) (hb hby at_239) (fun _ _ => ⟨rfl, rfl, (by decide : 4 + 2 ≤ _), (by decide : 9 + 32 ≤ _)⟩)
    dsimp only [Pt.U, Pt.locs, Pt.cells, Pt.slots] at X132 l132 y132 z132 st132 hQ132 hSq132 hgr132
    subst l132 y132 z132
    obtain ⟨hS132, hZ132, hown132⟩ := own_fold hS0 hSq132 (Nat.le_trans hk127 hgr132) hZ hown
    replace X132 := own_flat X132
    obtain ⟨rfl, N132q, Kc132, F132_0⟩ := hQ132
    have N132 := Fr.app N127 N132q
    have K132 : Keep h0 T132.heap [] := Keep.trans K127 Kc132 (allS (Or.inr o_b115) all0)
    have P132 : own_Go p e below S0 (T132.setTop (mkF m 242 #[.val (.int i0), .val (.int i1), .val (.int i2), .val (.int i3), .val (.int i4), .val (.int 2), .val (.int n4), .val (.int n6), .val (.int n8), .val (.int n10), .val (.ref b92), .val (.int v108_s0), .val (.int v113_s0), .unset] [(.ref b115)])) := fun t k => P127 t (st132.trans k)
    have F133 : Exa Z T132.heap b115 "com/example/strict_acl/strictacl/NamePattern" := F129.keep Kc132
    have F134 : Fld Z T132.heap b118 "java/lang/String" "value" "[B" (.ref b2_7_3_127) := F127_2.keep Kc132 (ninS (Ne.symm ne_b115_b118) nin0)
    have F135 : Arv Z T132.heap b2_7_3_127 k2_7_3_127 .byte (2 : Int32) [(.int (nar .byte ((nar .char n4).toInt8.toInt32))), (.int (nar .byte ((nar .char n6).toInt8.toInt32)))] (.int 0) := F127_0.keep Kc132 (ninS (Ne.symm ne_b115_b2_7_3_127) nin0)
    have F136 : Sta Z T127.heap "java/lang/String" "COMPACT_STRINGS" "Z" (.int zc) := own_staK F124 Kc127 (allS (own_plE A118) all0)
    have F137 : Sta Z T132.heap "java/lang/String" "COMPACT_STRINGS" "Z" (.int zc) := own_staK F136 Kc132 (allS (own_plE F129) all0)
    have F138 : Fld Z T132.heap b118 "java/lang/String" "coder" "B" (.int 0) := F127_1.keep Kc132 (ninS (Ne.symm ne_b115_b118) nin0)
    have F139 : Exa Z T132.heap b118 "java/lang/String" := F128.keep Kc132
    have P140 : own_Go p e below S0 (T132.setTop (mkF m 246 #[.val (.int i0), .val (.int i1), .val (.int i2), .val (.int i3), .val (.int i4), .val (.int 2), .val (.int n4), .val (.int n6), .val (.int n8), .val (.int n10), .val (.ref b92), .val (.int v108_s0), .val (.int v113_s0), .val (.ref b115)] [(.ref b115)])) := fun t k => P132 t (by
      refine XS.astore X132.here hx rfl (hb hby at_242) rfl rfl (l' := #[.val (.int i0), .val (.int i1), .val (.int i2), .val (.int i3), .val (.int i4), .val (.int 2), .val (.int n4), .val (.int n6), .val (.int n8), .val (.int n10), .val (.ref b92), .val (.int v108_s0), .val (.int v113_s0), .val (.ref b115)]) rfl ?_
      refine XS.aload X132.here hx rfl (hb hby at_244) rfl rfl ?_
      show Steps p.tables e below (T132.setTop (mkF m 246 #[.val (.int i0), .val (.int i1), .val (.int i2), .val (.int i3), .val (.int i4), .val (.int 2), .val (.int n4), .val (.int n6), .val (.int n8), .val (.int n10), .val (.ref b92), .val (.int v108_s0), .val (.int v113_s0), .val (.ref b115)] [(.ref b115)])) t
      exact k)
    obtain ⟨cq141, kq141, q141a, q141b, q141c⟩ := isOf hZ132 rfl F133
    obtain ⟨_, _, ⟨T141, L141, k141, n141⟩, -, X141, ⟨Lc141, hQ141, l141, y141, z141⟩, st141⟩ := X132.virtualBack hx (y := (⟨"com/example/strict_acl/strictacl/NamePattern", "isLiteral", "()Z"⟩ : MethodName)) (z := (⟨"com/example/strict_acl/strictacl/NamePattern", "isLiteral", "()Z"⟩ : MethodName)) hown132 (mvT hZ132 (own_w hw 38 rfl)) (mvT hZ132 (own_w hw 39 rfl)) (notFace_of_selects (args := #[]) (mvT hZ132 (own_w hw 41 rfl))) (mvT hZ132 (own_w hw 41 rfl)) (mvT hZ132 (own_w hw 40 rfl)) (by decide) (backOf (W := 0) (rm6n2 l Z a0 hw [] b115 b118 b2_7_3_127 k2_7_3_127 (nar .byte ((nar .char n4).toInt8.toInt32)) (nar .byte ((nar .char n6).toInt8.toInt32)) zc T132.heap n0 (Nat.le_trans Z0 K132.1) F132_0 F134 F135 F137 hcs F138 F139) hZ132 (own_w hw 42 rfl) (own_w hw 4 rfl) (by decide) (by decide)) q141a q141c (g := (mkF m 246 #[.val (.int i0), .val (.int i1), .val (.int i2), .val (.int i3), .val (.int i4), .val (.int 2), .val (.int n4), .val (.int n6), .val (.int n8), .val (.int n10), .val (.ref b92), .val (.int v108_s0), .val (.int v113_s0), .val (.ref b115)] [(.ref b115)])) rfl (by rw [hml]; rfl) (Steps.refl _) (argsL := []) (rest := []) (lenOf pd_8 rfl) rfl (by show 2 * 0 + _ ≤ _; exact Nat.le_of_eq rfl) (hb hby at_246) (fun _ _ => ⟨rfl, rfl, (by decide : 6 + 0 ≤ _), (by decide : 41 + 0 ≤ _)⟩)
    dsimp only [Pt.U, Pt.locs, Pt.cells, Pt.slots] at X141 l141 y141 z141 st141 hQ141
    subst l141 y141 z141
    obtain ⟨rfl, N141q, e141⟩ := hQ141
    have N141 := Fr.app N132 N141q
    have P141 : own_Go p e below S0 (T141.setTop (mkF m 249 #[.val (.int i0), .val (.int i1), .val (.int i2), .val (.int i3), .val (.int i4), .val (.int 2), .val (.int n4), .val (.int n6), .val (.int n8), .val (.int n10), .val (.ref b92), .val (.int v108_s0), .val (.int v113_s0), .val (.ref b115)] [(.int (r6n2 (nar .byte ((nar .char n4).toInt8.toInt32)) (nar .byte ((nar .char n6).toInt8.toInt32))))])) := fun t k => P140 t (st141.trans k)
    have c142 : (r6n2 (nar .byte ((nar .char n4).toInt8.toInt32)) (nar .byte ((nar .char n6).toInt8.toInt32))) = v113_s0 := by rw [hv113_s0, hv108_s0]; exact own_law2 _ _ (own_nb hn4) _ _ (own_nb hn6)
    have P143 : own_Go p e below S0 (T141.setTop (mkF m 259 #[.val (.int i0), .val (.int i1), .val (.int i2), .val (.int i3), .val (.int i4), .val (.int 2), .val (.int n4), .val (.int n6), .val (.int n8), .val (.int n10), .val (.ref b92), .val (.int v108_s0), .val (.int v113_s0), .val (.ref b115)] [(.int 1)])) := fun t k => P141 t (by
      refine XS.iload X141.here hx rfl (hb hby at_249) rfl ?_
      refine XS.icmpNo X141.here hx rfl (hb hby at_251) rfl (teq c142).2 ?_
      refine XS.iconst X141.here hx rfl (hb hby at_254) ?_
      refine XS.goto X141.here hx rfl (pc0 := 255) (pc' := 259) rfl (hb hby at_255) (by decide) (by decide) ?_
      show Steps p.tables e below (T141.setTop (mkF m 259 #[.val (.int i0), .val (.int i1), .val (.int i2), .val (.int i3), .val (.int i4), .val (.int 2), .val (.int n4), .val (.int n6), .val (.int n8), .val (.int n10), .val (.ref b92), .val (.int v108_s0), .val (.int v113_s0), .val (.ref b115)] [(.int 1)])) t
      exact k)
    have F144 : Arv Z T127.heap b92 k92 .char (2 : Int32) [(.int (nar .char n4)), (.int (nar .char n6))] (.int 0) := F119.keep Kc127 (ninS ne_b92_b118 nin0)
    have F145 : Arv Z T132.heap b92 k92 .char (2 : Int32) [(.int (nar .char n4)), (.int (nar .char n6))] (.int 0) := F144.keep Kc132 (ninS ne_b92_b115 nin0)
    obtain ⟨fs, hr, hrun, hended, hend⟩ := X141.leaveW hS132 (by rw [e141]; exact (Nat.le_refl _)) (v := some (.int 1)) (fun h => by rw [Bd.returns] at h; cases h) (BodyLoose.notSynchronized Bd)
    refine ⟨_, _, own_from hE0 (P143 _ ?_), hrun, hended, _, _, rfl, ?_, hend.1, hend.2.1, hend.2.2.1, hend.2.2.2.mono (by decide) (by decide)⟩
    · show Steps p.tables e below (T141.setTop (mkF m 259 #[.val (.int i0), .val (.int i1), .val (.int i2), .val (.int i3), .val (.int i4), .val (.int 2), .val (.int n4), .val (.int n6), .val (.int n8), .val (.int n10), .val (.ref b92), .val (.int v108_s0), .val (.int v113_s0), .val (.ref b115)] [(.int 1)])) _
      exact retN X141 hx (t := .boolean) Bd.returns (by simp) (hb hby at_259) hr
    · show Q0 Z i0 i1 i2 i3 i4 zc h0 n0 _ T141.heap _
      rw [e141]
      exact ⟨rfl, N141⟩
  · skip
    subst c11
    have P146 : own_Go p e below S0 (s₁.setTop (mkF m 104 #[.val (.int i0), .val (.int i1), .val (.int i2), .val (.int i3), .val (.int i4), .val (.int 3), .val (.int n4), .val (.int n6), .val (.int n8), .val (.int n10), .unset, .unset, .unset, .unset] [(.int 3)])) := fun t k => P10 t (by
      refine XS.iload X0.here hx rfl (hb hby at_41) rfl ?_
      refine XS.ifYes X0.here hx rfl (pc0 := 43) (pc' := 54) rfl (hb hby at_43) rfl ((if0 _ _).trans (feq (by decide)).2) (by decide) (by decide) ?_
      refine XS.iload X0.here hx rfl (hb hby at_54) rfl ?_
      refine XS.iconst X0.here hx rfl (hb hby at_56) ?_
      refine XS.icmpYes X0.here hx rfl (pc0 := 57) (pc' := 73) rfl (hb hby at_57) rfl (feq (by decide)).2 (by decide) (by decide) ?_
      refine XS.iload X0.here hx rfl (hb hby at_73) rfl ?_
      show Steps p.tables e below (s₁.setTop (mkF m 75 #[.val (.int i0), .val (.int i1), .val (.int i2), .val (.int i3), .val (.int i4), .val (.int 3), .val (.int n4), .val (.int n6), .val (.int n8), .val (.int n10), .unset, .unset, .unset, .unset] [(.int 3)])) t
      refine XS.iconst X0.here hx rfl (hb hby at_75) ?_
      refine XS.icmpYes X0.here hx rfl (pc0 := 76) (pc' := 97) rfl (hb hby at_76) rfl (feq (by decide)).2 (by decide) (by decide) ?_
      refine XS.iload X0.here hx rfl (hb hby at_97) rfl ?_
      refine XS.iconst X0.here hx rfl (hb hby at_99) ?_
      refine XS.icmpNo X0.here hx rfl (hb hby at_100) rfl (teq (by decide)).2 ?_
      refine XS.iconst X0.here hx rfl (hb hby at_103) ?_
      show Steps p.tables e below (s₁.setTop (mkF m 104 #[.val (.int i0), .val (.int i1), .val (.int i2), .val (.int i3), .val (.int i4), .val (.int 3), .val (.int n4), .val (.int n6), .val (.int n8), .val (.int n10), .unset, .unset, .unset, .unset] [(.int 3)])) t
      exact k)
    obtain ⟨T147, h147, k147, X147, e147, E147, A147, st147⟩ := newP X0 hx hZ (own_w hw 1 rfl) e0 (g := (mkF m 104 #[.val (.int i0), .val (.int i1), .val (.int i2), .val (.int i3), .val (.int i4), .val (.int 3), .val (.int n4), .val (.int n6), .val (.int n8), .val (.int n10), .unset, .unset, .unset, .unset] [(.int 3)])) rfl (hb hby at_104) rfl (by decide) (cap := 3) (by decide) (by decide) (by decide) (by decide)
    obtain ⟨b147, g147⟩ : ∃ z, z = h0.size := ⟨_, rfl⟩
    rw [← g147] at A147 st147
    have sz_b147 : h0.size ≤ b147 := Nat.le_of_eq g147.symm
    have g_b147 : n0 ≤ b147 := Nat.le_trans Z0 sz_b147
    have o_b147 : h0.size ≤ b147 := sz_b147
    have hk147 : h0.size ≤ h147.size := Nat.le_trans (Nat.le_refl _) E147.1
    have HC147 := CHv.ext E147 hC0
    have K147 : Keep h0 h147 [] := (Keep.refl h0 []).ext E147
    have V147 : Arv Z h147 b147 k147 .char (3 : Int32) [(.int 0), (.int 0), (.int 0)] (.int 0) := (Arv.new A147 (by decide)).pad (pad_rep [] (.int 0) 3)
    have P147 : own_Go p e below S0 (T147.setTop (mkF m 106 #[.val (.int i0), .val (.int i1), .val (.int i2), .val (.int i3), .val (.int i4), .val (.int 3), .val (.int n4), .val (.int n6), .val (.int n8), .val (.int n10), .unset, .unset, .unset, .unset] [(.ref b147)])) := fun t k => P146 t (st147 _ k)
    have P148 : own_Go p e below S0 (T147.setTop (mkF m 110 #[.val (.int i0), .val (.int i1), .val (.int i2), .val (.int i3), .val (.int i4), .val (.int 3), .val (.int n4), .val (.int n6), .val (.int n8), .val (.int n10), .unset, .unset, .unset, .unset] [(.int n4), (.int 0), (.ref b147), (.ref b147)])) := fun t k => P147 t (by
      refine XS.dup X147.here hx rfl (hb hby at_106) rfl rfl ?_
      refine XS.iconst X147.here hx rfl (hb hby at_107) ?_
      refine XS.iload X147.here hx rfl (hb hby at_108) rfl ?_
      show Steps p.tables e below (T147.setTop (mkF m 110 #[.val (.int i0), .val (.int i1), .val (.int i2), .val (.int i3), .val (.int i4), .val (.int 3), .val (.int n4), .val (.int n6), .val (.int n8), .val (.int n10), .unset, .unset, .unset, .unset] [(.int n4), (.int 0), (.ref b147), (.ref b147)])) t
      exact k)
    obtain ⟨cl150, Ar150, q150, Sz150, Nn150, Hh150, Gg150⟩ := id V147
    have hin150 : ¬ ((0 : Int32) < 0 ∨ cl150.slots.size ≤ ((0 : Int32)).toNatClampNeg) := inb_of Sz150 ⟨by decide, by decide⟩
    obtain ⟨T149, h149, X149, e149, W149, st149⟩ := stC X147 hx hZ e147 Ar150 (j := (0 : Int32)) hin150 (g := (mkF m 110 #[.val (.int i0), .val (.int i1), .val (.int i2), .val (.int i3), .val (.int i4), .val (.int 3), .val (.int n4), .val (.int n6), .val (.int n8), .val (.int n10), .unset, .unset, .unset, .unset] [(.int n4), (.int 0), (.ref b147), (.ref b147)])) rfl rfl (hb hby at_110)
    have hk149 : h0.size ≤ h149.size := Nat.le_trans hk147 (Keep.of_wr W149).1
    have K149 : Keep h0 h149 [] := K147.wr W149 (Or.inr o_b147)
    have N149 := Fr.snoc X149 N0 g_b147
    have V149 : Arv Z h149 b147 k147 .char (3 : Int32) [(.int (nar .char n4)), (.int 0), (.int 0)] (.int 0) := Arv.set Ar150 q150 Sz150 Nn150 Hh150 Gg150 (fits_nar_char _) W149 0 rfl (Nat.le_of_ble_eq_true rfl)
    have P149 : own_Go p e below S0 (T149.setTop (mkF m 111 #[.val (.int i0), .val (.int i1), .val (.int i2), .val (.int i3), .val (.int i4), .val (.int 3), .val (.int n4), .val (.int n6), .val (.int n8), .val (.int n10), .unset, .unset, .unset, .unset] [(.ref b147)])) := fun t k => P148 t (st149 _ k)
    have P151 : own_Go p e below S0 (T149.setTop (mkF m 115 #[.val (.int i0), .val (.int i1), .val (.int i2), .val (.int i3), .val (.int i4), .val (.int 3), .val (.int n4), .val (.int n6), .val (.int n8), .val (.int n10), .unset, .unset, .unset, .unset] [(.int n6), (.int 1), (.ref b147), (.ref b147)])) := fun t k => P149 t (by
      refine XS.dup X149.here hx rfl (hb hby at_111) rfl rfl ?_
      refine XS.iconst X149.here hx rfl (hb hby at_112) ?_
      refine XS.iload X149.here hx rfl (hb hby at_113) rfl ?_
      show Steps p.tables e below (T149.setTop (mkF m 115 #[.val (.int i0), .val (.int i1), .val (.int i2), .val (.int i3), .val (.int i4), .val (.int 3), .val (.int n4), .val (.int n6), .val (.int n8), .val (.int n10), .unset, .unset, .unset, .unset] [(.int n6), (.int 1), (.ref b147), (.ref b147)])) t
      exact k)
    obtain ⟨cl153, Ar153, q153, Sz153, Nn153, Hh153, Gg153⟩ := id V149
    have hin153 : ¬ ((1 : Int32) < 0 ∨ cl153.slots.size ≤ ((1 : Int32)).toNatClampNeg) := inb_of Sz153 ⟨by decide, by decide⟩
    obtain ⟨T152, h152, X152, e152, W152, st152⟩ := stC X149 hx hZ e149 Ar153 (j := (1 : Int32)) hin153 (g := (mkF m 115 #[.val (.int i0), .val (.int i1), .val (.int i2), .val (.int i3), .val (.int i4), .val (.int 3), .val (.int n4), .val (.int n6), .val (.int n8), .val (.int n10), .unset, .unset, .unset, .unset] [(.int n6), (.int 1), (.ref b147), (.ref b147)])) rfl rfl (hb hby at_115)
    have hk152 : h0.size ≤ h152.size := Nat.le_trans hk149 (Keep.of_wr W152).1
    have K152 : Keep h0 h152 [] := K149.wr W152 (Or.inr o_b147)
    have N152 := Fr.snoc X152 N149 g_b147
    have V152 : Arv Z h152 b147 k147 .char (3 : Int32) [(.int (nar .char n4)), (.int (nar .char n6)), (.int 0)] (.int 0) := Arv.set Ar153 q153 Sz153 Nn153 Hh153 Gg153 (fits_nar_char _) W152 1 rfl (Nat.le_of_ble_eq_true rfl)
    have P152 : own_Go p e below S0 (T152.setTop (mkF m 116 #[.val (.int i0), .val (.int i1), .val (.int i2), .val (.int i3), .val (.int i4), .val (.int 3), .val (.int n4), .val (.int n6), .val (.int n8), .val (.int n10), .unset, .unset, .unset, .unset] [(.ref b147)])) := fun t k => P151 t (st152 _ k)
    have P154 : own_Go p e below S0 (T152.setTop (mkF m 120 #[.val (.int i0), .val (.int i1), .val (.int i2), .val (.int i3), .val (.int i4), .val (.int 3), .val (.int n4), .val (.int n6), .val (.int n8), .val (.int n10), .unset, .unset, .unset, .unset] [(.int n8), (.int 2), (.ref b147), (.ref b147)])) := fun t k => P152 t (by
      refine XS.dup X152.here hx rfl (hb hby at_116) rfl rfl ?_
      refine XS.iconst X152.here hx rfl (hb hby at_117) ?_
      refine XS.iload X152.here hx rfl (hb hby at_118) rfl ?_
      show Steps p.tables e below (T152.setTop (mkF m 120 #[.val (.int i0), .val (.int i1), .val (.int i2), .val (.int i3), .val (.int i4), .val (.int 3), .val (.int n4), .val (.int n6), .val (.int n8), .val (.int n10), .unset, .unset, .unset, .unset] [(.int n8), (.int 2), (.ref b147), (.ref b147)])) t
      exact k)
    obtain ⟨cl156, Ar156, q156, Sz156, Nn156, Hh156, Gg156⟩ := id V152
    have hin156 : ¬ ((2 : Int32) < 0 ∨ cl156.slots.size ≤ ((2 : Int32)).toNatClampNeg) := inb_of Sz156 ⟨by decide, by decide⟩
    obtain ⟨T155, h155, X155, e155, W155, st155⟩ := stC X152 hx hZ e152 Ar156 (j := (2 : Int32)) hin156 (g := (mkF m 120 #[.val (.int i0), .val (.int i1), .val (.int i2), .val (.int i3), .val (.int i4), .val (.int 3), .val (.int n4), .val (.int n6), .val (.int n8), .val (.int n10), .unset, .unset, .unset, .unset] [(.int n8), (.int 2), (.ref b147), (.ref b147)])) rfl rfl (hb hby at_120)
    have hk155 : h0.size ≤ h155.size := Nat.le_trans hk152 (Keep.of_wr W155).1
    have K155 : Keep h0 h155 [] := K152.wr W155 (Or.inr o_b147)
    have N155 := Fr.snoc X155 N152 g_b147
    have V155 : Arv Z h155 b147 k147 .char (3 : Int32) [(.int (nar .char n4)), (.int (nar .char n6)), (.int (nar .char n8))] (.int 0) := Arv.set Ar156 q156 Sz156 Nn156 Hh156 Gg156 (fits_nar_char _) W155 2 rfl (Nat.le_of_ble_eq_true rfl)
    have P155 : own_Go p e below S0 (T155.setTop (mkF m 121 #[.val (.int i0), .val (.int i1), .val (.int i2), .val (.int i3), .val (.int i4), .val (.int 3), .val (.int n4), .val (.int n6), .val (.int n8), .val (.int n10), .unset, .unset, .unset, .unset] [(.ref b147)])) := fun t k => P154 t (st155 _ k)
    have P157 : own_Go p e below S0 (T155.setTop (mkF m 159 #[.val (.int i0), .val (.int i1), .val (.int i2), .val (.int i3), .val (.int i4), .val (.int 3), .val (.int n4), .val (.int n6), .val (.int n8), .val (.int n10), .val (.ref b147), .unset, .unset, .unset] [(.int n4)])) := fun t k => P155 t (by
      refine XS.astore X155.here hx rfl (hb hby at_121) rfl rfl (l' := #[.val (.int i0), .val (.int i1), .val (.int i2), .val (.int i3), .val (.int i4), .val (.int 3), .val (.int n4), .val (.int n6), .val (.int n8), .val (.int n10), .val (.ref b147), .unset, .unset, .unset]) rfl ?_
      refine XS.goto X155.here hx rfl (pc0 := 123) (pc' := 151) rfl (hb hby at_123) (by decide) (by decide) ?_
      refine XS.iload X155.here hx rfl (hb hby at_151) rfl ?_
      refine XS.iconst X155.here hx rfl (hb hby at_153) ?_
      refine XS.icmpNo X155.here hx rfl (hb hby at_154) rfl (flt (by decide)).1 ?_
      refine XS.iload X155.here hx rfl (hb hby at_157) rfl ?_
      show Steps p.tables e below (T155.setTop (mkF m 159 #[.val (.int i0), .val (.int i1), .val (.int i2), .val (.int i3), .val (.int i4), .val (.int 3), .val (.int n4), .val (.int n6), .val (.int n8), .val (.int n10), .val (.ref b147), .unset, .unset, .unset] [(.int n4)])) t
      exact k)
    obtain ⟨_, _, ⟨T158, L158, k158, n158⟩, -, X158, ⟨Lc158, hQ158, l158, y158, z158⟩, st158⟩ := Jvm.LawKit.callS X155 hx (y := (⟨"com/example/strict_acl/strictacl/NamePatternIsLiteralPinLaw", "wild", "(C)Z"⟩ : MethodName)) hown (mvT hZ (own_w hw 83 rfl)) (mvT hZ (own_w hw 84 rfl)) (mvT hZ (own_w hw 85 rfl)) (mvT hZ (own_w hw 86 rfl)) (by decide) (backOf (W := 0) (rm16 l Z a0 hw [] n4 h155 n0 (Nat.le_trans Z0 K155.1)) hZ (own_w hw 86 rfl) (own_w hw 85 rfl) (by decide) (by decide)) (g := (mkF m 159 #[.val (.int i0), .val (.int i1), .val (.int i2), .val (.int i3), .val (.int i4), .val (.int 3), .val (.int n4), .val (.int n6), .val (.int n8), .val (.int n10), .val (.ref b147), .unset, .unset, .unset] [(.int n4)])) rfl (by rw [hml]; rfl) (argsL := [(.int n4)]) (rest := []) (lenOf pd_14 rfl) rfl (by show 2 * 0 + _ ≤ _; exact Nat.le_of_eq rfl) (hb hby at_159) (fun _ _ => ⟨rfl, e155, (by decide : 1 + 0 ≤ _), (by decide : 3 + 0 ≤ _)⟩)
    dsimp only [Pt.U, Pt.locs, Pt.cells, Pt.slots] at X158 l158 y158 z158 st158 hQ158
    subst l158 y158 z158
    obtain ⟨rfl, N158q, e158⟩ := hQ158
    have N158 := Fr.app N155 N158q
    have P158 : own_Go p e below S0 (T158.setTop (mkF m 162 #[.val (.int i0), .val (.int i1), .val (.int i2), .val (.int i3), .val (.int i4), .val (.int 3), .val (.int n4), .val (.int n6), .val (.int n8), .val (.int n10), .val (.ref b147), .unset, .unset, .unset] [(.int (own_wild n4))])) := fun t k => P157 t (st158 _ k)
    obtain ⟨T170, lo170, v170_s0, X170, e170, N170, hv170_s0, P170⟩ : ∃ (T170 : State) (lo170 : List Loc) (v170_s0 : Int32), (Stand p l e room_1 (s.setVm s.vm) m #[(.int i0), (.int i1), (.int i2), (.int i3), (.int i4)] below meth c T170 lo170 1 3) ∧ (T170.heap = h155) ∧ (Fr n0 lo170) ∧ (v170_s0 = (if (own_wild n4) = (0 : Int32) then (if (own_wild n6) = (0 : Int32) then (if (own_wild n8) = (0 : Int32) then (0 : Int32) else (1 : Int32)) else (1 : Int32)) else (1 : Int32))) ∧ (own_Go p e below S0 (T170.setTop (mkF m 212 #[.val (.int i0), .val (.int i1), .val (.int i2), .val (.int i3), .val (.int i4), .val (.int 3), .val (.int n4), .val (.int n6), .val (.int n8), .val (.int n10), .val (.ref b147), .unset, .unset, .unset] [(.int v170_s0)]))) := by
      by_cases c159 : (own_wild n4) = (0 : Int32)
      · skip
        have P160 : own_Go p e below S0 (T158.setTop (mkF m 173 #[.val (.int i0), .val (.int i1), .val (.int i2), .val (.int i3), .val (.int i4), .val (.int 3), .val (.int n4), .val (.int n6), .val (.int n8), .val (.int n10), .val (.ref b147), .unset, .unset, .unset] [(.int n6)])) := fun t k => P158 t (by
          refine XS.ifNo X158.here hx rfl (hb hby at_162) rfl ((if0 _ _).trans (teq c159).2) ?_
          refine XS.iload X158.here hx rfl (hb hby at_165) rfl ?_
          refine XS.iconst X158.here hx rfl (hb hby at_167) ?_
          refine XS.icmpNo X158.here hx rfl (hb hby at_168) rfl (flt (by decide)).1 ?_
          refine XS.iload X158.here hx rfl (hb hby at_171) rfl ?_
          show Steps p.tables e below (T158.setTop (mkF m 173 #[.val (.int i0), .val (.int i1), .val (.int i2), .val (.int i3), .val (.int i4), .val (.int 3), .val (.int n4), .val (.int n6), .val (.int n8), .val (.int n10), .val (.ref b147), .unset, .unset, .unset] [(.int n6)])) t
          exact k)
        obtain ⟨_, _, ⟨T161, L161, k161, n161⟩, -, X161, ⟨Lc161, hQ161, l161, y161, z161⟩, st161⟩ := Jvm.LawKit.callS X158 hx (y := (⟨"com/example/strict_acl/strictacl/NamePatternIsLiteralPinLaw", "wild", "(C)Z"⟩ : MethodName)) hown (mvT hZ (own_w hw 83 rfl)) (mvT hZ (own_w hw 84 rfl)) (mvT hZ (own_w hw 85 rfl)) (mvT hZ (own_w hw 86 rfl)) (by decide) (backOf (W := 0) (rm16 l Z a0 hw [] n6 h155 n0 (Nat.le_trans Z0 K155.1)) hZ (own_w hw 86 rfl) (own_w hw 85 rfl) (by decide) (by decide)) (g := (mkF m 173 #[.val (.int i0), .val (.int i1), .val (.int i2), .val (.int i3), .val (.int i4), .val (.int 3), .val (.int n4), .val (.int n6), .val (.int n8), .val (.int n10), .val (.ref b147), .unset, .unset, .unset] [(.int n6)])) rfl (by rw [hml]; rfl) (argsL := [(.int n6)]) (rest := []) (lenOf pd_14 rfl) rfl (by show 2 * 0 + _ ≤ _; exact Nat.le_of_eq rfl) (hb hby at_173) (fun _ _ => ⟨rfl, e158, (by decide : 1 + 0 ≤ _), (by decide : 3 + 0 ≤ _)⟩)
        dsimp only [Pt.U, Pt.locs, Pt.cells, Pt.slots] at X161 l161 y161 z161 st161 hQ161
        subst l161 y161 z161
        obtain ⟨rfl, N161q, e161⟩ := hQ161
        have N161 := Fr.app N158 N161q
        have P161 : own_Go p e below S0 (T161.setTop (mkF m 176 #[.val (.int i0), .val (.int i1), .val (.int i2), .val (.int i3), .val (.int i4), .val (.int 3), .val (.int n4), .val (.int n6), .val (.int n8), .val (.int n10), .val (.ref b147), .unset, .unset, .unset] [(.int (own_wild n6))])) := fun t k => P160 t (st161 _ k)
        by_cases c162 : (own_wild n6) = (0 : Int32)
        · skip
          have P163 : own_Go p e below S0 (T161.setTop (mkF m 187 #[.val (.int i0), .val (.int i1), .val (.int i2), .val (.int i3), .val (.int i4), .val (.int 3), .val (.int n4), .val (.int n6), .val (.int n8), .val (.int n10), .val (.ref b147), .unset, .unset, .unset] [(.int n8)])) := fun t k => P161 t (by
            refine XS.ifNo X161.here hx rfl (hb hby at_176) rfl ((if0 _ _).trans (teq c162).2) ?_
            refine XS.iload X161.here hx rfl (hb hby at_179) rfl ?_
            refine XS.iconst X161.here hx rfl (hb hby at_181) ?_
            refine XS.icmpNo X161.here hx rfl (hb hby at_182) rfl (flt (by decide)).1 ?_
            refine XS.iload X161.here hx rfl (hb hby at_185) rfl ?_
            show Steps p.tables e below (T161.setTop (mkF m 187 #[.val (.int i0), .val (.int i1), .val (.int i2), .val (.int i3), .val (.int i4), .val (.int 3), .val (.int n4), .val (.int n6), .val (.int n8), .val (.int n10), .val (.ref b147), .unset, .unset, .unset] [(.int n8)])) t
            exact k)
          obtain ⟨_, _, ⟨T164, L164, k164, n164⟩, -, X164, ⟨Lc164, hQ164, l164, y164, z164⟩, st164⟩ := Jvm.LawKit.callS X161 hx (y := (⟨"com/example/strict_acl/strictacl/NamePatternIsLiteralPinLaw", "wild", "(C)Z"⟩ : MethodName)) hown (mvT hZ (own_w hw 83 rfl)) (mvT hZ (own_w hw 84 rfl)) (mvT hZ (own_w hw 85 rfl)) (mvT hZ (own_w hw 86 rfl)) (by decide) (backOf (W := 0) (rm16 l Z a0 hw [] n8 h155 n0 (Nat.le_trans Z0 K155.1)) hZ (own_w hw 86 rfl) (own_w hw 85 rfl) (by decide) (by decide)) (g := (mkF m 187 #[.val (.int i0), .val (.int i1), .val (.int i2), .val (.int i3), .val (.int i4), .val (.int 3), .val (.int n4), .val (.int n6), .val (.int n8), .val (.int n10), .val (.ref b147), .unset, .unset, .unset] [(.int n8)])) rfl (by rw [hml]; rfl) (argsL := [(.int n8)]) (rest := []) (lenOf pd_14 rfl) rfl (by show 2 * 0 + _ ≤ _; exact Nat.le_of_eq rfl) (hb hby at_187) (fun _ _ => ⟨rfl, e161, (by decide : 1 + 0 ≤ _), (by decide : 3 + 0 ≤ _)⟩)
          dsimp only [Pt.U, Pt.locs, Pt.cells, Pt.slots] at X164 l164 y164 z164 st164 hQ164
          subst l164 y164 z164
          obtain ⟨rfl, N164q, e164⟩ := hQ164
          have N164 := Fr.app N161 N164q
          have P164 : own_Go p e below S0 (T164.setTop (mkF m 190 #[.val (.int i0), .val (.int i1), .val (.int i2), .val (.int i3), .val (.int i4), .val (.int 3), .val (.int n4), .val (.int n6), .val (.int n8), .val (.int n10), .val (.ref b147), .unset, .unset, .unset] [(.int (own_wild n8))])) := fun t k => P163 t (st164 _ k)
          by_cases c165 : (own_wild n8) = (0 : Int32)
          · skip
            have P166 : own_Go p e below S0 (T164.setTop (mkF m 212 #[.val (.int i0), .val (.int i1), .val (.int i2), .val (.int i3), .val (.int i4), .val (.int 3), .val (.int n4), .val (.int n6), .val (.int n8), .val (.int n10), .val (.ref b147), .unset, .unset, .unset] [(.int 0)])) := fun t k => P164 t (by
              refine XS.ifNo X164.here hx rfl (hb hby at_190) rfl ((if0 _ _).trans (teq c165).2) ?_
              refine XS.iload X164.here hx rfl (hb hby at_193) rfl ?_
              refine XS.iconst X164.here hx rfl (hb hby at_195) ?_
              refine XS.icmpYes X164.here hx rfl (pc0 := 196) (pc' := 211) rfl (hb hby at_196) rfl (tlt (by decide)).1 (by decide) (by decide) ?_
              refine XS.iconst X164.here hx rfl (hb hby at_211) ?_
              show Steps p.tables e below (T164.setTop (mkF m 212 #[.val (.int i0), .val (.int i1), .val (.int i2), .val (.int i3), .val (.int i4), .val (.int 3), .val (.int n4), .val (.int n6), .val (.int n8), .val (.int n10), .val (.ref b147), .unset, .unset, .unset] [(.int 0)])) t
              exact k)
            exact ⟨T164, _, (0 : Int32), X164, e164, N164, (Eq.symm (Eq.trans (if_pos c159) (Eq.trans (if_pos c162) (if_pos c165)))), P166⟩
          · skip
            have P167 : own_Go p e below S0 (T164.setTop (mkF m 212 #[.val (.int i0), .val (.int i1), .val (.int i2), .val (.int i3), .val (.int i4), .val (.int 3), .val (.int n4), .val (.int n6), .val (.int n8), .val (.int n10), .val (.ref b147), .unset, .unset, .unset] [(.int 1)])) := fun t k => P164 t (by
              refine XS.ifYes X164.here hx rfl (pc0 := 190) (pc' := 207) rfl (hb hby at_190) rfl ((if0 _ _).trans (feq c165).2) (by decide) (by decide) ?_
              refine XS.iconst X164.here hx rfl (hb hby at_207) ?_
              refine XS.goto X164.here hx rfl (pc0 := 208) (pc' := 212) rfl (hb hby at_208) (by decide) (by decide) ?_
              show Steps p.tables e below (T164.setTop (mkF m 212 #[.val (.int i0), .val (.int i1), .val (.int i2), .val (.int i3), .val (.int i4), .val (.int 3), .val (.int n4), .val (.int n6), .val (.int n8), .val (.int n10), .val (.ref b147), .unset, .unset, .unset] [(.int 1)])) t
              exact k)
            exact ⟨T164, _, (1 : Int32), X164, e164, N164, (Eq.symm (Eq.trans (if_pos c159) (Eq.trans (if_pos c162) (if_neg c165)))), P167⟩
        · skip
          have P168 : own_Go p e below S0 (T161.setTop (mkF m 212 #[.val (.int i0), .val (.int i1), .val (.int i2), .val (.int i3), .val (.int i4), .val (.int 3), .val (.int n4), .val (.int n6), .val (.int n8), .val (.int n10), .val (.ref b147), .unset, .unset, .unset] [(.int 1)])) := fun t k => P161 t (by
            refine XS.ifYes X161.here hx rfl (pc0 := 176) (pc' := 207) rfl (hb hby at_176) rfl ((if0 _ _).trans (feq c162).2) (by decide) (by decide) ?_
            refine XS.iconst X161.here hx rfl (hb hby at_207) ?_
            refine XS.goto X161.here hx rfl (pc0 := 208) (pc' := 212) rfl (hb hby at_208) (by decide) (by decide) ?_
            show Steps p.tables e below (T161.setTop (mkF m 212 #[.val (.int i0), .val (.int i1), .val (.int i2), .val (.int i3), .val (.int i4), .val (.int 3), .val (.int n4), .val (.int n6), .val (.int n8), .val (.int n10), .val (.ref b147), .unset, .unset, .unset] [(.int 1)])) t
            exact k)
          exact ⟨T161, _, (1 : Int32), X161, e161, N161, (Eq.symm (Eq.trans (if_pos c159) (if_neg c162))), P168⟩
      · skip
        have P169 : own_Go p e below S0 (T158.setTop (mkF m 212 #[.val (.int i0), .val (.int i1), .val (.int i2), .val (.int i3), .val (.int i4), .val (.int 3), .val (.int n4), .val (.int n6), .val (.int n8), .val (.int n10), .val (.ref b147), .unset, .unset, .unset] [(.int 1)])) := fun t k => P158 t (by
          refine XS.ifYes X158.here hx rfl (pc0 := 162) (pc' := 207) rfl (hb hby at_162) rfl ((if0 _ _).trans (feq c159).2) (by decide) (by decide) ?_
          refine XS.iconst X158.here hx rfl (hb hby at_207) ?_
          refine XS.goto X158.here hx rfl (pc0 := 208) (pc' := 212) rfl (hb hby at_208) (by decide) (by decide) ?_
          show Steps p.tables e below (T158.setTop (mkF m 212 #[.val (.int i0), .val (.int i1), .val (.int i2), .val (.int i3), .val (.int i4), .val (.int 3), .val (.int n4), .val (.int n6), .val (.int n8), .val (.int n10), .val (.ref b147), .unset, .unset, .unset] [(.int 1)])) t
          exact k)
        exact ⟨T158, _, (1 : Int32), X158, e158, N158, (Eq.symm (if_neg c159)), P169⟩
    have P171 : own_Go p e below S0 (T170.setTop (mkF m 216 #[.val (.int i0), .val (.int i1), .val (.int i2), .val (.int i3), .val (.int i4), .val (.int 3), .val (.int n4), .val (.int n6), .val (.int n8), .val (.int n10), .val (.ref b147), .val (.int v170_s0), .unset, .unset] [(.int v170_s0)])) := fun t k => P170 t (by
      refine XS.istore X170.here hx rfl (hb hby at_212) rfl (l' := #[.val (.int i0), .val (.int i1), .val (.int i2), .val (.int i3), .val (.int i4), .val (.int 3), .val (.int n4), .val (.int n6), .val (.int n8), .val (.int n10), .val (.ref b147), .val (.int v170_s0), .unset, .unset]) rfl ?_
      refine XS.iload X170.here hx rfl (hb hby at_214) rfl ?_
      show Steps p.tables e below (T170.setTop (mkF m 216 #[.val (.int i0), .val (.int i1), .val (.int i2), .val (.int i3), .val (.int i4), .val (.int 3), .val (.int n4), .val (.int n6), .val (.int n8), .val (.int n10), .val (.ref b147), .val (.int v170_s0), .unset, .unset] [(.int v170_s0)])) t
      exact k)
    obtain ⟨v175_s0, hv175_s0, P175⟩ : ∃ (v175_s0 : Int32), (v175_s0 = (if v170_s0 = (0 : Int32) then (1 : Int32) else (0 : Int32))) ∧ (own_Go p e below S0 (T170.setTop (mkF m 224 #[.val (.int i0), .val (.int i1), .val (.int i2), .val (.int i3), .val (.int i4), .val (.int 3), .val (.int n4), .val (.int n6), .val (.int n8), .val (.int n10), .val (.ref b147), .val (.int v170_s0), .unset, .unset] [(.int v175_s0)]))) := by
      by_cases c172 : v170_s0 = (0 : Int32)
      · skip
        have P173 : own_Go p e below S0 (T170.setTop (mkF m 224 #[.val (.int i0), .val (.int i1), .val (.int i2), .val (.int i3), .val (.int i4), .val (.int 3), .val (.int n4), .val (.int n6), .val (.int n8), .val (.int n10), .val (.ref b147), .val (.int v170_s0), .unset, .unset] [(.int 1)])) := fun t k => P171 t (by
          refine XS.ifNo X170.here hx rfl (hb hby at_216) rfl ((if0 _ _).trans (teq c172).2) ?_
          refine XS.iconst X170.here hx rfl (hb hby at_219) ?_
          refine XS.goto X170.here hx rfl (pc0 := 220) (pc' := 224) rfl (hb hby at_220) (by decide) (by decide) ?_
          show Steps p.tables e below (T170.setTop (mkF m 224 #[.val (.int i0), .val (.int i1), .val (.int i2), .val (.int i3), .val (.int i4), .val (.int 3), .val (.int n4), .val (.int n6), .val (.int n8), .val (.int n10), .val (.ref b147), .val (.int v170_s0), .unset, .unset] [(.int 1)])) t
          exact k)
        exact ⟨(1 : Int32), (Eq.symm (if_pos c172)), P173⟩
      · skip
        have P174 : own_Go p e below S0 (T170.setTop (mkF m 224 #[.val (.int i0), .val (.int i1), .val (.int i2), .val (.int i3), .val (.int i4), .val (.int 3), .val (.int n4), .val (.int n6), .val (.int n8), .val (.int n10), .val (.ref b147), .val (.int v170_s0), .unset, .unset] [(.int 0)])) := fun t k => P171 t (by
          refine XS.ifYes X170.here hx rfl (pc0 := 216) (pc' := 223) rfl (hb hby at_216) rfl ((if0 _ _).trans (feq c172).2) (by decide) (by decide) ?_
          refine XS.iconst X170.here hx rfl (hb hby at_223) ?_
          show Steps p.tables e below (T170.setTop (mkF m 224 #[.val (.int i0), .val (.int i1), .val (.int i2), .val (.int i3), .val (.int i4), .val (.int 3), .val (.int n4), .val (.int n6), .val (.int n8), .val (.int n10), .val (.ref b147), .val (.int v170_s0), .unset, .unset] [(.int 0)])) t
          exact k)
        exact ⟨(0 : Int32), (Eq.symm (if_neg c172)), P174⟩
    have P176 : own_Go p e below S0 (T170.setTop (mkF m 226 #[.val (.int i0), .val (.int i1), .val (.int i2), .val (.int i3), .val (.int i4), .val (.int 3), .val (.int n4), .val (.int n6), .val (.int n8), .val (.int n10), .val (.ref b147), .val (.int v170_s0), .val (.int v175_s0), .unset] [])) := fun t k => P175 t (by
      refine XS.istore X170.here hx rfl (hb hby at_224) rfl (l' := #[.val (.int i0), .val (.int i1), .val (.int i2), .val (.int i3), .val (.int i4), .val (.int 3), .val (.int n4), .val (.int n6), .val (.int n8), .val (.int n10), .val (.ref b147), .val (.int v170_s0), .val (.int v175_s0), .unset]) rfl ?_
      show Steps p.tables e below (T170.setTop (mkF m 226 #[.val (.int i0), .val (.int i1), .val (.int i2), .val (.int i3), .val (.int i4), .val (.int 3), .val (.int n4), .val (.int n6), .val (.int n8), .val (.int n10), .val (.ref b147), .val (.int v170_s0), .val (.int v175_s0), .unset] [])) t
      exact k)
    obtain ⟨T177, h177, X177, e177, E177, A177, D177, -, st177⟩ := newO X170 hx hZ hown (own_w hw 2 rfl) (own_w hw 3 rfl) (own_w hw 4 rfl) e170 (g := (mkF m 226 #[.val (.int i0), .val (.int i1), .val (.int i2), .val (.int i3), .val (.int i4), .val (.int 3), .val (.int n4), .val (.int n6), .val (.int n8), .val (.int n10), .val (.ref b147), .val (.int v170_s0), .val (.int v175_s0), .unset] [])) rfl (hb hby at_226) (by decide) (by decide)
    obtain ⟨b177, g177⟩ : ∃ z, z = h155.size := ⟨_, rfl⟩
    rw [← g177] at A177 D177 st177
    have sz_b177 : h155.size ≤ b177 := Nat.le_of_eq g177.symm
    have ne_b147_b177 : b147 ≠ b177 := Nat.ne_of_lt (Nat.lt_of_lt_of_le V155.lt sz_b177)
    have g_b177 : n0 ≤ b177 := Nat.le_trans (Nat.le_trans Z0 K155.1) sz_b177
    have o_b177 : h0.size ≤ b177 := Nat.le_trans K155.1 sz_b177
    have hk177 : h0.size ≤ h177.size := Nat.le_trans hk155 E177.1
    have K177 : Keep h0 h177 [] := K155.ext E177
    have F177_pattern : Fld Z h177 b177 "com/example/strict_acl/strictacl/NamePattern" "pattern" "Ljava/lang/String;" .null := D177 (Or.inr (own_w hw 37 rfl)) (ty := (.object "java/lang/String")) (by decide)
    have P177 : own_Go p e below S0 (T177.setTop (mkF m 229 #[.val (.int i0), .val (.int i1), .val (.int i2), .val (.int i3), .val (.int i4), .val (.int 3), .val (.int n4), .val (.int n6), .val (.int n8), .val (.int n10), .val (.ref b147), .val (.int v170_s0), .val (.int v175_s0), .unset] [(.ref b177)])) := fun t k => P176 t (st177 _ k)
    have F178 : Arv Z h177 b147 k147 .char (3 : Int32) [(.int (nar .char n4)), (.int (nar .char n6)), (.int (nar .char n8))] (.int 0) := V155.ext E177
    have P179 : own_Go p e below S0 (T177.setTop (mkF m 230 #[.val (.int i0), .val (.int i1), .val (.int i2), .val (.int i3), .val (.int i4), .val (.int 3), .val (.int n4), .val (.int n6), .val (.int n8), .val (.int n10), .val (.ref b147), .val (.int v170_s0), .val (.int v175_s0), .unset] [(.ref b177), (.ref b177)])) := fun t k => P177 t (by
      refine XS.dup X177.here hx rfl (hb hby at_229) rfl rfl ?_
      show Steps p.tables e below (T177.setTop (mkF m 230 #[.val (.int i0), .val (.int i1), .val (.int i2), .val (.int i3), .val (.int i4), .val (.int 3), .val (.int n4), .val (.int n6), .val (.int n8), .val (.int n10), .val (.ref b147), .val (.int v170_s0), .val (.int v175_s0), .unset] [(.ref b177), (.ref b177)])) t
      exact k)
    obtain ⟨T180, h180, X180, e180, E180, A180, D180, -, st180⟩ := newO X177 hx hZ hown (own_w hw 5 rfl) (own_w hw 6 rfl) (own_w hw 7 rfl) e177 (g := (mkF m 230 #[.val (.int i0), .val (.int i1), .val (.int i2), .val (.int i3), .val (.int i4), .val (.int 3), .val (.int n4), .val (.int n6), .val (.int n8), .val (.int n10), .val (.ref b147), .val (.int v170_s0), .val (.int v175_s0), .unset] [(.ref b177), (.ref b177)])) rfl (hb hby at_230) (by decide) (by decide)
    obtain ⟨b180, g180⟩ : ∃ z, z = h177.size := ⟨_, rfl⟩
    rw [← g180] at A180 D180 st180
    have sz_b180 : h177.size ≤ b180 := Nat.le_of_eq g180.symm
    have ne_b147_b180 : b147 ≠ b180 := Nat.ne_of_lt (Nat.lt_of_lt_of_le F178.lt sz_b180)
    have ne_b177_b180 : b177 ≠ b180 := Nat.ne_of_lt (Nat.lt_of_lt_of_le A177.lt sz_b180)
    have g_b180 : n0 ≤ b180 := Nat.le_trans (Nat.le_trans Z0 K177.1) sz_b180
    have o_b180 : h0.size ≤ b180 := Nat.le_trans K177.1 sz_b180
    have hk180 : h0.size ≤ h180.size := Nat.le_trans hk177 E180.1
    have K180 : Keep h0 h180 [] := K177.ext E180
    have F180_value : Fld Z h180 b180 "java/lang/String" "value" "[B" .null := D180 (Or.inr (own_w hw 20 rfl)) (ty := (.array .byte)) (by decide)
    have F180_coder : Fld Z h180 b180 "java/lang/String" "coder" "B" (.int 0) := D180 (Or.inr (own_w hw 21 rfl)) (ty := .byte) (by decide)
    have P180 : own_Go p e below S0 (T180.setTop (mkF m 233 #[.val (.int i0), .val (.int i1), .val (.int i2), .val (.int i3), .val (.int i4), .val (.int 3), .val (.int n4), .val (.int n6), .val (.int n8), .val (.int n10), .val (.ref b147), .val (.int v170_s0), .val (.int v175_s0), .unset] [(.ref b180), (.ref b177), (.ref b177)])) := fun t k => P179 t (st180 _ k)
    have F181 : Arv Z h180 b147 k147 .char (3 : Int32) [(.int (nar .char n4)), (.int (nar .char n6)), (.int (nar .char n8))] (.int 0) := F178.ext E180
    have F182 : Sta Z h147 "java/lang/String" "COMPACT_STRINGS" "Z" (.int zc) := S_COMPACT_STRINGS.ext E147
    have F183 : Sta Z h149 "java/lang/String" "COMPACT_STRINGS" "Z" (.int zc) := F182.wr W149
    have F184 : Sta Z h152 "java/lang/String" "COMPACT_STRINGS" "Z" (.int zc) := F183.wr W152
    have F185 : Sta Z h155 "java/lang/String" "COMPACT_STRINGS" "Z" (.int zc) := F184.wr W155
    have F186 : Sta Z h177 "java/lang/String" "COMPACT_STRINGS" "Z" (.int zc) := F185.ext E177
    have F187 : Sta Z h180 "java/lang/String" "COMPACT_STRINGS" "Z" (.int zc) := F186.ext E180
    have F188 : Exa Z h180 b177 "com/example/strict_acl/strictacl/NamePattern" := A177.ext E180
    have P189 : own_Go p e below S0 (T180.setTop (mkF m 236 #[.val (.int i0), .val (.int i1), .val (.int i2), .val (.int i3), .val (.int i4), .val (.int 3), .val (.int n4), .val (.int n6), .val (.int n8), .val (.int n10), .val (.ref b147), .val (.int v170_s0), .val (.int v175_s0), .unset] [(.ref b147), (.ref b180), (.ref b180), (.ref b177), (.ref b177)])) := fun t k => P180 t (by
      refine XS.dup X180.here hx rfl (hb hby at_233) rfl rfl ?_
      refine XS.aload X180.here hx rfl (hb hby at_234) rfl rfl ?_
      show Steps p.tables e below (T180.setTop (mkF m 236 #[.val (.int i0), .val (.int i1), .val (.int i2), .val (.int i3), .val (.int i4), .val (.int 3), .val (.int n4), .val (.int n6), .val (.int n8), .val (.int n10), .val (.ref b147), .val (.int v170_s0), .val (.int v175_s0), .unset] [(.ref b147), (.ref b180), (.ref b180), (.ref b177), (.ref b177)])) t
      exact k)
    obtain ⟨_, _, ⟨T190, L190, k190, n190⟩, -, X190, ⟨Lc190, hQ190, l190, y190, z190⟩, st190⟩ := X180.specialBack hx (y := (⟨"java/lang/String", "<init>", "([C)V"⟩ : MethodName)) rfl hown (mvT hZ (own_w hw 8 rfl)) (mvT hZ (own_w hw 9 rfl)) (mvT hZ (own_w hw 10 rfl)) (by decide) (backOf (W := 3) (rm1s3 l Z a0 hw [] b180 b147 k147 zc (nar .char n4) (nar .char n6) (nar .char n8) (.int 0) .null h180 n0 (Nat.le_trans Z0 K180.1) A180 F181 F187 hcs (own_hx hn4) (own_hx hn6) (own_hx hn8) F180_coder g_b180 F180_value) hZ (own_w hw 10 rfl) (own_w hw 7 rfl) (by decide) (by decide)) (g := (mkF m 236 #[.val (.int i0), .val (.int i1), .val (.int i2), .val (.int i3), .val (.int i4), .val (.int 3), .val (.int n4), .val (.int n6), .val (.int n8), .val (.int n10), .val (.ref b147), .val (.int v170_s0), .val (.int v175_s0), .unset] [(.ref b147), (.ref b180), (.ref b180), (.ref b177), (.ref b177)])) rfl (by rw [hml]; rfl) (Steps.refl _) (a := b180) (argsL := [(.ref b147)]) (rest := [(.ref b180), (.ref b177), (.ref b177)]) (lenOf pd_12 rfl) rfl (by show 2 * 0 + _ ≤ _; exact Nat.le_of_eq rfl) (hb hby at_236) (fun _ _ => ⟨rfl, e180, (by decide : 3 + 1 ≤ _), (by decide : 8 + 3 ≤ _)⟩)
    dsimp only [Pt.U, Pt.locs, Pt.cells, Pt.slots] at X190 l190 y190 z190 st190 hQ190
    subst l190 y190 z190
    obtain ⟨b2_7_3_190, k2_7_3_190, rfl, N190q, Kc190, sz_b2_7_3_190, F190_0, F190_1, F190_2⟩ := hQ190
    have N190 := Fr.app N170 N190q
    have ne_b147_b2_7_3_190 : b147 ≠ b2_7_3_190 := Nat.ne_of_lt (Nat.lt_of_lt_of_le F181.lt sz_b2_7_3_190)
    have ne_b177_b2_7_3_190 : b177 ≠ b2_7_3_190 := Nat.ne_of_lt (Nat.lt_of_lt_of_le F188.lt sz_b2_7_3_190)
    have ne_b180_b2_7_3_190 : b180 ≠ b2_7_3_190 := Nat.ne_of_lt (Nat.lt_of_lt_of_le A180.lt sz_b2_7_3_190)
    have g_b2_7_3_190 : n0 ≤ b2_7_3_190 := Nat.le_trans (Nat.le_trans Z0 K180.1) sz_b2_7_3_190
    have o_b2_7_3_190 : h0.size ≤ b2_7_3_190 := Nat.le_trans K180.1 sz_b2_7_3_190
    have hk190 : h0.size ≤ T190.heap.size := Nat.le_trans hk180 Kc190.1
    have K190 : Keep h0 T190.heap [] := Keep.trans K180 Kc190 (allS (Or.inr o_b180) all0)
    have P190 : own_Go p e below S0 (T190.setTop (mkF m 239 #[.val (.int i0), .val (.int i1), .val (.int i2), .val (.int i3), .val (.int i4), .val (.int 3), .val (.int n4), .val (.int n6), .val (.int n8), .val (.int n10), .val (.ref b147), .val (.int v170_s0), .val (.int v175_s0), .unset] [(.ref b180), (.ref b177), (.ref b177)])) := fun t k => P189 t (st190.trans k)
    have F191 : Exa Z T190.heap b180 "java/lang/String" := A180.keep Kc190
    have F192 : Exa Z T190.heap b177 "com/example/strict_acl/strictacl/NamePattern" := F188.keep Kc190
    have F193 : Fld Z h180 b177 "com/example/strict_acl/strictacl/NamePattern" "pattern" "Ljava/lang/String;" .null := F177_pattern.ext E180
    have F194 : Fld Z T190.heap b177 "com/example/strict_acl/strictacl/NamePattern" "pattern" "Ljava/lang/String;" .null := F193.keep Kc190 (ninS ne_b177_b180 nin0)
    obtain ⟨_, _, ⟨T195, L195, k195, n195⟩, -, X195, hSq195, hgr195, ⟨Lc195, hQ195, l195, y195, z195⟩, st195⟩ := X190.specialBackS hx (y := (⟨"com/example/strict_acl/strictacl/NamePattern", "<init>", "(Ljava/lang/String;)V"⟩ : MethodName)) rfl hown (mvT hZ (own_w hw 26 rfl)) (mvT hZ (own_w hw 27 rfl)) (mvT hZ (own_w hw 28 rfl)) (by decide) (backOfS (W := 1) (rm4 l Z a0 hw [] b177 b180 .null T190.heap n0 (Nat.le_trans Z0 K190.1) F191 F192 F194 g_b177) hZ (own_w hw 28 rfl) (own_w hw 4 rfl) (by decide) (by decide)) (g := (mkF m 239 #[.val (.int i0), .val (.int i1), .val (.int i2), .val (.int i3), .val (.int i4), .val (.int 3), .val (.int n4), .val (.int n6), .val (.int n8), .val (.int n10), .val (.ref b147), .val (.int v170_s0), .val (.int v175_s0), .unset] [(.ref b180), (.ref b177), (.ref b177)])) rfl (by rw [hml]; rfl) (Steps.refl _) (a := b177) (argsL := [(.ref b180)]) (rest := [(.ref b177)]) (lenOf pd_13 rfl) rfl (by show 2 * 0 + _ ≤ _; exact Nat.le_of_eq rfl) (hb hby at_239) (fun _ _ => ⟨rfl, rfl, (by decide : 4 + 2 ≤ _), (by decide : 11 + 32 ≤ _)⟩)
    dsimp only [Pt.U, Pt.locs, Pt.cells, Pt.slots] at X195 l195 y195 z195 st195 hQ195 hSq195 hgr195
    subst l195 y195 z195
    obtain ⟨hS195, hZ195, hown195⟩ := own_fold hS0 hSq195 (Nat.le_trans hk190 hgr195) hZ hown
    replace X195 := own_flat X195
    obtain ⟨rfl, N195q, Kc195, F195_0⟩ := hQ195
    have N195 := Fr.app N190 N195q
    have K195 : Keep h0 T195.heap [] := Keep.trans K190 Kc195 (allS (Or.inr o_b177) all0)
    have P195 : own_Go p e below S0 (T195.setTop (mkF m 242 #[.val (.int i0), .val (.int i1), .val (.int i2), .val (.int i3), .val (.int i4), .val (.int 3), .val (.int n4), .val (.int n6), .val (.int n8), .val (.int n10), .val (.ref b147), .val (.int v170_s0), .val (.int v175_s0), .unset] [(.ref b177)])) := fun t k => P190 t (st195.trans k)
    have F196 : Exa Z T195.heap b177 "com/example/strict_acl/strictacl/NamePattern" := F192.keep Kc195
    have F197 : Fld Z T195.heap b180 "java/lang/String" "value" "[B" (.ref b2_7_3_190) := F190_2.keep Kc195 (ninS (Ne.symm ne_b177_b180) nin0)
    have F198 : Arv Z T195.heap b2_7_3_190 k2_7_3_190 .byte (3 : Int32) [(.int (nar .byte ((nar .char n4).toInt8.toInt32))), (.int (nar .byte ((nar .char n6).toInt8.toInt32))), (.int (nar .byte ((nar .char n8).toInt8.toInt32)))] (.int 0) := F190_0.keep Kc195 (ninS (Ne.symm ne_b177_b2_7_3_190) nin0)
    have F199 : Sta Z T190.heap "java/lang/String" "COMPACT_STRINGS" "Z" (.int zc) := own_staK F187 Kc190 (allS (own_plE A180) all0)
    have F200 : Sta Z T195.heap "java/lang/String" "COMPACT_STRINGS" "Z" (.int zc) := own_staK F199 Kc195 (allS (own_plE F192) all0)
    have F201 : Fld Z T195.heap b180 "java/lang/String" "coder" "B" (.int 0) := F190_1.keep Kc195 (ninS (Ne.symm ne_b177_b180) nin0)
    have F202 : Exa Z T195.heap b180 "java/lang/String" := F191.keep Kc195
    have P203 : own_Go p e below S0 (T195.setTop (mkF m 246 #[.val (.int i0), .val (.int i1), .val (.int i2), .val (.int i3), .val (.int i4), .val (.int 3), .val (.int n4), .val (.int n6), .val (.int n8), .val (.int n10), .val (.ref b147), .val (.int v170_s0), .val (.int v175_s0), .val (.ref b177)] [(.ref b177)])) := fun t k => P195 t (by
      refine XS.astore X195.here hx rfl (hb hby at_242) rfl rfl (l' := #[.val (.int i0), .val (.int i1), .val (.int i2), .val (.int i3), .val (.int i4), .val (.int 3), .val (.int n4), .val (.int n6), .val (.int n8), .val (.int n10), .val (.ref b147), .val (.int v170_s0), .val (.int v175_s0), .val (.ref b177)]) rfl ?_
      refine XS.aload X195.here hx rfl (hb hby at_244) rfl rfl ?_
      show Steps p.tables e below (T195.setTop (mkF m 246 #[.val (.int i0), .val (.int i1), .val (.int i2), .val (.int i3), .val (.int i4), .val (.int 3), .val (.int n4), .val (.int n6), .val (.int n8), .val (.int n10), .val (.ref b147), .val (.int v170_s0), .val (.int v175_s0), .val (.ref b177)] [(.ref b177)])) t
      exact k)
    obtain ⟨cq204, kq204, q204a, q204b, q204c⟩ := isOf hZ195 rfl F196
    obtain ⟨_, _, ⟨T204, L204, k204, n204⟩, -, X204, ⟨Lc204, hQ204, l204, y204, z204⟩, st204⟩ := X195.virtualBack hx (y := (⟨"com/example/strict_acl/strictacl/NamePattern", "isLiteral", "()Z"⟩ : MethodName)) (z := (⟨"com/example/strict_acl/strictacl/NamePattern", "isLiteral", "()Z"⟩ : MethodName)) hown195 (mvT hZ195 (own_w hw 38 rfl)) (mvT hZ195 (own_w hw 39 rfl)) (notFace_of_selects (args := #[]) (mvT hZ195 (own_w hw 41 rfl))) (mvT hZ195 (own_w hw 41 rfl)) (mvT hZ195 (own_w hw 40 rfl)) (by decide) (backOf (W := 0) (rm6n3 l Z a0 hw [] b177 b180 b2_7_3_190 k2_7_3_190 (nar .byte ((nar .char n4).toInt8.toInt32)) (nar .byte ((nar .char n6).toInt8.toInt32)) (nar .byte ((nar .char n8).toInt8.toInt32)) zc T195.heap n0 (Nat.le_trans Z0 K195.1) F195_0 F197 F198 F200 hcs F201 F202) hZ195 (own_w hw 42 rfl) (own_w hw 4 rfl) (by decide) (by decide)) q204a q204c (g := (mkF m 246 #[.val (.int i0), .val (.int i1), .val (.int i2), .val (.int i3), .val (.int i4), .val (.int 3), .val (.int n4), .val (.int n6), .val (.int n8), .val (.int n10), .val (.ref b147), .val (.int v170_s0), .val (.int v175_s0), .val (.ref b177)] [(.ref b177)])) rfl (by rw [hml]; rfl) (Steps.refl _) (argsL := []) (rest := []) (lenOf pd_8 rfl) rfl (by show 2 * 0 + _ ≤ _; exact Nat.le_of_eq rfl) (hb hby at_246) (fun _ _ => ⟨rfl, rfl, (by decide : 6 + 0 ≤ _), (by decide : 43 + 0 ≤ _)⟩)
    dsimp only [Pt.U, Pt.locs, Pt.cells, Pt.slots] at X204 l204 y204 z204 st204 hQ204
    subst l204 y204 z204
    obtain ⟨rfl, N204q, e204⟩ := hQ204
    have N204 := Fr.app N195 N204q
    have P204 : own_Go p e below S0 (T204.setTop (mkF m 249 #[.val (.int i0), .val (.int i1), .val (.int i2), .val (.int i3), .val (.int i4), .val (.int 3), .val (.int n4), .val (.int n6), .val (.int n8), .val (.int n10), .val (.ref b147), .val (.int v170_s0), .val (.int v175_s0), .val (.ref b177)] [(.int (r6n3 (nar .byte ((nar .char n4).toInt8.toInt32)) (nar .byte ((nar .char n6).toInt8.toInt32)) (nar .byte ((nar .char n8).toInt8.toInt32))))])) := fun t k => P203 t (st204.trans k)
    have c205 : (r6n3 (nar .byte ((nar .char n4).toInt8.toInt32)) (nar .byte ((nar .char n6).toInt8.toInt32)) (nar .byte ((nar .char n8).toInt8.toInt32))) = v175_s0 := by rw [hv175_s0, hv170_s0]; exact own_law3 _ _ (own_nb hn4) _ _ (own_nb hn6) _ _ (own_nb hn8)
    have P206 : own_Go p e below S0 (T204.setTop (mkF m 259 #[.val (.int i0), .val (.int i1), .val (.int i2), .val (.int i3), .val (.int i4), .val (.int 3), .val (.int n4), .val (.int n6), .val (.int n8), .val (.int n10), .val (.ref b147), .val (.int v170_s0), .val (.int v175_s0), .val (.ref b177)] [(.int 1)])) := fun t k => P204 t (by
      refine XS.iload X204.here hx rfl (hb hby at_249) rfl ?_
      refine XS.icmpNo X204.here hx rfl (hb hby at_251) rfl (teq c205).2 ?_
      refine XS.iconst X204.here hx rfl (hb hby at_254) ?_
      refine XS.goto X204.here hx rfl (pc0 := 255) (pc' := 259) rfl (hb hby at_255) (by decide) (by decide) ?_
      show Steps p.tables e below (T204.setTop (mkF m 259 #[.val (.int i0), .val (.int i1), .val (.int i2), .val (.int i3), .val (.int i4), .val (.int 3), .val (.int n4), .val (.int n6), .val (.int n8), .val (.int n10), .val (.ref b147), .val (.int v170_s0), .val (.int v175_s0), .val (.ref b177)] [(.int 1)])) t
      exact k)
    have F207 : Arv Z T190.heap b147 k147 .char (3 : Int32) [(.int (nar .char n4)), (.int (nar .char n6)), (.int (nar .char n8))] (.int 0) := F181.keep Kc190 (ninS ne_b147_b180 nin0)
    have F208 : Arv Z T195.heap b147 k147 .char (3 : Int32) [(.int (nar .char n4)), (.int (nar .char n6)), (.int (nar .char n8))] (.int 0) := F207.keep Kc195 (ninS ne_b147_b177 nin0)
    obtain ⟨fs, hr, hrun, hended, hend⟩ := X204.leaveW hS195 (by rw [e204]; exact (Nat.le_refl _)) (v := some (.int 1)) (fun h => by rw [Bd.returns] at h; cases h) (BodyLoose.notSynchronized Bd)
    refine ⟨_, _, own_from hE0 (P206 _ ?_), hrun, hended, _, _, rfl, ?_, hend.1, hend.2.1, hend.2.2.1, hend.2.2.2.mono (by decide) (by decide)⟩
    · show Steps p.tables e below (T204.setTop (mkF m 259 #[.val (.int i0), .val (.int i1), .val (.int i2), .val (.int i3), .val (.int i4), .val (.int 3), .val (.int n4), .val (.int n6), .val (.int n8), .val (.int n10), .val (.ref b147), .val (.int v170_s0), .val (.int v175_s0), .val (.ref b177)] [(.int 1)])) _
      exact retN X204 hx (t := .boolean) Bd.returns (by simp) (hb hby at_259) hr
    · show Q0 Z i0 i1 i2 i3 i4 zc h0 n0 _ T204.heap _
      rw [e204]
      exact ⟨rfl, N204⟩
  · skip
    subst c11
    have P209 : own_Go p e below S0 (s₁.setTop (mkF m 127 #[.val (.int i0), .val (.int i1), .val (.int i2), .val (.int i3), .val (.int i4), .val (.int 4), .val (.int n4), .val (.int n6), .val (.int n8), .val (.int n10), .unset, .unset, .unset, .unset] [(.int 4)])) := fun t k => P10 t (by
      refine XS.iload X0.here hx rfl (hb hby at_41) rfl ?_
      refine XS.ifYes X0.here hx rfl (pc0 := 43) (pc' := 54) rfl (hb hby at_43) rfl ((if0 _ _).trans (feq (by decide)).2) (by decide) (by decide) ?_
      refine XS.iload X0.here hx rfl (hb hby at_54) rfl ?_
      refine XS.iconst X0.here hx rfl (hb hby at_56) ?_
      refine XS.icmpYes X0.here hx rfl (pc0 := 57) (pc' := 73) rfl (hb hby at_57) rfl (feq (by decide)).2 (by decide) (by decide) ?_
      refine XS.iload X0.here hx rfl (hb hby at_73) rfl ?_
      show Steps p.tables e below (s₁.setTop (mkF m 75 #[.val (.int i0), .val (.int i1), .val (.int i2), .val (.int i3), .val (.int i4), .val (.int 4), .val (.int n4), .val (.int n6), .val (.int n8), .val (.int n10), .unset, .unset, .unset, .unset] [(.int 4)])) t
      refine XS.iconst X0.here hx rfl (hb hby at_75) ?_
      refine XS.icmpYes X0.here hx rfl (pc0 := 76) (pc' := 97) rfl (hb hby at_76) rfl (feq (by decide)).2 (by decide) (by decide) ?_
      refine XS.iload X0.here hx rfl (hb hby at_97) rfl ?_
      refine XS.iconst X0.here hx rfl (hb hby at_99) ?_
      refine XS.icmpYes X0.here hx rfl (pc0 := 100) (pc' := 126) rfl (hb hby at_100) rfl (feq (by decide)).2 (by decide) (by decide) ?_
      refine XS.iconst X0.here hx rfl (hb hby at_126) ?_
      show Steps p.tables e below (s₁.setTop (mkF m 127 #[.val (.int i0), .val (.int i1), .val (.int i2), .val (.int i3), .val (.int i4), .val (.int 4), .val (.int n4), .val (.int n6), .val (.int n8), .val (.int n10), .unset, .unset, .unset, .unset] [(.int 4)])) t
      exact k)
    obtain ⟨T210, h210, k210, X210, e210, E210, A210, st210⟩ := newP X0 hx hZ (own_w hw 1 rfl) e0 (g := (mkF m 127 #[.val (.int i0), .val (.int i1), .val (.int i2), .val (.int i3), .val (.int i4), .val (.int 4), .val (.int n4), .val (.int n6), .val (.int n8), .val (.int n10), .unset, .unset, .unset, .unset] [(.int 4)])) rfl (hb hby at_127) rfl (by decide) (cap := 4) (by decide) (by decide) (by decide) (by decide)
    obtain ⟨b210, g210⟩ : ∃ z, z = h0.size := ⟨_, rfl⟩
    rw [← g210] at A210 st210
    have sz_b210 : h0.size ≤ b210 := Nat.le_of_eq g210.symm
    have g_b210 : n0 ≤ b210 := Nat.le_trans Z0 sz_b210
    have o_b210 : h0.size ≤ b210 := sz_b210
    have hk210 : h0.size ≤ h210.size := Nat.le_trans (Nat.le_refl _) E210.1
    have HC210 := CHv.ext E210 hC0
    have K210 : Keep h0 h210 [] := (Keep.refl h0 []).ext E210
    have V210 : Arv Z h210 b210 k210 .char (4 : Int32) [(.int 0), (.int 0), (.int 0), (.int 0)] (.int 0) := (Arv.new A210 (by decide)).pad (pad_rep [] (.int 0) 4)
    have P210 : own_Go p e below S0 (T210.setTop (mkF m 129 #[.val (.int i0), .val (.int i1), .val (.int i2), .val (.int i3), .val (.int i4), .val (.int 4), .val (.int n4), .val (.int n6), .val (.int n8), .val (.int n10), .unset, .unset, .unset, .unset] [(.ref b210)])) := fun t k => P209 t (st210 _ k)
    have P211 : own_Go p e below S0 (T210.setTop (mkF m 133 #[.val (.int i0), .val (.int i1), .val (.int i2), .val (.int i3), .val (.int i4), .val (.int 4), .val (.int n4), .val (.int n6), .val (.int n8), .val (.int n10), .unset, .unset, .unset, .unset] [(.int n4), (.int 0), (.ref b210), (.ref b210)])) := fun t k => P210 t (by
      refine XS.dup X210.here hx rfl (hb hby at_129) rfl rfl ?_
      refine XS.iconst X210.here hx rfl (hb hby at_130) ?_
      refine XS.iload X210.here hx rfl (hb hby at_131) rfl ?_
      show Steps p.tables e below (T210.setTop (mkF m 133 #[.val (.int i0), .val (.int i1), .val (.int i2), .val (.int i3), .val (.int i4), .val (.int 4), .val (.int n4), .val (.int n6), .val (.int n8), .val (.int n10), .unset, .unset, .unset, .unset] [(.int n4), (.int 0), (.ref b210), (.ref b210)])) t
      exact k)
    obtain ⟨cl213, Ar213, q213, Sz213, Nn213, Hh213, Gg213⟩ := id V210
    have hin213 : ¬ ((0 : Int32) < 0 ∨ cl213.slots.size ≤ ((0 : Int32)).toNatClampNeg) := inb_of Sz213 ⟨by decide, by decide⟩
    obtain ⟨T212, h212, X212, e212, W212, st212⟩ := stC X210 hx hZ e210 Ar213 (j := (0 : Int32)) hin213 (g := (mkF m 133 #[.val (.int i0), .val (.int i1), .val (.int i2), .val (.int i3), .val (.int i4), .val (.int 4), .val (.int n4), .val (.int n6), .val (.int n8), .val (.int n10), .unset, .unset, .unset, .unset] [(.int n4), (.int 0), (.ref b210), (.ref b210)])) rfl rfl (hb hby at_133)
    have hk212 : h0.size ≤ h212.size := Nat.le_trans hk210 (Keep.of_wr W212).1
    have K212 : Keep h0 h212 [] := K210.wr W212 (Or.inr o_b210)
    have N212 := Fr.snoc X212 N0 g_b210
    have V212 : Arv Z h212 b210 k210 .char (4 : Int32) [(.int (nar .char n4)), (.int 0), (.int 0), (.int 0)] (.int 0) := Arv.set Ar213 q213 Sz213 Nn213 Hh213 Gg213 (fits_nar_char _) W212 0 rfl (Nat.le_of_ble_eq_true rfl)
    have P212 : own_Go p e below S0 (T212.setTop (mkF m 134 #[.val (.int i0), .val (.int i1), .val (.int i2), .val (.int i3), .val (.int i4), .val (.int 4), .val (.int n4), .val (.int n6), .val (.int n8), .val (.int n10), .unset, .unset, .unset, .unset] [(.ref b210)])) := fun t k => P211 t (st212 _ k)
    have P214 : own_Go p e below S0 (T212.setTop (mkF m 138 #[.val (.int i0), .val (.int i1), .val (.int i2), .val (.int i3), .val (.int i4), .val (.int 4), .val (.int n4), .val (.int n6), .val (.int n8), .val (.int n10), .unset, .unset, .unset, .unset] [(.int n6), (.int 1), (.ref b210), (.ref b210)])) := fun t k => P212 t (by
      refine XS.dup X212.here hx rfl (hb hby at_134) rfl rfl ?_
      refine XS.iconst X212.here hx rfl (hb hby at_135) ?_
      refine XS.iload X212.here hx rfl (hb hby at_136) rfl ?_
      show Steps p.tables e below (T212.setTop (mkF m 138 #[.val (.int i0), .val (.int i1), .val (.int i2), .val (.int i3), .val (.int i4), .val (.int 4), .val (.int n4), .val (.int n6), .val (.int n8), .val (.int n10), .unset, .unset, .unset, .unset] [(.int n6), (.int 1), (.ref b210), (.ref b210)])) t
      exact k)
    obtain ⟨cl216, Ar216, q216, Sz216, Nn216, Hh216, Gg216⟩ := id V212
    have hin216 : ¬ ((1 : Int32) < 0 ∨ cl216.slots.size ≤ ((1 : Int32)).toNatClampNeg) := inb_of Sz216 ⟨by decide, by decide⟩
    obtain ⟨T215, h215, X215, e215, W215, st215⟩ := stC X212 hx hZ e212 Ar216 (j := (1 : Int32)) hin216 (g := (mkF m 138 #[.val (.int i0), .val (.int i1), .val (.int i2), .val (.int i3), .val (.int i4), .val (.int 4), .val (.int n4), .val (.int n6), .val (.int n8), .val (.int n10), .unset, .unset, .unset, .unset] [(.int n6), (.int 1), (.ref b210), (.ref b210)])) rfl rfl (hb hby at_138)
    have hk215 : h0.size ≤ h215.size := Nat.le_trans hk212 (Keep.of_wr W215).1
    have K215 : Keep h0 h215 [] := K212.wr W215 (Or.inr o_b210)
    have N215 := Fr.snoc X215 N212 g_b210
    have V215 : Arv Z h215 b210 k210 .char (4 : Int32) [(.int (nar .char n4)), (.int (nar .char n6)), (.int 0), (.int 0)] (.int 0) := Arv.set Ar216 q216 Sz216 Nn216 Hh216 Gg216 (fits_nar_char _) W215 1 rfl (Nat.le_of_ble_eq_true rfl)
    have P215 : own_Go p e below S0 (T215.setTop (mkF m 139 #[.val (.int i0), .val (.int i1), .val (.int i2), .val (.int i3), .val (.int i4), .val (.int 4), .val (.int n4), .val (.int n6), .val (.int n8), .val (.int n10), .unset, .unset, .unset, .unset] [(.ref b210)])) := fun t k => P214 t (st215 _ k)
    have P217 : own_Go p e below S0 (T215.setTop (mkF m 143 #[.val (.int i0), .val (.int i1), .val (.int i2), .val (.int i3), .val (.int i4), .val (.int 4), .val (.int n4), .val (.int n6), .val (.int n8), .val (.int n10), .unset, .unset, .unset, .unset] [(.int n8), (.int 2), (.ref b210), (.ref b210)])) := fun t k => P215 t (by
      refine XS.dup X215.here hx rfl (hb hby at_139) rfl rfl ?_
      refine XS.iconst X215.here hx rfl (hb hby at_140) ?_
      refine XS.iload X215.here hx rfl (hb hby at_141) rfl ?_
      show Steps p.tables e below (T215.setTop (mkF m 143 #[.val (.int i0), .val (.int i1), .val (.int i2), .val (.int i3), .val (.int i4), .val (.int 4), .val (.int n4), .val (.int n6), .val (.int n8), .val (.int n10), .unset, .unset, .unset, .unset] [(.int n8), (.int 2), (.ref b210), (.ref b210)])) t
      exact k)
    obtain ⟨cl219, Ar219, q219, Sz219, Nn219, Hh219, Gg219⟩ := id V215
    have hin219 : ¬ ((2 : Int32) < 0 ∨ cl219.slots.size ≤ ((2 : Int32)).toNatClampNeg) := inb_of Sz219 ⟨by decide, by decide⟩
    obtain ⟨T218, h218, X218, e218, W218, st218⟩ := stC X215 hx hZ e215 Ar219 (j := (2 : Int32)) hin219 (g := (mkF m 143 #[.val (.int i0), .val (.int i1), .val (.int i2), .val (.int i3), .val (.int i4), .val (.int 4), .val (.int n4), .val (.int n6), .val (.int n8), .val (.int n10), .unset, .unset, .unset, .unset] [(.int n8), (.int 2), (.ref b210), (.ref b210)])) rfl rfl (hb hby at_143)
    have hk218 : h0.size ≤ h218.size := Nat.le_trans hk215 (Keep.of_wr W218).1
    have K218 : Keep h0 h218 [] := K215.wr W218 (Or.inr o_b210)
    have N218 := Fr.snoc X218 N215 g_b210
    have V218 : Arv Z h218 b210 k210 .char (4 : Int32) [(.int (nar .char n4)), (.int (nar .char n6)), (.int (nar .char n8)), (.int 0)] (.int 0) := Arv.set Ar219 q219 Sz219 Nn219 Hh219 Gg219 (fits_nar_char _) W218 2 rfl (Nat.le_of_ble_eq_true rfl)
    have P218 : own_Go p e below S0 (T218.setTop (mkF m 144 #[.val (.int i0), .val (.int i1), .val (.int i2), .val (.int i3), .val (.int i4), .val (.int 4), .val (.int n4), .val (.int n6), .val (.int n8), .val (.int n10), .unset, .unset, .unset, .unset] [(.ref b210)])) := fun t k => P217 t (st218 _ k)
    have P220 : own_Go p e below S0 (T218.setTop (mkF m 148 #[.val (.int i0), .val (.int i1), .val (.int i2), .val (.int i3), .val (.int i4), .val (.int 4), .val (.int n4), .val (.int n6), .val (.int n8), .val (.int n10), .unset, .unset, .unset, .unset] [(.int n10), (.int 3), (.ref b210), (.ref b210)])) := fun t k => P218 t (by
      refine XS.dup X218.here hx rfl (hb hby at_144) rfl rfl ?_
      refine XS.iconst X218.here hx rfl (hb hby at_145) ?_
      refine XS.iload X218.here hx rfl (hb hby at_146) rfl ?_
      show Steps p.tables e below (T218.setTop (mkF m 148 #[.val (.int i0), .val (.int i1), .val (.int i2), .val (.int i3), .val (.int i4), .val (.int 4), .val (.int n4), .val (.int n6), .val (.int n8), .val (.int n10), .unset, .unset, .unset, .unset] [(.int n10), (.int 3), (.ref b210), (.ref b210)])) t
      exact k)
    obtain ⟨cl222, Ar222, q222, Sz222, Nn222, Hh222, Gg222⟩ := id V218
    have hin222 : ¬ ((3 : Int32) < 0 ∨ cl222.slots.size ≤ ((3 : Int32)).toNatClampNeg) := inb_of Sz222 ⟨by decide, by decide⟩
    obtain ⟨T221, h221, X221, e221, W221, st221⟩ := stC X218 hx hZ e218 Ar222 (j := (3 : Int32)) hin222 (g := (mkF m 148 #[.val (.int i0), .val (.int i1), .val (.int i2), .val (.int i3), .val (.int i4), .val (.int 4), .val (.int n4), .val (.int n6), .val (.int n8), .val (.int n10), .unset, .unset, .unset, .unset] [(.int n10), (.int 3), (.ref b210), (.ref b210)])) rfl rfl (hb hby at_148)
    have hk221 : h0.size ≤ h221.size := Nat.le_trans hk218 (Keep.of_wr W221).1
    have K221 : Keep h0 h221 [] := K218.wr W221 (Or.inr o_b210)
    have N221 := Fr.snoc X221 N218 g_b210
    have V221 : Arv Z h221 b210 k210 .char (4 : Int32) [(.int (nar .char n4)), (.int (nar .char n6)), (.int (nar .char n8)), (.int (nar .char n10))] (.int 0) := Arv.set Ar222 q222 Sz222 Nn222 Hh222 Gg222 (fits_nar_char _) W221 3 rfl (Nat.le_of_ble_eq_true rfl)
    have P221 : own_Go p e below S0 (T221.setTop (mkF m 149 #[.val (.int i0), .val (.int i1), .val (.int i2), .val (.int i3), .val (.int i4), .val (.int 4), .val (.int n4), .val (.int n6), .val (.int n8), .val (.int n10), .unset, .unset, .unset, .unset] [(.ref b210)])) := fun t k => P220 t (st221 _ k)
    have P223 : own_Go p e below S0 (T221.setTop (mkF m 159 #[.val (.int i0), .val (.int i1), .val (.int i2), .val (.int i3), .val (.int i4), .val (.int 4), .val (.int n4), .val (.int n6), .val (.int n8), .val (.int n10), .val (.ref b210), .unset, .unset, .unset] [(.int n4)])) := fun t k => P221 t (by
      refine XS.astore X221.here hx rfl (hb hby at_149) rfl rfl (l' := #[.val (.int i0), .val (.int i1), .val (.int i2), .val (.int i3), .val (.int i4), .val (.int 4), .val (.int n4), .val (.int n6), .val (.int n8), .val (.int n10), .val (.ref b210), .unset, .unset, .unset]) rfl ?_
      refine XS.iload X221.here hx rfl (hb hby at_151) rfl ?_
      refine XS.iconst X221.here hx rfl (hb hby at_153) ?_
      refine XS.icmpNo X221.here hx rfl (hb hby at_154) rfl (flt (by decide)).1 ?_
      refine XS.iload X221.here hx rfl (hb hby at_157) rfl ?_
      show Steps p.tables e below (T221.setTop (mkF m 159 #[.val (.int i0), .val (.int i1), .val (.int i2), .val (.int i3), .val (.int i4), .val (.int 4), .val (.int n4), .val (.int n6), .val (.int n8), .val (.int n10), .val (.ref b210), .unset, .unset, .unset] [(.int n4)])) t
      exact k)
    obtain ⟨_, _, ⟨T224, L224, k224, n224⟩, -, X224, ⟨Lc224, hQ224, l224, y224, z224⟩, st224⟩ := Jvm.LawKit.callS X221 hx (y := (⟨"com/example/strict_acl/strictacl/NamePatternIsLiteralPinLaw", "wild", "(C)Z"⟩ : MethodName)) hown (mvT hZ (own_w hw 83 rfl)) (mvT hZ (own_w hw 84 rfl)) (mvT hZ (own_w hw 85 rfl)) (mvT hZ (own_w hw 86 rfl)) (by decide) (backOf (W := 0) (rm16 l Z a0 hw [] n4 h221 n0 (Nat.le_trans Z0 K221.1)) hZ (own_w hw 86 rfl) (own_w hw 85 rfl) (by decide) (by decide)) (g := (mkF m 159 #[.val (.int i0), .val (.int i1), .val (.int i2), .val (.int i3), .val (.int i4), .val (.int 4), .val (.int n4), .val (.int n6), .val (.int n8), .val (.int n10), .val (.ref b210), .unset, .unset, .unset] [(.int n4)])) rfl (by rw [hml]; rfl) (argsL := [(.int n4)]) (rest := []) (lenOf pd_14 rfl) rfl (by show 2 * 0 + _ ≤ _; exact Nat.le_of_eq rfl) (hb hby at_159) (fun _ _ => ⟨rfl, e221, (by decide : 1 + 0 ≤ _), (by decide : 4 + 0 ≤ _)⟩)
    dsimp only [Pt.U, Pt.locs, Pt.cells, Pt.slots] at X224 l224 y224 z224 st224 hQ224
    subst l224 y224 z224
    obtain ⟨rfl, N224q, e224⟩ := hQ224
    have N224 := Fr.app N221 N224q
    have P224 : own_Go p e below S0 (T224.setTop (mkF m 162 #[.val (.int i0), .val (.int i1), .val (.int i2), .val (.int i3), .val (.int i4), .val (.int 4), .val (.int n4), .val (.int n6), .val (.int n8), .val (.int n10), .val (.ref b210), .unset, .unset, .unset] [(.int (own_wild n4))])) := fun t k => P223 t (st224 _ k)
    obtain ⟨T240, lo240, v240_s0, X240, e240, N240, hv240_s0, P240⟩ : ∃ (T240 : State) (lo240 : List Loc) (v240_s0 : Int32), (Stand p l e room_1 (s.setVm s.vm) m #[(.int i0), (.int i1), (.int i2), (.int i3), (.int i4)] below meth c T240 lo240 1 4) ∧ (T240.heap = h221) ∧ (Fr n0 lo240) ∧ (v240_s0 = (if (own_wild n4) = (0 : Int32) then (if (own_wild n6) = (0 : Int32) then (if (own_wild n8) = (0 : Int32) then (if (own_wild n10) = (0 : Int32) then (0 : Int32) else (1 : Int32)) else (1 : Int32)) else (1 : Int32)) else (1 : Int32))) ∧ (own_Go p e below S0 (T240.setTop (mkF m 212 #[.val (.int i0), .val (.int i1), .val (.int i2), .val (.int i3), .val (.int i4), .val (.int 4), .val (.int n4), .val (.int n6), .val (.int n8), .val (.int n10), .val (.ref b210), .unset, .unset, .unset] [(.int v240_s0)]))) := by
      by_cases c225 : (own_wild n4) = (0 : Int32)
      · skip
        have P226 : own_Go p e below S0 (T224.setTop (mkF m 173 #[.val (.int i0), .val (.int i1), .val (.int i2), .val (.int i3), .val (.int i4), .val (.int 4), .val (.int n4), .val (.int n6), .val (.int n8), .val (.int n10), .val (.ref b210), .unset, .unset, .unset] [(.int n6)])) := fun t k => P224 t (by
          refine XS.ifNo X224.here hx rfl (hb hby at_162) rfl ((if0 _ _).trans (teq c225).2) ?_
          refine XS.iload X224.here hx rfl (hb hby at_165) rfl ?_
          refine XS.iconst X224.here hx rfl (hb hby at_167) ?_
          refine XS.icmpNo X224.here hx rfl (hb hby at_168) rfl (flt (by decide)).1 ?_
          refine XS.iload X224.here hx rfl (hb hby at_171) rfl ?_
          show Steps p.tables e below (T224.setTop (mkF m 173 #[.val (.int i0), .val (.int i1), .val (.int i2), .val (.int i3), .val (.int i4), .val (.int 4), .val (.int n4), .val (.int n6), .val (.int n8), .val (.int n10), .val (.ref b210), .unset, .unset, .unset] [(.int n6)])) t
          exact k)
        obtain ⟨_, _, ⟨T227, L227, k227, n227⟩, -, X227, ⟨Lc227, hQ227, l227, y227, z227⟩, st227⟩ := Jvm.LawKit.callS X224 hx (y := (⟨"com/example/strict_acl/strictacl/NamePatternIsLiteralPinLaw", "wild", "(C)Z"⟩ : MethodName)) hown (mvT hZ (own_w hw 83 rfl)) (mvT hZ (own_w hw 84 rfl)) (mvT hZ (own_w hw 85 rfl)) (mvT hZ (own_w hw 86 rfl)) (by decide) (backOf (W := 0) (rm16 l Z a0 hw [] n6 h221 n0 (Nat.le_trans Z0 K221.1)) hZ (own_w hw 86 rfl) (own_w hw 85 rfl) (by decide) (by decide)) (g := (mkF m 173 #[.val (.int i0), .val (.int i1), .val (.int i2), .val (.int i3), .val (.int i4), .val (.int 4), .val (.int n4), .val (.int n6), .val (.int n8), .val (.int n10), .val (.ref b210), .unset, .unset, .unset] [(.int n6)])) rfl (by rw [hml]; rfl) (argsL := [(.int n6)]) (rest := []) (lenOf pd_14 rfl) rfl (by show 2 * 0 + _ ≤ _; exact Nat.le_of_eq rfl) (hb hby at_173) (fun _ _ => ⟨rfl, e224, (by decide : 1 + 0 ≤ _), (by decide : 4 + 0 ≤ _)⟩)
        dsimp only [Pt.U, Pt.locs, Pt.cells, Pt.slots] at X227 l227 y227 z227 st227 hQ227
        subst l227 y227 z227
        obtain ⟨rfl, N227q, e227⟩ := hQ227
        have N227 := Fr.app N224 N227q
        have P227 : own_Go p e below S0 (T227.setTop (mkF m 176 #[.val (.int i0), .val (.int i1), .val (.int i2), .val (.int i3), .val (.int i4), .val (.int 4), .val (.int n4), .val (.int n6), .val (.int n8), .val (.int n10), .val (.ref b210), .unset, .unset, .unset] [(.int (own_wild n6))])) := fun t k => P226 t (st227 _ k)
        by_cases c228 : (own_wild n6) = (0 : Int32)
        · skip
          have P229 : own_Go p e below S0 (T227.setTop (mkF m 187 #[.val (.int i0), .val (.int i1), .val (.int i2), .val (.int i3), .val (.int i4), .val (.int 4), .val (.int n4), .val (.int n6), .val (.int n8), .val (.int n10), .val (.ref b210), .unset, .unset, .unset] [(.int n8)])) := fun t k => P227 t (by
            refine XS.ifNo X227.here hx rfl (hb hby at_176) rfl ((if0 _ _).trans (teq c228).2) ?_
            refine XS.iload X227.here hx rfl (hb hby at_179) rfl ?_
            refine XS.iconst X227.here hx rfl (hb hby at_181) ?_
            refine XS.icmpNo X227.here hx rfl (hb hby at_182) rfl (flt (by decide)).1 ?_
            refine XS.iload X227.here hx rfl (hb hby at_185) rfl ?_
            show Steps p.tables e below (T227.setTop (mkF m 187 #[.val (.int i0), .val (.int i1), .val (.int i2), .val (.int i3), .val (.int i4), .val (.int 4), .val (.int n4), .val (.int n6), .val (.int n8), .val (.int n10), .val (.ref b210), .unset, .unset, .unset] [(.int n8)])) t
            exact k)
          obtain ⟨_, _, ⟨T230, L230, k230, n230⟩, -, X230, ⟨Lc230, hQ230, l230, y230, z230⟩, st230⟩ := Jvm.LawKit.callS X227 hx (y := (⟨"com/example/strict_acl/strictacl/NamePatternIsLiteralPinLaw", "wild", "(C)Z"⟩ : MethodName)) hown (mvT hZ (own_w hw 83 rfl)) (mvT hZ (own_w hw 84 rfl)) (mvT hZ (own_w hw 85 rfl)) (mvT hZ (own_w hw 86 rfl)) (by decide) (backOf (W := 0) (rm16 l Z a0 hw [] n8 h221 n0 (Nat.le_trans Z0 K221.1)) hZ (own_w hw 86 rfl) (own_w hw 85 rfl) (by decide) (by decide)) (g := (mkF m 187 #[.val (.int i0), .val (.int i1), .val (.int i2), .val (.int i3), .val (.int i4), .val (.int 4), .val (.int n4), .val (.int n6), .val (.int n8), .val (.int n10), .val (.ref b210), .unset, .unset, .unset] [(.int n8)])) rfl (by rw [hml]; rfl) (argsL := [(.int n8)]) (rest := []) (lenOf pd_14 rfl) rfl (by show 2 * 0 + _ ≤ _; exact Nat.le_of_eq rfl) (hb hby at_187) (fun _ _ => ⟨rfl, e227, (by decide : 1 + 0 ≤ _), (by decide : 4 + 0 ≤ _)⟩)
          dsimp only [Pt.U, Pt.locs, Pt.cells, Pt.slots] at X230 l230 y230 z230 st230 hQ230
          subst l230 y230 z230
          obtain ⟨rfl, N230q, e230⟩ := hQ230
          have N230 := Fr.app N227 N230q
          have P230 : own_Go p e below S0 (T230.setTop (mkF m 190 #[.val (.int i0), .val (.int i1), .val (.int i2), .val (.int i3), .val (.int i4), .val (.int 4), .val (.int n4), .val (.int n6), .val (.int n8), .val (.int n10), .val (.ref b210), .unset, .unset, .unset] [(.int (own_wild n8))])) := fun t k => P229 t (st230 _ k)
          by_cases c231 : (own_wild n8) = (0 : Int32)
          · skip
            have P232 : own_Go p e below S0 (T230.setTop (mkF m 201 #[.val (.int i0), .val (.int i1), .val (.int i2), .val (.int i3), .val (.int i4), .val (.int 4), .val (.int n4), .val (.int n6), .val (.int n8), .val (.int n10), .val (.ref b210), .unset, .unset, .unset] [(.int n10)])) := fun t k => P230 t (by
              refine XS.ifNo X230.here hx rfl (hb hby at_190) rfl ((if0 _ _).trans (teq c231).2) ?_
              refine XS.iload X230.here hx rfl (hb hby at_193) rfl ?_
              refine XS.iconst X230.here hx rfl (hb hby at_195) ?_
              refine XS.icmpNo X230.here hx rfl (hb hby at_196) rfl (flt (by decide)).1 ?_
              refine XS.iload X230.here hx rfl (hb hby at_199) rfl ?_
              show Steps p.tables e below (T230.setTop (mkF m 201 #[.val (.int i0), .val (.int i1), .val (.int i2), .val (.int i3), .val (.int i4), .val (.int 4), .val (.int n4), .val (.int n6), .val (.int n8), .val (.int n10), .val (.ref b210), .unset, .unset, .unset] [(.int n10)])) t
              exact k)
            obtain ⟨_, _, ⟨T233, L233, k233, n233⟩, -, X233, ⟨Lc233, hQ233, l233, y233, z233⟩, st233⟩ := Jvm.LawKit.callS X230 hx (y := (⟨"com/example/strict_acl/strictacl/NamePatternIsLiteralPinLaw", "wild", "(C)Z"⟩ : MethodName)) hown (mvT hZ (own_w hw 83 rfl)) (mvT hZ (own_w hw 84 rfl)) (mvT hZ (own_w hw 85 rfl)) (mvT hZ (own_w hw 86 rfl)) (by decide) (backOf (W := 0) (rm16 l Z a0 hw [] n10 h221 n0 (Nat.le_trans Z0 K221.1)) hZ (own_w hw 86 rfl) (own_w hw 85 rfl) (by decide) (by decide)) (g := (mkF m 201 #[.val (.int i0), .val (.int i1), .val (.int i2), .val (.int i3), .val (.int i4), .val (.int 4), .val (.int n4), .val (.int n6), .val (.int n8), .val (.int n10), .val (.ref b210), .unset, .unset, .unset] [(.int n10)])) rfl (by rw [hml]; rfl) (argsL := [(.int n10)]) (rest := []) (lenOf pd_14 rfl) rfl (by show 2 * 0 + _ ≤ _; exact Nat.le_of_eq rfl) (hb hby at_201) (fun _ _ => ⟨rfl, e230, (by decide : 1 + 0 ≤ _), (by decide : 4 + 0 ≤ _)⟩)
            dsimp only [Pt.U, Pt.locs, Pt.cells, Pt.slots] at X233 l233 y233 z233 st233 hQ233
            subst l233 y233 z233
            obtain ⟨rfl, N233q, e233⟩ := hQ233
            have N233 := Fr.app N230 N233q
            have P233 : own_Go p e below S0 (T233.setTop (mkF m 204 #[.val (.int i0), .val (.int i1), .val (.int i2), .val (.int i3), .val (.int i4), .val (.int 4), .val (.int n4), .val (.int n6), .val (.int n8), .val (.int n10), .val (.ref b210), .unset, .unset, .unset] [(.int (own_wild n10))])) := fun t k => P232 t (st233 _ k)
            by_cases c234 : (own_wild n10) = (0 : Int32)
            · skip
              have P235 : own_Go p e below S0 (T233.setTop (mkF m 212 #[.val (.int i0), .val (.int i1), .val (.int i2), .val (.int i3), .val (.int i4), .val (.int 4), .val (.int n4), .val (.int n6), .val (.int n8), .val (.int n10), .val (.ref b210), .unset, .unset, .unset] [(.int 0)])) := fun t k => P233 t (by
                refine XS.ifYes X233.here hx rfl (pc0 := 204) (pc' := 211) rfl (hb hby at_204) rfl ((if0 _ _).trans (teq c234).1) (by decide) (by decide) ?_
                refine XS.iconst X233.here hx rfl (hb hby at_211) ?_
                show Steps p.tables e below (T233.setTop (mkF m 212 #[.val (.int i0), .val (.int i1), .val (.int i2), .val (.int i3), .val (.int i4), .val (.int 4), .val (.int n4), .val (.int n6), .val (.int n8), .val (.int n10), .val (.ref b210), .unset, .unset, .unset] [(.int 0)])) t
                exact k)
              exact ⟨T233, _, (0 : Int32), X233, e233, N233, (Eq.symm (Eq.trans (if_pos c225) (Eq.trans (if_pos c228) (Eq.trans (if_pos c231) (if_pos c234))))), P235⟩
            · skip
              have P236 : own_Go p e below S0 (T233.setTop (mkF m 212 #[.val (.int i0), .val (.int i1), .val (.int i2), .val (.int i3), .val (.int i4), .val (.int 4), .val (.int n4), .val (.int n6), .val (.int n8), .val (.int n10), .val (.ref b210), .unset, .unset, .unset] [(.int 1)])) := fun t k => P233 t (by
                refine XS.ifNo X233.here hx rfl (hb hby at_204) rfl ((if0 _ _).trans (feq c234).1) ?_
                refine XS.iconst X233.here hx rfl (hb hby at_207) ?_
                refine XS.goto X233.here hx rfl (pc0 := 208) (pc' := 212) rfl (hb hby at_208) (by decide) (by decide) ?_
                show Steps p.tables e below (T233.setTop (mkF m 212 #[.val (.int i0), .val (.int i1), .val (.int i2), .val (.int i3), .val (.int i4), .val (.int 4), .val (.int n4), .val (.int n6), .val (.int n8), .val (.int n10), .val (.ref b210), .unset, .unset, .unset] [(.int 1)])) t
                exact k)
              exact ⟨T233, _, (1 : Int32), X233, e233, N233, (Eq.symm (Eq.trans (if_pos c225) (Eq.trans (if_pos c228) (Eq.trans (if_pos c231) (if_neg c234))))), P236⟩
          · skip
            have P237 : own_Go p e below S0 (T230.setTop (mkF m 212 #[.val (.int i0), .val (.int i1), .val (.int i2), .val (.int i3), .val (.int i4), .val (.int 4), .val (.int n4), .val (.int n6), .val (.int n8), .val (.int n10), .val (.ref b210), .unset, .unset, .unset] [(.int 1)])) := fun t k => P230 t (by
              refine XS.ifYes X230.here hx rfl (pc0 := 190) (pc' := 207) rfl (hb hby at_190) rfl ((if0 _ _).trans (feq c231).2) (by decide) (by decide) ?_
              refine XS.iconst X230.here hx rfl (hb hby at_207) ?_
              refine XS.goto X230.here hx rfl (pc0 := 208) (pc' := 212) rfl (hb hby at_208) (by decide) (by decide) ?_
              show Steps p.tables e below (T230.setTop (mkF m 212 #[.val (.int i0), .val (.int i1), .val (.int i2), .val (.int i3), .val (.int i4), .val (.int 4), .val (.int n4), .val (.int n6), .val (.int n8), .val (.int n10), .val (.ref b210), .unset, .unset, .unset] [(.int 1)])) t
              exact k)
            exact ⟨T230, _, (1 : Int32), X230, e230, N230, (Eq.symm (Eq.trans (if_pos c225) (Eq.trans (if_pos c228) (if_neg c231)))), P237⟩
        · skip
          have P238 : own_Go p e below S0 (T227.setTop (mkF m 212 #[.val (.int i0), .val (.int i1), .val (.int i2), .val (.int i3), .val (.int i4), .val (.int 4), .val (.int n4), .val (.int n6), .val (.int n8), .val (.int n10), .val (.ref b210), .unset, .unset, .unset] [(.int 1)])) := fun t k => P227 t (by
            refine XS.ifYes X227.here hx rfl (pc0 := 176) (pc' := 207) rfl (hb hby at_176) rfl ((if0 _ _).trans (feq c228).2) (by decide) (by decide) ?_
            refine XS.iconst X227.here hx rfl (hb hby at_207) ?_
            refine XS.goto X227.here hx rfl (pc0 := 208) (pc' := 212) rfl (hb hby at_208) (by decide) (by decide) ?_
            show Steps p.tables e below (T227.setTop (mkF m 212 #[.val (.int i0), .val (.int i1), .val (.int i2), .val (.int i3), .val (.int i4), .val (.int 4), .val (.int n4), .val (.int n6), .val (.int n8), .val (.int n10), .val (.ref b210), .unset, .unset, .unset] [(.int 1)])) t
            exact k)
          exact ⟨T227, _, (1 : Int32), X227, e227, N227, (Eq.symm (Eq.trans (if_pos c225) (if_neg c228))), P238⟩
      · skip
        have P239 : own_Go p e below S0 (T224.setTop (mkF m 212 #[.val (.int i0), .val (.int i1), .val (.int i2), .val (.int i3), .val (.int i4), .val (.int 4), .val (.int n4), .val (.int n6), .val (.int n8), .val (.int n10), .val (.ref b210), .unset, .unset, .unset] [(.int 1)])) := fun t k => P224 t (by
          refine XS.ifYes X224.here hx rfl (pc0 := 162) (pc' := 207) rfl (hb hby at_162) rfl ((if0 _ _).trans (feq c225).2) (by decide) (by decide) ?_
          refine XS.iconst X224.here hx rfl (hb hby at_207) ?_
          refine XS.goto X224.here hx rfl (pc0 := 208) (pc' := 212) rfl (hb hby at_208) (by decide) (by decide) ?_
          show Steps p.tables e below (T224.setTop (mkF m 212 #[.val (.int i0), .val (.int i1), .val (.int i2), .val (.int i3), .val (.int i4), .val (.int 4), .val (.int n4), .val (.int n6), .val (.int n8), .val (.int n10), .val (.ref b210), .unset, .unset, .unset] [(.int 1)])) t
          exact k)
        exact ⟨T224, _, (1 : Int32), X224, e224, N224, (Eq.symm (if_neg c225)), P239⟩
    have P241 : own_Go p e below S0 (T240.setTop (mkF m 216 #[.val (.int i0), .val (.int i1), .val (.int i2), .val (.int i3), .val (.int i4), .val (.int 4), .val (.int n4), .val (.int n6), .val (.int n8), .val (.int n10), .val (.ref b210), .val (.int v240_s0), .unset, .unset] [(.int v240_s0)])) := fun t k => P240 t (by
      refine XS.istore X240.here hx rfl (hb hby at_212) rfl (l' := #[.val (.int i0), .val (.int i1), .val (.int i2), .val (.int i3), .val (.int i4), .val (.int 4), .val (.int n4), .val (.int n6), .val (.int n8), .val (.int n10), .val (.ref b210), .val (.int v240_s0), .unset, .unset]) rfl ?_
      refine XS.iload X240.here hx rfl (hb hby at_214) rfl ?_
      show Steps p.tables e below (T240.setTop (mkF m 216 #[.val (.int i0), .val (.int i1), .val (.int i2), .val (.int i3), .val (.int i4), .val (.int 4), .val (.int n4), .val (.int n6), .val (.int n8), .val (.int n10), .val (.ref b210), .val (.int v240_s0), .unset, .unset] [(.int v240_s0)])) t
      exact k)
    obtain ⟨v245_s0, hv245_s0, P245⟩ : ∃ (v245_s0 : Int32), (v245_s0 = (if v240_s0 = (0 : Int32) then (1 : Int32) else (0 : Int32))) ∧ (own_Go p e below S0 (T240.setTop (mkF m 224 #[.val (.int i0), .val (.int i1), .val (.int i2), .val (.int i3), .val (.int i4), .val (.int 4), .val (.int n4), .val (.int n6), .val (.int n8), .val (.int n10), .val (.ref b210), .val (.int v240_s0), .unset, .unset] [(.int v245_s0)]))) := by
      by_cases c242 : v240_s0 = (0 : Int32)
      · skip
        have P243 : own_Go p e below S0 (T240.setTop (mkF m 224 #[.val (.int i0), .val (.int i1), .val (.int i2), .val (.int i3), .val (.int i4), .val (.int 4), .val (.int n4), .val (.int n6), .val (.int n8), .val (.int n10), .val (.ref b210), .val (.int v240_s0), .unset, .unset] [(.int 1)])) := fun t k => P241 t (by
          refine XS.ifNo X240.here hx rfl (hb hby at_216) rfl ((if0 _ _).trans (teq c242).2) ?_
          refine XS.iconst X240.here hx rfl (hb hby at_219) ?_
          refine XS.goto X240.here hx rfl (pc0 := 220) (pc' := 224) rfl (hb hby at_220) (by decide) (by decide) ?_
          show Steps p.tables e below (T240.setTop (mkF m 224 #[.val (.int i0), .val (.int i1), .val (.int i2), .val (.int i3), .val (.int i4), .val (.int 4), .val (.int n4), .val (.int n6), .val (.int n8), .val (.int n10), .val (.ref b210), .val (.int v240_s0), .unset, .unset] [(.int 1)])) t
          exact k)
        exact ⟨(1 : Int32), (Eq.symm (if_pos c242)), P243⟩
      · skip
        have P244 : own_Go p e below S0 (T240.setTop (mkF m 224 #[.val (.int i0), .val (.int i1), .val (.int i2), .val (.int i3), .val (.int i4), .val (.int 4), .val (.int n4), .val (.int n6), .val (.int n8), .val (.int n10), .val (.ref b210), .val (.int v240_s0), .unset, .unset] [(.int 0)])) := fun t k => P241 t (by
          refine XS.ifYes X240.here hx rfl (pc0 := 216) (pc' := 223) rfl (hb hby at_216) rfl ((if0 _ _).trans (feq c242).2) (by decide) (by decide) ?_
          refine XS.iconst X240.here hx rfl (hb hby at_223) ?_
          show Steps p.tables e below (T240.setTop (mkF m 224 #[.val (.int i0), .val (.int i1), .val (.int i2), .val (.int i3), .val (.int i4), .val (.int 4), .val (.int n4), .val (.int n6), .val (.int n8), .val (.int n10), .val (.ref b210), .val (.int v240_s0), .unset, .unset] [(.int 0)])) t
          exact k)
        exact ⟨(0 : Int32), (Eq.symm (if_neg c242)), P244⟩
    have P246 : own_Go p e below S0 (T240.setTop (mkF m 226 #[.val (.int i0), .val (.int i1), .val (.int i2), .val (.int i3), .val (.int i4), .val (.int 4), .val (.int n4), .val (.int n6), .val (.int n8), .val (.int n10), .val (.ref b210), .val (.int v240_s0), .val (.int v245_s0), .unset] [])) := fun t k => P245 t (by
      refine XS.istore X240.here hx rfl (hb hby at_224) rfl (l' := #[.val (.int i0), .val (.int i1), .val (.int i2), .val (.int i3), .val (.int i4), .val (.int 4), .val (.int n4), .val (.int n6), .val (.int n8), .val (.int n10), .val (.ref b210), .val (.int v240_s0), .val (.int v245_s0), .unset]) rfl ?_
      show Steps p.tables e below (T240.setTop (mkF m 226 #[.val (.int i0), .val (.int i1), .val (.int i2), .val (.int i3), .val (.int i4), .val (.int 4), .val (.int n4), .val (.int n6), .val (.int n8), .val (.int n10), .val (.ref b210), .val (.int v240_s0), .val (.int v245_s0), .unset] [])) t
      exact k)
    obtain ⟨T247, h247, X247, e247, E247, A247, D247, -, st247⟩ := newO X240 hx hZ hown (own_w hw 2 rfl) (own_w hw 3 rfl) (own_w hw 4 rfl) e240 (g := (mkF m 226 #[.val (.int i0), .val (.int i1), .val (.int i2), .val (.int i3), .val (.int i4), .val (.int 4), .val (.int n4), .val (.int n6), .val (.int n8), .val (.int n10), .val (.ref b210), .val (.int v240_s0), .val (.int v245_s0), .unset] [])) rfl (hb hby at_226) (by decide) (by decide)
    obtain ⟨b247, g247⟩ : ∃ z, z = h221.size := ⟨_, rfl⟩
    rw [← g247] at A247 D247 st247
    have sz_b247 : h221.size ≤ b247 := Nat.le_of_eq g247.symm
    have ne_b210_b247 : b210 ≠ b247 := Nat.ne_of_lt (Nat.lt_of_lt_of_le V221.lt sz_b247)
    have g_b247 : n0 ≤ b247 := Nat.le_trans (Nat.le_trans Z0 K221.1) sz_b247
    have o_b247 : h0.size ≤ b247 := Nat.le_trans K221.1 sz_b247
    have hk247 : h0.size ≤ h247.size := Nat.le_trans hk221 E247.1
    have K247 : Keep h0 h247 [] := K221.ext E247
    have F247_pattern : Fld Z h247 b247 "com/example/strict_acl/strictacl/NamePattern" "pattern" "Ljava/lang/String;" .null := D247 (Or.inr (own_w hw 37 rfl)) (ty := (.object "java/lang/String")) (by decide)
    have P247 : own_Go p e below S0 (T247.setTop (mkF m 229 #[.val (.int i0), .val (.int i1), .val (.int i2), .val (.int i3), .val (.int i4), .val (.int 4), .val (.int n4), .val (.int n6), .val (.int n8), .val (.int n10), .val (.ref b210), .val (.int v240_s0), .val (.int v245_s0), .unset] [(.ref b247)])) := fun t k => P246 t (st247 _ k)
    have F248 : Arv Z h247 b210 k210 .char (4 : Int32) [(.int (nar .char n4)), (.int (nar .char n6)), (.int (nar .char n8)), (.int (nar .char n10))] (.int 0) := V221.ext E247
    have P249 : own_Go p e below S0 (T247.setTop (mkF m 230 #[.val (.int i0), .val (.int i1), .val (.int i2), .val (.int i3), .val (.int i4), .val (.int 4), .val (.int n4), .val (.int n6), .val (.int n8), .val (.int n10), .val (.ref b210), .val (.int v240_s0), .val (.int v245_s0), .unset] [(.ref b247), (.ref b247)])) := fun t k => P247 t (by
      refine XS.dup X247.here hx rfl (hb hby at_229) rfl rfl ?_
      show Steps p.tables e below (T247.setTop (mkF m 230 #[.val (.int i0), .val (.int i1), .val (.int i2), .val (.int i3), .val (.int i4), .val (.int 4), .val (.int n4), .val (.int n6), .val (.int n8), .val (.int n10), .val (.ref b210), .val (.int v240_s0), .val (.int v245_s0), .unset] [(.ref b247), (.ref b247)])) t
      exact k)
    obtain ⟨T250, h250, X250, e250, E250, A250, D250, -, st250⟩ := newO X247 hx hZ hown (own_w hw 5 rfl) (own_w hw 6 rfl) (own_w hw 7 rfl) e247 (g := (mkF m 230 #[.val (.int i0), .val (.int i1), .val (.int i2), .val (.int i3), .val (.int i4), .val (.int 4), .val (.int n4), .val (.int n6), .val (.int n8), .val (.int n10), .val (.ref b210), .val (.int v240_s0), .val (.int v245_s0), .unset] [(.ref b247), (.ref b247)])) rfl (hb hby at_230) (by decide) (by decide)
    obtain ⟨b250, g250⟩ : ∃ z, z = h247.size := ⟨_, rfl⟩
    rw [← g250] at A250 D250 st250
    have sz_b250 : h247.size ≤ b250 := Nat.le_of_eq g250.symm
    have ne_b210_b250 : b210 ≠ b250 := Nat.ne_of_lt (Nat.lt_of_lt_of_le F248.lt sz_b250)
    have ne_b247_b250 : b247 ≠ b250 := Nat.ne_of_lt (Nat.lt_of_lt_of_le A247.lt sz_b250)
    have g_b250 : n0 ≤ b250 := Nat.le_trans (Nat.le_trans Z0 K247.1) sz_b250
    have o_b250 : h0.size ≤ b250 := Nat.le_trans K247.1 sz_b250
    have hk250 : h0.size ≤ h250.size := Nat.le_trans hk247 E250.1
    have K250 : Keep h0 h250 [] := K247.ext E250
    have F250_value : Fld Z h250 b250 "java/lang/String" "value" "[B" .null := D250 (Or.inr (own_w hw 20 rfl)) (ty := (.array .byte)) (by decide)
    have F250_coder : Fld Z h250 b250 "java/lang/String" "coder" "B" (.int 0) := D250 (Or.inr (own_w hw 21 rfl)) (ty := .byte) (by decide)
    have P250 : own_Go p e below S0 (T250.setTop (mkF m 233 #[.val (.int i0), .val (.int i1), .val (.int i2), .val (.int i3), .val (.int i4), .val (.int 4), .val (.int n4), .val (.int n6), .val (.int n8), .val (.int n10), .val (.ref b210), .val (.int v240_s0), .val (.int v245_s0), .unset] [(.ref b250), (.ref b247), (.ref b247)])) := fun t k => P249 t (st250 _ k)
    have F251 : Arv Z h250 b210 k210 .char (4 : Int32) [(.int (nar .char n4)), (.int (nar .char n6)), (.int (nar .char n8)), (.int (nar .char n10))] (.int 0) := F248.ext E250
    have F252 : Sta Z h210 "java/lang/String" "COMPACT_STRINGS" "Z" (.int zc) := S_COMPACT_STRINGS.ext E210
    have F253 : Sta Z h212 "java/lang/String" "COMPACT_STRINGS" "Z" (.int zc) := F252.wr W212
    have F254 : Sta Z h215 "java/lang/String" "COMPACT_STRINGS" "Z" (.int zc) := F253.wr W215
    have F255 : Sta Z h218 "java/lang/String" "COMPACT_STRINGS" "Z" (.int zc) := F254.wr W218
    have F256 : Sta Z h221 "java/lang/String" "COMPACT_STRINGS" "Z" (.int zc) := F255.wr W221
    have F257 : Sta Z h247 "java/lang/String" "COMPACT_STRINGS" "Z" (.int zc) := F256.ext E247
    have F258 : Sta Z h250 "java/lang/String" "COMPACT_STRINGS" "Z" (.int zc) := F257.ext E250
    have F259 : Exa Z h250 b247 "com/example/strict_acl/strictacl/NamePattern" := A247.ext E250
    have P260 : own_Go p e below S0 (T250.setTop (mkF m 236 #[.val (.int i0), .val (.int i1), .val (.int i2), .val (.int i3), .val (.int i4), .val (.int 4), .val (.int n4), .val (.int n6), .val (.int n8), .val (.int n10), .val (.ref b210), .val (.int v240_s0), .val (.int v245_s0), .unset] [(.ref b210), (.ref b250), (.ref b250), (.ref b247), (.ref b247)])) := fun t k => P250 t (by
      refine XS.dup X250.here hx rfl (hb hby at_233) rfl rfl ?_
      refine XS.aload X250.here hx rfl (hb hby at_234) rfl rfl ?_
      show Steps p.tables e below (T250.setTop (mkF m 236 #[.val (.int i0), .val (.int i1), .val (.int i2), .val (.int i3), .val (.int i4), .val (.int 4), .val (.int n4), .val (.int n6), .val (.int n8), .val (.int n10), .val (.ref b210), .val (.int v240_s0), .val (.int v245_s0), .unset] [(.ref b210), (.ref b250), (.ref b250), (.ref b247), (.ref b247)])) t
      exact k)
    obtain ⟨_, _, ⟨T261, L261, k261, n261⟩, -, X261, ⟨Lc261, hQ261, l261, y261, z261⟩, st261⟩ := X250.specialBack hx (y := (⟨"java/lang/String", "<init>", "([C)V"⟩ : MethodName)) rfl hown (mvT hZ (own_w hw 8 rfl)) (mvT hZ (own_w hw 9 rfl)) (mvT hZ (own_w hw 10 rfl)) (by decide) (backOf (W := 3) (rm1s4 l Z a0 hw [] b250 b210 k210 zc (nar .char n4) (nar .char n6) (nar .char n8) (nar .char n10) (.int 0) .null h250 n0 (Nat.le_trans Z0 K250.1) A250 F251 F258 hcs (own_hx hn4) (own_hx hn6) (own_hx hn8) (own_hx hn10) F250_coder g_b250 F250_value) hZ (own_w hw 10 rfl) (own_w hw 7 rfl) (by decide) (by decide)) (g := (mkF m 236 #[.val (.int i0), .val (.int i1), .val (.int i2), .val (.int i3), .val (.int i4), .val (.int 4), .val (.int n4), .val (.int n6), .val (.int n8), .val (.int n10), .val (.ref b210), .val (.int v240_s0), .val (.int v245_s0), .unset] [(.ref b210), (.ref b250), (.ref b250), (.ref b247), (.ref b247)])) rfl (by rw [hml]; rfl) (Steps.refl _) (a := b250) (argsL := [(.ref b210)]) (rest := [(.ref b250), (.ref b247), (.ref b247)]) (lenOf pd_12 rfl) rfl (by show 2 * 0 + _ ≤ _; exact Nat.le_of_eq rfl) (hb hby at_236) (fun _ _ => ⟨rfl, e250, (by decide : 3 + 1 ≤ _), (by decide : 9 + 4 ≤ _)⟩)
    dsimp only [Pt.U, Pt.locs, Pt.cells, Pt.slots] at X261 l261 y261 z261 st261 hQ261
    subst l261 y261 z261
    obtain ⟨b2_7_3_261, k2_7_3_261, rfl, N261q, Kc261, sz_b2_7_3_261, F261_0, F261_1, F261_2⟩ := hQ261
    have N261 := Fr.app N240 N261q
    have ne_b210_b2_7_3_261 : b210 ≠ b2_7_3_261 := Nat.ne_of_lt (Nat.lt_of_lt_of_le F251.lt sz_b2_7_3_261)
    have ne_b247_b2_7_3_261 : b247 ≠ b2_7_3_261 := Nat.ne_of_lt (Nat.lt_of_lt_of_le F259.lt sz_b2_7_3_261)
    have ne_b250_b2_7_3_261 : b250 ≠ b2_7_3_261 := Nat.ne_of_lt (Nat.lt_of_lt_of_le A250.lt sz_b2_7_3_261)
    have g_b2_7_3_261 : n0 ≤ b2_7_3_261 := Nat.le_trans (Nat.le_trans Z0 K250.1) sz_b2_7_3_261
    have o_b2_7_3_261 : h0.size ≤ b2_7_3_261 := Nat.le_trans K250.1 sz_b2_7_3_261
    have hk261 : h0.size ≤ T261.heap.size := Nat.le_trans hk250 Kc261.1
    have K261 : Keep h0 T261.heap [] := Keep.trans K250 Kc261 (allS (Or.inr o_b250) all0)
    have P261 : own_Go p e below S0 (T261.setTop (mkF m 239 #[.val (.int i0), .val (.int i1), .val (.int i2), .val (.int i3), .val (.int i4), .val (.int 4), .val (.int n4), .val (.int n6), .val (.int n8), .val (.int n10), .val (.ref b210), .val (.int v240_s0), .val (.int v245_s0), .unset] [(.ref b250), (.ref b247), (.ref b247)])) := fun t k => P260 t (st261.trans k)
    have F262 : Exa Z T261.heap b250 "java/lang/String" := A250.keep Kc261
    have F263 : Exa Z T261.heap b247 "com/example/strict_acl/strictacl/NamePattern" := F259.keep Kc261
    have F264 : Fld Z h250 b247 "com/example/strict_acl/strictacl/NamePattern" "pattern" "Ljava/lang/String;" .null := F247_pattern.ext E250
    have F265 : Fld Z T261.heap b247 "com/example/strict_acl/strictacl/NamePattern" "pattern" "Ljava/lang/String;" .null := F264.keep Kc261 (ninS ne_b247_b250 nin0)
    obtain ⟨_, _, ⟨T266, L266, k266, n266⟩, -, X266, hSq266, hgr266, ⟨Lc266, hQ266, l266, y266, z266⟩, st266⟩ := X261.specialBackS hx (y := (⟨"com/example/strict_acl/strictacl/NamePattern", "<init>", "(Ljava/lang/String;)V"⟩ : MethodName)) rfl hown (mvT hZ (own_w hw 26 rfl)) (mvT hZ (own_w hw 27 rfl)) (mvT hZ (own_w hw 28 rfl)) (by decide) (backOfS (W := 1) (rm4 l Z a0 hw [] b247 b250 .null T261.heap n0 (Nat.le_trans Z0 K261.1) F262 F263 F265 g_b247) hZ (own_w hw 28 rfl) (own_w hw 4 rfl) (by decide) (by decide)) (g := (mkF m 239 #[.val (.int i0), .val (.int i1), .val (.int i2), .val (.int i3), .val (.int i4), .val (.int 4), .val (.int n4), .val (.int n6), .val (.int n8), .val (.int n10), .val (.ref b210), .val (.int v240_s0), .val (.int v245_s0), .unset] [(.ref b250), (.ref b247), (.ref b247)])) rfl (by rw [hml]; rfl) (Steps.refl _) (a := b247) (argsL := [(.ref b250)]) (rest := [(.ref b247)]) (lenOf pd_13 rfl) rfl (by show 2 * 0 + _ ≤ _; exact Nat.le_of_eq rfl) (hb hby at_239) (fun _ _ => ⟨rfl, rfl, (by decide : 4 + 2 ≤ _), (by decide : 13 + 32 ≤ _)⟩)
    dsimp only [Pt.U, Pt.locs, Pt.cells, Pt.slots] at X266 l266 y266 z266 st266 hQ266 hSq266 hgr266
    subst l266 y266 z266
    obtain ⟨hS266, hZ266, hown266⟩ := own_fold hS0 hSq266 (Nat.le_trans hk261 hgr266) hZ hown
    replace X266 := own_flat X266
    obtain ⟨rfl, N266q, Kc266, F266_0⟩ := hQ266
    have N266 := Fr.app N261 N266q
    have K266 : Keep h0 T266.heap [] := Keep.trans K261 Kc266 (allS (Or.inr o_b247) all0)
    have P266 : own_Go p e below S0 (T266.setTop (mkF m 242 #[.val (.int i0), .val (.int i1), .val (.int i2), .val (.int i3), .val (.int i4), .val (.int 4), .val (.int n4), .val (.int n6), .val (.int n8), .val (.int n10), .val (.ref b210), .val (.int v240_s0), .val (.int v245_s0), .unset] [(.ref b247)])) := fun t k => P261 t (st266.trans k)
    have F267 : Exa Z T266.heap b247 "com/example/strict_acl/strictacl/NamePattern" := F263.keep Kc266
    have F268 : Fld Z T266.heap b250 "java/lang/String" "value" "[B" (.ref b2_7_3_261) := F261_2.keep Kc266 (ninS (Ne.symm ne_b247_b250) nin0)
    have F269 : Arv Z T266.heap b2_7_3_261 k2_7_3_261 .byte (4 : Int32) [(.int (nar .byte ((nar .char n4).toInt8.toInt32))), (.int (nar .byte ((nar .char n6).toInt8.toInt32))), (.int (nar .byte ((nar .char n8).toInt8.toInt32))), (.int (nar .byte ((nar .char n10).toInt8.toInt32)))] (.int 0) := F261_0.keep Kc266 (ninS (Ne.symm ne_b247_b2_7_3_261) nin0)
    have F270 : Sta Z T261.heap "java/lang/String" "COMPACT_STRINGS" "Z" (.int zc) := own_staK F258 Kc261 (allS (own_plE A250) all0)
    have F271 : Sta Z T266.heap "java/lang/String" "COMPACT_STRINGS" "Z" (.int zc) := own_staK F270 Kc266 (allS (own_plE F263) all0)
    have F272 : Fld Z T266.heap b250 "java/lang/String" "coder" "B" (.int 0) := F261_1.keep Kc266 (ninS (Ne.symm ne_b247_b250) nin0)
    have F273 : Exa Z T266.heap b250 "java/lang/String" := F262.keep Kc266
    have P274 : own_Go p e below S0 (T266.setTop (mkF m 246 #[.val (.int i0), .val (.int i1), .val (.int i2), .val (.int i3), .val (.int i4), .val (.int 4), .val (.int n4), .val (.int n6), .val (.int n8), .val (.int n10), .val (.ref b210), .val (.int v240_s0), .val (.int v245_s0), .val (.ref b247)] [(.ref b247)])) := fun t k => P266 t (by
      refine XS.astore X266.here hx rfl (hb hby at_242) rfl rfl (l' := #[.val (.int i0), .val (.int i1), .val (.int i2), .val (.int i3), .val (.int i4), .val (.int 4), .val (.int n4), .val (.int n6), .val (.int n8), .val (.int n10), .val (.ref b210), .val (.int v240_s0), .val (.int v245_s0), .val (.ref b247)]) rfl ?_
      refine XS.aload X266.here hx rfl (hb hby at_244) rfl rfl ?_
      show Steps p.tables e below (T266.setTop (mkF m 246 #[.val (.int i0), .val (.int i1), .val (.int i2), .val (.int i3), .val (.int i4), .val (.int 4), .val (.int n4), .val (.int n6), .val (.int n8), .val (.int n10), .val (.ref b210), .val (.int v240_s0), .val (.int v245_s0), .val (.ref b247)] [(.ref b247)])) t
      exact k)
    obtain ⟨cq275, kq275, q275a, q275b, q275c⟩ := isOf hZ266 rfl F267
    obtain ⟨_, _, ⟨T275, L275, k275, n275⟩, -, X275, ⟨Lc275, hQ275, l275, y275, z275⟩, st275⟩ := X266.virtualBack hx (y := (⟨"com/example/strict_acl/strictacl/NamePattern", "isLiteral", "()Z"⟩ : MethodName)) (z := (⟨"com/example/strict_acl/strictacl/NamePattern", "isLiteral", "()Z"⟩ : MethodName)) hown266 (mvT hZ266 (own_w hw 38 rfl)) (mvT hZ266 (own_w hw 39 rfl)) (notFace_of_selects (args := #[]) (mvT hZ266 (own_w hw 41 rfl))) (mvT hZ266 (own_w hw 41 rfl)) (mvT hZ266 (own_w hw 40 rfl)) (by decide) (backOf (W := 0) (rm6n4 l Z a0 hw [] b247 b250 b2_7_3_261 k2_7_3_261 (nar .byte ((nar .char n4).toInt8.toInt32)) (nar .byte ((nar .char n6).toInt8.toInt32)) (nar .byte ((nar .char n8).toInt8.toInt32)) (nar .byte ((nar .char n10).toInt8.toInt32)) zc T266.heap n0 (Nat.le_trans Z0 K266.1) F266_0 F268 F269 F271 hcs F272 F273) hZ266 (own_w hw 42 rfl) (own_w hw 4 rfl) (by decide) (by decide)) q275a q275c (g := (mkF m 246 #[.val (.int i0), .val (.int i1), .val (.int i2), .val (.int i3), .val (.int i4), .val (.int 4), .val (.int n4), .val (.int n6), .val (.int n8), .val (.int n10), .val (.ref b210), .val (.int v240_s0), .val (.int v245_s0), .val (.ref b247)] [(.ref b247)])) rfl (by rw [hml]; rfl) (Steps.refl _) (argsL := []) (rest := []) (lenOf pd_8 rfl) rfl (by show 2 * 0 + _ ≤ _; exact Nat.le_of_eq rfl) (hb hby at_246) (fun _ _ => ⟨rfl, rfl, (by decide : 6 + 0 ≤ _), (by decide : 45 + 0 ≤ _)⟩)
    dsimp only [Pt.U, Pt.locs, Pt.cells, Pt.slots] at X275 l275 y275 z275 st275 hQ275
    subst l275 y275 z275
    obtain ⟨rfl, N275q, e275⟩ := hQ275
    have N275 := Fr.app N266 N275q
    have P275 : own_Go p e below S0 (T275.setTop (mkF m 249 #[.val (.int i0), .val (.int i1), .val (.int i2), .val (.int i3), .val (.int i4), .val (.int 4), .val (.int n4), .val (.int n6), .val (.int n8), .val (.int n10), .val (.ref b210), .val (.int v240_s0), .val (.int v245_s0), .val (.ref b247)] [(.int (r6n4 (nar .byte ((nar .char n4).toInt8.toInt32)) (nar .byte ((nar .char n6).toInt8.toInt32)) (nar .byte ((nar .char n8).toInt8.toInt32)) (nar .byte ((nar .char n10).toInt8.toInt32))))])) := fun t k => P274 t (st275.trans k)
    have c276 : (r6n4 (nar .byte ((nar .char n4).toInt8.toInt32)) (nar .byte ((nar .char n6).toInt8.toInt32)) (nar .byte ((nar .char n8).toInt8.toInt32)) (nar .byte ((nar .char n10).toInt8.toInt32))) = v245_s0 := by rw [hv245_s0, hv240_s0]; exact own_law4 _ _ (own_nb hn4) _ _ (own_nb hn6) _ _ (own_nb hn8) _ _ (own_nb hn10)
    have P277 : own_Go p e below S0 (T275.setTop (mkF m 259 #[.val (.int i0), .val (.int i1), .val (.int i2), .val (.int i3), .val (.int i4), .val (.int 4), .val (.int n4), .val (.int n6), .val (.int n8), .val (.int n10), .val (.ref b210), .val (.int v240_s0), .val (.int v245_s0), .val (.ref b247)] [(.int 1)])) := fun t k => P275 t (by
      refine XS.iload X275.here hx rfl (hb hby at_249) rfl ?_
      refine XS.icmpNo X275.here hx rfl (hb hby at_251) rfl (teq c276).2 ?_
      refine XS.iconst X275.here hx rfl (hb hby at_254) ?_
      refine XS.goto X275.here hx rfl (pc0 := 255) (pc' := 259) rfl (hb hby at_255) (by decide) (by decide) ?_
      show Steps p.tables e below (T275.setTop (mkF m 259 #[.val (.int i0), .val (.int i1), .val (.int i2), .val (.int i3), .val (.int i4), .val (.int 4), .val (.int n4), .val (.int n6), .val (.int n8), .val (.int n10), .val (.ref b210), .val (.int v240_s0), .val (.int v245_s0), .val (.ref b247)] [(.int 1)])) t
      exact k)
    have F278 : Arv Z T261.heap b210 k210 .char (4 : Int32) [(.int (nar .char n4)), (.int (nar .char n6)), (.int (nar .char n8)), (.int (nar .char n10))] (.int 0) := F251.keep Kc261 (ninS ne_b210_b250 nin0)
    have F279 : Arv Z T266.heap b210 k210 .char (4 : Int32) [(.int (nar .char n4)), (.int (nar .char n6)), (.int (nar .char n8)), (.int (nar .char n10))] (.int 0) := F278.keep Kc266 (ninS ne_b210_b247 nin0)
    obtain ⟨fs, hr, hrun, hended, hend⟩ := X275.leaveW hS266 (by rw [e275]; exact (Nat.le_refl _)) (v := some (.int 1)) (fun h => by rw [Bd.returns] at h; cases h) (BodyLoose.notSynchronized Bd)
    refine ⟨_, _, own_from hE0 (P277 _ ?_), hrun, hended, _, _, rfl, ?_, hend.1, hend.2.1, hend.2.2.1, hend.2.2.2.mono (by decide) (by decide)⟩
    · show Steps p.tables e below (T275.setTop (mkF m 259 #[.val (.int i0), .val (.int i1), .val (.int i2), .val (.int i3), .val (.int i4), .val (.int 4), .val (.int n4), .val (.int n6), .val (.int n8), .val (.int n10), .val (.ref b210), .val (.int v240_s0), .val (.int v245_s0), .val (.ref b247)] [(.int 1)])) _
      exact retN X275 hx (t := .boolean) Bd.returns (by simp) (hb hby at_259) hr
    · show Q0 Z i0 i1 i2 i3 i4 zc h0 n0 _ T275.heap _
      rw [e275]
      exact ⟨rfl, N275⟩
set_option maxRecDepth 65536 in
set_option maxHeartbeats 40000000 in
theorem comes_1 {Post : Tables → Env → Array Value → State → Outcome → State → Prop} (hpost : ∀ tb e args s v u, (limb_1_1.after args s (.returned v) u = true ∧ limb_1_2.after args s (.returned v) u = true ∧ True) → ReturnedEndW s (.returned v) u (Jvm.fieldLocs frame_1_writes args s ++ Jvm.arrayLocs frame_1_arrays args s ++ Jvm.staticLocs frame_1_statics s) 24 2176 → Post tb e args s (.returned v) u) :
    ArmFor flags0 classFile x code maxLocals ret World_1 tables_1 room_1 Calls_1 rest_1 Pre_1 Post := by
  intro l hfl _ _ p e ha hc hk s m args below hf hA hF happ hP
  obtain ⟨hcalls, hrest, hpre⟩ := hP
  obtain ⟨-, -, -, hnamed, -, -, -, hat⟩ := (Spec.applies_iff hf).mp happ
  obtain ⟨hg, hn⟩ := and_e (Cond.before_iff.mp (show (Jvm.Cond.and given_1 narrow_1).before args s = true from hpre))
  obtain ⟨ga1, gb1⟩ := and_e hg
  obtain ⟨ga2, gb2⟩ := and_e gb1
  obtain ⟨ga3, gb3⟩ := and_e gb2
  obtain ⟨ga4, gb4⟩ := and_e gb3
  obtain ⟨ga5, gb5⟩ := and_e gb4
  obtain ⟨w0, w1, w2, w3, w4, rfl⟩ : ∃ w0 w1 w2 w3 w4 : Value, args = #[w0, w1, w2, w3, w4] := by
    have hs : args.size = 5 := by simpa [Cond.value, given_1] using ga1
    obtain ⟨L⟩ := args
    match L, hs with
    | [w0, w1, w2, w3, w4], _ => exact ⟨w0, w1, w2, w3, w4, rfl⟩
  have hw := fun d (hd : d ∈ tables_1) => atoms_spec (ws := Jvm.Cond.code x code maxLocals ret :: tables_1) hat d (List.mem_cons_of_mem _ hd)
  have hfit : Fit s := fun {y c} hc i hi => by
    obtain ⟨ha, rfl⟩ := Array.getElem?_eq_some_iff.mp hc
    have q := List.all_eq_true.mp ((Array.all_eq_true_iff_forall_mem.mp hF) _ (Array.getElem_mem ha)) i (List.mem_range.mpr hi)
    simpa [Array.getElem?_eq_getElem hi] using q
  obtain ⟨hsets, hown0⟩ := atoms_of _ (rest_1_c_eq ▸ (show rest_1_c.before _ s = true from hrest))
  obtain ⟨i0, ei0⟩ := is_v ga2
  obtain rfl : w0 = (.int i0) := Option.some.inj ei0
  obtain ⟨i1, ei1⟩ := is_v ga3
  obtain rfl : w1 = (.int i1) := Option.some.inj ei1
  obtain ⟨i2, ei2⟩ := is_v ga4
  obtain rfl : w2 = (.int i2) := Option.some.inj ei2
  obtain ⟨i3, ei3⟩ := is_v ga5
  obtain rfl : w3 = (.int i3) := Option.some.inj ei3
  obtain ⟨i4, ei4⟩ := is_v gb5
  obtain rfl : w4 = (.int i4) := Option.some.inj ei4
  obtain ⟨zc, evc⟩ := is_v (Cond.before_iff.mp (hsets _ (List.mem_of_getElem? (i := 1) rfl)))
  have S_cs : Sta s s.heap "java/lang/String" "COMPACT_STRINGS" "Z" (.int zc) := Sta.start evc (Or.inl (hsets _ (List.mem_of_getElem? (i := 0) rfl)))
  have hcs : ¬ (zc = (0 : Int32)) := own_cs evc (hsets _ (List.mem_of_getElem? (i := 2) rfl))
  have hCH : CHv s own_EL s.vm s.heap := CHv.start (own_EW hw) (fun p hp => hcalls.1 p (by simp only [own_EL, List.mem_cons, List.not_mem_nil, or_false] at hp; subst hp; simp [consts_1])) (hsets _ (List.mem_of_getElem? (i := 2) rfl)) (own_w hw 19 rfl) (own_w hw 6 rfl)
  obtain ⟨n, o, h1, h2, h3, _, L, rfl, ⟨rfl, N⟩, hq⟩ := rm0 l s _ hw tables_1 i0 i1 i2 i3 i4 zc s.heap s.heap.size (Nat.le_refl _) S_cs hcs p e ha hc hk s m _ below hf ((Spec.applies_iff_loose hf).mp happ).1 ⟨rfl, State.Warmed39.refl s, rfl, hCH⟩ trivial
  refine ⟨n, _, h1, h2, h3, hpost _ _ _ _ _ _ ⟨Cond.after_iff.mpr rfl, Cond.after_iff.mpr (eq_i res_at (Term.int_eval (1)) rfl), trivial⟩ ⟨hq.1, hq.2.1, hq.2.2.1, (hq.2.2.2.sift fun y hy => Or.inr (N y hy)).mono (by decide) (by decide)⟩⟩
theorem main_1_1 : Claimed_1_1 := comes_1 fun _ _ _ _ _ _ h hF => ⟨h.1, hF⟩
theorem main_1_2 : Claimed_1_2 := comes_1 fun _ _ _ _ _ _ h hF => ⟨h.2.1, hF⟩
end Jvm.Pilot.@@N@@
namespace Jvm.Pilot.@@N@@
open Jvm Jvm.ClassFile Sem Op Lib Jvm.Free Jvm.Stand Jvm.Pilot.@@N@@.Jvm.D
/-! MADE BY PROGRAM (witnessworld.py) out of the Statement's table words and the real class files: 22 classes; the members and pool entries that the words name. The judged class is class 1, her method 1. -/
namespace start1
open Jvm.ClassFile
def u (s : String) : CpInfo := .utf8 (stringToUtf16 s)
/-- a pool by its gaps: so many unusable entries, then the entry; so many at the end -/
def gap : Nat → List CpInfo → List CpInfo
  | 0, r => r
  | n + 1, r => .unusable :: gap n r
def poolList (es : List (Nat × CpInfo)) (last : Nat) : List CpInfo := es.foldr (fun e r => gap e.1 (e.2 :: r)) (gap last [])
def pool (es : List (Nat × CpInfo)) (last : Nat) : Array CpInfo := ⟨poolList es last⟩
def fileOf (pool : Array CpInfo) (this : Nat) (attrs : Array Attribute := #[]) (ms : Array MethodInfo := #[]) (fl : Nat := 33) (sup : Nat := 0) (ifs : Array Nat := #[]) (fds : Array FieldInfo := #[]) : ClassFile where
  minorVersion := 0
  majorVersion := 65
  constantPool := pool
  accessFlags := fl
  thisClass := this
  superClass := sup
  interfaces := ifs
  fields := fds
  methods := ms
  attributes := attrs
def plain (name : String) (sup : Option ClassId) : Class where
  name := name
  kind := .ordinary
  loader := none
  accessFlags := 33
  super := sup
  interfaces := #[]
  cf := none
  fields := #[]
  methods := #[]
  instanceTypes := #[]
  staticTypes := #[]
  resolved := #[]
  callSites := []
  init := .initialized
  statics := none
  mirror := none

def pool0 : Array CpInfo := pool [(5, u "<init>"), (0, u "()V"), (1, .class_ 10), (1, u "java/lang/Object")] 113

def k0c0 : Code := { maxStack := 0, maxLocals := 1, code := object_method_1_code, exceptionTable := #[], attributes := #[] }
def k0m0 : Method := { name := "<init>", desc := "()V", sig := { parameters := [], returnType := none }, accessFlags := 1, code := some k0c0 }
/-- java/lang/Object -/
def k0 : Class := { plain "java/lang/Object" none with
  accessFlags := 33
  interfaces := #[]
  cf := some (fileOf pool0 8 #[] #[{ accessFlags := 1, nameIndex := 5, descriptorIndex := 6, attributes := #[] }] 33 0 #[] #[])
  fields := #[]
  methods := #[k0m0]
  instanceTypes := #[]
  staticTypes := #[]
  resolved := Array.replicate 124 none
  statics := none }

def pool1 : Array CpInfo := pool [(2, .class_ 4), (1, u "java/lang/Object"), (0, u "<init>"), (0, u "()V"), (0, .integer 2147483647), (0, .methodref 9 10), (0, .class_ 11), (0, .nameAndType 12 13), (0, u "com/example/strict_acl/strictacl/NamePatternIsLiteralPinLaw"), (0, u "wild"), (0, u "(C)Z"), (0, .class_ 15), (0, u "com/example/strict_acl/strictacl/NamePattern"), (0, .class_ 17), (0, u "java/lang/String"), (0, .methodref 16 19), (0, .nameAndType 5 20), (0, u "([C)V"), (0, .methodref 14 22), (0, .nameAndType 5 23), (0, u "(Ljava/lang/String;)V"), (0, .methodref 14 25), (0, .nameAndType 26 27), (0, u "isLiteral"), (0, u "()Z"), (2, u "law"), (0, u "(IIIII)Z")] 5

def k1m0 : Method := { name := "<init>", desc := "()V", sig := { parameters := [], returnType := none }, accessFlags := 1, code := none }
def k1c1 : Code := { maxStack := 5, maxLocals := 14, code := code, exceptionTable := #[], attributes := #[] }
def k1m1 : Method := { name := "law", desc := "(IIIII)Z", sig := { parameters := [.int, .int, .int, .int, .int], returnType := some .boolean }, accessFlags := 9, code := some k1c1 }
def k1c2 : Code := { maxStack := 2, maxLocals := 1, code := method_3_code, exceptionTable := #[], attributes := #[] }
def k1m2 : Method := { name := "wild", desc := "(C)Z", sig := { parameters := [.char], returnType := some .boolean }, accessFlags := 10, code := some k1c2 }
/-- com/example/strict_acl/strictacl/NamePatternIsLiteralPinLaw -/
def k1 : Class := { plain "com/example/strict_acl/strictacl/NamePatternIsLiteralPinLaw" (some 0) with
  accessFlags := 49
  interfaces := #[]
  cf := some (fileOf pool1 9 #[] #[{ accessFlags := 1, nameIndex := 5, descriptorIndex := 6, attributes := #[] }, { accessFlags := 9, nameIndex := 30, descriptorIndex := 31, attributes := #[] }, { accessFlags := 10, nameIndex := 12, descriptorIndex := 13, attributes := #[] }] 49 2 #[] #[])
  fields := #[]
  methods := #[k1m0, k1m1, k1m2]
  instanceTypes := #[]
  staticTypes := #[]
  resolved := Array.replicate 37 none
  statics := none }

def pool2 : Array CpInfo := pool [(1, .methodref 2 3), (0, .class_ 4), (0, .nameAndType 5 6), (0, u "java/lang/Object"), (0, u "<init>"), (0, u "()V"), (0, .string 8), (0, u "pattern"), (0, .methodref 10 11), (0, .class_ 12), (0, .nameAndType 13 14), (0, u "java/util/Objects"), (0, u "requireNonNull"), (0, u "(Ljava/lang/Object;Ljava/lang/String;)Ljava/lang/Object;"), (0, .class_ 16), (0, u "java/lang/String"), (0, .fieldref 18 19), (0, .class_ 20), (0, .nameAndType 8 21), (0, u "com/example/strict_acl/strictacl/NamePattern"), (0, u "Ljava/lang/String;"), (7, u "(I)I"), (13, .methodref 15 44), (0, .nameAndType 45 29), (0, u "indexOf"), (0, u "ANY_RUN"), (0, u "I"), (2, u "ANY_ONE"), (1, u "END"), (1, u "(Ljava/lang/String;)V"), (7, u "isLiteral"), (0, u "()Z")] 3

def k2c0 : Code := { maxStack := 3, maxLocals := 2, code := prog_25_method_1_code, exceptionTable := #[], attributes := #[] }
def k2m0 : Method := { name := "<init>", desc := "(Ljava/lang/String;)V", sig := { parameters := [(.object "java/lang/String")], returnType := none }, accessFlags := 0, code := some k2c0 }
def k2c1 : Code := { maxStack := 2, maxLocals := 1, code := prog_25_method_4_code, exceptionTable := #[], attributes := #[] }
def k2m1 : Method := { name := "isLiteral", desc := "()Z", sig := { parameters := [], returnType := some .boolean }, accessFlags := 0, code := some k2c1 }
/-- com/example/strict_acl/strictacl/NamePattern -/
def k2 : Class := { plain "com/example/strict_acl/strictacl/NamePattern" (some 0) with
  accessFlags := 48
  interfaces := #[]
  cf := some (fileOf pool2 18 #[] #[{ accessFlags := 0, nameIndex := 5, descriptorIndex := 54, attributes := #[] }, { accessFlags := 0, nameIndex := 62, descriptorIndex := 63, attributes := #[] }] 48 2 #[] #[{ accessFlags := 26, nameIndex := 46, descriptorIndex := 47, attributes := #[] }, { accessFlags := 26, nameIndex := 50, descriptorIndex := 47, attributes := #[] }, { accessFlags := 26, nameIndex := 52, descriptorIndex := 47, attributes := #[] }, { accessFlags := 18, nameIndex := 8, descriptorIndex := 21, attributes := #[] }])
  fields := #[{ name := "ANY_RUN", type := .int, accessFlags := 26, slot := 0, constantValue := 0 }, { name := "ANY_ONE", type := .int, accessFlags := 26, slot := 1, constantValue := 0 }, { name := "END", type := .int, accessFlags := 26, slot := 2, constantValue := 0 }, { name := "pattern", type := (.object "java/lang/String"), accessFlags := 18, slot := 0, constantValue := 0 }]
  methods := #[k2m0, k2m1]
  instanceTypes := #[(.object "java/lang/String")]
  staticTypes := #[.int, .int, .int]
  resolved := Array.replicate 67 none
  statics := none }

def pool3 : Array CpInfo := pool [(1, .class_ 2), (0, u "java/io/Serializable"), (0, .class_ 4), (0, u "java/lang/Object")] 2

/-- java/io/Serializable -/
def k3 : Class := { plain "java/io/Serializable" (some 0) with
  accessFlags := 1537
  interfaces := #[]
  cf := some (fileOf pool3 1 #[] #[] 1537 3 #[] #[])
  fields := #[]
  methods := #[]
  instanceTypes := #[]
  staticTypes := #[]
  resolved := Array.replicate 7 none
  statics := none }

def pool4 : Array CpInfo := pool [(1, .class_ 2), (0, u "java/lang/Comparable"), (0, .class_ 4), (0, u "java/lang/Object")] 7

/-- java/lang/Comparable -/
def k4 : Class := { plain "java/lang/Comparable" (some 0) with
  accessFlags := 1537
  interfaces := #[]
  cf := some (fileOf pool4 1 #[] #[] 1537 3 #[] #[])
  fields := #[]
  methods := #[]
  instanceTypes := #[]
  staticTypes := #[]
  resolved := Array.replicate 12 none
  statics := none }

def pool5 : Array CpInfo := pool [(2, .class_ 4), (1, u "java/lang/CharSequence"), (42, .class_ 48), (0, u "java/lang/CharSequence$1CodePointIterator"), (10, .class_ 60), (0, u "java/lang/CharSequence$1CharIterator"), (5, .class_ 67), (0, u "java/lang/Object")] 63

/-- java/lang/CharSequence -/
def k5 : Class := { plain "java/lang/CharSequence" (some 0) with
  accessFlags := 1537
  interfaces := #[]
  cf := some (fileOf pool5 2 #[.nestMembers #[47, 59]] #[] 1537 66 #[] #[])
  fields := #[]
  methods := #[]
  instanceTypes := #[]
  staticTypes := #[]
  resolved := Array.replicate 131 none
  statics := none }

def pool6 : Array CpInfo := pool [(1, .class_ 2), (0, u "java/lang/constant/Constable"), (0, .class_ 4), (0, u "java/lang/Object")] 6

/-- java/lang/constant/Constable -/
def k6 : Class := { plain "java/lang/constant/Constable" (some 0) with
  accessFlags := 1537
  interfaces := #[]
  cf := some (fileOf pool6 1 #[] #[] 1537 3 #[] #[])
  fields := #[]
  methods := #[]
  instanceTypes := #[]
  staticTypes := #[]
  resolved := Array.replicate 11 none
  statics := none }

def pool7 : Array CpInfo := pool [(1, .class_ 2), (0, u "java/lang/constant/ConstantDesc"), (0, .class_ 4), (0, u "java/lang/Object")] 32

/-- java/lang/constant/ConstantDesc -/
def k7 : Class := { plain "java/lang/constant/ConstantDesc" (some 0) with
  accessFlags := 1537
  interfaces := #[]
  cf := some (fileOf pool7 1 #[] #[] 1537 3 #[] #[])
  fields := #[]
  methods := #[]
  instanceTypes := #[]
  staticTypes := #[]
  resolved := Array.replicate 37 none
  statics := none }

def pool8 : Array CpInfo := pool [(1, .methodref 2 3), (0, .class_ 4), (0, .nameAndType 5 6), (0, u "java/lang/Object"), (0, u "<init>"), (0, u "()V"), (0, .string 8), (0, u ""), (0, .fieldref 10 11), (0, .class_ 12), (0, .nameAndType 13 14), (0, u "java/lang/String"), (0, u "value"), (0, u "[B"), (0, .fieldref 10 16), (0, .nameAndType 17 18), (0, u "coder"), (0, u "B"), (2, u "hash"), (0, u "I"), (2, u "hashIsZero"), (0, u "Z"), (0, .methodref 10 28), (0, .nameAndType 5 29), (0, u "([CIILjava/lang/Void;)V"), (8, .fieldref 10 39), (0, .nameAndType 40 26), (0, u "COMPACT_STRINGS"), (1, .class_ 44), (1, u "java/lang/StringUTF16"), (0, u "compress"), (1, .methodref 42 48), (0, .nameAndType 49 50), (0, u "coderFromArrayLen"), (0, u "([BI)B"), (56, .class_ 109), (1, u "java/lang/StringLatin1"), (32, u "()Z"), (34, .methodref 42 178), (0, .nameAndType 45 179), (0, u "([CII)[B"), (154, u "()I"), (0, .methodref 10 336), (0, .nameAndType 17 337), (0, u "()B"), (154, .methodref 10 493), (0, .nameAndType 494 142), (0, u "isLatin1"), (10, .methodref 10 506), (0, .nameAndType 507 334), (0, u "length"), (67, .class_ 576), (0, u "java/lang/CharSequence"), (22, u "CASE_INSENSITIVE_ORDER"), (0, u "Ljava/util/Comparator;"), (32, .methodref 10 634), (0, .nameAndType 635 636), (0, u "indexOf"), (0, u "(II)I"), (0, .methodref 107 638), (0, .nameAndType 635 639), (0, u "([BIII)I"), (125, u "(I)I"), (244, u "([C)V"), (90, u "serialPersistentFields"), (0, u "[Ljava/io/ObjectStreamField;"), (0, .class_ 1104), (0, u "java/lang/String$CaseInsensitiveComparator"), (1, .class_ 1107), (0, u "java/io/Serializable"), (0, .class_ 1109), (0, u "java/lang/Comparable"), (0, .class_ 1111), (0, u "java/lang/constant/Constable"), (0, .class_ 1113), (0, u "java/lang/constant/ConstantDesc"), (2, u "serialVersionUID"), (0, u "J"), (3, u "REPL"), (0, u "C"), (2, u "LATIN1"), (1, u "UTF16")] 323

def k8m0 : Method := { name := "<init>", desc := "()V", sig := { parameters := [], returnType := none }, accessFlags := 1, code := none }
def k8c1 : Code := { maxStack := 5, maxLocals := 2, code := jdk_42_method_3_code, exceptionTable := #[], attributes := #[] }
def k8m1 : Method := { name := "<init>", desc := "([C)V", sig := { parameters := [(.array .char)], returnType := none }, accessFlags := 1, code := some k8c1 }
def k8c2 : Code := { maxStack := 2, maxLocals := 1, code := jdk_42_method_54_code, exceptionTable := #[], attributes := #[] }
def k8m2 : Method := { name := "length", desc := "()I", sig := { parameters := [], returnType := some .int }, accessFlags := 1, code := some k8c2 }
def k8c3 : Code := { maxStack := 3, maxLocals := 2, code := jdk_42_method_79_code, exceptionTable := #[], attributes := #[] }
def k8m3 : Method := { name := "indexOf", desc := "(I)I", sig := { parameters := [.int], returnType := some .int }, accessFlags := 1, code := some k8c3 }
def k8c4 : Code := { maxStack := 4, maxLocals := 3, code := jdk_42_method_80_code, exceptionTable := #[], attributes := #[] }
def k8m4 : Method := { name := "indexOf", desc := "(II)I", sig := { parameters := [.int, .int], returnType := some .int }, accessFlags := 1, code := some k8c4 }
def k8c5 : Code := { maxStack := 4, maxLocals := 6, code := jdk_42_method_149_code, exceptionTable := #[], attributes := #[] }
def k8m5 : Method := { name := "<init>", desc := "([CIILjava/lang/Void;)V", sig := { parameters := [(.array .char), .int, .int, (.object "java/lang/Void")], returnType := none }, accessFlags := 2, code := some k8c5 }
def k8c6 : Code := { maxStack := 1, maxLocals := 1, code := jdk_42_method_152_code, exceptionTable := #[], attributes := #[] }
def k8m6 : Method := { name := "coder", desc := "()B", sig := { parameters := [], returnType := some .byte }, accessFlags := 0, code := some k8c6 }
def k8c7 : Code := { maxStack := 1, maxLocals := 1, code := jdk_42_method_154_code, exceptionTable := #[], attributes := #[] }
def k8m7 : Method := { name := "isLatin1", desc := "()Z", sig := { parameters := [], returnType := some .boolean }, accessFlags := 0, code := some k8c7 }
/-- java/lang/String -/
def k8 : Class := { plain "java/lang/String" (some 0) with
  accessFlags := 49
  interfaces := #[3, 4, 5, 6, 7]
  cf := some (fileOf pool8 10 #[.nestMembers #[1103]] #[{ accessFlags := 1, nameIndex := 5, descriptorIndex := 6, attributes := #[] }, { accessFlags := 1, nameIndex := 5, descriptorIndex := 1010, attributes := #[] }, { accessFlags := 1, nameIndex := 507, descriptorIndex := 334, attributes := #[] }, { accessFlags := 1, nameIndex := 635, descriptorIndex := 765, attributes := #[] }, { accessFlags := 1, nameIndex := 635, descriptorIndex := 636, attributes := #[] }, { accessFlags := 2, nameIndex := 5, descriptorIndex := 29, attributes := #[] }, { accessFlags := 0, nameIndex := 17, descriptorIndex := 337, attributes := #[] }, { accessFlags := 0, nameIndex := 494, descriptorIndex := 142, attributes := #[] }] 49 2 #[1106, 1108, 575, 1110, 1112] #[{ accessFlags := 18, nameIndex := 13, descriptorIndex := 14, attributes := #[] }, { accessFlags := 18, nameIndex := 17, descriptorIndex := 18, attributes := #[] }, { accessFlags := 2, nameIndex := 21, descriptorIndex := 22, attributes := #[] }, { accessFlags := 2, nameIndex := 25, descriptorIndex := 26, attributes := #[] }, { accessFlags := 26, nameIndex := 1116, descriptorIndex := 1117, attributes := #[] }, { accessFlags := 24, nameIndex := 40, descriptorIndex := 26, attributes := #[] }, { accessFlags := 26, nameIndex := 1101, descriptorIndex := 1102, attributes := #[] }, { accessFlags := 26, nameIndex := 1121, descriptorIndex := 1122, attributes := #[] }, { accessFlags := 25, nameIndex := 599, descriptorIndex := 600, attributes := #[] }, { accessFlags := 24, nameIndex := 1125, descriptorIndex := 18, attributes := #[] }, { accessFlags := 24, nameIndex := 1127, descriptorIndex := 18, attributes := #[] }])
  fields := #[{ name := "value", type := (.array .byte), accessFlags := 18, slot := 0, constantValue := 0 }, { name := "coder", type := .byte, accessFlags := 18, slot := 1, constantValue := 0 }, { name := "hash", type := .int, accessFlags := 2, slot := 2, constantValue := 0 }, { name := "hashIsZero", type := .boolean, accessFlags := 2, slot := 3, constantValue := 0 }, { name := "serialVersionUID", type := .long, accessFlags := 26, slot := 0, constantValue := 0 }, { name := "COMPACT_STRINGS", type := .boolean, accessFlags := 24, slot := 1, constantValue := 0 }, { name := "serialPersistentFields", type := (.array (.object "java/io/ObjectStreamField")), accessFlags := 26, slot := 2, constantValue := 0 }, { name := "REPL", type := .char, accessFlags := 26, slot := 3, constantValue := 0 }, { name := "CASE_INSENSITIVE_ORDER", type := (.object "java/util/Comparator"), accessFlags := 25, slot := 4, constantValue := 0 }, { name := "LATIN1", type := .byte, accessFlags := 24, slot := 5, constantValue := 0 }, { name := "UTF16", type := .byte, accessFlags := 24, slot := 6, constantValue := 0 }]
  methods := #[k8m0, k8m1, k8m2, k8m3, k8m4, k8m5, k8m6, k8m7]
  instanceTypes := #[(.array .byte), .byte, .int, .boolean]
  staticTypes := #[.long, .boolean, (.array (.object "java/io/ObjectStreamField")), .char, (.object "java/util/Comparator"), .byte, .byte]
  resolved := Array.replicate 1451 none
  statics := some 0 }

def pool9 : Array CpInfo := pool [(2, .class_ 4), (1, u "java/lang/Object"), (0, u "<init>"), (0, u "()V"), (35, .class_ 44), (1, u "java/util/Objects"), (0, u "requireNonNull"), (48, u "(Ljava/lang/Object;Ljava/lang/String;)Ljava/lang/Object;")] 89

def k9m0 : Method := { name := "<init>", desc := "()V", sig := { parameters := [], returnType := none }, accessFlags := 2, code := none }
def k9c1 : Code := { maxStack := 3, maxLocals := 2, code := jdk_31_method_11_code, exceptionTable := #[], attributes := #[] }
def k9m1 : Method := { name := "requireNonNull", desc := "(Ljava/lang/Object;Ljava/lang/String;)Ljava/lang/Object;", sig := { parameters := [(.object "java/lang/Object"), (.object "java/lang/String")], returnType := some (.object "java/lang/Object") }, accessFlags := 9, code := some k9c1 }
/-- java/util/Objects -/
def k9 : Class := { plain "java/util/Objects" (some 0) with
  accessFlags := 49
  interfaces := #[]
  cf := some (fileOf pool9 42 #[] #[{ accessFlags := 2, nameIndex := 5, descriptorIndex := 6, attributes := #[] }, { accessFlags := 9, nameIndex := 45, descriptorIndex := 94, attributes := #[] }] 49 2 #[] #[])
  fields := #[]
  methods := #[k9m0, k9m1]
  instanceTypes := #[]
  staticTypes := #[]
  resolved := Array.replicate 184 none
  statics := none }

def pool10 : Array CpInfo := pool [(4, .class_ 6), (1, u "java/lang/Object"), (0, u "<init>"), (0, u "()V"), (5, .class_ 16), (1, u "java/lang/StringLatin1"), (21, .methodref 39 40), (0, .class_ 41), (0, .nameAndType 42 43), (0, u "java/lang/Math"), (0, u "min"), (0, u "(II)I"), (44, .methodref 14 89), (0, .nameAndType 90 91), (0, u "canEncode"), (0, u "(I)Z"), (0, .methodref 39 93), (0, .nameAndType 94 43), (0, u "max"), (0, .methodref 14 96), (0, .nameAndType 97 98), (0, u "indexOfChar"), (0, u "([BIII)I"), (2, u "indexOf"), (19, u "$assertionsDisabled"), (0, u "Z"), (98, .class_ 223), (1, u "java/lang/StringLatin1$LinesSpliterator"), (166, .class_ 391), (0, u "java/lang/StringLatin1$CharsSpliterator")] 3

def k10m0 : Method := { name := "<init>", desc := "()V", sig := { parameters := [], returnType := none }, accessFlags := 0, code := none }
def k10c1 : Code := { maxStack := 2, maxLocals := 1, code := jdk_43_method_4_code, exceptionTable := #[], attributes := #[] }
def k10m1 : Method := { name := "canEncode", desc := "(I)Z", sig := { parameters := [.int], returnType := some .boolean }, accessFlags := 9, code := some k10c1 }
def k10c2 : Code := { maxStack := 4, maxLocals := 4, code := jdk_43_method_22_code, exceptionTable := #[], attributes := #[] }
def k10m2 : Method := { name := "indexOf", desc := "([BIII)I", sig := { parameters := [(.array .byte), .int, .int, .int], returnType := some .int }, accessFlags := 9, code := some k10c2 }
def k10c3 : Code := { maxStack := 2, maxLocals := 6, code := jdk_43_method_23_code, exceptionTable := #[], attributes := #[] }
def k10m3 : Method := { name := "indexOfChar", desc := "([BIII)I", sig := { parameters := [(.array .byte), .int, .int, .int], returnType := some .int }, accessFlags := 10, code := some k10c3 }
/-- java/lang/StringLatin1 -/
def k10 : Class := { plain "java/lang/StringLatin1" (some 0) with
  accessFlags := 48
  interfaces := #[]
  cf := some (fileOf pool10 14 #[.nestMembers #[390, 221]] #[{ accessFlags := 0, nameIndex := 7, descriptorIndex := 8, attributes := #[] }, { accessFlags := 9, nameIndex := 90, descriptorIndex := 91, attributes := #[] }, { accessFlags := 9, nameIndex := 101, descriptorIndex := 98, attributes := #[] }, { accessFlags := 10, nameIndex := 97, descriptorIndex := 98, attributes := #[] }] 48 4 #[] #[{ accessFlags := 4120, nameIndex := 121, descriptorIndex := 122, attributes := #[] }])
  fields := #[{ name := "$assertionsDisabled", type := .boolean, accessFlags := 4120, slot := 0, constantValue := 0 }]
  methods := #[k10m0, k10m1, k10m2, k10m3]
  instanceTypes := #[]
  staticTypes := #[.boolean]
  resolved := Array.replicate 395 none
  statics := none }

def pool11 : Array CpInfo := pool [(1, .class_ 2), (0, u "java/lang/Math"), (1, .class_ 6), (1, u "java/lang/Object"), (0, u "<init>"), (0, u "()V"), (89, .class_ 100), (1, u "java/lang/Math$RandomNumberGeneratorHolder"), (71, u "negativeZeroFloatBits"), (0, u "J"), (2, u "negativeZeroDoubleBits"), (21, u "max"), (2, u "min"), (43, u "$assertionsDisabled"), (0, u "Z"), (88, u "(II)I"), (2, u "twoToTheDoubleScaleDown"), (0, u "D"), (4, u "twoToTheDoubleScaleUp"), (9, u "E"), (3, u "PI"), (2, u "TAU"), (2, u "DEGREES_TO_RADIANS"), (0, u "RADIANS_TO_DEGREES")] 94

def k11m0 : Method := { name := "<init>", desc := "()V", sig := { parameters := [], returnType := none }, accessFlags := 2, code := none }
def k11c1 : Code := { maxStack := 2, maxLocals := 2, code := jdk_29_method_65_code, exceptionTable := #[], attributes := #[] }
def k11m1 : Method := { name := "max", desc := "(II)I", sig := { parameters := [.int, .int], returnType := some .int }, accessFlags := 9, code := some k11c1 }
def k11c2 : Code := { maxStack := 2, maxLocals := 2, code := jdk_29_method_69_code, exceptionTable := #[], attributes := #[] }
def k11m2 : Method := { name := "min", desc := "(II)I", sig := { parameters := [.int, .int], returnType := some .int }, accessFlags := 9, code := some k11c2 }
/-- java/lang/Math -/
def k11 : Class := { plain "java/lang/Math" (some 0) with
  accessFlags := 49
  interfaces := #[]
  cf := some (fileOf pool11 1 #[.nestMembers #[98]] #[{ accessFlags := 2, nameIndex := 7, descriptorIndex := 8, attributes := #[] }, { accessFlags := 9, nameIndex := 198, descriptorIndex := 335, attributes := #[] }, { accessFlags := 9, nameIndex := 201, descriptorIndex := 335, attributes := #[] }] 49 4 #[] #[{ accessFlags := 25, nameIndex := 354, descriptorIndex := 339, attributes := #[] }, { accessFlags := 25, nameIndex := 358, descriptorIndex := 339, attributes := #[] }, { accessFlags := 25, nameIndex := 361, descriptorIndex := 339, attributes := #[] }, { accessFlags := 26, nameIndex := 364, descriptorIndex := 339, attributes := #[] }, { accessFlags := 26, nameIndex := 365, descriptorIndex := 339, attributes := #[] }, { accessFlags := 26, nameIndex := 172, descriptorIndex := 173, attributes := #[] }, { accessFlags := 26, nameIndex := 176, descriptorIndex := 173, attributes := #[] }, { accessFlags := 8, nameIndex := 344, descriptorIndex := 339, attributes := #[] }, { accessFlags := 8, nameIndex := 338, descriptorIndex := 339, attributes := #[] }, { accessFlags := 4120, nameIndex := 245, descriptorIndex := 246, attributes := #[] }])
  fields := #[{ name := "E", type := .double, accessFlags := 25, slot := 0, constantValue := 0 }, { name := "PI", type := .double, accessFlags := 25, slot := 1, constantValue := 0 }, { name := "TAU", type := .double, accessFlags := 25, slot := 2, constantValue := 0 }, { name := "DEGREES_TO_RADIANS", type := .double, accessFlags := 26, slot := 3, constantValue := 0 }, { name := "RADIANS_TO_DEGREES", type := .double, accessFlags := 26, slot := 4, constantValue := 0 }, { name := "negativeZeroFloatBits", type := .long, accessFlags := 26, slot := 5, constantValue := 0 }, { name := "negativeZeroDoubleBits", type := .long, accessFlags := 26, slot := 6, constantValue := 0 }, { name := "twoToTheDoubleScaleUp", type := .double, accessFlags := 8, slot := 7, constantValue := 0 }, { name := "twoToTheDoubleScaleDown", type := .double, accessFlags := 8, slot := 8, constantValue := 0 }, { name := "$assertionsDisabled", type := .boolean, accessFlags := 4120, slot := 9, constantValue := 0 }]
  methods := #[k11m0, k11m1, k11m2]
  instanceTypes := #[]
  staticTypes := #[.double, .double, .double, .double, .double, .long, .long, .double, .double, .boolean]
  resolved := Array.replicate 460 none
  statics := none }

def pool12 : Array CpInfo := pool [(6, .class_ 8), (1, u "java/lang/Object"), (0, u "<init>"), (0, u "()V"), (1, .class_ 14), (1, u "java/lang/StringUTF16"), (31, u "$assertionsDisabled"), (0, u "Z"), (13, u "HI_BYTE_SHIFT"), (0, u "I"), (2, u "LO_BYTE_SHIFT"), (49, .methodref 12 116), (0, .nameAndType 117 118), (0, u "compress"), (0, u "([CI[BII)I"), (3, u "([CII)[B"), (138, u "coderFromArrayLen"), (0, u "([BI)B"), (106, .class_ 371), (1, u "java/lang/StringUTF16$LinesSpliterator"), (58, u "MAX_LENGTH"), (196, .class_ 628), (0, u "java/lang/StringUTF16$CodePointsSpliterator"), (0, .class_ 630), (0, u "java/lang/StringUTF16$CharsSpliterator")] 4

def k12m0 : Method := { name := "<init>", desc := "()V", sig := { parameters := [], returnType := none }, accessFlags := 0, code := none }
def k12c1 : Code := { maxStack := 2, maxLocals := 2, code := jdk_52_method_15_code, exceptionTable := #[], attributes := #[] }
def k12m1 : Method := { name := "coderFromArrayLen", desc := "([BI)B", sig := { parameters := [(.array .byte), .int], returnType := some .byte }, accessFlags := 8, code := some k12c1 }
def k12c2 : Code := { maxStack := 5, maxLocals := 6, code := jdk_52_method_16_code, exceptionTable := #[], attributes := #[] }
def k12m2 : Method := { name := "compress", desc := "([CII)[B", sig := { parameters := [(.array .char), .int, .int], returnType := some (.array .byte) }, accessFlags := 9, code := some k12c2 }
def k12c3 : Code := { maxStack := 3, maxLocals := 7, code := jdk_52_method_21_code, exceptionTable := #[], attributes := #[] }
def k12m3 : Method := { name := "compress", desc := "([CI[BII)I", sig := { parameters := [(.array .char), .int, (.array .byte), .int, .int], returnType := some .int }, accessFlags := 9, code := some k12c3 }
/-- java/lang/StringUTF16 -/
def k12 : Class := { plain "java/lang/StringUTF16" (some 0) with
  accessFlags := 48
  interfaces := #[]
  cf := some (fileOf pool12 12 #[.nestMembers #[627, 629, 369]] #[{ accessFlags := 0, nameIndex := 9, descriptorIndex := 10, attributes := #[] }, { accessFlags := 8, nameIndex := 261, descriptorIndex := 262, attributes := #[] }, { accessFlags := 9, nameIndex := 117, descriptorIndex := 122, attributes := #[] }, { accessFlags := 9, nameIndex := 117, descriptorIndex := 118, attributes := #[] }] 48 6 #[] #[{ accessFlags := 26, nameIndex := 61, descriptorIndex := 62, attributes := #[] }, { accessFlags := 26, nameIndex := 65, descriptorIndex := 62, attributes := #[] }, { accessFlags := 24, nameIndex := 430, descriptorIndex := 62, attributes := #[] }, { accessFlags := 4120, nameIndex := 46, descriptorIndex := 47, attributes := #[] }])
  fields := #[{ name := "HI_BYTE_SHIFT", type := .int, accessFlags := 26, slot := 0, constantValue := 0 }, { name := "LO_BYTE_SHIFT", type := .int, accessFlags := 26, slot := 1, constantValue := 0 }, { name := "MAX_LENGTH", type := .int, accessFlags := 24, slot := 2, constantValue := 0 }, { name := "$assertionsDisabled", type := .boolean, accessFlags := 4120, slot := 3, constantValue := 0 }]
  methods := #[k12m0, k12m1, k12m2, k12m3]
  instanceTypes := #[]
  staticTypes := #[.int, .int, .int, .boolean]
  resolved := Array.replicate 635 none
  statics := none }

def pool13 : Array CpInfo := pool [(2, .class_ 4), (1, u "java/lang/Object"), (0, u "<init>"), (0, u "()V"), (17, .class_ 26), (1, u "jdk/internal/util/Preconditions"), (28, .class_ 56), (0, u "jdk/internal/util/Preconditions$4"), (57, .class_ 115), (0, u "jdk/internal/util/Preconditions$1"), (7, u "SIOOBE_FORMATTER"), (0, u "Ljava/util/function/BiFunction;"), (0, .class_ 126), (0, u "jdk/internal/util/Preconditions$2"), (3, u "AIOOBE_FORMATTER"), (0, .class_ 132), (0, u "jdk/internal/util/Preconditions$3"), (3, u "IOOBE_FORMATTER")] 57

def k13m0 : Method := { name := "<init>", desc := "()V", sig := { parameters := [], returnType := none }, accessFlags := 1, code := none }
/-- jdk/internal/util/Preconditions -/
def k13 : Class := { plain "jdk/internal/util/Preconditions" (some 0) with
  accessFlags := 33
  interfaces := #[]
  cf := some (fileOf pool13 24 #[.nestMembers #[55, 131, 125, 114]] #[{ accessFlags := 1, nameIndex := 5, descriptorIndex := 6, attributes := #[] }] 33 2 #[] #[{ accessFlags := 25, nameIndex := 123, descriptorIndex := 124, attributes := #[] }, { accessFlags := 25, nameIndex := 130, descriptorIndex := 124, attributes := #[] }, { accessFlags := 25, nameIndex := 136, descriptorIndex := 124, attributes := #[] }])
  fields := #[{ name := "SIOOBE_FORMATTER", type := (.object "java/util/function/BiFunction"), accessFlags := 25, slot := 0, constantValue := 0 }, { name := "AIOOBE_FORMATTER", type := (.object "java/util/function/BiFunction"), accessFlags := 25, slot := 1, constantValue := 0 }, { name := "IOOBE_FORMATTER", type := (.object "java/util/function/BiFunction"), accessFlags := 25, slot := 2, constantValue := 0 }]
  methods := #[k13m0]
  instanceTypes := #[]
  staticTypes := #[(.object "java/util/function/BiFunction"), (.object "java/util/function/BiFunction"), (.object "java/util/function/BiFunction")]
  resolved := Array.replicate 194 none
  statics := some 1 }

def pool14 : Array CpInfo := pool [(9, u "<init>"), (6, .class_ 18), (1, u "java/lang/Object"), (0, u "()V"), (1, .class_ 23), (1, u "jdk/internal/util/ArraysSupport"), (0, u "LOG2_ARRAY_LONG_INDEX_SCALE"), (0, u "I"), (2, u "U"), (0, u "Ljdk/internal/misc/Unsafe;"), (8, u "BIG_ENDIAN"), (0, u "Z"), (8, u "LOG2_BYTE_BIT_SIZE"), (4, u "LOG2_ARRAY_INT_INDEX_SCALE"), (54, u "JLA"), (0, u "Ljdk/internal/access/JavaLangAccess;"), (11, u "LOG2_ARRAY_BOOLEAN_INDEX_SCALE"), (9, u "LOG2_ARRAY_BYTE_INDEX_SCALE"), (5, u "LOG2_ARRAY_CHAR_INDEX_SCALE"), (5, u "LOG2_ARRAY_SHORT_INDEX_SCALE"), (18, u "LOG2_ARRAY_FLOAT_INDEX_SCALE"), (24, u "LOG2_ARRAY_DOUBLE_INDEX_SCALE"), (89, u "T_BOOLEAN"), (2, u "T_CHAR"), (1, u "T_FLOAT"), (1, u "T_DOUBLE"), (1, u "T_BYTE"), (1, u "T_SHORT"), (1, u "T_INT"), (1, u "T_LONG"), (1, u "SOFT_MAX_ARRAY_LENGTH")] 83

def k14m0 : Method := { name := "<init>", desc := "()V", sig := { parameters := [], returnType := none }, accessFlags := 2, code := none }
/-- jdk/internal/util/ArraysSupport -/
def k14 : Class := { plain "jdk/internal/util/ArraysSupport" (some 0) with
  accessFlags := 33
  interfaces := #[]
  cf := some (fileOf pool14 21 #[] #[{ accessFlags := 2, nameIndex := 9, descriptorIndex := 19, attributes := #[] }] 33 16 #[] #[{ accessFlags := 24, nameIndex := 28, descriptorIndex := 29, attributes := #[] }, { accessFlags := 26, nameIndex := 38, descriptorIndex := 39, attributes := #[] }, { accessFlags := 25, nameIndex := 121, descriptorIndex := 25, attributes := #[] }, { accessFlags := 25, nameIndex := 131, descriptorIndex := 25, attributes := #[] }, { accessFlags := 25, nameIndex := 137, descriptorIndex := 25, attributes := #[] }, { accessFlags := 25, nameIndex := 143, descriptorIndex := 25, attributes := #[] }, { accessFlags := 25, nameIndex := 53, descriptorIndex := 25, attributes := #[] }, { accessFlags := 25, nameIndex := 24, descriptorIndex := 25, attributes := #[] }, { accessFlags := 25, nameIndex := 162, descriptorIndex := 25, attributes := #[] }, { accessFlags := 25, nameIndex := 187, descriptorIndex := 25, attributes := #[] }, { accessFlags := 26, nameIndex := 48, descriptorIndex := 25, attributes := #[] }, { accessFlags := 25, nameIndex := 277, descriptorIndex := 25, attributes := #[] }, { accessFlags := 25, nameIndex := 280, descriptorIndex := 25, attributes := #[] }, { accessFlags := 25, nameIndex := 282, descriptorIndex := 25, attributes := #[] }, { accessFlags := 25, nameIndex := 284, descriptorIndex := 25, attributes := #[] }, { accessFlags := 25, nameIndex := 286, descriptorIndex := 25, attributes := #[] }, { accessFlags := 25, nameIndex := 288, descriptorIndex := 25, attributes := #[] }, { accessFlags := 25, nameIndex := 290, descriptorIndex := 25, attributes := #[] }, { accessFlags := 25, nameIndex := 292, descriptorIndex := 25, attributes := #[] }, { accessFlags := 26, nameIndex := 108, descriptorIndex := 109, attributes := #[] }, { accessFlags := 25, nameIndex := 294, descriptorIndex := 25, attributes := #[] }])
  fields := #[{ name := "U", type := (.object "jdk/internal/misc/Unsafe"), accessFlags := 24, slot := 0, constantValue := 0 }, { name := "BIG_ENDIAN", type := .boolean, accessFlags := 26, slot := 1, constantValue := 0 }, { name := "LOG2_ARRAY_BOOLEAN_INDEX_SCALE", type := .int, accessFlags := 25, slot := 2, constantValue := 0 }, { name := "LOG2_ARRAY_BYTE_INDEX_SCALE", type := .int, accessFlags := 25, slot := 3, constantValue := 0 }, { name := "LOG2_ARRAY_CHAR_INDEX_SCALE", type := .int, accessFlags := 25, slot := 4, constantValue := 0 }, { name := "LOG2_ARRAY_SHORT_INDEX_SCALE", type := .int, accessFlags := 25, slot := 5, constantValue := 0 }, { name := "LOG2_ARRAY_INT_INDEX_SCALE", type := .int, accessFlags := 25, slot := 6, constantValue := 0 }, { name := "LOG2_ARRAY_LONG_INDEX_SCALE", type := .int, accessFlags := 25, slot := 7, constantValue := 0 }, { name := "LOG2_ARRAY_FLOAT_INDEX_SCALE", type := .int, accessFlags := 25, slot := 8, constantValue := 0 }, { name := "LOG2_ARRAY_DOUBLE_INDEX_SCALE", type := .int, accessFlags := 25, slot := 9, constantValue := 0 }, { name := "LOG2_BYTE_BIT_SIZE", type := .int, accessFlags := 26, slot := 10, constantValue := 0 }, { name := "T_BOOLEAN", type := .int, accessFlags := 25, slot := 11, constantValue := 0 }, { name := "T_CHAR", type := .int, accessFlags := 25, slot := 12, constantValue := 0 }, { name := "T_FLOAT", type := .int, accessFlags := 25, slot := 13, constantValue := 0 }, { name := "T_DOUBLE", type := .int, accessFlags := 25, slot := 14, constantValue := 0 }, { name := "T_BYTE", type := .int, accessFlags := 25, slot := 15, constantValue := 0 }, { name := "T_SHORT", type := .int, accessFlags := 25, slot := 16, constantValue := 0 }, { name := "T_INT", type := .int, accessFlags := 25, slot := 17, constantValue := 0 }, { name := "T_LONG", type := .int, accessFlags := 25, slot := 18, constantValue := 0 }, { name := "JLA", type := (.object "jdk/internal/access/JavaLangAccess"), accessFlags := 26, slot := 19, constantValue := 0 }, { name := "SOFT_MAX_ARRAY_LENGTH", type := .int, accessFlags := 25, slot := 20, constantValue := 0 }]
  methods := #[k14m0]
  instanceTypes := #[]
  staticTypes := #[(.object "jdk/internal/misc/Unsafe"), .boolean, .int, .int, .int, .int, .int, .int, .int, .int, .int, .int, .int, .int, .int, .int, .int, .int, .int, (.object "jdk/internal/access/JavaLangAccess"), .int]
  resolved := Array.replicate 378 none
  statics := none }

def pool15 : Array CpInfo := pool [(1, u "java/lang/Cloneable"), (0, .class_ 1), (0, u "java/lang/Object"), (0, .class_ 3)] 3

/-- java/lang/Cloneable -/
def k15 : Class := { plain "java/lang/Cloneable" (some 0) with
  accessFlags := 1537
  interfaces := #[]
  cf := some (fileOf pool15 2 #[] #[] 1537 4 #[] #[])
  fields := #[]
  methods := #[]
  instanceTypes := #[]
  staticTypes := #[]
  resolved := Array.replicate 8 none
  statics := none }

/-- the primitive byte -/
def k16 : Class := { plain "byte" none with kind := .primitive 'B', accessFlags := 0x411 }
/-- [B -/
def k17 : Class := { plain "[B" (some 0) with kind := .array 16 .byte, interfaces := #[15, 3], accessFlags := 1041 }

/-- the primitive char -/
def k18 : Class := { plain "char" none with kind := .primitive 'C', accessFlags := 0x411 }
/-- [C -/
def k19 : Class := { plain "[C" (some 0) with kind := .array 18 .char, interfaces := #[15, 3], accessFlags := 1041 }

/-- the primitive int -/
def k20 : Class := { plain "int" none with kind := .primitive 'I', accessFlags := 0x411 }
/-- [I -/
def k21 : Class := { plain "[I" (some 0) with kind := .array 20 .int, interfaces := #[15, 3], accessFlags := 1041 }

def heap : Heap := #[{ cls := 8, slots := #[.long 0, .int 1, .null, .int 0, .null, .int 0, .int 0], vm := .statics 8 },
  { cls := 13, slots := #[.null, .null, .null], vm := .statics 13 }]
def classes : Array Class := #[k0, k1, k2, k3, k4, k5, k6, k7, k8, k9, k10, k11, k12, k13, k14, k15, k16, k17, k18, k19, k20, k21]
def interned : List (Array UInt16 × Addr) := []
def slotsUsed : Nat := 10
def theMethod : MethodId := ⟨1, 1⟩
def args0 : Array Value := #[.int 5, .int 3, .int 6, .int 6, .int 6]
def aboutOver (below : List Frame) : State where
  vm := { classes := classes, interned := interned.toArray }
  heap := heap
  slotsUsed := slotsUsed
  threads := #[{ frames := .invoking theMethod args0 :: below }]
def below0 : List Frame := [.native { method := ⟨0, 0⟩, args := #[] }]
def about1 : State := aboutOver below0
def p0 : Program := .bare "" "" ""
def e0 : Env := launch0.env 0 0 0
theorem w_frames : about1.frames = Frame.invoking theMethod args0 :: below0 := rfl
set_option maxRecDepth 65536 in
theorem w_args : argsFit about1.vm theMethod args0 = true := by decide +kernel
set_option maxRecDepth 65536 in
theorem w_heap : heapFits about1 = true := by decide +kernel
set_option maxRecDepth 65536 in
theorem w_runnable : about1.curStatus? = some .runnable := by decide +kernel
set_option maxRecDepth 65536 in
theorem w_alone : about1.alone = true := by decide +kernel
set_option maxRecDepth 65536 in
theorem w_named : about1.methodNamed? x = some theMethod := by decide +kernel
set_option maxRecDepth 65536 in
theorem w_hears : about1.hears theMethod below0 = true := by decide +kernel
set_option maxRecDepth 65536 in
theorem w_ripe : about1.ripe theMethod args0 below0 = true := by decide +kernel
theorem w_running : about1.status = .running := rfl
set_option maxRecDepth 65536 in
theorem w_room : about1.hasRoom e0.platform room_1 = true :=
  launch0.hasRoom_least _ room_1 (by decide +kernel) (by decide +kernel) (by decide +kernel) (by decide +kernel) (by decide +kernel) (by decide +kernel)
theorem allAtoms_all (ts : List Jvm.Cond) (a : Array Jvm.Value) (st : Jvm.State) : (allAtoms ts).before a st = ts.all (fun c => c.before a st) := by
  induction ts with
  | nil => rfl
  | cons c t ih =>
    show (Jvm.Cond.and c (allAtoms t)).before a st = _
    rw [Jvm.Cond.before_and, ih, List.all_cons]
def words1 : List Jvm.Cond := Jvm.Cond.code x code maxLocals ret :: tables_1
/-- a 'code' word, met by the world's own term for the bytes: nothing is compared byte by byte -/
theorem code_word {y : MethodName} {bytes : ByteArray} {mx : Nat} {rt : Option FieldType} {a : Array Value} {s : State} {m : MethodId} {meth : Method} {c : Code} (h1 : s.methodNamed? y = some m) (h2 : s.vm.method? m = some meth) (h3 : meth.code = some c) (h4 : c.code = bytes)
    (h5 : (c.maxLocals == mx && c.exceptionTable.isEmpty && decide (c.maxStack ≤ mostOperands) && decide (meth.sig.returnType = rt) && !meth.locks && decide (parseMethodDescriptor y.desc = some meth.sig)) = true) : (Jvm.Cond.code y bytes mx rt).before a s = true := by
  simp only [Bool.and_eq_true, beq_iff_eq, Bool.not_eq_true', decide_eq_true_eq] at h5
  obtain ⟨⟨⟨⟨⟨g1, g2⟩, g3⟩, g4⟩, g5⟩, g6⟩ := h5
  simp [Cond.before, Cond.holds, Cond.value, h1, h2, h3, h4, g1, g2, g3, g4, g5, g6]
def isCode : Jvm.Cond → Bool
  | .code _ _ _ _ => true
  | _ => false
theorem all_split {L : List Jvm.Cond} {P : Jvm.Cond → Bool} (h1 : L.all (fun c => isCode c || P c) = true) (h2 : ∀ c ∈ L.filter isCode, P c = true) : L.all P = true := by
  refine List.all_eq_true.mpr fun c hc => ?_
  have h := List.all_eq_true.mp h1 c hc
  rcases Bool.eq_false_or_eq_true (isCode c) with hi | hi
  · exact h2 c (List.mem_filter.mpr ⟨hc, hi⟩)
  · simpa [hi] using h
set_option maxRecDepth 65536 in
theorem w_c0 : (Jvm.Cond.code x code maxLocals ret).before args0 about1 = true := code_word (m := ⟨1, 1⟩) (meth := k1m1) (c := k1c1) (by decide +kernel) rfl rfl rfl (by decide +kernel)
set_option maxRecDepth 65536 in
theorem w_c1 : (Jvm.Cond.code ({ cls := "java/lang/String", name := "<init>", desc := "([C)V" } : Jvm.MethodName) jdk_42_method_3_code (2 : Nat) (Option.none : Option Jvm.ClassFile.FieldType)).before args0 about1 = true := code_word (m := ⟨8, 1⟩) (meth := k8m1) (c := k8c1) (by decide +kernel) rfl rfl rfl (by decide +kernel)
set_option maxRecDepth 65536 in
theorem w_c2 : (Jvm.Cond.code ({ cls := "java/lang/String", name := "<init>", desc := "([CIILjava/lang/Void;)V" } : Jvm.MethodName) jdk_42_method_149_code (6 : Nat) (Option.none : Option Jvm.ClassFile.FieldType)).before args0 about1 = true := code_word (m := ⟨8, 5⟩) (meth := k8m5) (c := k8c5) (by decide +kernel) rfl rfl rfl (by decide +kernel)
set_option maxRecDepth 65536 in
theorem w_c3 : (Jvm.Cond.code ({ cls := "java/lang/Object", name := "<init>", desc := "()V" } : Jvm.MethodName) object_method_1_code (1 : Nat) (Option.none : Option Jvm.ClassFile.FieldType)).before args0 about1 = true := code_word (m := ⟨0, 0⟩) (meth := k0m0) (c := k0c0) (by decide +kernel) rfl rfl rfl (by decide +kernel)
set_option maxRecDepth 65536 in
theorem w_c4 : (Jvm.Cond.code ({ cls := "com/example/strict_acl/strictacl/NamePattern", name := "<init>", desc := "(Ljava/lang/String;)V" } : Jvm.MethodName) prog_25_method_1_code (2 : Nat) (Option.none : Option Jvm.ClassFile.FieldType)).before args0 about1 = true := code_word (m := ⟨2, 0⟩) (meth := k2m0) (c := k2c0) (by decide +kernel) rfl rfl rfl (by decide +kernel)
set_option maxRecDepth 65536 in
theorem w_c5 : (Jvm.Cond.code ({ cls := "java/util/Objects", name := "requireNonNull", desc := "(Ljava/lang/Object;Ljava/lang/String;)Ljava/lang/Object;" } : Jvm.MethodName) jdk_31_method_11_code (2 : Nat) (Option.some (Jvm.ClassFile.FieldType.object "java/lang/Object"))).before args0 about1 = true := code_word (m := ⟨9, 1⟩) (meth := k9m1) (c := k9c1) (by decide +kernel) rfl rfl rfl (by decide +kernel)
set_option maxRecDepth 65536 in
theorem w_c6 : (Jvm.Cond.code ({ cls := "com/example/strict_acl/strictacl/NamePattern", name := "isLiteral", desc := "()Z" } : Jvm.MethodName) prog_25_method_4_code (1 : Nat) (Option.some Jvm.ClassFile.FieldType.boolean)).before args0 about1 = true := code_word (m := ⟨2, 1⟩) (meth := k2m1) (c := k2c1) (by decide +kernel) rfl rfl rfl (by decide +kernel)
set_option maxRecDepth 65536 in
theorem w_c7 : (Jvm.Cond.code ({ cls := "java/lang/String", name := "indexOf", desc := "(I)I" } : Jvm.MethodName) jdk_42_method_79_code (2 : Nat) (Option.some Jvm.ClassFile.FieldType.int)).before args0 about1 = true := code_word (m := ⟨8, 3⟩) (meth := k8m3) (c := k8c3) (by decide +kernel) rfl rfl rfl (by decide +kernel)
set_option maxRecDepth 65536 in
theorem w_c8 : (Jvm.Cond.code ({ cls := "java/lang/String", name := "indexOf", desc := "(II)I" } : Jvm.MethodName) jdk_42_method_80_code (3 : Nat) (Option.some Jvm.ClassFile.FieldType.int)).before args0 about1 = true := code_word (m := ⟨8, 4⟩) (meth := k8m4) (c := k8c4) (by decide +kernel) rfl rfl rfl (by decide +kernel)
set_option maxRecDepth 65536 in
theorem w_c9 : (Jvm.Cond.code ({ cls := "java/lang/String", name := "isLatin1", desc := "()Z" } : Jvm.MethodName) jdk_42_method_154_code (1 : Nat) (Option.some Jvm.ClassFile.FieldType.boolean)).before args0 about1 = true := code_word (m := ⟨8, 7⟩) (meth := k8m7) (c := k8c7) (by decide +kernel) rfl rfl rfl (by decide +kernel)
set_option maxRecDepth 65536 in
theorem w_c10 : (Jvm.Cond.code ({ cls := "java/lang/String", name := "length", desc := "()I" } : Jvm.MethodName) jdk_42_method_54_code (1 : Nat) (Option.some Jvm.ClassFile.FieldType.int)).before args0 about1 = true := code_word (m := ⟨8, 2⟩) (meth := k8m2) (c := k8c2) (by decide +kernel) rfl rfl rfl (by decide +kernel)
set_option maxRecDepth 65536 in
theorem w_c11 : (Jvm.Cond.code ({ cls := "java/lang/String", name := "coder", desc := "()B" } : Jvm.MethodName) jdk_42_method_152_code (1 : Nat) (Option.some Jvm.ClassFile.FieldType.byte)).before args0 about1 = true := code_word (m := ⟨8, 6⟩) (meth := k8m6) (c := k8c6) (by decide +kernel) rfl rfl rfl (by decide +kernel)
set_option maxRecDepth 65536 in
theorem w_c12 : (Jvm.Cond.code ({ cls := "java/lang/StringLatin1", name := "indexOf", desc := "([BIII)I" } : Jvm.MethodName) jdk_43_method_22_code (4 : Nat) (Option.some Jvm.ClassFile.FieldType.int)).before args0 about1 = true := code_word (m := ⟨10, 2⟩) (meth := k10m2) (c := k10c2) (by decide +kernel) rfl rfl rfl (by decide +kernel)
set_option maxRecDepth 65536 in
theorem w_c13 : (Jvm.Cond.code ({ cls := "java/lang/StringLatin1", name := "canEncode", desc := "(I)Z" } : Jvm.MethodName) jdk_43_method_4_code (1 : Nat) (Option.some Jvm.ClassFile.FieldType.boolean)).before args0 about1 = true := code_word (m := ⟨10, 1⟩) (meth := k10m1) (c := k10c1) (by decide +kernel) rfl rfl rfl (by decide +kernel)
set_option maxRecDepth 65536 in
theorem w_c14 : (Jvm.Cond.code ({ cls := "java/lang/Math", name := "max", desc := "(II)I" } : Jvm.MethodName) jdk_29_method_65_code (2 : Nat) (Option.some Jvm.ClassFile.FieldType.int)).before args0 about1 = true := code_word (m := ⟨11, 1⟩) (meth := k11m1) (c := k11c1) (by decide +kernel) rfl rfl rfl (by decide +kernel)
set_option maxRecDepth 65536 in
theorem w_c15 : (Jvm.Cond.code ({ cls := "java/lang/Math", name := "min", desc := "(II)I" } : Jvm.MethodName) jdk_29_method_69_code (2 : Nat) (Option.some Jvm.ClassFile.FieldType.int)).before args0 about1 = true := code_word (m := ⟨11, 2⟩) (meth := k11m2) (c := k11c2) (by decide +kernel) rfl rfl rfl (by decide +kernel)
set_option maxRecDepth 65536 in
theorem w_c16 : (Jvm.Cond.code ({ cls := "com/example/strict_acl/strictacl/NamePatternIsLiteralPinLaw", name := "wild", desc := "(C)Z" } : Jvm.MethodName) method_3_code (1 : Nat) (Option.some Jvm.ClassFile.FieldType.boolean)).before args0 about1 = true := code_word (m := ⟨1, 2⟩) (meth := k1m2) (c := k1c2) (by decide +kernel) rfl rfl rfl (by decide +kernel)
set_option maxRecDepth 65536 in
theorem w_c17 : (Jvm.Cond.code ({ cls := "java/lang/StringUTF16", name := "compress", desc := "([CII)[B" } : Jvm.MethodName) jdk_52_method_16_code (6 : Nat) (Option.some (Jvm.ClassFile.FieldType.array Jvm.ClassFile.FieldType.byte))).before args0 about1 = true := code_word (m := ⟨12, 2⟩) (meth := k12m2) (c := k12c2) (by decide +kernel) rfl rfl rfl (by decide +kernel)
set_option maxRecDepth 65536 in
theorem w_c18 : (Jvm.Cond.code ({ cls := "java/lang/StringUTF16", name := "compress", desc := "([CI[BII)I" } : Jvm.MethodName) jdk_52_method_21_code (7 : Nat) (Option.some Jvm.ClassFile.FieldType.int)).before args0 about1 = true := code_word (m := ⟨12, 3⟩) (meth := k12m3) (c := k12c3) (by decide +kernel) rfl rfl rfl (by decide +kernel)
set_option maxRecDepth 65536 in
theorem w_c19 : (Jvm.Cond.code ({ cls := "java/lang/StringUTF16", name := "coderFromArrayLen", desc := "([BI)B" } : Jvm.MethodName) jdk_52_method_15_code (2 : Nat) (Option.some Jvm.ClassFile.FieldType.byte)).before args0 about1 = true := code_word (m := ⟨12, 1⟩) (meth := k12m1) (c := k12c1) (by decide +kernel) rfl rfl rfl (by decide +kernel)
set_option maxRecDepth 65536 in
theorem w_c20 : (Jvm.Cond.code ({ cls := "java/lang/StringLatin1", name := "indexOfChar", desc := "([BIII)I" } : Jvm.MethodName) jdk_43_method_23_code (6 : Nat) (Option.some Jvm.ClassFile.FieldType.int)).before args0 about1 = true := code_word (m := ⟨10, 3⟩) (meth := k10m3) (c := k10c3) (by decide +kernel) rfl rfl rfl (by decide +kernel)
def codes1 : List Jvm.Cond := [Jvm.Cond.code x code maxLocals ret, Jvm.Cond.code ({ cls := "java/lang/String", name := "<init>", desc := "([C)V" } : Jvm.MethodName) jdk_42_method_3_code (2 : Nat) (Option.none : Option Jvm.ClassFile.FieldType), Jvm.Cond.code ({ cls := "java/lang/String", name := "<init>", desc := "([CIILjava/lang/Void;)V" } : Jvm.MethodName) jdk_42_method_149_code (6 : Nat) (Option.none : Option Jvm.ClassFile.FieldType), Jvm.Cond.code ({ cls := "java/lang/Object", name := "<init>", desc := "()V" } : Jvm.MethodName) object_method_1_code (1 : Nat) (Option.none : Option Jvm.ClassFile.FieldType), Jvm.Cond.code ({ cls := "com/example/strict_acl/strictacl/NamePattern", name := "<init>", desc := "(Ljava/lang/String;)V" } : Jvm.MethodName) prog_25_method_1_code (2 : Nat) (Option.none : Option Jvm.ClassFile.FieldType), Jvm.Cond.code ({ cls := "java/util/Objects", name := "requireNonNull", desc := "(Ljava/lang/Object;Ljava/lang/String;)Ljava/lang/Object;" } : Jvm.MethodName) jdk_31_method_11_code (2 : Nat) (Option.some (Jvm.ClassFile.FieldType.object "java/lang/Object")), Jvm.Cond.code ({ cls := "com/example/strict_acl/strictacl/NamePattern", name := "isLiteral", desc := "()Z" } : Jvm.MethodName) prog_25_method_4_code (1 : Nat) (Option.some Jvm.ClassFile.FieldType.boolean), Jvm.Cond.code ({ cls := "java/lang/String", name := "indexOf", desc := "(I)I" } : Jvm.MethodName) jdk_42_method_79_code (2 : Nat) (Option.some Jvm.ClassFile.FieldType.int), Jvm.Cond.code ({ cls := "java/lang/String", name := "indexOf", desc := "(II)I" } : Jvm.MethodName) jdk_42_method_80_code (3 : Nat) (Option.some Jvm.ClassFile.FieldType.int), Jvm.Cond.code ({ cls := "java/lang/String", name := "isLatin1", desc := "()Z" } : Jvm.MethodName) jdk_42_method_154_code (1 : Nat) (Option.some Jvm.ClassFile.FieldType.boolean), Jvm.Cond.code ({ cls := "java/lang/String", name := "length", desc := "()I" } : Jvm.MethodName) jdk_42_method_54_code (1 : Nat) (Option.some Jvm.ClassFile.FieldType.int), Jvm.Cond.code ({ cls := "java/lang/String", name := "coder", desc := "()B" } : Jvm.MethodName) jdk_42_method_152_code (1 : Nat) (Option.some Jvm.ClassFile.FieldType.byte), Jvm.Cond.code ({ cls := "java/lang/StringLatin1", name := "indexOf", desc := "([BIII)I" } : Jvm.MethodName) jdk_43_method_22_code (4 : Nat) (Option.some Jvm.ClassFile.FieldType.int), Jvm.Cond.code ({ cls := "java/lang/StringLatin1", name := "canEncode", desc := "(I)Z" } : Jvm.MethodName) jdk_43_method_4_code (1 : Nat) (Option.some Jvm.ClassFile.FieldType.boolean), Jvm.Cond.code ({ cls := "java/lang/Math", name := "max", desc := "(II)I" } : Jvm.MethodName) jdk_29_method_65_code (2 : Nat) (Option.some Jvm.ClassFile.FieldType.int), Jvm.Cond.code ({ cls := "java/lang/Math", name := "min", desc := "(II)I" } : Jvm.MethodName) jdk_29_method_69_code (2 : Nat) (Option.some Jvm.ClassFile.FieldType.int), Jvm.Cond.code ({ cls := "com/example/strict_acl/strictacl/NamePatternIsLiteralPinLaw", name := "wild", desc := "(C)Z" } : Jvm.MethodName) method_3_code (1 : Nat) (Option.some Jvm.ClassFile.FieldType.boolean), Jvm.Cond.code ({ cls := "java/lang/StringUTF16", name := "compress", desc := "([CII)[B" } : Jvm.MethodName) jdk_52_method_16_code (6 : Nat) (Option.some (Jvm.ClassFile.FieldType.array Jvm.ClassFile.FieldType.byte)), Jvm.Cond.code ({ cls := "java/lang/StringUTF16", name := "compress", desc := "([CI[BII)I" } : Jvm.MethodName) jdk_52_method_21_code (7 : Nat) (Option.some Jvm.ClassFile.FieldType.int), Jvm.Cond.code ({ cls := "java/lang/StringUTF16", name := "coderFromArrayLen", desc := "([BI)B" } : Jvm.MethodName) jdk_52_method_15_code (2 : Nat) (Option.some Jvm.ClassFile.FieldType.byte), Jvm.Cond.code ({ cls := "java/lang/StringLatin1", name := "indexOfChar", desc := "([BIII)I" } : Jvm.MethodName) jdk_43_method_23_code (6 : Nat) (Option.some Jvm.ClassFile.FieldType.int)]
set_option maxRecDepth 65536 in
theorem codes_eq : words1.filter isCode = codes1 := rfl
theorem w_codes : ∀ c ∈ words1.filter isCode, c.before args0 about1 = true := by
  rw [codes_eq]
  intro c hc
  simp only [codes1, List.mem_cons, List.not_mem_nil, or_false] at hc
  rcases hc with rfl | rfl | rfl | rfl | rfl | rfl | rfl | rfl | rfl | rfl | rfl | rfl | rfl | rfl | rfl | rfl | rfl | rfl | rfl | rfl | rfl
  · exact w_c0
  · exact w_c1
  · exact w_c2
  · exact w_c3
  · exact w_c4
  · exact w_c5
  · exact w_c6
  · exact w_c7
  · exact w_c8
  · exact w_c9
  · exact w_c10
  · exact w_c11
  · exact w_c12
  · exact w_c13
  · exact w_c14
  · exact w_c15
  · exact w_c16
  · exact w_c17
  · exact w_c18
  · exact w_c19
  · exact w_c20
set_option maxRecDepth 65536 in
theorem w_t1 : (words1.take 24).all (fun c => isCode c || c.before args0 about1) = true := by decide +kernel
set_option maxRecDepth 65536 in
theorem w_t2 : ((words1.drop 24).take 24).all (fun c => isCode c || c.before args0 about1) = true := by decide +kernel
set_option maxRecDepth 65536 in
theorem w_t3 : (((words1.drop 24).drop 24).take 24).all (fun c => isCode c || c.before args0 about1) = true := by decide +kernel
set_option maxRecDepth 65536 in
theorem w_t4 : ((((words1.drop 24).drop 24).drop 24).take 24).all (fun c => isCode c || c.before args0 about1) = true := by decide +kernel
set_option maxRecDepth 65536 in
theorem w_t5 : ((((words1.drop 24).drop 24).drop 24).drop 24).all (fun c => isCode c || c.before args0 about1) = true := by decide +kernel
theorem w_tables : (allAtoms (Jvm.Cond.code x code maxLocals ret :: tables_1)).before args0 about1 = true := by
  rw [allAtoms_all]
  show words1.all (fun c => c.before args0 about1) = true
  refine all_split ?_ w_codes
  rw [← List.take_append_drop 24 words1, List.all_append, w_t1, ← List.take_append_drop 24 (words1.drop 24), List.all_append, w_t2, ← List.take_append_drop 24 ((words1.drop 24).drop 24), List.all_append, w_t3, ← List.take_append_drop 24 (((words1.drop 24).drop 24).drop 24), List.all_append, w_t4, w_t5]
  rfl
set_option maxRecDepth 65536 in
theorem w_rest : rest_1_c.before args0 about1 = true := by decide +kernel
set_option maxRecDepth 65536 in
theorem w_case : (Jvm.Cond.and given_1 narrow_1).before args0 about1 = true := by decide +kernel
set_option maxRecDepth 65536 in
theorem w_consts : constsHeld consts_1 about1 := Jvm.Lit.constsHeldB_iff.mp (by decide +kernel)
theorem w_applies : (headSpec (Jvm.Cond.code x code maxLocals ret :: tables_1) room_1).applies x e0.platform about1 = true :=
  (Spec.applies_iff w_frames).mpr ⟨w_running, w_runnable, w_alone, w_named, w_hears, w_ripe, w_room, w_tables⟩
theorem atStart : AtStart classFile x code maxLocals ret World_1 tables_1 room_1 Calls_1 rest_1 Pre_1 launch0 p0 e0 about1 theMethod args0 below0 :=
  ⟨lists_1, trivial, launch0.admits_env _ _ _, launch0.least_env, fairChoices_fair.cas, fairChoices_fair.clock, w_frames, w_args, w_heap, w_applies, ⟨w_consts, trivial⟩, w_rest, w_case⟩
end start1
theorem witness_1 : WitnessClaimed_1 := ⟨start1.p0, start1.e0, start1.about1, start1.theMethod, start1.args0, start1.below0, start1.atStart⟩
end Jvm.Pilot.@@N@@
