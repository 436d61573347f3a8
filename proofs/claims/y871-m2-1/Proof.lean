import JvmDerived
import JvmDerived.Pilot.@@N@@Statement
import JvmDerived.Pilot.@@N@@Code
set_option linter.unusedVariables false
set_option linter.unusedSimpArgs false
namespace Jvm.RoadKit
open Sem ClassFile Op Lib Jvm.Stand Jvm.Free Jvm.LawKit
section New
variable {p : Program} {l : Launch} {e : Env} {R : Room} {s : State} {m : MethodId} {args : Array Value} {below : List Frame} {meth : Method} {c : Code} {T : State} {locs : List Loc} {cells slots : Nat}
theorem retI (X : Stand p l e R s m args below meth c T locs cells slots) (hx : p.tables.exec = Jvm.exec) {pc : Nat} {Ls : Array Slot} {z : Int32} {rest : List Value} (hret : meth.sig.returnType = some .int) (hd : decode c.code pc = .ok (.ireturn, 1)) {fs : List Frame}
    (hl : ∀ (f : JFrame) (acts : List Action), f.method = m → f.locked = none → f.entered = [] → (doReturn e (T.setTop f) acts (some (.int z))).1 = T.setFrames fs) : Steps p.tables e below (T.setTop (mkF m pc Ls (.int z :: rest))) (T.setFrames fs) := by
  have hm' : T.vm.method? m = some meth := X.method'
  have hn : narrow .int (.int z) = .int z := rfl
  show Steps p.tables e below (T.setTop { method := m, pc := pc, locals := Ls, stack := _ :: rest, locked := none }) _
  jvm_step X.here [X.here.top, hx, hd, hm', hret, hn]
  first | (intro acts; rw [hl _ acts rfl rfl rfl]) | rw [hl _ _ rfl rfl rfl]
  exact Steps.refl _
end New
end Jvm.RoadKit
namespace Jvm.Pilot.@@N@@
open Jvm Jvm.ClassFile Sem Op Lib Jvm.Free Jvm.Stand Jvm.LawKit Jvm.RoadKit Bundle Jvm.Pilot.@@N@@.Jvm.D
abbrev own_Go (p : Program) (e : Env) (below : List Frame) (A B : State) : Prop := ∀ t, Steps p.tables e below B t → Steps p.tables e below A t
theorem own_from {p : Program} {e : Env} {below : List Frame} {A B t : State} (h : A = B) (k : Steps p.tables e below A t) : Steps p.tables e below B t := h ▸ k
theorem own_ite1 {P : Prop} [Decidable P] (h : P) : ¬ ((if P then (1 : Int32) else (0 : Int32)) = (0 : Int32)) := by rw [if_pos h]; decide
theorem own_ite0 {P : Prop} [Decidable P] (h : ¬ P) : (if P then (1 : Int32) else (0 : Int32)) = (0 : Int32) := if_neg h
def own_Pl (h : Heap) (a : Addr) : Prop := ∃ c : Cell, h[a]? = some c ∧ c.vm.isStatics = false
theorem own_plE {Z : State} {h : Heap} {a : Addr} {C : String} (F : Exa Z h a C) : own_Pl h a := by obtain ⟨cell, k, h1, _, _, h4, _⟩ := F; exact ⟨cell, h1, h4⟩
theorem own_plF {Z : State} {h : Heap} {a : Addr} {C n d : String} {v : Value} (F : Fld Z h a C n d v) : own_Pl h a := by obtain ⟨cell, cf, k, i, f, h1, _, _, _, h5, _⟩ := F; exact ⟨cell, h1, h5⟩
theorem own_plA {Z : State} {h : Heap} {a : Addr} {k : ClassId} {ty : FieldType} {n : Int32} {vs : List Value} {d : Value} (F : Arv Z h a k ty n vs d) : own_Pl h a := by obtain ⟨c, A, _⟩ := F; exact ⟨c, A.1, A.plain⟩
theorem own_staK {Z : State} {h h' : Heap} {C n d : String} {v : Value} {ws : List Addr} (F : Sta Z h C n d v) (K : Keep h h' ws) (q : ∀ x ∈ ws, own_Pl h x) : Sta Z h' C n d v := by
  obtain ⟨cf, i, k, f, st, cell, h1, h2, h3, h4, h5, h6, h7⟩ := F
  refine ⟨cf, i, k, f, st, cell, h1, h2, h3, h4, K.2.1 st cell h5 fun z => ?_, h6, h7⟩
  obtain ⟨c, q1, q2⟩ := q st z
  cases h5.symm.trans q1
  rw [h6] at q2; cases q2
theorem own_insK {Z : State} {h h' : Heap} {a : Addr} {C : String} {bo : Bool} {ws : List Addr} (F : Ins Z h a C bo) (K : Keep h h' ws) : Ins Z h' a C bo := by
  obtain ⟨cell, cT, h1, h2, h3⟩ := F
  obtain ⟨c', q1, q2, q3, q4⟩ := K.2.2 a cell h1
  exact ⟨c', cT, q1, h2, by rw [q2, q3]; exact h3⟩
theorem own_atI {c : Cell} {vs : List Value} {d : Value} {ty : FieldType} {j : Int32} (H : Has c vs d) (G : ∀ i, i < c.slots.size → fits ty (vs.getD i d) = true) (q : ¬ (j < 0 ∨ c.slots.size ≤ j.toNatClampNeg)) (ht : ty = .int ∨ ty = .boolean ∨ ty = .byte ∨ ty = .char ∨ ty = .short) : ∃ z, c.slots[j.toNatClampNeg]? = some (.int z) := by
  have hlt := Nat.lt_of_not_le fun y => q (Or.inr y)
  obtain ⟨z, hz⟩ := fit_I (G _ hlt) ht
  exact ⟨z, by rw [H _ hlt, hz]⟩
theorem own_selp {s : State} {args : Array Value} {y : MethodName} {n : Nat} (wi : (Jvm.Cond.instantiable y.cls n).before args s = true) (hp : s.PrivateAt y) (hinst : (Jvm.Cond.instanceMethod y).before args s = true) (hy : y.cls ≠ "java/lang/invoke/MethodHandle" ∧ y.cls ≠ "java/lang/invoke/VarHandle") : (Jvm.Cond.selects y.cls y y).before args s = true := by
  obtain ⟨c, k, h1, h2, -, h4, -⟩ := Cond.instantiable_spec wi
  rw [Bool.or_eq_false_iff] at h4
  exact selects_self_of_private h1 h2 h4.1 hp hinst hy
theorem own_cat {v : Value} (h : v.isRef = true) : v.category = 1 := by cases v <;> simp [Value.isRef, Value.category] at h ⊢
theorem pn_1 : plainName "dev/quotefuse/engine/WideCount" = true := by first | (simp [plainName, overriddenIn]; done) | decide +kernel
theorem d1_0 : decode prog_40_method_1_code 0 = .ok (.aload_n 0, 1) := by decide +kernel
theorem d1_1 : decode prog_40_method_1_code 1 = .ok (.invokespecial 1, 3) := by decide +kernel
theorem d1_4 : decode prog_40_method_1_code 4 = .ok (.aload_n 0, 1) := by decide +kernel
theorem d1_5 : decode prog_40_method_1_code 5 = .ok (.getstatic 7, 3) := by decide +kernel
theorem d1_8 : decode prog_40_method_1_code 8 = .ok (.putfield 13, 3) := by decide +kernel
theorem d1_11 : decode prog_40_method_1_code 11 = .ok (.return_, 1) := by decide +kernel
theorem ef_1 (m : MethodId) (q1_0 : Addr) : entryFrame m #[(.ref q1_0)] 1 = mkF m 0 #[.val (.ref q1_0)] [] := by first | (simp [entryFrame, mkF, argsToLocals, Value.category]; done) | rfl
def Q1 (Z : State) (q1_0 : Addr) (w1_q1_0_low : Int64) (w1_q1_0_high : Int64) (z1_ZERO : Addr) (u1_q1_0_beyond : Value) (h0 : Heap) (n0 : Nat) (v : Option Value) (h : Heap) (L : List Loc) : Prop := v = none ∧ Fr n0 L ∧ Keep h0 h [q1_0] ∧ Fld Z h q1_0 "dev/quotefuse/engine/WideCount" "low" "J" (.long w1_q1_0_low) ∧ Fld Z h q1_0 "dev/quotefuse/engine/WideCount" "high" "J" (.long w1_q1_0_high) ∧ Fld Z h q1_0 "dev/quotefuse/engine/WideCount" "beyond" "Ljava/math/BigInteger;" (.ref z1_ZERO)
set_option maxRecDepth 65536 in
set_option maxHeartbeats 40000000 in
theorem rm1 (l : Launch) (Z : State) (a0 : Array Value) (hw : ∀ d ∈ tables_1, d.before a0 Z = true) (ws : List Jvm.Cond) (q1_0 : Addr) (w1_q1_0_low : Int64) (w1_q1_0_high : Int64) (z1_ZERO : Addr) (u1_q1_0_beyond : Value) (h0 : Heap) (n0 : Nat) (Z0 : n0 ≤ h0.size) (F_q1_0_low : Fld Z h0 q1_0 "dev/quotefuse/engine/WideCount" "low" "J" (.long w1_q1_0_low)) (F_q1_0_high : Fld Z h0 q1_0 "dev/quotefuse/engine/WideCount" "high" "J" (.long w1_q1_0_high)) (S_ZERO : Sta Z h0 "java/math/BigInteger" "ZERO" "Ljava/math/BigInteger;" (.ref z1_ZERO)) (E_q1_0 : Exa Z h0 q1_0 "dev/quotefuse/engine/WideCount") (F_q1_0_beyond : Fld Z h0 q1_0 "dev/quotefuse/engine/WideCount" "beyond" "Ljava/math/BigInteger;" u1_q1_0_beyond) (g_q1_0 : n0 ≤ q1_0) :
    MetFree l (⟨"dev/quotefuse/engine/WideCount", "<init>", "()V"⟩ : MethodName) (head1 (Jvm.Cond.code (⟨"dev/quotefuse/engine/WideCount", "<init>", "()V"⟩ : MethodName) prog_40_method_1_code 1 none :: ws) ({ frames := 1, cells := 0, slots := 0, locals := 12 } : Room)) (fun a U => a = #[(.ref q1_0)] ∧ Z.Warmed39 U.vm ∧ U.heap = h0) (fun _ _ _ _ _ => True) (fun _ U o U' => ∃ v L, o = .returned v ∧ Q1 Z q1_0 w1_q1_0_low w1_q1_0_high z1_ZERO u1_q1_0_beyond h0 n0 v U'.heap L ∧ FrameEnd U o U' L ({ frames := 1, cells := 0, slots := 0, locals := 12 } : Room).cells ({ frames := 1, cells := 0, slots := 0, locals := 12 } : Room).slots) := by
  refine MetFree.of_bodySF (plainFor_of_name pn_1) hisR ?_
  intro p e s m args below meth c s₁ Bd hml0 hP hK
  obtain ⟨rfl, hZ, hh⟩ := hP
  have hx := Bd.exec
  have hby := Bd.bytes
  have hml : c.maxLocals = 1 := hml0
  have hown : s.vm.findClass "dev/quotefuse/engine/WideCount" = some m.cls := findClass_of_methodNamed Bd.named
  have hnm := (name_of_methodNamed Bd.named Bd.method).1
  have X0 : Stand p l e ({ frames := 1, cells := 0, slots := 0, locals := 12 } : Room) s m #[(.ref q1_0)] below meth c s₁ [] 0 0 := Stand.of_body Bd
  have e0 : s₁.heap = h0 := by rw [← hh, Bd.state]; rfl
  have N0 := Fr.nil n0
  obtain ⟨S0, hE0⟩ : ∃ z, z = s₁.setTop (entryFrame m #[(.ref q1_0)] 1) := ⟨_, rfl⟩
  have P0 : own_Go p e below S0 (s₁.setTop (mkF m 0 #[.val (.ref q1_0)] [])) := fun t k => by rw [hE0]; exact castTop (ef_1 m q1_0) k
  have P1 : own_Go p e below S0 (s₁.setTop (mkF m 1 #[.val (.ref q1_0)] [(.ref q1_0)])) := fun t k => P0 t (by
    show Steps p.tables e below (s₁.setTop (mkF m 0 #[.val (.ref q1_0)] [])) t
    refine XS.aloadN X0.here hx rfl (hb hby d1_0) rfl rfl ?_
    show Steps p.tables e below (s₁.setTop (mkF m 1 #[.val (.ref q1_0)] [(.ref q1_0)])) t
    exact k)
  obtain ⟨T2, X2, e2, st2⟩ := initO X0 hx hZ hown (hw _ (List.mem_of_getElem? (i := 7) rfl)) (hw _ (List.mem_of_getElem? (i := 8) rfl)) (hw _ (List.mem_of_getElem? (i := 9) rfl)) e0 (g := (mkF m 1 #[.val (.ref q1_0)] [(.ref q1_0)])) rfl (by rw [hml]; rfl) rfl (hb hby d1_1) (by decide) (W := 0) (by show 2 * 0 + _ ≤ _; exact Nat.le_of_eq rfl) (by decide)
  have P2 : own_Go p e below S0 (T2.setTop (mkF m 4 #[.val (.ref q1_0)] [])) := fun t k => P1 t (st2 _ k)
  have P3 : own_Go p e below S0 (T2.setTop (mkF m 5 #[.val (.ref q1_0)] [(.ref q1_0)])) := fun t k => P2 t (by
    show Steps p.tables e below (T2.setTop (mkF m 4 #[.val (.ref q1_0)] [])) t
    refine XS.aloadN X2.here hx rfl (hb hby d1_4) rfl rfl ?_
    show Steps p.tables e below (T2.setTop (mkF m 5 #[.val (.ref q1_0)] [(.ref q1_0)])) t
    exact k)
  obtain ⟨T4, X4, e4, st4⟩ := getS2 X2 hx hZ hown (host := "") (Or.inl (hw _ (List.mem_of_getElem? (i := 10) rfl))) Via.refl e2 S_ZERO (g := (mkF m 5 #[.val (.ref q1_0)] [(.ref q1_0)])) rfl (hb hby d1_5)
  have P4 : own_Go p e below S0 (T4.setTop (mkF m 8 #[.val (.ref q1_0)] [(.ref z1_ZERO), (.ref q1_0)])) := fun t k => P3 t (st4 _ k)
  obtain ⟨T5, h5, X5, e5, W5, st5⟩ := putF X4 hx hZ hown (host := "") (Or.inl (hw _ (List.mem_of_getElem? (i := 12) rfl))) Via.refl e4 F_q1_0_beyond E_q1_0 (Or.inl (hw _ (List.mem_of_getElem? (i := 13) rfl))) (hw _ (List.mem_of_getElem? (i := 2) rfl)) (ty := (.object "java/math/BigInteger")) (by decide) rfl rfl (g := (mkF m 8 #[.val (.ref q1_0)] [(.ref z1_ZERO), (.ref q1_0)])) rfl rfl (hb hby d1_8)
  have K5 : Keep h0 h5 [q1_0] := (Keep.refl h0 [q1_0]).wr W5 (Or.inl (by simp))
  have N5 := Fr.snoc X5 N0 g_q1_0
  have F5w : Fld Z h5 q1_0 "dev/quotefuse/engine/WideCount" "beyond" "Ljava/math/BigInteger;" (.ref z1_ZERO) := F_q1_0_beyond.same W5
  have P5 : own_Go p e below S0 (T5.setTop (mkF m 11 #[.val (.ref q1_0)] [])) := fun t k => P4 t (st5 _ k)
  have F6 : Fld Z h5 q1_0 "dev/quotefuse/engine/WideCount" "low" "J" (.long w1_q1_0_low) := F_q1_0_low.other W5 (Or.inr (slot_ne (Or.inl (hw _ (List.mem_of_getElem? (i := 29) rfl))) (Or.inl (hw _ (List.mem_of_getElem? (i := 13) rfl))) (by decide) (t := .long) (t' := (.object "java/math/BigInteger")) (by decide) (by decide)))
  have F7 : Fld Z h5 q1_0 "dev/quotefuse/engine/WideCount" "high" "J" (.long w1_q1_0_high) := F_q1_0_high.other W5 (Or.inr (slot_ne (Or.inl (hw _ (List.mem_of_getElem? (i := 39) rfl))) (Or.inl (hw _ (List.mem_of_getElem? (i := 13) rfl))) (by decide) (t := .long) (t' := (.object "java/math/BigInteger")) (by decide) (by decide)))
  obtain ⟨fs, hr, hrun, hended, hW, hsame⟩ := X5.leave (v := none) (fun _ => rfl) (BodyLoose.notSynchronized Bd)
  refine ⟨_, _, own_from hE0 (P5 _ ?_), hrun, hended, _, _, rfl, ?_, ⟨_, rfl⟩, hW, hsame.mono (by decide) (by decide)⟩
  · show Steps p.tables e below (T5.setTop (mkF m 11 #[.val (.ref q1_0)] [])) _
    exact X5.returnOut hx Bd.returns (hb hby d1_11) hr
  · show Q1 Z q1_0 w1_q1_0_low w1_q1_0_high z1_ZERO u1_q1_0_beyond h0 n0 _ T5.heap _
    rw [e5]
    exact ⟨rfl, N5, K5, F6, F7, F5w⟩
theorem d4_0 : decode jdk_29_method_45_code 0 = .ok (.lload_n 0, 1) := by decide +kernel
theorem d4_1 : decode jdk_29_method_45_code 1 = .ok (.bipush 32, 2) := by decide +kernel
theorem d4_3 : decode jdk_29_method_45_code 3 = .ok (.lshr, 1) := by decide +kernel
theorem d4_4 : decode jdk_29_method_45_code 4 = .ok (.lstore 4, 2) := by decide +kernel
theorem d4_6 : decode jdk_29_method_45_code 6 = .ok (.lload_n 0, 1) := by decide +kernel
theorem d4_7 : decode jdk_29_method_45_code 7 = .ok (.ldc2_w 138, 3) := by decide +kernel
theorem d4_10 : decode jdk_29_method_45_code 10 = .ok (.land, 1) := by decide +kernel
theorem d4_11 : decode jdk_29_method_45_code 11 = .ok (.lstore 6, 2) := by decide +kernel
theorem d4_13 : decode jdk_29_method_45_code 13 = .ok (.lload_n 2, 1) := by decide +kernel
theorem d4_14 : decode jdk_29_method_45_code 14 = .ok (.bipush 32, 2) := by decide +kernel
theorem d4_16 : decode jdk_29_method_45_code 16 = .ok (.lshr, 1) := by decide +kernel
theorem d4_17 : decode jdk_29_method_45_code 17 = .ok (.lstore 8, 2) := by decide +kernel
theorem d4_19 : decode jdk_29_method_45_code 19 = .ok (.lload_n 2, 1) := by decide +kernel
theorem d4_20 : decode jdk_29_method_45_code 20 = .ok (.ldc2_w 138, 3) := by decide +kernel
theorem d4_23 : decode jdk_29_method_45_code 23 = .ok (.land, 1) := by decide +kernel
theorem d4_24 : decode jdk_29_method_45_code 24 = .ok (.lstore 10, 2) := by decide +kernel
theorem d4_26 : decode jdk_29_method_45_code 26 = .ok (.lload 6, 2) := by decide +kernel
theorem d4_28 : decode jdk_29_method_45_code 28 = .ok (.lload 10, 2) := by decide +kernel
theorem d4_30 : decode jdk_29_method_45_code 30 = .ok (.lmul, 1) := by decide +kernel
theorem d4_31 : decode jdk_29_method_45_code 31 = .ok (.lstore 12, 2) := by decide +kernel
theorem d4_33 : decode jdk_29_method_45_code 33 = .ok (.lload 4, 2) := by decide +kernel
theorem d4_35 : decode jdk_29_method_45_code 35 = .ok (.lload 10, 2) := by decide +kernel
theorem d4_37 : decode jdk_29_method_45_code 37 = .ok (.lmul, 1) := by decide +kernel
theorem d4_38 : decode jdk_29_method_45_code 38 = .ok (.lload 12, 2) := by decide +kernel
theorem d4_40 : decode jdk_29_method_45_code 40 = .ok (.bipush 32, 2) := by decide +kernel
theorem d4_42 : decode jdk_29_method_45_code 42 = .ok (.lushr, 1) := by decide +kernel
theorem d4_43 : decode jdk_29_method_45_code 43 = .ok (.ladd, 1) := by decide +kernel
theorem d4_44 : decode jdk_29_method_45_code 44 = .ok (.lstore 14, 2) := by decide +kernel
theorem d4_46 : decode jdk_29_method_45_code 46 = .ok (.lload 14, 2) := by decide +kernel
theorem d4_48 : decode jdk_29_method_45_code 48 = .ok (.ldc2_w 138, 3) := by decide +kernel
theorem d4_51 : decode jdk_29_method_45_code 51 = .ok (.land, 1) := by decide +kernel
theorem d4_52 : decode jdk_29_method_45_code 52 = .ok (.lstore 16, 2) := by decide +kernel
theorem d4_54 : decode jdk_29_method_45_code 54 = .ok (.lload 14, 2) := by decide +kernel
theorem d4_56 : decode jdk_29_method_45_code 56 = .ok (.bipush 32, 2) := by decide +kernel
theorem d4_58 : decode jdk_29_method_45_code 58 = .ok (.lshr, 1) := by decide +kernel
theorem d4_59 : decode jdk_29_method_45_code 59 = .ok (.lstore 18, 2) := by decide +kernel
theorem d4_61 : decode jdk_29_method_45_code 61 = .ok (.lload 16, 2) := by decide +kernel
theorem d4_63 : decode jdk_29_method_45_code 63 = .ok (.lload 6, 2) := by decide +kernel
theorem d4_65 : decode jdk_29_method_45_code 65 = .ok (.lload 8, 2) := by decide +kernel
theorem d4_67 : decode jdk_29_method_45_code 67 = .ok (.lmul, 1) := by decide +kernel
theorem d4_68 : decode jdk_29_method_45_code 68 = .ok (.ladd, 1) := by decide +kernel
theorem d4_69 : decode jdk_29_method_45_code 69 = .ok (.lstore 16, 2) := by decide +kernel
theorem d4_71 : decode jdk_29_method_45_code 71 = .ok (.lload 4, 2) := by decide +kernel
theorem d4_73 : decode jdk_29_method_45_code 73 = .ok (.lload 8, 2) := by decide +kernel
theorem d4_75 : decode jdk_29_method_45_code 75 = .ok (.lmul, 1) := by decide +kernel
theorem d4_76 : decode jdk_29_method_45_code 76 = .ok (.lload 18, 2) := by decide +kernel
theorem d4_78 : decode jdk_29_method_45_code 78 = .ok (.ladd, 1) := by decide +kernel
theorem d4_79 : decode jdk_29_method_45_code 79 = .ok (.lload 16, 2) := by decide +kernel
theorem d4_81 : decode jdk_29_method_45_code 81 = .ok (.bipush 32, 2) := by decide +kernel
theorem d4_83 : decode jdk_29_method_45_code 83 = .ok (.lshr, 1) := by decide +kernel
theorem d4_84 : decode jdk_29_method_45_code 84 = .ok (.ladd, 1) := by decide +kernel
theorem d4_85 : decode jdk_29_method_45_code 85 = .ok (.lreturn, 1) := by decide +kernel
theorem ef_4 (m : MethodId) (q4_0 : Int64) (q4_1 : Int64) : entryFrame m #[(.long q4_0), (.long q4_1)] 20 = mkF m 0 #[.val (.long q4_0), .second, .val (.long q4_1), .second, .unset, .unset, .unset, .unset, .unset, .unset, .unset, .unset, .unset, .unset, .unset, .unset, .unset, .unset, .unset, .unset] [] := by first | (simp [entryFrame, mkF, argsToLocals, Value.category]; done) | rfl
def own_mh (q4_0 : Int64) (q4_1 : Int64) : Int64 := ((((q4_0 >>> ((32 : Int32) &&& 0x3f).toInt64) * (q4_1 >>> ((32 : Int32) &&& 0x3f).toInt64)) + ((((q4_0 >>> ((32 : Int32) &&& 0x3f).toInt64) * (q4_1 &&& (4294967295 : Int64))) + ((((q4_0 &&& (4294967295 : Int64)) * (q4_1 &&& (4294967295 : Int64))).toUInt64 >>> ((32 : Int32) &&& 0x3f).toInt64.toUInt64).toInt64)) >>> ((32 : Int32) &&& 0x3f).toInt64)) + ((((((q4_0 >>> ((32 : Int32) &&& 0x3f).toInt64) * (q4_1 &&& (4294967295 : Int64))) + ((((q4_0 &&& (4294967295 : Int64)) * (q4_1 &&& (4294967295 : Int64))).toUInt64 >>> ((32 : Int32) &&& 0x3f).toInt64.toUInt64).toInt64)) &&& (4294967295 : Int64)) + ((q4_0 &&& (4294967295 : Int64)) * (q4_1 >>> ((32 : Int32) &&& 0x3f).toInt64))) >>> ((32 : Int32) &&& 0x3f).toInt64))
def Q4 (Z : State) (q4_0 : Int64) (q4_1 : Int64) (h0 : Heap) (n0 : Nat) (v : Option Value) (h : Heap) (L : List Loc) : Prop := v = some (.long (own_mh q4_0 q4_1)) ∧ Fr n0 L ∧ h = h0
set_option maxRecDepth 65536 in
set_option maxHeartbeats 40000000 in
theorem rm4 (l : Launch) (Z : State) (a0 : Array Value) (hw : ∀ d ∈ tables_1, d.before a0 Z = true) (ws : List Jvm.Cond) (q4_0 : Int64) (q4_1 : Int64) (h0 : Heap) (n0 : Nat) (Z0 : n0 ≤ h0.size) :
    MetFree l (⟨"java/lang/Math", "multiplyHigh", "(JJ)J"⟩ : MethodName) (head1 (Jvm.Cond.code (⟨"java/lang/Math", "multiplyHigh", "(JJ)J"⟩ : MethodName) jdk_29_method_45_code 20 (some .long) :: ws) ({ frames := 0, cells := 0, slots := 0, locals := 0 } : Room)) (fun a U => a = #[(.long q4_0), (.long q4_1)] ∧ Z.Warmed39 U.vm ∧ U.heap = h0) (fun _ _ _ _ _ => True) (fun _ U o U' => ∃ v L, o = .returned v ∧ Q4 Z q4_0 q4_1 h0 n0 v U'.heap L ∧ FrameEnd U o U' L ({ frames := 0, cells := 0, slots := 0, locals := 0 } : Room).cells ({ frames := 0, cells := 0, slots := 0, locals := 0 } : Room).slots) := by
  refine MetFree.of_bodySF (Jvm.Free.JP.mathPlain rfl (by decide +kernel)) hisR ?_
  intro p e s m args below meth c s₁ Bd hml0 hP hK
  obtain ⟨rfl, hZ, hh⟩ := hP
  have hx := Bd.exec
  have hby := Bd.bytes
  have hml : c.maxLocals = 20 := hml0
  have hown : s.vm.findClass "java/lang/Math" = some m.cls := findClass_of_methodNamed Bd.named
  have hnm := (name_of_methodNamed Bd.named Bd.method).1
  have X0 : Stand p l e ({ frames := 0, cells := 0, slots := 0, locals := 0 } : Room) s m #[(.long q4_0), (.long q4_1)] below meth c s₁ [] 0 0 := Stand.of_body Bd
  have e0 : s₁.heap = h0 := by rw [← hh, Bd.state]; rfl
  have N0 := Fr.nil n0
  obtain ⟨S0, hE0⟩ : ∃ z, z = s₁.setTop (entryFrame m #[(.long q4_0), (.long q4_1)] 20) := ⟨_, rfl⟩
  have P0 : own_Go p e below S0 (s₁.setTop (mkF m 0 #[.val (.long q4_0), .second, .val (.long q4_1), .second, .unset, .unset, .unset, .unset, .unset, .unset, .unset, .unset, .unset, .unset, .unset, .unset, .unset, .unset, .unset, .unset] [])) := fun t k => by rw [hE0]; exact castTop (ef_4 m q4_0 q4_1) k
  have P1 : own_Go p e below S0 (s₁.setTop (mkF m 85 #[.val (.long q4_0), .second, .val (.long q4_1), .second, .val (.long (q4_0 >>> ((32 : Int32) &&& 0x3f).toInt64)), .second, .val (.long (q4_0 &&& (4294967295 : Int64))), .second, .val (.long (q4_1 >>> ((32 : Int32) &&& 0x3f).toInt64)), .second, .val (.long (q4_1 &&& (4294967295 : Int64))), .second, .val (.long ((q4_0 &&& (4294967295 : Int64)) * (q4_1 &&& (4294967295 : Int64)))), .second, .val (.long (((q4_0 >>> ((32 : Int32) &&& 0x3f).toInt64) * (q4_1 &&& (4294967295 : Int64))) + ((((q4_0 &&& (4294967295 : Int64)) * (q4_1 &&& (4294967295 : Int64))).toUInt64 >>> ((32 : Int32) &&& 0x3f).toInt64.toUInt64).toInt64))), .second, .val (.long (((((q4_0 >>> ((32 : Int32) &&& 0x3f).toInt64) * (q4_1 &&& (4294967295 : Int64))) + ((((q4_0 &&& (4294967295 : Int64)) * (q4_1 &&& (4294967295 : Int64))).toUInt64 >>> ((32 : Int32) &&& 0x3f).toInt64.toUInt64).toInt64)) &&& (4294967295 : Int64)) + ((q4_0 &&& (4294967295 : Int64)) * (q4_1 >>> ((32 : Int32) &&& 0x3f).toInt64)))), .second, .val (.long ((((q4_0 >>> ((32 : Int32) &&& 0x3f).toInt64) * (q4_1 &&& (4294967295 : Int64))) + ((((q4_0 &&& (4294967295 : Int64)) * (q4_1 &&& (4294967295 : Int64))).toUInt64 >>> ((32 : Int32) &&& 0x3f).toInt64.toUInt64).toInt64)) >>> ((32 : Int32) &&& 0x3f).toInt64)), .second] [(.long ((((q4_0 >>> ((32 : Int32) &&& 0x3f).toInt64) * (q4_1 >>> ((32 : Int32) &&& 0x3f).toInt64)) + ((((q4_0 >>> ((32 : Int32) &&& 0x3f).toInt64) * (q4_1 &&& (4294967295 : Int64))) + ((((q4_0 &&& (4294967295 : Int64)) * (q4_1 &&& (4294967295 : Int64))).toUInt64 >>> ((32 : Int32) &&& 0x3f).toInt64.toUInt64).toInt64)) >>> ((32 : Int32) &&& 0x3f).toInt64)) + ((((((q4_0 >>> ((32 : Int32) &&& 0x3f).toInt64) * (q4_1 &&& (4294967295 : Int64))) + ((((q4_0 &&& (4294967295 : Int64)) * (q4_1 &&& (4294967295 : Int64))).toUInt64 >>> ((32 : Int32) &&& 0x3f).toInt64.toUInt64).toInt64)) &&& (4294967295 : Int64)) + ((q4_0 &&& (4294967295 : Int64)) * (q4_1 >>> ((32 : Int32) &&& 0x3f).toInt64))) >>> ((32 : Int32) &&& 0x3f).toInt64)))])) := fun t k => P0 t (by
    show Steps p.tables e below (s₁.setTop (mkF m 0 #[.val (.long q4_0), .second, .val (.long q4_1), .second, .unset, .unset, .unset, .unset, .unset, .unset, .unset, .unset, .unset, .unset, .unset, .unset, .unset, .unset, .unset, .unset] [])) t
    refine XS.lloadN X0.here hx rfl (hb hby d4_0) rfl ?_
    refine XS.bipush X0.here hx rfl (hb hby d4_1) ?_
    refine XS.lshr X0.here hx rfl (hb hby d4_3) rfl ?_
    refine XS.lstore X0.here hx rfl (hb hby d4_4) rfl (l' := #[.val (.long q4_0), .second, .val (.long q4_1), .second, .val (.long (q4_0 >>> ((32 : Int32) &&& 0x3f).toInt64)), .second, .unset, .unset, .unset, .unset, .unset, .unset, .unset, .unset, .unset, .unset, .unset, .unset, .unset, .unset]) rfl ?_
    refine XS.lloadN X0.here hx rfl (hb hby d4_6) rfl ?_
    show Steps p.tables e below (s₁.setTop (mkF m 7 #[.val (.long q4_0), .second, .val (.long q4_1), .second, .val (.long (q4_0 >>> ((32 : Int32) &&& 0x3f).toInt64)), .second, .unset, .unset, .unset, .unset, .unset, .unset, .unset, .unset, .unset, .unset, .unset, .unset, .unset, .unset] [(.long q4_0)])) t
    refine X0.ldc2Long hx hown (mvT hZ (hw _ (List.mem_of_getElem? (i := 23) rfl))) (g := (mkF m 7 #[.val (.long q4_0), .second, .val (.long q4_1), .second, .val (.long (q4_0 >>> ((32 : Int32) &&& 0x3f).toInt64)), .second, .unset, .unset, .unset, .unset, .unset, .unset, .unset, .unset, .unset, .unset, .unset, .unset, .unset, .unset] [(.long q4_0)])) rfl (hb hby d4_7) _ ?_
    show Steps p.tables e below (s₁.setTop (mkF m 10 #[.val (.long q4_0), .second, .val (.long q4_1), .second, .val (.long (q4_0 >>> ((32 : Int32) &&& 0x3f).toInt64)), .second, .unset, .unset, .unset, .unset, .unset, .unset, .unset, .unset, .unset, .unset, .unset, .unset, .unset, .unset] [(.long (4294967295 : Int64)), (.long q4_0)])) t
    refine XS.land X0.here hx rfl (hb hby d4_10) rfl ?_
    refine XS.lstore X0.here hx rfl (hb hby d4_11) rfl (l' := #[.val (.long q4_0), .second, .val (.long q4_1), .second, .val (.long (q4_0 >>> ((32 : Int32) &&& 0x3f).toInt64)), .second, .val (.long (q4_0 &&& (4294967295 : Int64))), .second, .unset, .unset, .unset, .unset, .unset, .unset, .unset, .unset, .unset, .unset, .unset, .unset]) rfl ?_
    refine XS.lloadN X0.here hx rfl (hb hby d4_13) rfl ?_
    refine XS.bipush X0.here hx rfl (hb hby d4_14) ?_
    refine XS.lshr X0.here hx rfl (hb hby d4_16) rfl ?_
    refine XS.lstore X0.here hx rfl (hb hby d4_17) rfl (l' := #[.val (.long q4_0), .second, .val (.long q4_1), .second, .val (.long (q4_0 >>> ((32 : Int32) &&& 0x3f).toInt64)), .second, .val (.long (q4_0 &&& (4294967295 : Int64))), .second, .val (.long (q4_1 >>> ((32 : Int32) &&& 0x3f).toInt64)), .second, .unset, .unset, .unset, .unset, .unset, .unset, .unset, .unset, .unset, .unset]) rfl ?_
    show Steps p.tables e below (s₁.setTop (mkF m 19 #[.val (.long q4_0), .second, .val (.long q4_1), .second, .val (.long (q4_0 >>> ((32 : Int32) &&& 0x3f).toInt64)), .second, .val (.long (q4_0 &&& (4294967295 : Int64))), .second, .val (.long (q4_1 >>> ((32 : Int32) &&& 0x3f).toInt64)), .second, .unset, .unset, .unset, .unset, .unset, .unset, .unset, .unset, .unset, .unset] [])) t
    refine XS.lloadN X0.here hx rfl (hb hby d4_19) rfl ?_
    show Steps p.tables e below (s₁.setTop (mkF m 20 #[.val (.long q4_0), .second, .val (.long q4_1), .second, .val (.long (q4_0 >>> ((32 : Int32) &&& 0x3f).toInt64)), .second, .val (.long (q4_0 &&& (4294967295 : Int64))), .second, .val (.long (q4_1 >>> ((32 : Int32) &&& 0x3f).toInt64)), .second, .unset, .unset, .unset, .unset, .unset, .unset, .unset, .unset, .unset, .unset] [(.long q4_1)])) t
    refine X0.ldc2Long hx hown (mvT hZ (hw _ (List.mem_of_getElem? (i := 23) rfl))) (g := (mkF m 20 #[.val (.long q4_0), .second, .val (.long q4_1), .second, .val (.long (q4_0 >>> ((32 : Int32) &&& 0x3f).toInt64)), .second, .val (.long (q4_0 &&& (4294967295 : Int64))), .second, .val (.long (q4_1 >>> ((32 : Int32) &&& 0x3f).toInt64)), .second, .unset, .unset, .unset, .unset, .unset, .unset, .unset, .unset, .unset, .unset] [(.long q4_1)])) rfl (hb hby d4_20) _ ?_
    refine XS.land X0.here hx rfl (hb hby d4_23) rfl ?_
    refine XS.lstore X0.here hx rfl (hb hby d4_24) rfl (l' := #[.val (.long q4_0), .second, .val (.long q4_1), .second, .val (.long (q4_0 >>> ((32 : Int32) &&& 0x3f).toInt64)), .second, .val (.long (q4_0 &&& (4294967295 : Int64))), .second, .val (.long (q4_1 >>> ((32 : Int32) &&& 0x3f).toInt64)), .second, .val (.long (q4_1 &&& (4294967295 : Int64))), .second, .unset, .unset, .unset, .unset, .unset, .unset, .unset, .unset]) rfl ?_
    refine XS.lload X0.here hx rfl (hb hby d4_26) rfl ?_
    refine XS.lload X0.here hx rfl (hb hby d4_28) rfl ?_
    show Steps p.tables e below (s₁.setTop (mkF m 30 #[.val (.long q4_0), .second, .val (.long q4_1), .second, .val (.long (q4_0 >>> ((32 : Int32) &&& 0x3f).toInt64)), .second, .val (.long (q4_0 &&& (4294967295 : Int64))), .second, .val (.long (q4_1 >>> ((32 : Int32) &&& 0x3f).toInt64)), .second, .val (.long (q4_1 &&& (4294967295 : Int64))), .second, .unset, .unset, .unset, .unset, .unset, .unset, .unset, .unset] [(.long (q4_1 &&& (4294967295 : Int64))), (.long (q4_0 &&& (4294967295 : Int64)))])) t
    refine XS.lmul X0.here hx rfl (hb hby d4_30) rfl ?_
    refine XS.lstore X0.here hx rfl (hb hby d4_31) rfl (l' := #[.val (.long q4_0), .second, .val (.long q4_1), .second, .val (.long (q4_0 >>> ((32 : Int32) &&& 0x3f).toInt64)), .second, .val (.long (q4_0 &&& (4294967295 : Int64))), .second, .val (.long (q4_1 >>> ((32 : Int32) &&& 0x3f).toInt64)), .second, .val (.long (q4_1 &&& (4294967295 : Int64))), .second, .val (.long ((q4_0 &&& (4294967295 : Int64)) * (q4_1 &&& (4294967295 : Int64)))), .second, .unset, .unset, .unset, .unset, .unset, .unset]) rfl ?_
    refine XS.lload X0.here hx rfl (hb hby d4_33) rfl ?_
    refine XS.lload X0.here hx rfl (hb hby d4_35) rfl ?_
    refine XS.lmul X0.here hx rfl (hb hby d4_37) rfl ?_
    refine XS.lload X0.here hx rfl (hb hby d4_38) rfl ?_
    show Steps p.tables e below (s₁.setTop (mkF m 40 #[.val (.long q4_0), .second, .val (.long q4_1), .second, .val (.long (q4_0 >>> ((32 : Int32) &&& 0x3f).toInt64)), .second, .val (.long (q4_0 &&& (4294967295 : Int64))), .second, .val (.long (q4_1 >>> ((32 : Int32) &&& 0x3f).toInt64)), .second, .val (.long (q4_1 &&& (4294967295 : Int64))), .second, .val (.long ((q4_0 &&& (4294967295 : Int64)) * (q4_1 &&& (4294967295 : Int64)))), .second, .unset, .unset, .unset, .unset, .unset, .unset] [(.long ((q4_0 &&& (4294967295 : Int64)) * (q4_1 &&& (4294967295 : Int64)))), (.long ((q4_0 >>> ((32 : Int32) &&& 0x3f).toInt64) * (q4_1 &&& (4294967295 : Int64))))])) t
    refine XS.bipush X0.here hx rfl (hb hby d4_40) ?_
    refine XS.lushr X0.here hx rfl (hb hby d4_42) rfl ?_
    refine XS.ladd X0.here hx rfl (hb hby d4_43) rfl ?_
    refine XS.lstore X0.here hx rfl (hb hby d4_44) rfl (l' := #[.val (.long q4_0), .second, .val (.long q4_1), .second, .val (.long (q4_0 >>> ((32 : Int32) &&& 0x3f).toInt64)), .second, .val (.long (q4_0 &&& (4294967295 : Int64))), .second, .val (.long (q4_1 >>> ((32 : Int32) &&& 0x3f).toInt64)), .second, .val (.long (q4_1 &&& (4294967295 : Int64))), .second, .val (.long ((q4_0 &&& (4294967295 : Int64)) * (q4_1 &&& (4294967295 : Int64)))), .second, .val (.long (((q4_0 >>> ((32 : Int32) &&& 0x3f).toInt64) * (q4_1 &&& (4294967295 : Int64))) + ((((q4_0 &&& (4294967295 : Int64)) * (q4_1 &&& (4294967295 : Int64))).toUInt64 >>> ((32 : Int32) &&& 0x3f).toInt64.toUInt64).toInt64))), .second, .unset, .unset, .unset, .unset]) rfl ?_
    refine XS.lload X0.here hx rfl (hb hby d4_46) rfl ?_
    show Steps p.tables e below (s₁.setTop (mkF m 48 #[.val (.long q4_0), .second, .val (.long q4_1), .second, .val (.long (q4_0 >>> ((32 : Int32) &&& 0x3f).toInt64)), .second, .val (.long (q4_0 &&& (4294967295 : Int64))), .second, .val (.long (q4_1 >>> ((32 : Int32) &&& 0x3f).toInt64)), .second, .val (.long (q4_1 &&& (4294967295 : Int64))), .second, .val (.long ((q4_0 &&& (4294967295 : Int64)) * (q4_1 &&& (4294967295 : Int64)))), .second, .val (.long (((q4_0 >>> ((32 : Int32) &&& 0x3f).toInt64) * (q4_1 &&& (4294967295 : Int64))) + ((((q4_0 &&& (4294967295 : Int64)) * (q4_1 &&& (4294967295 : Int64))).toUInt64 >>> ((32 : Int32) &&& 0x3f).toInt64.toUInt64).toInt64))), .second, .unset, .unset, .unset, .unset] [(.long (((q4_0 >>> ((32 : Int32) &&& 0x3f).toInt64) * (q4_1 &&& (4294967295 : Int64))) + ((((q4_0 &&& (4294967295 : Int64)) * (q4_1 &&& (4294967295 : Int64))).toUInt64 >>> ((32 : Int32) &&& 0x3f).toInt64.toUInt64).toInt64)))])) t
    refine X0.ldc2Long hx hown (mvT hZ (hw _ (List.mem_of_getElem? (i := 23) rfl))) (g := (mkF m 48 #[.val (.long q4_0), .second, .val (.long q4_1), .second, .val (.long (q4_0 >>> ((32 : Int32) &&& 0x3f).toInt64)), .second, .val (.long (q4_0 &&& (4294967295 : Int64))), .second, .val (.long (q4_1 >>> ((32 : Int32) &&& 0x3f).toInt64)), .second, .val (.long (q4_1 &&& (4294967295 : Int64))), .second, .val (.long ((q4_0 &&& (4294967295 : Int64)) * (q4_1 &&& (4294967295 : Int64)))), .second, .val (.long (((q4_0 >>> ((32 : Int32) &&& 0x3f).toInt64) * (q4_1 &&& (4294967295 : Int64))) + ((((q4_0 &&& (4294967295 : Int64)) * (q4_1 &&& (4294967295 : Int64))).toUInt64 >>> ((32 : Int32) &&& 0x3f).toInt64.toUInt64).toInt64))), .second, .unset, .unset, .unset, .unset] [(.long (((q4_0 >>> ((32 : Int32) &&& 0x3f).toInt64) * (q4_1 &&& (4294967295 : Int64))) + ((((q4_0 &&& (4294967295 : Int64)) * (q4_1 &&& (4294967295 : Int64))).toUInt64 >>> ((32 : Int32) &&& 0x3f).toInt64.toUInt64).toInt64)))])) rfl (hb hby d4_48) _ ?_
    show Steps p.tables e below (s₁.setTop (mkF m 51 #[.val (.long q4_0), .second, .val (.long q4_1), .second, .val (.long (q4_0 >>> ((32 : Int32) &&& 0x3f).toInt64)), .second, .val (.long (q4_0 &&& (4294967295 : Int64))), .second, .val (.long (q4_1 >>> ((32 : Int32) &&& 0x3f).toInt64)), .second, .val (.long (q4_1 &&& (4294967295 : Int64))), .second, .val (.long ((q4_0 &&& (4294967295 : Int64)) * (q4_1 &&& (4294967295 : Int64)))), .second, .val (.long (((q4_0 >>> ((32 : Int32) &&& 0x3f).toInt64) * (q4_1 &&& (4294967295 : Int64))) + ((((q4_0 &&& (4294967295 : Int64)) * (q4_1 &&& (4294967295 : Int64))).toUInt64 >>> ((32 : Int32) &&& 0x3f).toInt64.toUInt64).toInt64))), .second, .unset, .unset, .unset, .unset] [(.long (4294967295 : Int64)), (.long (((q4_0 >>> ((32 : Int32) &&& 0x3f).toInt64) * (q4_1 &&& (4294967295 : Int64))) + ((((q4_0 &&& (4294967295 : Int64)) * (q4_1 &&& (4294967295 : Int64))).toUInt64 >>> ((32 : Int32) &&& 0x3f).toInt64.toUInt64).toInt64)))])) t
    refine XS.land X0.here hx rfl (hb hby d4_51) rfl ?_
    refine XS.lstore X0.here hx rfl (hb hby d4_52) rfl (l' := #[.val (.long q4_0), .second, .val (.long q4_1), .second, .val (.long (q4_0 >>> ((32 : Int32) &&& 0x3f).toInt64)), .second, .val (.long (q4_0 &&& (4294967295 : Int64))), .second, .val (.long (q4_1 >>> ((32 : Int32) &&& 0x3f).toInt64)), .second, .val (.long (q4_1 &&& (4294967295 : Int64))), .second, .val (.long ((q4_0 &&& (4294967295 : Int64)) * (q4_1 &&& (4294967295 : Int64)))), .second, .val (.long (((q4_0 >>> ((32 : Int32) &&& 0x3f).toInt64) * (q4_1 &&& (4294967295 : Int64))) + ((((q4_0 &&& (4294967295 : Int64)) * (q4_1 &&& (4294967295 : Int64))).toUInt64 >>> ((32 : Int32) &&& 0x3f).toInt64.toUInt64).toInt64))), .second, .val (.long ((((q4_0 >>> ((32 : Int32) &&& 0x3f).toInt64) * (q4_1 &&& (4294967295 : Int64))) + ((((q4_0 &&& (4294967295 : Int64)) * (q4_1 &&& (4294967295 : Int64))).toUInt64 >>> ((32 : Int32) &&& 0x3f).toInt64.toUInt64).toInt64)) &&& (4294967295 : Int64))), .second, .unset, .unset]) rfl ?_
    refine XS.lload X0.here hx rfl (hb hby d4_54) rfl ?_
    refine XS.bipush X0.here hx rfl (hb hby d4_56) ?_
    refine XS.lshr X0.here hx rfl (hb hby d4_58) rfl ?_
    refine XS.lstore X0.here hx rfl (hb hby d4_59) rfl (l' := #[.val (.long q4_0), .second, .val (.long q4_1), .second, .val (.long (q4_0 >>> ((32 : Int32) &&& 0x3f).toInt64)), .second, .val (.long (q4_0 &&& (4294967295 : Int64))), .second, .val (.long (q4_1 >>> ((32 : Int32) &&& 0x3f).toInt64)), .second, .val (.long (q4_1 &&& (4294967295 : Int64))), .second, .val (.long ((q4_0 &&& (4294967295 : Int64)) * (q4_1 &&& (4294967295 : Int64)))), .second, .val (.long (((q4_0 >>> ((32 : Int32) &&& 0x3f).toInt64) * (q4_1 &&& (4294967295 : Int64))) + ((((q4_0 &&& (4294967295 : Int64)) * (q4_1 &&& (4294967295 : Int64))).toUInt64 >>> ((32 : Int32) &&& 0x3f).toInt64.toUInt64).toInt64))), .second, .val (.long ((((q4_0 >>> ((32 : Int32) &&& 0x3f).toInt64) * (q4_1 &&& (4294967295 : Int64))) + ((((q4_0 &&& (4294967295 : Int64)) * (q4_1 &&& (4294967295 : Int64))).toUInt64 >>> ((32 : Int32) &&& 0x3f).toInt64.toUInt64).toInt64)) &&& (4294967295 : Int64))), .second, .val (.long ((((q4_0 >>> ((32 : Int32) &&& 0x3f).toInt64) * (q4_1 &&& (4294967295 : Int64))) + ((((q4_0 &&& (4294967295 : Int64)) * (q4_1 &&& (4294967295 : Int64))).toUInt64 >>> ((32 : Int32) &&& 0x3f).toInt64.toUInt64).toInt64)) >>> ((32 : Int32) &&& 0x3f).toInt64)), .second]) rfl ?_
    show Steps p.tables e below (s₁.setTop (mkF m 61 #[.val (.long q4_0), .second, .val (.long q4_1), .second, .val (.long (q4_0 >>> ((32 : Int32) &&& 0x3f).toInt64)), .second, .val (.long (q4_0 &&& (4294967295 : Int64))), .second, .val (.long (q4_1 >>> ((32 : Int32) &&& 0x3f).toInt64)), .second, .val (.long (q4_1 &&& (4294967295 : Int64))), .second, .val (.long ((q4_0 &&& (4294967295 : Int64)) * (q4_1 &&& (4294967295 : Int64)))), .second, .val (.long (((q4_0 >>> ((32 : Int32) &&& 0x3f).toInt64) * (q4_1 &&& (4294967295 : Int64))) + ((((q4_0 &&& (4294967295 : Int64)) * (q4_1 &&& (4294967295 : Int64))).toUInt64 >>> ((32 : Int32) &&& 0x3f).toInt64.toUInt64).toInt64))), .second, .val (.long ((((q4_0 >>> ((32 : Int32) &&& 0x3f).toInt64) * (q4_1 &&& (4294967295 : Int64))) + ((((q4_0 &&& (4294967295 : Int64)) * (q4_1 &&& (4294967295 : Int64))).toUInt64 >>> ((32 : Int32) &&& 0x3f).toInt64.toUInt64).toInt64)) &&& (4294967295 : Int64))), .second, .val (.long ((((q4_0 >>> ((32 : Int32) &&& 0x3f).toInt64) * (q4_1 &&& (4294967295 : Int64))) + ((((q4_0 &&& (4294967295 : Int64)) * (q4_1 &&& (4294967295 : Int64))).toUInt64 >>> ((32 : Int32) &&& 0x3f).toInt64.toUInt64).toInt64)) >>> ((32 : Int32) &&& 0x3f).toInt64)), .second] [])) t
    refine XS.lload X0.here hx rfl (hb hby d4_61) rfl ?_
    refine XS.lload X0.here hx rfl (hb hby d4_63) rfl ?_
    refine XS.lload X0.here hx rfl (hb hby d4_65) rfl ?_
    refine XS.lmul X0.here hx rfl (hb hby d4_67) rfl ?_
    refine XS.ladd X0.here hx rfl (hb hby d4_68) rfl ?_
    refine XS.lstore X0.here hx rfl (hb hby d4_69) rfl (l' := #[.val (.long q4_0), .second, .val (.long q4_1), .second, .val (.long (q4_0 >>> ((32 : Int32) &&& 0x3f).toInt64)), .second, .val (.long (q4_0 &&& (4294967295 : Int64))), .second, .val (.long (q4_1 >>> ((32 : Int32) &&& 0x3f).toInt64)), .second, .val (.long (q4_1 &&& (4294967295 : Int64))), .second, .val (.long ((q4_0 &&& (4294967295 : Int64)) * (q4_1 &&& (4294967295 : Int64)))), .second, .val (.long (((q4_0 >>> ((32 : Int32) &&& 0x3f).toInt64) * (q4_1 &&& (4294967295 : Int64))) + ((((q4_0 &&& (4294967295 : Int64)) * (q4_1 &&& (4294967295 : Int64))).toUInt64 >>> ((32 : Int32) &&& 0x3f).toInt64.toUInt64).toInt64))), .second, .val (.long (((((q4_0 >>> ((32 : Int32) &&& 0x3f).toInt64) * (q4_1 &&& (4294967295 : Int64))) + ((((q4_0 &&& (4294967295 : Int64)) * (q4_1 &&& (4294967295 : Int64))).toUInt64 >>> ((32 : Int32) &&& 0x3f).toInt64.toUInt64).toInt64)) &&& (4294967295 : Int64)) + ((q4_0 &&& (4294967295 : Int64)) * (q4_1 >>> ((32 : Int32) &&& 0x3f).toInt64)))), .second, .val (.long ((((q4_0 >>> ((32 : Int32) &&& 0x3f).toInt64) * (q4_1 &&& (4294967295 : Int64))) + ((((q4_0 &&& (4294967295 : Int64)) * (q4_1 &&& (4294967295 : Int64))).toUInt64 >>> ((32 : Int32) &&& 0x3f).toInt64.toUInt64).toInt64)) >>> ((32 : Int32) &&& 0x3f).toInt64)), .second]) rfl ?_
    show Steps p.tables e below (s₁.setTop (mkF m 71 #[.val (.long q4_0), .second, .val (.long q4_1), .second, .val (.long (q4_0 >>> ((32 : Int32) &&& 0x3f).toInt64)), .second, .val (.long (q4_0 &&& (4294967295 : Int64))), .second, .val (.long (q4_1 >>> ((32 : Int32) &&& 0x3f).toInt64)), .second, .val (.long (q4_1 &&& (4294967295 : Int64))), .second, .val (.long ((q4_0 &&& (4294967295 : Int64)) * (q4_1 &&& (4294967295 : Int64)))), .second, .val (.long (((q4_0 >>> ((32 : Int32) &&& 0x3f).toInt64) * (q4_1 &&& (4294967295 : Int64))) + ((((q4_0 &&& (4294967295 : Int64)) * (q4_1 &&& (4294967295 : Int64))).toUInt64 >>> ((32 : Int32) &&& 0x3f).toInt64.toUInt64).toInt64))), .second, .val (.long (((((q4_0 >>> ((32 : Int32) &&& 0x3f).toInt64) * (q4_1 &&& (4294967295 : Int64))) + ((((q4_0 &&& (4294967295 : Int64)) * (q4_1 &&& (4294967295 : Int64))).toUInt64 >>> ((32 : Int32) &&& 0x3f).toInt64.toUInt64).toInt64)) &&& (4294967295 : Int64)) + ((q4_0 &&& (4294967295 : Int64)) * (q4_1 >>> ((32 : Int32) &&& 0x3f).toInt64)))), .second, .val (.long ((((q4_0 >>> ((32 : Int32) &&& 0x3f).toInt64) * (q4_1 &&& (4294967295 : Int64))) + ((((q4_0 &&& (4294967295 : Int64)) * (q4_1 &&& (4294967295 : Int64))).toUInt64 >>> ((32 : Int32) &&& 0x3f).toInt64.toUInt64).toInt64)) >>> ((32 : Int32) &&& 0x3f).toInt64)), .second] [])) t
    refine XS.lload X0.here hx rfl (hb hby d4_71) rfl ?_
    refine XS.lload X0.here hx rfl (hb hby d4_73) rfl ?_
    refine XS.lmul X0.here hx rfl (hb hby d4_75) rfl ?_
    refine XS.lload X0.here hx rfl (hb hby d4_76) rfl ?_
    refine XS.ladd X0.here hx rfl (hb hby d4_78) rfl ?_
    refine XS.lload X0.here hx rfl (hb hby d4_79) rfl ?_
    show Steps p.tables e below (s₁.setTop (mkF m 81 #[.val (.long q4_0), .second, .val (.long q4_1), .second, .val (.long (q4_0 >>> ((32 : Int32) &&& 0x3f).toInt64)), .second, .val (.long (q4_0 &&& (4294967295 : Int64))), .second, .val (.long (q4_1 >>> ((32 : Int32) &&& 0x3f).toInt64)), .second, .val (.long (q4_1 &&& (4294967295 : Int64))), .second, .val (.long ((q4_0 &&& (4294967295 : Int64)) * (q4_1 &&& (4294967295 : Int64)))), .second, .val (.long (((q4_0 >>> ((32 : Int32) &&& 0x3f).toInt64) * (q4_1 &&& (4294967295 : Int64))) + ((((q4_0 &&& (4294967295 : Int64)) * (q4_1 &&& (4294967295 : Int64))).toUInt64 >>> ((32 : Int32) &&& 0x3f).toInt64.toUInt64).toInt64))), .second, .val (.long (((((q4_0 >>> ((32 : Int32) &&& 0x3f).toInt64) * (q4_1 &&& (4294967295 : Int64))) + ((((q4_0 &&& (4294967295 : Int64)) * (q4_1 &&& (4294967295 : Int64))).toUInt64 >>> ((32 : Int32) &&& 0x3f).toInt64.toUInt64).toInt64)) &&& (4294967295 : Int64)) + ((q4_0 &&& (4294967295 : Int64)) * (q4_1 >>> ((32 : Int32) &&& 0x3f).toInt64)))), .second, .val (.long ((((q4_0 >>> ((32 : Int32) &&& 0x3f).toInt64) * (q4_1 &&& (4294967295 : Int64))) + ((((q4_0 &&& (4294967295 : Int64)) * (q4_1 &&& (4294967295 : Int64))).toUInt64 >>> ((32 : Int32) &&& 0x3f).toInt64.toUInt64).toInt64)) >>> ((32 : Int32) &&& 0x3f).toInt64)), .second] [(.long (((((q4_0 >>> ((32 : Int32) &&& 0x3f).toInt64) * (q4_1 &&& (4294967295 : Int64))) + ((((q4_0 &&& (4294967295 : Int64)) * (q4_1 &&& (4294967295 : Int64))).toUInt64 >>> ((32 : Int32) &&& 0x3f).toInt64.toUInt64).toInt64)) &&& (4294967295 : Int64)) + ((q4_0 &&& (4294967295 : Int64)) * (q4_1 >>> ((32 : Int32) &&& 0x3f).toInt64)))), (.long (((q4_0 >>> ((32 : Int32) &&& 0x3f).toInt64) * (q4_1 >>> ((32 : Int32) &&& 0x3f).toInt64)) + ((((q4_0 >>> ((32 : Int32) &&& 0x3f).toInt64) * (q4_1 &&& (4294967295 : Int64))) + ((((q4_0 &&& (4294967295 : Int64)) * (q4_1 &&& (4294967295 : Int64))).toUInt64 >>> ((32 : Int32) &&& 0x3f).toInt64.toUInt64).toInt64)) >>> ((32 : Int32) &&& 0x3f).toInt64)))])) t
    refine XS.bipush X0.here hx rfl (hb hby d4_81) ?_
    refine XS.lshr X0.here hx rfl (hb hby d4_83) rfl ?_
    refine XS.ladd X0.here hx rfl (hb hby d4_84) rfl ?_
    show Steps p.tables e below (s₁.setTop (mkF m 85 #[.val (.long q4_0), .second, .val (.long q4_1), .second, .val (.long (q4_0 >>> ((32 : Int32) &&& 0x3f).toInt64)), .second, .val (.long (q4_0 &&& (4294967295 : Int64))), .second, .val (.long (q4_1 >>> ((32 : Int32) &&& 0x3f).toInt64)), .second, .val (.long (q4_1 &&& (4294967295 : Int64))), .second, .val (.long ((q4_0 &&& (4294967295 : Int64)) * (q4_1 &&& (4294967295 : Int64)))), .second, .val (.long (((q4_0 >>> ((32 : Int32) &&& 0x3f).toInt64) * (q4_1 &&& (4294967295 : Int64))) + ((((q4_0 &&& (4294967295 : Int64)) * (q4_1 &&& (4294967295 : Int64))).toUInt64 >>> ((32 : Int32) &&& 0x3f).toInt64.toUInt64).toInt64))), .second, .val (.long (((((q4_0 >>> ((32 : Int32) &&& 0x3f).toInt64) * (q4_1 &&& (4294967295 : Int64))) + ((((q4_0 &&& (4294967295 : Int64)) * (q4_1 &&& (4294967295 : Int64))).toUInt64 >>> ((32 : Int32) &&& 0x3f).toInt64.toUInt64).toInt64)) &&& (4294967295 : Int64)) + ((q4_0 &&& (4294967295 : Int64)) * (q4_1 >>> ((32 : Int32) &&& 0x3f).toInt64)))), .second, .val (.long ((((q4_0 >>> ((32 : Int32) &&& 0x3f).toInt64) * (q4_1 &&& (4294967295 : Int64))) + ((((q4_0 &&& (4294967295 : Int64)) * (q4_1 &&& (4294967295 : Int64))).toUInt64 >>> ((32 : Int32) &&& 0x3f).toInt64.toUInt64).toInt64)) >>> ((32 : Int32) &&& 0x3f).toInt64)), .second] [(.long ((((q4_0 >>> ((32 : Int32) &&& 0x3f).toInt64) * (q4_1 >>> ((32 : Int32) &&& 0x3f).toInt64)) + ((((q4_0 >>> ((32 : Int32) &&& 0x3f).toInt64) * (q4_1 &&& (4294967295 : Int64))) + ((((q4_0 &&& (4294967295 : Int64)) * (q4_1 &&& (4294967295 : Int64))).toUInt64 >>> ((32 : Int32) &&& 0x3f).toInt64.toUInt64).toInt64)) >>> ((32 : Int32) &&& 0x3f).toInt64)) + ((((((q4_0 >>> ((32 : Int32) &&& 0x3f).toInt64) * (q4_1 &&& (4294967295 : Int64))) + ((((q4_0 &&& (4294967295 : Int64)) * (q4_1 &&& (4294967295 : Int64))).toUInt64 >>> ((32 : Int32) &&& 0x3f).toInt64.toUInt64).toInt64)) &&& (4294967295 : Int64)) + ((q4_0 &&& (4294967295 : Int64)) * (q4_1 >>> ((32 : Int32) &&& 0x3f).toInt64))) >>> ((32 : Int32) &&& 0x3f).toInt64)))])) t
    exact k)
  obtain ⟨fs, hr, hrun, hended, hW, hsame⟩ := X0.leave (v := some (.long ((((q4_0 >>> ((32 : Int32) &&& 0x3f).toInt64) * (q4_1 >>> ((32 : Int32) &&& 0x3f).toInt64)) + ((((q4_0 >>> ((32 : Int32) &&& 0x3f).toInt64) * (q4_1 &&& (4294967295 : Int64))) + ((((q4_0 &&& (4294967295 : Int64)) * (q4_1 &&& (4294967295 : Int64))).toUInt64 >>> ((32 : Int32) &&& 0x3f).toInt64.toUInt64).toInt64)) >>> ((32 : Int32) &&& 0x3f).toInt64)) + ((((((q4_0 >>> ((32 : Int32) &&& 0x3f).toInt64) * (q4_1 &&& (4294967295 : Int64))) + ((((q4_0 &&& (4294967295 : Int64)) * (q4_1 &&& (4294967295 : Int64))).toUInt64 >>> ((32 : Int32) &&& 0x3f).toInt64.toUInt64).toInt64)) &&& (4294967295 : Int64)) + ((q4_0 &&& (4294967295 : Int64)) * (q4_1 >>> ((32 : Int32) &&& 0x3f).toInt64))) >>> ((32 : Int32) &&& 0x3f).toInt64)))) (fun h => by rw [Bd.returns] at h; cases h) (BodyLoose.notSynchronized Bd)
  refine ⟨_, _, own_from hE0 (P1 _ ?_), hrun, hended, _, _, rfl, ?_, ⟨_, rfl⟩, hW, hsame.mono (by decide) (by decide)⟩
  · show Steps p.tables e below (s₁.setTop (mkF m 85 #[.val (.long q4_0), .second, .val (.long q4_1), .second, .val (.long (q4_0 >>> ((32 : Int32) &&& 0x3f).toInt64)), .second, .val (.long (q4_0 &&& (4294967295 : Int64))), .second, .val (.long (q4_1 >>> ((32 : Int32) &&& 0x3f).toInt64)), .second, .val (.long (q4_1 &&& (4294967295 : Int64))), .second, .val (.long ((q4_0 &&& (4294967295 : Int64)) * (q4_1 &&& (4294967295 : Int64)))), .second, .val (.long (((q4_0 >>> ((32 : Int32) &&& 0x3f).toInt64) * (q4_1 &&& (4294967295 : Int64))) + ((((q4_0 &&& (4294967295 : Int64)) * (q4_1 &&& (4294967295 : Int64))).toUInt64 >>> ((32 : Int32) &&& 0x3f).toInt64.toUInt64).toInt64))), .second, .val (.long (((((q4_0 >>> ((32 : Int32) &&& 0x3f).toInt64) * (q4_1 &&& (4294967295 : Int64))) + ((((q4_0 &&& (4294967295 : Int64)) * (q4_1 &&& (4294967295 : Int64))).toUInt64 >>> ((32 : Int32) &&& 0x3f).toInt64.toUInt64).toInt64)) &&& (4294967295 : Int64)) + ((q4_0 &&& (4294967295 : Int64)) * (q4_1 >>> ((32 : Int32) &&& 0x3f).toInt64)))), .second, .val (.long ((((q4_0 >>> ((32 : Int32) &&& 0x3f).toInt64) * (q4_1 &&& (4294967295 : Int64))) + ((((q4_0 &&& (4294967295 : Int64)) * (q4_1 &&& (4294967295 : Int64))).toUInt64 >>> ((32 : Int32) &&& 0x3f).toInt64.toUInt64).toInt64)) >>> ((32 : Int32) &&& 0x3f).toInt64)), .second] [(.long ((((q4_0 >>> ((32 : Int32) &&& 0x3f).toInt64) * (q4_1 >>> ((32 : Int32) &&& 0x3f).toInt64)) + ((((q4_0 >>> ((32 : Int32) &&& 0x3f).toInt64) * (q4_1 &&& (4294967295 : Int64))) + ((((q4_0 &&& (4294967295 : Int64)) * (q4_1 &&& (4294967295 : Int64))).toUInt64 >>> ((32 : Int32) &&& 0x3f).toInt64.toUInt64).toInt64)) >>> ((32 : Int32) &&& 0x3f).toInt64)) + ((((((q4_0 >>> ((32 : Int32) &&& 0x3f).toInt64) * (q4_1 &&& (4294967295 : Int64))) + ((((q4_0 &&& (4294967295 : Int64)) * (q4_1 &&& (4294967295 : Int64))).toUInt64 >>> ((32 : Int32) &&& 0x3f).toInt64.toUInt64).toInt64)) &&& (4294967295 : Int64)) + ((q4_0 &&& (4294967295 : Int64)) * (q4_1 >>> ((32 : Int32) &&& 0x3f).toInt64))) >>> ((32 : Int32) &&& 0x3f).toInt64)))])) _
    exact X0.lreturnOut hx Bd.returns (hb hby d4_85) hr
  · show Q4 Z q4_0 q4_1 h0 n0 _ s₁.heap _
    rw [e0]
    exact ⟨rfl, N0, rfl⟩
theorem pn_7 : plainName "java/lang/Long" = true := by first | (simp [plainName, overriddenIn]; done) | decide +kernel
theorem d7_0 : decode jdk_35_method_42_code 0 = .ok (.lload_n 0, 1) := by decide +kernel
theorem d7_1 : decode jdk_35_method_42_code 1 = .ok (.lload_n 2, 1) := by decide +kernel
theorem d7_2 : decode jdk_35_method_42_code 2 = .ok (.lcmp, 1) := by decide +kernel
theorem d7_3 : decode jdk_35_method_42_code 3 = .ok (.ifCond .ge 7, 3) := by decide +kernel
theorem d7_6 : decode jdk_35_method_42_code 6 = .ok (.iconst (-1), 1) := by decide +kernel
theorem d7_7 : decode jdk_35_method_42_code 7 = .ok (.goto 14, 3) := by decide +kernel
theorem d7_10 : decode jdk_35_method_42_code 10 = .ok (.lload_n 0, 1) := by decide +kernel
theorem d7_11 : decode jdk_35_method_42_code 11 = .ok (.lload_n 2, 1) := by decide +kernel
theorem d7_12 : decode jdk_35_method_42_code 12 = .ok (.lcmp, 1) := by decide +kernel
theorem d7_13 : decode jdk_35_method_42_code 13 = .ok (.ifCond .ne 7, 3) := by decide +kernel
theorem d7_16 : decode jdk_35_method_42_code 16 = .ok (.iconst 0, 1) := by decide +kernel
theorem d7_17 : decode jdk_35_method_42_code 17 = .ok (.goto 4, 3) := by decide +kernel
theorem d7_20 : decode jdk_35_method_42_code 20 = .ok (.iconst 1, 1) := by decide +kernel
theorem d7_21 : decode jdk_35_method_42_code 21 = .ok (.ireturn, 1) := by decide +kernel
theorem ef_7 (m : MethodId) (q7_0 : Int64) (q7_1 : Int64) : entryFrame m #[(.long q7_0), (.long q7_1)] 4 = mkF m 0 #[.val (.long q7_0), .second, .val (.long q7_1), .second] [] := by first | (simp [entryFrame, mkF, argsToLocals, Value.category]; done) | rfl
def own_cmp (q7_0 : Int64) (q7_1 : Int64) : Int32 := (if q7_0 < q7_1 then (-1 : Int32) else (if q7_0 = q7_1 then (0 : Int32) else (1 : Int32)))
def Q7 (Z : State) (q7_0 : Int64) (q7_1 : Int64) (h0 : Heap) (n0 : Nat) (v : Option Value) (h : Heap) (L : List Loc) : Prop := v = some (.int (own_cmp q7_0 q7_1)) ∧ Fr n0 L ∧ h = h0
set_option maxRecDepth 65536 in
set_option maxHeartbeats 40000000 in
theorem rm7 (l : Launch) (Z : State) (a0 : Array Value) (hw : ∀ d ∈ tables_1, d.before a0 Z = true) (ws : List Jvm.Cond) (q7_0 : Int64) (q7_1 : Int64) (h0 : Heap) (n0 : Nat) (Z0 : n0 ≤ h0.size) :
    MetFree l (⟨"java/lang/Long", "compare", "(JJ)I"⟩ : MethodName) (head1 (Jvm.Cond.code (⟨"java/lang/Long", "compare", "(JJ)I"⟩ : MethodName) jdk_35_method_42_code 4 (some .int) :: ws) ({ frames := 0, cells := 0, slots := 0, locals := 0 } : Room)) (fun a U => a = #[(.long q7_0), (.long q7_1)] ∧ Z.Warmed39 U.vm ∧ U.heap = h0) (fun _ _ _ _ _ => True) (fun _ U o U' => ∃ v L, o = .returned v ∧ Q7 Z q7_0 q7_1 h0 n0 v U'.heap L ∧ FrameEnd U o U' L ({ frames := 0, cells := 0, slots := 0, locals := 0 } : Room).cells ({ frames := 0, cells := 0, slots := 0, locals := 0 } : Room).slots) := by
  refine MetFree.of_bodySF (plainFor_of_name pn_7) hisR ?_
  intro p e s m args below meth c s₁ Bd hml0 hP hK
  obtain ⟨rfl, hZ, hh⟩ := hP
  have hx := Bd.exec
  have hby := Bd.bytes
  have hml : c.maxLocals = 4 := hml0
  have hown : s.vm.findClass "java/lang/Long" = some m.cls := findClass_of_methodNamed Bd.named
  have hnm := (name_of_methodNamed Bd.named Bd.method).1
  have X0 : Stand p l e ({ frames := 0, cells := 0, slots := 0, locals := 0 } : Room) s m #[(.long q7_0), (.long q7_1)] below meth c s₁ [] 0 0 := Stand.of_body Bd
  have e0 : s₁.heap = h0 := by rw [← hh, Bd.state]; rfl
  have N0 := Fr.nil n0
  obtain ⟨S0, hE0⟩ : ∃ z, z = s₁.setTop (entryFrame m #[(.long q7_0), (.long q7_1)] 4) := ⟨_, rfl⟩
  have P0 : own_Go p e below S0 (s₁.setTop (mkF m 0 #[.val (.long q7_0), .second, .val (.long q7_1), .second] [])) := fun t k => by rw [hE0]; exact castTop (ef_7 m q7_0 q7_1) k
  have P1 : own_Go p e below S0 (s₁.setTop (mkF m 3 #[.val (.long q7_0), .second, .val (.long q7_1), .second] [(.int (lcmpW q7_0 q7_1))])) := fun t k => P0 t (by
    show Steps p.tables e below (s₁.setTop (mkF m 0 #[.val (.long q7_0), .second, .val (.long q7_1), .second] [])) t
    refine XS.lloadN X0.here hx rfl (hb hby d7_0) rfl ?_
    refine XS.lloadN X0.here hx rfl (hb hby d7_1) rfl ?_
    refine XS.lcmp X0.here hx rfl (hb hby d7_2) rfl ?_
    show Steps p.tables e below (s₁.setTop (mkF m 3 #[.val (.long q7_0), .second, .val (.long q7_1), .second] [(.int (lcmpW q7_0 q7_1))])) t
    exact k)
  by_cases c2 : q7_0 < q7_1
  · skip
    have P3 : own_Go p e below S0 (s₁.setTop (mkF m 21 #[.val (.long q7_0), .second, .val (.long q7_1), .second] [(.int (-1 : Int32))])) := fun t k => P1 t (by
      show Steps p.tables e below (s₁.setTop (mkF m 3 #[.val (.long q7_0), .second, .val (.long q7_1), .second] [(.int (lcmpW q7_0 q7_1))])) t
      refine XS.ifNo X0.here hx rfl (hb hby d7_3) rfl ((if0 _ _).trans (tlt ((lw_lt q7_0 q7_1).mpr c2)).2.1) ?_
      refine XS.iconst X0.here hx rfl (hb hby d7_6) ?_
      refine XS.goto X0.here hx rfl (pc0 := 7) (pc' := 21) rfl (hb hby d7_7) (by decide) (by decide) ?_
      show Steps p.tables e below (s₁.setTop (mkF m 21 #[.val (.long q7_0), .second, .val (.long q7_1), .second] [(.int (-1 : Int32))])) t
      exact k)
    obtain ⟨fs, hr, hrun, hended, hW, hsame⟩ := X0.leave (v := some (.int (-1 : Int32))) (fun h => by rw [Bd.returns] at h; cases h) (BodyLoose.notSynchronized Bd)
    refine ⟨_, _, own_from hE0 (P3 _ ?_), hrun, hended, _, _, rfl, ?_, ⟨_, rfl⟩, hW, hsame.mono (by decide) (by decide)⟩
    · show Steps p.tables e below (s₁.setTop (mkF m 21 #[.val (.long q7_0), .second, .val (.long q7_1), .second] [(.int (-1 : Int32))])) _
      exact retI X0 hx Bd.returns (hb hby d7_21) hr
    · show Q7 Z q7_0 q7_1 h0 n0 _ s₁.heap _
      rw [e0]
      exact ⟨(congrArg (fun z => some (Value.int z)) (Eq.symm (if_pos c2))), N0, rfl⟩
  · skip
    have P4 : own_Go p e below S0 (s₁.setTop (mkF m 13 #[.val (.long q7_0), .second, .val (.long q7_1), .second] [(.int (lcmpW q7_0 q7_1))])) := fun t k => P1 t (by
      show Steps p.tables e below (s₁.setTop (mkF m 3 #[.val (.long q7_0), .second, .val (.long q7_1), .second] [(.int (lcmpW q7_0 q7_1))])) t
      refine XS.ifYes X0.here hx rfl (pc0 := 3) (pc' := 10) rfl (hb hby d7_3) rfl ((if0 _ _).trans (flt (fun q => c2 ((lw_lt q7_0 q7_1).mp q))).2.1) (by decide) (by decide) ?_
      refine XS.lloadN X0.here hx rfl (hb hby d7_10) rfl ?_
      refine XS.lloadN X0.here hx rfl (hb hby d7_11) rfl ?_
      refine XS.lcmp X0.here hx rfl (hb hby d7_12) rfl ?_
      show Steps p.tables e below (s₁.setTop (mkF m 13 #[.val (.long q7_0), .second, .val (.long q7_1), .second] [(.int (lcmpW q7_0 q7_1))])) t
      exact k)
    by_cases c5 : q7_0 = q7_1
    · skip
      have P6 : own_Go p e below S0 (s₁.setTop (mkF m 21 #[.val (.long q7_0), .second, .val (.long q7_1), .second] [(.int (0 : Int32))])) := fun t k => P4 t (by
        show Steps p.tables e below (s₁.setTop (mkF m 13 #[.val (.long q7_0), .second, .val (.long q7_1), .second] [(.int (lcmpW q7_0 q7_1))])) t
        refine XS.ifNo X0.here hx rfl (hb hby d7_13) rfl ((if0 _ _).trans (teq ((lw_eq q7_0 q7_1).mpr c5)).2) ?_
        refine XS.iconst X0.here hx rfl (hb hby d7_16) ?_
        refine XS.goto X0.here hx rfl (pc0 := 17) (pc' := 21) rfl (hb hby d7_17) (by decide) (by decide) ?_
        show Steps p.tables e below (s₁.setTop (mkF m 21 #[.val (.long q7_0), .second, .val (.long q7_1), .second] [(.int (0 : Int32))])) t
        exact k)
      obtain ⟨fs, hr, hrun, hended, hW, hsame⟩ := X0.leave (v := some (.int (0 : Int32))) (fun h => by rw [Bd.returns] at h; cases h) (BodyLoose.notSynchronized Bd)
      refine ⟨_, _, own_from hE0 (P6 _ ?_), hrun, hended, _, _, rfl, ?_, ⟨_, rfl⟩, hW, hsame.mono (by decide) (by decide)⟩
      · show Steps p.tables e below (s₁.setTop (mkF m 21 #[.val (.long q7_0), .second, .val (.long q7_1), .second] [(.int (0 : Int32))])) _
        exact retI X0 hx Bd.returns (hb hby d7_21) hr
      · show Q7 Z q7_0 q7_1 h0 n0 _ s₁.heap _
        rw [e0]
        exact ⟨(congrArg (fun z => some (Value.int z)) (Eq.symm (Eq.trans (if_neg c2) (if_pos c5)))), N0, rfl⟩
    · skip
      have P7 : own_Go p e below S0 (s₁.setTop (mkF m 21 #[.val (.long q7_0), .second, .val (.long q7_1), .second] [(.int (1 : Int32))])) := fun t k => P4 t (by
        show Steps p.tables e below (s₁.setTop (mkF m 13 #[.val (.long q7_0), .second, .val (.long q7_1), .second] [(.int (lcmpW q7_0 q7_1))])) t
        refine XS.ifYes X0.here hx rfl (pc0 := 13) (pc' := 20) rfl (hb hby d7_13) rfl ((if0 _ _).trans (feq (fun q => c5 ((lw_eq q7_0 q7_1).mp q))).2) (by decide) (by decide) ?_
        refine XS.iconst X0.here hx rfl (hb hby d7_20) ?_
        show Steps p.tables e below (s₁.setTop (mkF m 21 #[.val (.long q7_0), .second, .val (.long q7_1), .second] [(.int (1 : Int32))])) t
        exact k)
      obtain ⟨fs, hr, hrun, hended, hW, hsame⟩ := X0.leave (v := some (.int (1 : Int32))) (fun h => by rw [Bd.returns] at h; cases h) (BodyLoose.notSynchronized Bd)
      refine ⟨_, _, own_from hE0 (P7 _ ?_), hrun, hended, _, _, rfl, ?_, ⟨_, rfl⟩, hW, hsame.mono (by decide) (by decide)⟩
      · show Steps p.tables e below (s₁.setTop (mkF m 21 #[.val (.long q7_0), .second, .val (.long q7_1), .second] [(.int (1 : Int32))])) _
        exact retI X0 hx Bd.returns (hb hby d7_21) hr
      · show Q7 Z q7_0 q7_1 h0 n0 _ s₁.heap _
        rw [e0]
        exact ⟨(congrArg (fun z => some (Value.int z)) (Eq.symm (Eq.trans (if_neg c2) (if_neg c5)))), N0, rfl⟩
theorem pd_0 : parseMethodDescriptor "(JJ)I" = some ⟨[.long, .long], some .int⟩ := by decide +kernel
theorem d6_0 : decode jdk_35_method_43_code 0 = .ok (.lload_n 0, 1) := by decide +kernel
theorem d6_1 : decode jdk_35_method_43_code 1 = .ok (.ldc2_w 168, 3) := by decide +kernel
theorem d6_4 : decode jdk_35_method_43_code 4 = .ok (.ladd, 1) := by decide +kernel
theorem d6_5 : decode jdk_35_method_43_code 5 = .ok (.lload_n 2, 1) := by decide +kernel
theorem d6_6 : decode jdk_35_method_43_code 6 = .ok (.ldc2_w 168, 3) := by decide +kernel
theorem d6_9 : decode jdk_35_method_43_code 9 = .ok (.ladd, 1) := by decide +kernel
theorem d6_10 : decode jdk_35_method_43_code 10 = .ok (.invokestatic 302, 3) := by decide +kernel
theorem d6_13 : decode jdk_35_method_43_code 13 = .ok (.ireturn, 1) := by decide +kernel
theorem ef_6 (m : MethodId) (q6_0 : Int64) (q6_1 : Int64) : entryFrame m #[(.long q6_0), (.long q6_1)] 4 = mkF m 0 #[.val (.long q6_0), .second, .val (.long q6_1), .second] [] := by first | (simp [entryFrame, mkF, argsToLocals, Value.category]; done) | rfl
def own_cu (q6_0 : Int64) (q6_1 : Int64) : Int32 := (own_cmp (q6_0 + (-9223372036854775808 : Int64)) (q6_1 + (-9223372036854775808 : Int64)))
def Q6 (Z : State) (q6_0 : Int64) (q6_1 : Int64) (h0 : Heap) (n0 : Nat) (v : Option Value) (h : Heap) (L : List Loc) : Prop := v = some (.int (own_cu q6_0 q6_1)) ∧ Fr n0 L ∧ h = h0
set_option maxRecDepth 65536 in
set_option maxHeartbeats 40000000 in
theorem rm6 (l : Launch) (Z : State) (a0 : Array Value) (hw : ∀ d ∈ tables_1, d.before a0 Z = true) (ws : List Jvm.Cond) (q6_0 : Int64) (q6_1 : Int64) (h0 : Heap) (n0 : Nat) (Z0 : n0 ≤ h0.size) :
    MetFree l (⟨"java/lang/Long", "compareUnsigned", "(JJ)I"⟩ : MethodName) (head1 (Jvm.Cond.code (⟨"java/lang/Long", "compareUnsigned", "(JJ)I"⟩ : MethodName) jdk_35_method_43_code 4 (some .int) :: ws) ({ frames := 1, cells := 0, slots := 0, locals := 15 } : Room)) (fun a U => a = #[(.long q6_0), (.long q6_1)] ∧ Z.Warmed39 U.vm ∧ U.heap = h0) (fun _ _ _ _ _ => True) (fun _ U o U' => ∃ v L, o = .returned v ∧ Q6 Z q6_0 q6_1 h0 n0 v U'.heap L ∧ FrameEnd U o U' L ({ frames := 1, cells := 0, slots := 0, locals := 15 } : Room).cells ({ frames := 1, cells := 0, slots := 0, locals := 15 } : Room).slots) := by
  refine MetFree.of_bodySF (plainFor_of_name pn_7) hisR ?_
  intro p e s m args below meth c s₁ Bd hml0 hP hK
  obtain ⟨rfl, hZ, hh⟩ := hP
  have hx := Bd.exec
  have hby := Bd.bytes
  have hml : c.maxLocals = 4 := hml0
  have hown : s.vm.findClass "java/lang/Long" = some m.cls := findClass_of_methodNamed Bd.named
  have hnm := (name_of_methodNamed Bd.named Bd.method).1
  have X0 : Stand p l e ({ frames := 1, cells := 0, slots := 0, locals := 15 } : Room) s m #[(.long q6_0), (.long q6_1)] below meth c s₁ [] 0 0 := Stand.of_body Bd
  have e0 : s₁.heap = h0 := by rw [← hh, Bd.state]; rfl
  have N0 := Fr.nil n0
  obtain ⟨S0, hE0⟩ : ∃ z, z = s₁.setTop (entryFrame m #[(.long q6_0), (.long q6_1)] 4) := ⟨_, rfl⟩
  have P0 : own_Go p e below S0 (s₁.setTop (mkF m 0 #[.val (.long q6_0), .second, .val (.long q6_1), .second] [])) := fun t k => by rw [hE0]; exact castTop (ef_6 m q6_0 q6_1) k
  have P1 : own_Go p e below S0 (s₁.setTop (mkF m 10 #[.val (.long q6_0), .second, .val (.long q6_1), .second] [(.long (q6_1 + (-9223372036854775808 : Int64))), (.long (q6_0 + (-9223372036854775808 : Int64)))])) := fun t k => P0 t (by
    show Steps p.tables e below (s₁.setTop (mkF m 0 #[.val (.long q6_0), .second, .val (.long q6_1), .second] [])) t
    refine XS.lloadN X0.here hx rfl (hb hby d6_0) rfl ?_
    show Steps p.tables e below (s₁.setTop (mkF m 1 #[.val (.long q6_0), .second, .val (.long q6_1), .second] [(.long q6_0)])) t
    refine X0.ldc2Long hx hown (mvT hZ (hw _ (List.mem_of_getElem? (i := 34) rfl))) (g := (mkF m 1 #[.val (.long q6_0), .second, .val (.long q6_1), .second] [(.long q6_0)])) rfl (hb hby d6_1) _ ?_
    refine XS.ladd X0.here hx rfl (hb hby d6_4) rfl ?_
    refine XS.lloadN X0.here hx rfl (hb hby d6_5) rfl ?_
    show Steps p.tables e below (s₁.setTop (mkF m 6 #[.val (.long q6_0), .second, .val (.long q6_1), .second] [(.long q6_1), (.long (q6_0 + (-9223372036854775808 : Int64)))])) t
    refine X0.ldc2Long hx hown (mvT hZ (hw _ (List.mem_of_getElem? (i := 34) rfl))) (g := (mkF m 6 #[.val (.long q6_0), .second, .val (.long q6_1), .second] [(.long q6_1), (.long (q6_0 + (-9223372036854775808 : Int64)))])) rfl (hb hby d6_6) _ ?_
    refine XS.ladd X0.here hx rfl (hb hby d6_9) rfl ?_
    show Steps p.tables e below (s₁.setTop (mkF m 10 #[.val (.long q6_0), .second, .val (.long q6_1), .second] [(.long (q6_1 + (-9223372036854775808 : Int64))), (.long (q6_0 + (-9223372036854775808 : Int64)))])) t
    exact k)
  obtain ⟨_, _, ⟨T2, L2, k2, n2⟩, -, X2, ⟨Lc2, hQ2, l2, y2, z2⟩, st2⟩ := Jvm.LawKit.callS X0 hx (y := (⟨"java/lang/Long", "compare", "(JJ)I"⟩ : MethodName)) hown (mvT hZ (hw _ (List.mem_of_getElem? (i := 35) rfl))) (mvT hZ (hw _ (List.mem_of_getElem? (i := 36) rfl))) (mvT hZ (hw _ (List.mem_of_getElem? (i := 32) rfl))) (mvT hZ (hw _ (List.mem_of_getElem? (i := 37) rfl))) (by decide) (backOf (W := 0) (rm7 l Z a0 hw [] (q6_0 + (-9223372036854775808 : Int64)) (q6_1 + (-9223372036854775808 : Int64)) h0 n0 Z0) hZ (hw _ (List.mem_of_getElem? (i := 37) rfl)) (hw _ (List.mem_of_getElem? (i := 32) rfl)) (by decide) (by decide)) (g := (mkF m 10 #[.val (.long q6_0), .second, .val (.long q6_1), .second] [(.long (q6_1 + (-9223372036854775808 : Int64))), (.long (q6_0 + (-9223372036854775808 : Int64)))])) rfl (by rw [hml]; rfl) (argsL := [(.long (q6_0 + (-9223372036854775808 : Int64))), (.long (q6_1 + (-9223372036854775808 : Int64)))]) (rest := []) (lenOf pd_0 rfl) rfl (by show 2 * 0 + _ ≤ _; exact Nat.le_of_eq rfl) (hb hby d6_10) (fun _ _ => ⟨rfl, e0, (by decide : 0 + 0 ≤ _), (by decide : 0 + 0 ≤ _)⟩)
  dsimp only [Pt.U, Pt.locs, Pt.cells, Pt.slots] at X2 l2 y2 z2 st2 hQ2
  subst l2 y2 z2
  obtain ⟨rfl, N2q, e2⟩ := hQ2
  have N2 := Fr.app N0 N2q
  have P2 : own_Go p e below S0 (T2.setTop (mkF m 13 #[.val (.long q6_0), .second, .val (.long q6_1), .second] [(.int (own_cmp (q6_0 + (-9223372036854775808 : Int64)) (q6_1 + (-9223372036854775808 : Int64))))])) := fun t k => P1 t (st2 _ k)
  obtain ⟨fs, hr, hrun, hended, hW, hsame⟩ := X2.leave (v := some (.int (own_cmp (q6_0 + (-9223372036854775808 : Int64)) (q6_1 + (-9223372036854775808 : Int64))))) (fun h => by rw [Bd.returns] at h; cases h) (BodyLoose.notSynchronized Bd)
  refine ⟨_, _, own_from hE0 (P2 _ ?_), hrun, hended, _, _, rfl, ?_, ⟨_, rfl⟩, hW, hsame.mono (by decide) (by decide)⟩
  · show Steps p.tables e below (T2.setTop (mkF m 13 #[.val (.long q6_0), .second, .val (.long q6_1), .second] [(.int (own_cmp (q6_0 + (-9223372036854775808 : Int64)) (q6_1 + (-9223372036854775808 : Int64))))])) _
    exact retI X2 hx Bd.returns (hb hby d6_13) hr
  · show Q6 Z q6_0 q6_1 h0 n0 _ T2.heap _
    rw [e2]
    exact ⟨rfl, N2, rfl⟩
theorem pn_10 : plainName "java/math/BigInteger" = true := by first | (simp [plainName, overriddenIn]; done) | decide +kernel
theorem d10_0 : decode jdk_2097_method_81_code 0 = .ok (.aload_n 0, 1) := by decide +kernel
theorem d10_1 : decode jdk_2097_method_81_code 1 = .ok (.getfield 32, 3) := by decide +kernel
theorem d10_4 : decode jdk_2097_method_81_code 4 = .ok (.ireturn, 1) := by decide +kernel
theorem ef_10 (m : MethodId) (q10_0 : Addr) : entryFrame m #[(.ref q10_0)] 1 = mkF m 0 #[.val (.ref q10_0)] [] := by first | (simp [entryFrame, mkF, argsToLocals, Value.category]; done) | rfl
def Q10 (Z : State) (q10_0 : Addr) (w10_q10_0_signum : Int32) (h0 : Heap) (n0 : Nat) (v : Option Value) (h : Heap) (L : List Loc) : Prop := v = some (.int w10_q10_0_signum) ∧ Fr n0 L ∧ h = h0
set_option maxRecDepth 65536 in
set_option maxHeartbeats 40000000 in
theorem rm10 (l : Launch) (Z : State) (a0 : Array Value) (hw : ∀ d ∈ tables_1, d.before a0 Z = true) (ws : List Jvm.Cond) (q10_0 : Addr) (w10_q10_0_signum : Int32) (h0 : Heap) (n0 : Nat) (Z0 : n0 ≤ h0.size) (F_q10_0_signum : Fld Z h0 q10_0 "java/math/BigInteger" "signum" "I" (.int w10_q10_0_signum)) :
    MetFree l (⟨"java/math/BigInteger", "signum", "()I"⟩ : MethodName) (head1 (Jvm.Cond.code (⟨"java/math/BigInteger", "signum", "()I"⟩ : MethodName) jdk_2097_method_81_code 1 (some .int) :: ws) ({ frames := 0, cells := 0, slots := 0, locals := 0 } : Room)) (fun a U => a = #[(.ref q10_0)] ∧ Z.Warmed39 U.vm ∧ U.heap = h0) (fun _ _ _ _ _ => True) (fun _ U o U' => ∃ v L, o = .returned v ∧ Q10 Z q10_0 w10_q10_0_signum h0 n0 v U'.heap L ∧ FrameEnd U o U' L ({ frames := 0, cells := 0, slots := 0, locals := 0 } : Room).cells ({ frames := 0, cells := 0, slots := 0, locals := 0 } : Room).slots) := by
  refine MetFree.of_bodySF (plainFor_of_name pn_10) hisR ?_
  intro p e s m args below meth c s₁ Bd hml0 hP hK
  obtain ⟨rfl, hZ, hh⟩ := hP
  have hx := Bd.exec
  have hby := Bd.bytes
  have hml : c.maxLocals = 1 := hml0
  have hown : s.vm.findClass "java/math/BigInteger" = some m.cls := findClass_of_methodNamed Bd.named
  have hnm := (name_of_methodNamed Bd.named Bd.method).1
  have X0 : Stand p l e ({ frames := 0, cells := 0, slots := 0, locals := 0 } : Room) s m #[(.ref q10_0)] below meth c s₁ [] 0 0 := Stand.of_body Bd
  have e0 : s₁.heap = h0 := by rw [← hh, Bd.state]; rfl
  have N0 := Fr.nil n0
  obtain ⟨S0, hE0⟩ : ∃ z, z = s₁.setTop (entryFrame m #[(.ref q10_0)] 1) := ⟨_, rfl⟩
  have P0 : own_Go p e below S0 (s₁.setTop (mkF m 0 #[.val (.ref q10_0)] [])) := fun t k => by rw [hE0]; exact castTop (ef_10 m q10_0) k
  have P1 : own_Go p e below S0 (s₁.setTop (mkF m 1 #[.val (.ref q10_0)] [(.ref q10_0)])) := fun t k => P0 t (by
    show Steps p.tables e below (s₁.setTop (mkF m 0 #[.val (.ref q10_0)] [])) t
    refine XS.aloadN X0.here hx rfl (hb hby d10_0) rfl rfl ?_
    show Steps p.tables e below (s₁.setTop (mkF m 1 #[.val (.ref q10_0)] [(.ref q10_0)])) t
    exact k)
  obtain ⟨T2, X2, e2, st2⟩ := getF X0 hx hZ hown (host := "") (Or.inl (hw _ (List.mem_of_getElem? (i := 55) rfl))) Via.refl e0 F_q10_0_signum (g := (mkF m 1 #[.val (.ref q10_0)] [(.ref q10_0)])) rfl rfl (hb hby d10_1)
  have P2 : own_Go p e below S0 (T2.setTop (mkF m 4 #[.val (.ref q10_0)] [(.int w10_q10_0_signum)])) := fun t k => P1 t (st2 _ k)
  obtain ⟨fs, hr, hrun, hended, hW, hsame⟩ := X2.leave (v := some (.int w10_q10_0_signum)) (fun h => by rw [Bd.returns] at h; cases h) (BodyLoose.notSynchronized Bd)
  refine ⟨_, _, own_from hE0 (P2 _ ?_), hrun, hended, _, _, rfl, ?_, ⟨_, rfl⟩, hW, hsame.mono (by decide) (by decide)⟩
  · show Steps p.tables e below (T2.setTop (mkF m 4 #[.val (.ref q10_0)] [(.int w10_q10_0_signum)])) _
    exact retI X2 hx Bd.returns (hb hby d10_4) hr
  · show Q10 Z q10_0 w10_q10_0_signum h0 n0 _ T2.heap _
    rw [e2]
    exact ⟨rfl, N0, rfl⟩
theorem d13_0 : decode jdk_2097_method_32_code 0 = .ok (.aload_n 1, 1) := by decide +kernel
theorem d13_1 : decode jdk_2097_method_32_code 1 = .ok (.getfield 32, 3) := by decide +kernel
theorem d13_4 : decode jdk_2097_method_32_code 4 = .ok (.ifCond .ne 5, 3) := by decide +kernel
theorem d13_9 : decode jdk_2097_method_32_code 9 = .ok (.aload_n 0, 1) := by decide +kernel
theorem d13_10 : decode jdk_2097_method_32_code 10 = .ok (.getfield 32, 3) := by decide +kernel
theorem d13_13 : decode jdk_2097_method_32_code 13 = .ok (.ifCond .ne 5, 3) := by decide +kernel
theorem d13_16 : decode jdk_2097_method_32_code 16 = .ok (.aload_n 1, 1) := by decide +kernel
theorem d13_17 : decode jdk_2097_method_32_code 17 = .ok (.areturn, 1) := by decide +kernel
theorem ef_13 (m : MethodId) (q13_0 : Addr) (q13_1 : Addr) : entryFrame m #[(.ref q13_0), (.ref q13_1)] 4 = mkF m 0 #[.val (.ref q13_0), .val (.ref q13_1), .unset, .unset] [] := by first | (simp [entryFrame, mkF, argsToLocals, Value.category]; done) | rfl
def Q13 (Z : State) (q13_0 : Addr) (q13_1 : Addr) (h0 : Heap) (n0 : Nat) (v : Option Value) (h : Heap) (L : List Loc) : Prop := v = some (.ref q13_1) ∧ Fr n0 L ∧ h = h0
set_option maxRecDepth 65536 in
set_option maxHeartbeats 40000000 in
theorem rm13 (l : Launch) (Z : State) (a0 : Array Value) (hw : ∀ d ∈ tables_1, d.before a0 Z = true) (ws : List Jvm.Cond) (q13_0 : Addr) (q13_1 : Addr) (h0 : Heap) (n0 : Nat) (Z0 : n0 ≤ h0.size) (F_q13_0_signum : Fld Z h0 q13_0 "java/math/BigInteger" "signum" "I" (.int (0 : Int32))) (F_q13_1_signum : Fld Z h0 q13_1 "java/math/BigInteger" "signum" "I" (.int (1 : Int32))) :
    MetFree l (⟨"java/math/BigInteger", "add", "(Ljava/math/BigInteger;)Ljava/math/BigInteger;"⟩ : MethodName) (head1 (Jvm.Cond.code (⟨"java/math/BigInteger", "add", "(Ljava/math/BigInteger;)Ljava/math/BigInteger;"⟩ : MethodName) jdk_2097_method_32_code 4 (some (.object "java/math/BigInteger")) :: ws) ({ frames := 0, cells := 0, slots := 0, locals := 0 } : Room)) (fun a U => a = #[(.ref q13_0), (.ref q13_1)] ∧ Z.Warmed39 U.vm ∧ U.heap = h0) (fun _ _ _ _ _ => True) (fun _ U o U' => ∃ v L, o = .returned v ∧ Q13 Z q13_0 q13_1 h0 n0 v U'.heap L ∧ FrameEnd U o U' L ({ frames := 0, cells := 0, slots := 0, locals := 0 } : Room).cells ({ frames := 0, cells := 0, slots := 0, locals := 0 } : Room).slots) := by
  refine MetFree.of_bodySF (plainFor_of_name pn_10) hisR ?_
  intro p e s m args below meth c s₁ Bd hml0 hP hK
  obtain ⟨rfl, hZ, hh⟩ := hP
  have hx := Bd.exec
  have hby := Bd.bytes
  have hml : c.maxLocals = 4 := hml0
  have hown : s.vm.findClass "java/math/BigInteger" = some m.cls := findClass_of_methodNamed Bd.named
  have hnm := (name_of_methodNamed Bd.named Bd.method).1
  have X0 : Stand p l e ({ frames := 0, cells := 0, slots := 0, locals := 0 } : Room) s m #[(.ref q13_0), (.ref q13_1)] below meth c s₁ [] 0 0 := Stand.of_body Bd
  have e0 : s₁.heap = h0 := by rw [← hh, Bd.state]; rfl
  have N0 := Fr.nil n0
  obtain ⟨S0, hE0⟩ : ∃ z, z = s₁.setTop (entryFrame m #[(.ref q13_0), (.ref q13_1)] 4) := ⟨_, rfl⟩
  have P0 : own_Go p e below S0 (s₁.setTop (mkF m 0 #[.val (.ref q13_0), .val (.ref q13_1), .unset, .unset] [])) := fun t k => by rw [hE0]; exact castTop (ef_13 m q13_0 q13_1) k
  have P1 : own_Go p e below S0 (s₁.setTop (mkF m 1 #[.val (.ref q13_0), .val (.ref q13_1), .unset, .unset] [(.ref q13_1)])) := fun t k => P0 t (by
    show Steps p.tables e below (s₁.setTop (mkF m 0 #[.val (.ref q13_0), .val (.ref q13_1), .unset, .unset] [])) t
    refine XS.aloadN X0.here hx rfl (hb hby d13_0) rfl rfl ?_
    show Steps p.tables e below (s₁.setTop (mkF m 1 #[.val (.ref q13_0), .val (.ref q13_1), .unset, .unset] [(.ref q13_1)])) t
    exact k)
  obtain ⟨T2, X2, e2, st2⟩ := getF X0 hx hZ hown (host := "") (Or.inl (hw _ (List.mem_of_getElem? (i := 55) rfl))) Via.refl e0 F_q13_1_signum (g := (mkF m 1 #[.val (.ref q13_0), .val (.ref q13_1), .unset, .unset] [(.ref q13_1)])) rfl rfl (hb hby d13_1)
  have P2 : own_Go p e below S0 (T2.setTop (mkF m 4 #[.val (.ref q13_0), .val (.ref q13_1), .unset, .unset] [(.int (1 : Int32))])) := fun t k => P1 t (st2 _ k)
  have P3 : own_Go p e below S0 (T2.setTop (mkF m 10 #[.val (.ref q13_0), .val (.ref q13_1), .unset, .unset] [(.ref q13_0)])) := fun t k => P2 t (by
    show Steps p.tables e below (T2.setTop (mkF m 4 #[.val (.ref q13_0), .val (.ref q13_1), .unset, .unset] [(.int (1 : Int32))])) t
    refine XS.ifYes X2.here hx rfl (pc0 := 4) (pc' := 9) rfl (hb hby d13_4) rfl ((if0 _ _).trans (feq (by decide)).2) (by decide) (by decide) ?_
    refine XS.aloadN X2.here hx rfl (hb hby d13_9) rfl rfl ?_
    show Steps p.tables e below (T2.setTop (mkF m 10 #[.val (.ref q13_0), .val (.ref q13_1), .unset, .unset] [(.ref q13_0)])) t
    exact k)
  obtain ⟨T4, X4, e4, st4⟩ := getF X2 hx hZ hown (host := "") (Or.inl (hw _ (List.mem_of_getElem? (i := 55) rfl))) Via.refl e2 F_q13_0_signum (g := (mkF m 10 #[.val (.ref q13_0), .val (.ref q13_1), .unset, .unset] [(.ref q13_0)])) rfl rfl (hb hby d13_10)
  have P4 : own_Go p e below S0 (T4.setTop (mkF m 13 #[.val (.ref q13_0), .val (.ref q13_1), .unset, .unset] [(.int (0 : Int32))])) := fun t k => P3 t (st4 _ k)
  have P5 : own_Go p e below S0 (T4.setTop (mkF m 17 #[.val (.ref q13_0), .val (.ref q13_1), .unset, .unset] [(.ref q13_1)])) := fun t k => P4 t (by
    show Steps p.tables e below (T4.setTop (mkF m 13 #[.val (.ref q13_0), .val (.ref q13_1), .unset, .unset] [(.int (0 : Int32))])) t
    refine XS.ifNo X4.here hx rfl (hb hby d13_13) rfl ((if0 _ _).trans (teq (by decide)).2) ?_
    refine XS.aloadN X4.here hx rfl (hb hby d13_16) rfl rfl ?_
    show Steps p.tables e below (T4.setTop (mkF m 17 #[.val (.ref q13_0), .val (.ref q13_1), .unset, .unset] [(.ref q13_1)])) t
    exact k)
  obtain ⟨fs, hr, hrun, hended, hW, hsame⟩ := X4.leave (v := some (.ref q13_1)) (fun h => by rw [Bd.returns] at h; cases h) (BodyLoose.notSynchronized Bd)
  refine ⟨_, _, own_from hE0 (P5 _ ?_), hrun, hended, _, _, rfl, ?_, ⟨_, rfl⟩, hW, hsame.mono (by decide) (by decide)⟩
  · show Steps p.tables e below (T4.setTop (mkF m 17 #[.val (.ref q13_0), .val (.ref q13_1), .unset, .unset] [(.ref q13_1)])) _
    jvm_step X4.here [X4.here.top, hx, (hb hby d13_17), X4.method', Bd.returns, Value.isRef, FieldType.isReference]
    first | (intro acts; rw [hr _ acts rfl rfl rfl]) | rw [hr _ _ rfl rfl rfl]
    exact Steps.refl _
  · show Q13 Z q13_0 q13_1 h0 n0 _ T4.heap _
    rw [e4]
    exact ⟨rfl, N0, rfl⟩
theorem own_lt64 (x y : Int64) : x < y ↔ x.toInt < y.toInt := Int64.lt_iff_toInt_lt
theorem own_z64 : (0 : Int64).toInt = 0 := by decide
theorem own_o64 : (1 : Int64).toInt = 1 := by decide
theorem own_mn64 : (-9223372036854775808 : Int64).toInt = -9223372036854775808 := by decide
theorem own_cul (x y : Int64) : ((own_cu x y) < (0 : Int32)) ↔ (x + (-9223372036854775808 : Int64)) < (y + (-9223372036854775808 : Int64)) := by
  unfold own_cu own_cmp
  by_cases h : (x + (-9223372036854775808 : Int64)) < (y + (-9223372036854775808 : Int64))
  · rw [if_pos h]; exact ⟨fun _ => h, fun _ => by decide⟩
  · rw [if_neg h]
    refine ⟨fun q => ?_, fun q => absurd q h⟩
    split at q <;> exact absurd q (by decide)
theorem own_c0 (x : Int64) : ¬ ((own_cu ((0 : Int64) + x) (0 : Int64)) < (0 : Int32)) := by
  rw [own_cul, own_lt64]
  have e : ((0 : Int64) + (-9223372036854775808 : Int64)).toInt = -9223372036854775808 := by decide
  have r := rng64 (((0 : Int64) + x) + (-9223372036854775808 : Int64))
  rw [e]
  omega
theorem d5_0 : decode prog_40_method_9_code 0 = .ok (.aload_n 0, 1) := by decide +kernel
theorem d5_1 : decode prog_40_method_9_code 1 = .ok (.getfield 28, 3) := by decide +kernel
theorem d5_4 : decode prog_40_method_9_code 4 = .ok (.lload_n 3, 1) := by decide +kernel
theorem d5_5 : decode prog_40_method_9_code 5 = .ok (.ladd, 1) := by decide +kernel
theorem d5_6 : decode prog_40_method_9_code 6 = .ok (.lstore 5, 2) := by decide +kernel
theorem d5_8 : decode prog_40_method_9_code 8 = .ok (.lload 5, 2) := by decide +kernel
theorem d5_10 : decode prog_40_method_9_code 10 = .ok (.aload_n 0, 1) := by decide +kernel
theorem d5_11 : decode prog_40_method_9_code 11 = .ok (.getfield 28, 3) := by decide +kernel
theorem d5_14 : decode prog_40_method_9_code 14 = .ok (.invokestatic 32, 3) := by decide +kernel
theorem d5_17 : decode prog_40_method_9_code 17 = .ok (.ifCond .ge 7, 3) := by decide +kernel
theorem d5_24 : decode prog_40_method_9_code 24 = .ok (.lconst 0, 1) := by decide +kernel
theorem d5_25 : decode prog_40_method_9_code 25 = .ok (.lstore 7, 2) := by decide +kernel
theorem d5_27 : decode prog_40_method_9_code 27 = .ok (.aload_n 0, 1) := by decide +kernel
theorem d5_28 : decode prog_40_method_9_code 28 = .ok (.lload 5, 2) := by decide +kernel
theorem d5_30 : decode prog_40_method_9_code 30 = .ok (.putfield 28, 3) := by decide +kernel
theorem d5_33 : decode prog_40_method_9_code 33 = .ok (.aload_n 0, 1) := by decide +kernel
theorem d5_34 : decode prog_40_method_9_code 34 = .ok (.dup, 1) := by decide +kernel
theorem d5_35 : decode prog_40_method_9_code 35 = .ok (.getfield 38, 3) := by decide +kernel
theorem d5_38 : decode prog_40_method_9_code 38 = .ok (.lload_n 1, 1) := by decide +kernel
theorem d5_39 : decode prog_40_method_9_code 39 = .ok (.lload 7, 2) := by decide +kernel
theorem d5_41 : decode prog_40_method_9_code 41 = .ok (.ladd, 1) := by decide +kernel
theorem d5_42 : decode prog_40_method_9_code 42 = .ok (.ladd, 1) := by decide +kernel
theorem d5_43 : decode prog_40_method_9_code 43 = .ok (.putfield 38, 3) := by decide +kernel
theorem d5_46 : decode prog_40_method_9_code 46 = .ok (.aload_n 0, 1) := by decide +kernel
theorem d5_47 : decode prog_40_method_9_code 47 = .ok (.getfield 38, 3) := by decide +kernel
theorem d5_50 : decode prog_40_method_9_code 50 = .ok (.lconst 0, 1) := by decide +kernel
theorem d5_51 : decode prog_40_method_9_code 51 = .ok (.lcmp, 1) := by decide +kernel
theorem d5_52 : decode prog_40_method_9_code 52 = .ok (.ifCond .ge 29, 3) := by decide +kernel
theorem d5_81 : decode prog_40_method_9_code 81 = .ok (.return_, 1) := by decide +kernel
theorem ef_5a (m : MethodId) (q5a_0 : Addr) (q5a_1 : Int64) (q5a_2 : Int64) : entryFrame m #[(.ref q5a_0), (.long q5a_1), (.long q5a_2)] 9 = mkF m 0 #[.val (.ref q5a_0), .val (.long q5a_1), .second, .val (.long q5a_2), .second, .unset, .unset, .unset, .unset] [] := by first | (simp [entryFrame, mkF, argsToLocals, Value.category]; done) | rfl
def Q5a (Z : State) (q5a_0 : Addr) (q5a_1 : Int64) (q5a_2 : Int64) (w5a_q5a_0_beyond : Addr) (h0 : Heap) (n0 : Nat) (v : Option Value) (h : Heap) (L : List Loc) : Prop := v = none ∧ Fr n0 L ∧ Keep h0 h [q5a_0] ∧ Fld Z h q5a_0 "dev/quotefuse/engine/WideCount" "low" "J" (.long ((0 : Int64) + q5a_2)) ∧ Fld Z h q5a_0 "dev/quotefuse/engine/WideCount" "high" "J" (.long ((0 : Int64) + (q5a_1 + (0 : Int64)))) ∧ Fld Z h q5a_0 "dev/quotefuse/engine/WideCount" "beyond" "Ljava/math/BigInteger;" (.ref w5a_q5a_0_beyond)
set_option maxRecDepth 65536 in
set_option maxHeartbeats 40000000 in
theorem rm5a (l : Launch) (Z : State) (a0 : Array Value) (hw : ∀ d ∈ tables_1, d.before a0 Z = true) (ws : List Jvm.Cond) (q5a_0 : Addr) (q5a_1 : Int64) (q5a_2 : Int64) (w5a_q5a_0_beyond : Addr) (h0 : Heap) (n0 : Nat) (Z0 : n0 ≤ h0.size) (F_q5a_0_low : Fld Z h0 q5a_0 "dev/quotefuse/engine/WideCount" "low" "J" (.long (0 : Int64))) (F_q5a_0_high : Fld Z h0 q5a_0 "dev/quotefuse/engine/WideCount" "high" "J" (.long (0 : Int64))) (hno : ¬ (((0 : Int64) + (q5a_1 + (0 : Int64))) < (0 : Int64))) (F_q5a_0_beyond : Fld Z h0 q5a_0 "dev/quotefuse/engine/WideCount" "beyond" "Ljava/math/BigInteger;" (.ref w5a_q5a_0_beyond)) (E_q5a_0 : Exa Z h0 q5a_0 "dev/quotefuse/engine/WideCount") (g_q5a_0 : n0 ≤ q5a_0) :
    MetFree l (⟨"dev/quotefuse/engine/WideCount", "plus", "(JJ)V"⟩ : MethodName) (head1 (Jvm.Cond.code (⟨"dev/quotefuse/engine/WideCount", "plus", "(JJ)V"⟩ : MethodName) prog_40_method_9_code 9 none :: ws) ({ frames := 2, cells := 0, slots := 0, locals := 30 } : Room)) (fun a U => a = #[(.ref q5a_0), (.long q5a_1), (.long q5a_2)] ∧ Z.Warmed39 U.vm ∧ U.heap = h0) (fun _ _ _ _ _ => True) (fun _ U o U' => ∃ v L, o = .returned v ∧ Q5a Z q5a_0 q5a_1 q5a_2 w5a_q5a_0_beyond h0 n0 v U'.heap L ∧ FrameEnd U o U' L ({ frames := 2, cells := 0, slots := 0, locals := 30 } : Room).cells ({ frames := 2, cells := 0, slots := 0, locals := 30 } : Room).slots) := by
  refine MetFree.of_bodySF (plainFor_of_name pn_1) hisR ?_
  intro p e s m args below meth c s₁ Bd hml0 hP hK
  obtain ⟨rfl, hZ, hh⟩ := hP
  have hx := Bd.exec
  have hby := Bd.bytes
  have hml : c.maxLocals = 9 := hml0
  have hown : s.vm.findClass "dev/quotefuse/engine/WideCount" = some m.cls := findClass_of_methodNamed Bd.named
  have hnm := (name_of_methodNamed Bd.named Bd.method).1
  have X0 : Stand p l e ({ frames := 2, cells := 0, slots := 0, locals := 30 } : Room) s m #[(.ref q5a_0), (.long q5a_1), (.long q5a_2)] below meth c s₁ [] 0 0 := Stand.of_body Bd
  have e0 : s₁.heap = h0 := by rw [← hh, Bd.state]; rfl
  have N0 := Fr.nil n0
  obtain ⟨S0, hE0⟩ : ∃ z, z = s₁.setTop (entryFrame m #[(.ref q5a_0), (.long q5a_1), (.long q5a_2)] 9) := ⟨_, rfl⟩
  have P0 : own_Go p e below S0 (s₁.setTop (mkF m 0 #[.val (.ref q5a_0), .val (.long q5a_1), .second, .val (.long q5a_2), .second, .unset, .unset, .unset, .unset] [])) := fun t k => by rw [hE0]; exact castTop (ef_5a m q5a_0 q5a_1 q5a_2) k
  have P1 : own_Go p e below S0 (s₁.setTop (mkF m 1 #[.val (.ref q5a_0), .val (.long q5a_1), .second, .val (.long q5a_2), .second, .unset, .unset, .unset, .unset] [(.ref q5a_0)])) := fun t k => P0 t (by
    show Steps p.tables e below (s₁.setTop (mkF m 0 #[.val (.ref q5a_0), .val (.long q5a_1), .second, .val (.long q5a_2), .second, .unset, .unset, .unset, .unset] [])) t
    refine XS.aloadN X0.here hx rfl (hb hby d5_0) rfl rfl ?_
    show Steps p.tables e below (s₁.setTop (mkF m 1 #[.val (.ref q5a_0), .val (.long q5a_1), .second, .val (.long q5a_2), .second, .unset, .unset, .unset, .unset] [(.ref q5a_0)])) t
    exact k)
  obtain ⟨T2, X2, e2, st2⟩ := getF X0 hx hZ hown (host := "") (Or.inl (hw _ (List.mem_of_getElem? (i := 28) rfl))) Via.refl e0 F_q5a_0_low (g := (mkF m 1 #[.val (.ref q5a_0), .val (.long q5a_1), .second, .val (.long q5a_2), .second, .unset, .unset, .unset, .unset] [(.ref q5a_0)])) rfl rfl (hb hby d5_1)
  have P2 : own_Go p e below S0 (T2.setTop (mkF m 4 #[.val (.ref q5a_0), .val (.long q5a_1), .second, .val (.long q5a_2), .second, .unset, .unset, .unset, .unset] [(.long (0 : Int64))])) := fun t k => P1 t (st2 _ k)
  have P3 : own_Go p e below S0 (T2.setTop (mkF m 11 #[.val (.ref q5a_0), .val (.long q5a_1), .second, .val (.long q5a_2), .second, .val (.long ((0 : Int64) + q5a_2)), .second, .unset, .unset] [(.ref q5a_0), (.long ((0 : Int64) + q5a_2))])) := fun t k => P2 t (by
    show Steps p.tables e below (T2.setTop (mkF m 4 #[.val (.ref q5a_0), .val (.long q5a_1), .second, .val (.long q5a_2), .second, .unset, .unset, .unset, .unset] [(.long (0 : Int64))])) t
    refine XS.lloadN X2.here hx rfl (hb hby d5_4) rfl ?_
    refine XS.ladd X2.here hx rfl (hb hby d5_5) rfl ?_
    refine XS.lstore X2.here hx rfl (hb hby d5_6) rfl (l' := #[.val (.ref q5a_0), .val (.long q5a_1), .second, .val (.long q5a_2), .second, .val (.long ((0 : Int64) + q5a_2)), .second, .unset, .unset]) rfl ?_
    refine XS.lload X2.here hx rfl (hb hby d5_8) rfl ?_
    refine XS.aloadN X2.here hx rfl (hb hby d5_10) rfl rfl ?_
    show Steps p.tables e below (T2.setTop (mkF m 11 #[.val (.ref q5a_0), .val (.long q5a_1), .second, .val (.long q5a_2), .second, .val (.long ((0 : Int64) + q5a_2)), .second, .unset, .unset] [(.ref q5a_0), (.long ((0 : Int64) + q5a_2))])) t
    exact k)
  obtain ⟨T4, X4, e4, st4⟩ := getF X2 hx hZ hown (host := "") (Or.inl (hw _ (List.mem_of_getElem? (i := 28) rfl))) Via.refl e2 F_q5a_0_low (g := (mkF m 11 #[.val (.ref q5a_0), .val (.long q5a_1), .second, .val (.long q5a_2), .second, .val (.long ((0 : Int64) + q5a_2)), .second, .unset, .unset] [(.ref q5a_0), (.long ((0 : Int64) + q5a_2))])) rfl rfl (hb hby d5_11)
  have P4 : own_Go p e below S0 (T4.setTop (mkF m 14 #[.val (.ref q5a_0), .val (.long q5a_1), .second, .val (.long q5a_2), .second, .val (.long ((0 : Int64) + q5a_2)), .second, .unset, .unset] [(.long (0 : Int64)), (.long ((0 : Int64) + q5a_2))])) := fun t k => P3 t (st4 _ k)
  obtain ⟨_, _, ⟨T5, L5, k5, n5⟩, -, X5, ⟨Lc5, hQ5, l5, y5, z5⟩, st5⟩ := Jvm.LawKit.callS X4 hx (y := (⟨"java/lang/Long", "compareUnsigned", "(JJ)I"⟩ : MethodName)) hown (mvT hZ (hw _ (List.mem_of_getElem? (i := 30) rfl))) (mvT hZ (hw _ (List.mem_of_getElem? (i := 31) rfl))) (mvT hZ (hw _ (List.mem_of_getElem? (i := 32) rfl))) (mvT hZ (hw _ (List.mem_of_getElem? (i := 33) rfl))) (by decide) (backOf (W := 0) (rm6 l Z a0 hw [] ((0 : Int64) + q5a_2) (0 : Int64) h0 n0 Z0) hZ (hw _ (List.mem_of_getElem? (i := 33) rfl)) (hw _ (List.mem_of_getElem? (i := 32) rfl)) (by decide) (by decide)) (g := (mkF m 14 #[.val (.ref q5a_0), .val (.long q5a_1), .second, .val (.long q5a_2), .second, .val (.long ((0 : Int64) + q5a_2)), .second, .unset, .unset] [(.long (0 : Int64)), (.long ((0 : Int64) + q5a_2))])) rfl (by rw [hml]; rfl) (argsL := [(.long ((0 : Int64) + q5a_2)), (.long (0 : Int64))]) (rest := []) (lenOf pd_0 rfl) rfl (by show 2 * 0 + _ ≤ _; exact Nat.le_of_eq rfl) (hb hby d5_14) (fun _ _ => ⟨rfl, e4, (by decide : 0 + 0 ≤ _), (by decide : 0 + 0 ≤ _)⟩)
  dsimp only [Pt.U, Pt.locs, Pt.cells, Pt.slots] at X5 l5 y5 z5 st5 hQ5
  subst l5 y5 z5
  obtain ⟨rfl, N5q, e5⟩ := hQ5
  have N5 := Fr.app N0 N5q
  have P5 : own_Go p e below S0 (T5.setTop (mkF m 17 #[.val (.ref q5a_0), .val (.long q5a_1), .second, .val (.long q5a_2), .second, .val (.long ((0 : Int64) + q5a_2)), .second, .unset, .unset] [(.int (own_cu ((0 : Int64) + q5a_2) (0 : Int64)))])) := fun t k => P4 t (st5 _ k)
  have c6 : ¬ ((own_cu ((0 : Int64) + q5a_2) (0 : Int64)) < (0 : Int32)) := own_c0 _
  have P7 : own_Go p e below S0 (T5.setTop (mkF m 30 #[.val (.ref q5a_0), .val (.long q5a_1), .second, .val (.long q5a_2), .second, .val (.long ((0 : Int64) + q5a_2)), .second, .val (.long (0 : Int64)), .second] [(.long ((0 : Int64) + q5a_2)), (.ref q5a_0)])) := fun t k => P5 t (by
    show Steps p.tables e below (T5.setTop (mkF m 17 #[.val (.ref q5a_0), .val (.long q5a_1), .second, .val (.long q5a_2), .second, .val (.long ((0 : Int64) + q5a_2)), .second, .unset, .unset] [(.int (own_cu ((0 : Int64) + q5a_2) (0 : Int64)))])) t
    refine XS.ifYes X5.here hx rfl (pc0 := 17) (pc' := 24) rfl (hb hby d5_17) rfl ((if0 _ _).trans (flt c6).2.1) (by decide) (by decide) ?_
    refine XS.lconst X5.here hx rfl (hb hby d5_24) ?_
    refine XS.lstore X5.here hx rfl (hb hby d5_25) rfl (l' := #[.val (.ref q5a_0), .val (.long q5a_1), .second, .val (.long q5a_2), .second, .val (.long ((0 : Int64) + q5a_2)), .second, .val (.long (0 : Int64)), .second]) rfl ?_
    refine XS.aloadN X5.here hx rfl (hb hby d5_27) rfl rfl ?_
    refine XS.lload X5.here hx rfl (hb hby d5_28) rfl ?_
    show Steps p.tables e below (T5.setTop (mkF m 30 #[.val (.ref q5a_0), .val (.long q5a_1), .second, .val (.long q5a_2), .second, .val (.long ((0 : Int64) + q5a_2)), .second, .val (.long (0 : Int64)), .second] [(.long ((0 : Int64) + q5a_2)), (.ref q5a_0)])) t
    exact k)
  obtain ⟨T8, h8, X8, e8, W8, st8⟩ := putF X5 hx hZ hown (host := "") (Or.inl (hw _ (List.mem_of_getElem? (i := 28) rfl))) Via.refl e5 F_q5a_0_low E_q5a_0 (Or.inl (hw _ (List.mem_of_getElem? (i := 29) rfl))) (hw _ (List.mem_of_getElem? (i := 2) rfl)) (ty := .long) (by decide) rfl rfl (g := (mkF m 30 #[.val (.ref q5a_0), .val (.long q5a_1), .second, .val (.long q5a_2), .second, .val (.long ((0 : Int64) + q5a_2)), .second, .val (.long (0 : Int64)), .second] [(.long ((0 : Int64) + q5a_2)), (.ref q5a_0)])) rfl rfl (hb hby d5_30)
  have K8 : Keep h0 h8 [q5a_0] := (Keep.refl h0 [q5a_0]).wr W8 (Or.inl (by simp))
  have N8 := Fr.snoc X8 N5 g_q5a_0
  have F8w : Fld Z h8 q5a_0 "dev/quotefuse/engine/WideCount" "low" "J" (.long ((0 : Int64) + q5a_2)) := F_q5a_0_low.same W8
  have P8 : own_Go p e below S0 (T8.setTop (mkF m 33 #[.val (.ref q5a_0), .val (.long q5a_1), .second, .val (.long q5a_2), .second, .val (.long ((0 : Int64) + q5a_2)), .second, .val (.long (0 : Int64)), .second] [])) := fun t k => P7 t (st8 _ k)
  have F9 : Fld Z h8 q5a_0 "dev/quotefuse/engine/WideCount" "high" "J" (.long (0 : Int64)) := F_q5a_0_high.other W8 (Or.inr (slot_ne (Or.inl (hw _ (List.mem_of_getElem? (i := 39) rfl))) (Or.inl (hw _ (List.mem_of_getElem? (i := 29) rfl))) (by decide) (t := .long) (t' := .long) (by decide) (by decide)))
  have P10 : own_Go p e below S0 (T8.setTop (mkF m 35 #[.val (.ref q5a_0), .val (.long q5a_1), .second, .val (.long q5a_2), .second, .val (.long ((0 : Int64) + q5a_2)), .second, .val (.long (0 : Int64)), .second] [(.ref q5a_0), (.ref q5a_0)])) := fun t k => P8 t (by
    show Steps p.tables e below (T8.setTop (mkF m 33 #[.val (.ref q5a_0), .val (.long q5a_1), .second, .val (.long q5a_2), .second, .val (.long ((0 : Int64) + q5a_2)), .second, .val (.long (0 : Int64)), .second] [])) t
    refine XS.aloadN X8.here hx rfl (hb hby d5_33) rfl rfl ?_
    refine XS.dup X8.here hx rfl (hb hby d5_34) rfl rfl ?_
    show Steps p.tables e below (T8.setTop (mkF m 35 #[.val (.ref q5a_0), .val (.long q5a_1), .second, .val (.long q5a_2), .second, .val (.long ((0 : Int64) + q5a_2)), .second, .val (.long (0 : Int64)), .second] [(.ref q5a_0), (.ref q5a_0)])) t
    exact k)
  obtain ⟨T11, X11, e11, st11⟩ := getF X8 hx hZ hown (host := "") (Or.inl (hw _ (List.mem_of_getElem? (i := 38) rfl))) Via.refl e8 F9 (g := (mkF m 35 #[.val (.ref q5a_0), .val (.long q5a_1), .second, .val (.long q5a_2), .second, .val (.long ((0 : Int64) + q5a_2)), .second, .val (.long (0 : Int64)), .second] [(.ref q5a_0), (.ref q5a_0)])) rfl rfl (hb hby d5_35)
  have P11 : own_Go p e below S0 (T11.setTop (mkF m 38 #[.val (.ref q5a_0), .val (.long q5a_1), .second, .val (.long q5a_2), .second, .val (.long ((0 : Int64) + q5a_2)), .second, .val (.long (0 : Int64)), .second] [(.long (0 : Int64)), (.ref q5a_0)])) := fun t k => P10 t (st11 _ k)
  have F12 : Exa Z h8 q5a_0 "dev/quotefuse/engine/WideCount" := E_q5a_0.wr W8
  have P13 : own_Go p e below S0 (T11.setTop (mkF m 43 #[.val (.ref q5a_0), .val (.long q5a_1), .second, .val (.long q5a_2), .second, .val (.long ((0 : Int64) + q5a_2)), .second, .val (.long (0 : Int64)), .second] [(.long ((0 : Int64) + (q5a_1 + (0 : Int64)))), (.ref q5a_0)])) := fun t k => P11 t (by
    show Steps p.tables e below (T11.setTop (mkF m 38 #[.val (.ref q5a_0), .val (.long q5a_1), .second, .val (.long q5a_2), .second, .val (.long ((0 : Int64) + q5a_2)), .second, .val (.long (0 : Int64)), .second] [(.long (0 : Int64)), (.ref q5a_0)])) t
    refine XS.lloadN X11.here hx rfl (hb hby d5_38) rfl ?_
    refine XS.lload X11.here hx rfl (hb hby d5_39) rfl ?_
    refine XS.ladd X11.here hx rfl (hb hby d5_41) rfl ?_
    refine XS.ladd X11.here hx rfl (hb hby d5_42) rfl ?_
    show Steps p.tables e below (T11.setTop (mkF m 43 #[.val (.ref q5a_0), .val (.long q5a_1), .second, .val (.long q5a_2), .second, .val (.long ((0 : Int64) + q5a_2)), .second, .val (.long (0 : Int64)), .second] [(.long ((0 : Int64) + (q5a_1 + (0 : Int64)))), (.ref q5a_0)])) t
    exact k)
  obtain ⟨T14, h14, X14, e14, W14, st14⟩ := putF X11 hx hZ hown (host := "") (Or.inl (hw _ (List.mem_of_getElem? (i := 38) rfl))) Via.refl e11 F9 F12 (Or.inl (hw _ (List.mem_of_getElem? (i := 39) rfl))) (hw _ (List.mem_of_getElem? (i := 2) rfl)) (ty := .long) (by decide) rfl rfl (g := (mkF m 43 #[.val (.ref q5a_0), .val (.long q5a_1), .second, .val (.long q5a_2), .second, .val (.long ((0 : Int64) + q5a_2)), .second, .val (.long (0 : Int64)), .second] [(.long ((0 : Int64) + (q5a_1 + (0 : Int64)))), (.ref q5a_0)])) rfl rfl (hb hby d5_43)
  have K14 : Keep h0 h14 [q5a_0] := K8.wr W14 (Or.inl (by simp))
  have N14 := Fr.snoc X14 N8 g_q5a_0
  have F14w : Fld Z h14 q5a_0 "dev/quotefuse/engine/WideCount" "high" "J" (.long ((0 : Int64) + (q5a_1 + (0 : Int64)))) := F9.same W14
  have P14 : own_Go p e below S0 (T14.setTop (mkF m 46 #[.val (.ref q5a_0), .val (.long q5a_1), .second, .val (.long q5a_2), .second, .val (.long ((0 : Int64) + q5a_2)), .second, .val (.long (0 : Int64)), .second] [])) := fun t k => P13 t (st14 _ k)
  have P15 : own_Go p e below S0 (T14.setTop (mkF m 47 #[.val (.ref q5a_0), .val (.long q5a_1), .second, .val (.long q5a_2), .second, .val (.long ((0 : Int64) + q5a_2)), .second, .val (.long (0 : Int64)), .second] [(.ref q5a_0)])) := fun t k => P14 t (by
    show Steps p.tables e below (T14.setTop (mkF m 46 #[.val (.ref q5a_0), .val (.long q5a_1), .second, .val (.long q5a_2), .second, .val (.long ((0 : Int64) + q5a_2)), .second, .val (.long (0 : Int64)), .second] [])) t
    refine XS.aloadN X14.here hx rfl (hb hby d5_46) rfl rfl ?_
    show Steps p.tables e below (T14.setTop (mkF m 47 #[.val (.ref q5a_0), .val (.long q5a_1), .second, .val (.long q5a_2), .second, .val (.long ((0 : Int64) + q5a_2)), .second, .val (.long (0 : Int64)), .second] [(.ref q5a_0)])) t
    exact k)
  obtain ⟨T16, X16, e16, st16⟩ := getF X14 hx hZ hown (host := "") (Or.inl (hw _ (List.mem_of_getElem? (i := 38) rfl))) Via.refl e14 F14w (g := (mkF m 47 #[.val (.ref q5a_0), .val (.long q5a_1), .second, .val (.long q5a_2), .second, .val (.long ((0 : Int64) + q5a_2)), .second, .val (.long (0 : Int64)), .second] [(.ref q5a_0)])) rfl rfl (hb hby d5_47)
  have P16 : own_Go p e below S0 (T16.setTop (mkF m 50 #[.val (.ref q5a_0), .val (.long q5a_1), .second, .val (.long q5a_2), .second, .val (.long ((0 : Int64) + q5a_2)), .second, .val (.long (0 : Int64)), .second] [(.long ((0 : Int64) + (q5a_1 + (0 : Int64))))])) := fun t k => P15 t (st16 _ k)
  have c17 : ¬ (((0 : Int64) + (q5a_1 + (0 : Int64))) < (0 : Int64)) := hno
  have P18 : own_Go p e below S0 (T16.setTop (mkF m 81 #[.val (.ref q5a_0), .val (.long q5a_1), .second, .val (.long q5a_2), .second, .val (.long ((0 : Int64) + q5a_2)), .second, .val (.long (0 : Int64)), .second] [])) := fun t k => P16 t (by
    show Steps p.tables e below (T16.setTop (mkF m 50 #[.val (.ref q5a_0), .val (.long q5a_1), .second, .val (.long q5a_2), .second, .val (.long ((0 : Int64) + q5a_2)), .second, .val (.long (0 : Int64)), .second] [(.long ((0 : Int64) + (q5a_1 + (0 : Int64))))])) t
    refine XS.lconst X16.here hx rfl (hb hby d5_50) ?_
    refine XS.lcmp X16.here hx rfl (hb hby d5_51) rfl ?_
    refine XS.ifYes X16.here hx rfl (pc0 := 52) (pc' := 81) rfl (hb hby d5_52) rfl ((if0 _ _).trans (flt (fun q => c17 ((lw_lt ((0 : Int64) + (q5a_1 + (0 : Int64))) (0 : Int64)).mp q))).2.1) (by decide) (by decide) ?_
    show Steps p.tables e below (T16.setTop (mkF m 81 #[.val (.ref q5a_0), .val (.long q5a_1), .second, .val (.long q5a_2), .second, .val (.long ((0 : Int64) + q5a_2)), .second, .val (.long (0 : Int64)), .second] [])) t
    exact k)
  have F19 : Fld Z h14 q5a_0 "dev/quotefuse/engine/WideCount" "low" "J" (.long ((0 : Int64) + q5a_2)) := F8w.other W14 (Or.inr (slot_ne (Or.inl (hw _ (List.mem_of_getElem? (i := 29) rfl))) (Or.inl (hw _ (List.mem_of_getElem? (i := 39) rfl))) (by decide) (t := .long) (t' := .long) (by decide) (by decide)))
  have F20 : Fld Z h8 q5a_0 "dev/quotefuse/engine/WideCount" "beyond" "Ljava/math/BigInteger;" (.ref w5a_q5a_0_beyond) := F_q5a_0_beyond.other W8 (Or.inr (slot_ne (Or.inl (hw _ (List.mem_of_getElem? (i := 13) rfl))) (Or.inl (hw _ (List.mem_of_getElem? (i := 29) rfl))) (by decide) (t := (.object "java/math/BigInteger")) (t' := .long) (by decide) (by decide)))
  have F21 : Fld Z h14 q5a_0 "dev/quotefuse/engine/WideCount" "beyond" "Ljava/math/BigInteger;" (.ref w5a_q5a_0_beyond) := F20.other W14 (Or.inr (slot_ne (Or.inl (hw _ (List.mem_of_getElem? (i := 13) rfl))) (Or.inl (hw _ (List.mem_of_getElem? (i := 39) rfl))) (by decide) (t := (.object "java/math/BigInteger")) (t' := .long) (by decide) (by decide)))
  obtain ⟨fs, hr, hrun, hended, hW, hsame⟩ := X16.leave (v := none) (fun _ => rfl) (BodyLoose.notSynchronized Bd)
  refine ⟨_, _, own_from hE0 (P18 _ ?_), hrun, hended, _, _, rfl, ?_, ⟨_, rfl⟩, hW, hsame.mono (by decide) (by decide)⟩
  · show Steps p.tables e below (T16.setTop (mkF m 81 #[.val (.ref q5a_0), .val (.long q5a_1), .second, .val (.long q5a_2), .second, .val (.long ((0 : Int64) + q5a_2)), .second, .val (.long (0 : Int64)), .second] [])) _
    exact X16.returnOut hx Bd.returns (hb hby d5_81) hr
  · show Q5a Z q5a_0 q5a_1 q5a_2 w5a_q5a_0_beyond h0 n0 _ T16.heap _
    rw [e16]
    exact ⟨rfl, N14, K14, F19, F14w, F21⟩
theorem d5_20 : decode prog_40_method_9_code 20 = .ok (.lconst 1, 1) := by decide +kernel
theorem d5_21 : decode prog_40_method_9_code 21 = .ok (.goto 4, 3) := by decide +kernel
theorem ef_5n (m : MethodId) (q5n_0 : Addr) (q5n_1 : Int64) (q5n_2 : Int64) : entryFrame m #[(.ref q5n_0), (.long q5n_1), (.long q5n_2)] 9 = mkF m 0 #[.val (.ref q5n_0), .val (.long q5n_1), .second, .val (.long q5n_2), .second, .unset, .unset, .unset, .unset] [] := by first | (simp [entryFrame, mkF, argsToLocals, Value.category]; done) | rfl
def f5n_high (q5n_1 : Int64) (q5n_2 : Int64) (ql : Int64) (qh : Int64) : Int64 := (if (own_cu (ql + q5n_2) ql) < (0 : Int32) then (qh + (q5n_1 + (1 : Int64))) else (qh + (q5n_1 + (0 : Int64))))
def Q5n (Z : State) (q5n_0 : Addr) (q5n_1 : Int64) (q5n_2 : Int64) (ql : Int64) (qh : Int64) (w5n_q5n_0_beyond : Addr) (h0 : Heap) (n0 : Nat) (v : Option Value) (h : Heap) (L : List Loc) : Prop := v = none ∧ Fr n0 L ∧ Keep h0 h [q5n_0] ∧ Fld Z h q5n_0 "dev/quotefuse/engine/WideCount" "low" "J" (.long (ql + q5n_2)) ∧ Fld Z h q5n_0 "dev/quotefuse/engine/WideCount" "high" "J" (.long (f5n_high q5n_1 q5n_2 ql qh)) ∧ Fld Z h q5n_0 "dev/quotefuse/engine/WideCount" "beyond" "Ljava/math/BigInteger;" (.ref w5n_q5n_0_beyond)
set_option maxRecDepth 65536 in
set_option maxHeartbeats 40000000 in
theorem rm5n (l : Launch) (Z : State) (a0 : Array Value) (hw : ∀ d ∈ tables_1, d.before a0 Z = true) (ws : List Jvm.Cond) (q5n_0 : Addr) (q5n_1 : Int64) (q5n_2 : Int64) (ql : Int64) (qh : Int64) (w5n_q5n_0_beyond : Addr) (h0 : Heap) (n0 : Nat) (Z0 : n0 ≤ h0.size) (F_q5n_0_low : Fld Z h0 q5n_0 "dev/quotefuse/engine/WideCount" "low" "J" (.long ql)) (F_q5n_0_high : Fld Z h0 q5n_0 "dev/quotefuse/engine/WideCount" "high" "J" (.long qh)) (hno : (((own_cu (ql + q5n_2) ql) < (0 : Int32)) → ¬ ((qh + (q5n_1 + (1 : Int64))) < (0 : Int64))) ∧ (¬ ((own_cu (ql + q5n_2) ql) < (0 : Int32)) → ¬ ((qh + (q5n_1 + (0 : Int64))) < (0 : Int64)))) (F_q5n_0_beyond : Fld Z h0 q5n_0 "dev/quotefuse/engine/WideCount" "beyond" "Ljava/math/BigInteger;" (.ref w5n_q5n_0_beyond)) (E_q5n_0 : Exa Z h0 q5n_0 "dev/quotefuse/engine/WideCount") (g_q5n_0 : n0 ≤ q5n_0) :
    MetFree l (⟨"dev/quotefuse/engine/WideCount", "plus", "(JJ)V"⟩ : MethodName) (head1 (Jvm.Cond.code (⟨"dev/quotefuse/engine/WideCount", "plus", "(JJ)V"⟩ : MethodName) prog_40_method_9_code 9 none :: ws) ({ frames := 2, cells := 0, slots := 0, locals := 30 } : Room)) (fun a U => a = #[(.ref q5n_0), (.long q5n_1), (.long q5n_2)] ∧ Z.Warmed39 U.vm ∧ U.heap = h0) (fun _ _ _ _ _ => True) (fun _ U o U' => ∃ v L, o = .returned v ∧ Q5n Z q5n_0 q5n_1 q5n_2 ql qh w5n_q5n_0_beyond h0 n0 v U'.heap L ∧ FrameEnd U o U' L ({ frames := 2, cells := 0, slots := 0, locals := 30 } : Room).cells ({ frames := 2, cells := 0, slots := 0, locals := 30 } : Room).slots) := by
  refine MetFree.of_bodySF (plainFor_of_name pn_1) hisR ?_
  intro p e s m args below meth c s₁ Bd hml0 hP hK
  obtain ⟨rfl, hZ, hh⟩ := hP
  have hx := Bd.exec
  have hby := Bd.bytes
  have hml : c.maxLocals = 9 := hml0
  have hown : s.vm.findClass "dev/quotefuse/engine/WideCount" = some m.cls := findClass_of_methodNamed Bd.named
  have hnm := (name_of_methodNamed Bd.named Bd.method).1
  have X0 : Stand p l e ({ frames := 2, cells := 0, slots := 0, locals := 30 } : Room) s m #[(.ref q5n_0), (.long q5n_1), (.long q5n_2)] below meth c s₁ [] 0 0 := Stand.of_body Bd
  have e0 : s₁.heap = h0 := by rw [← hh, Bd.state]; rfl
  have N0 := Fr.nil n0
  obtain ⟨S0, hE0⟩ : ∃ z, z = s₁.setTop (entryFrame m #[(.ref q5n_0), (.long q5n_1), (.long q5n_2)] 9) := ⟨_, rfl⟩
  have P0 : own_Go p e below S0 (s₁.setTop (mkF m 0 #[.val (.ref q5n_0), .val (.long q5n_1), .second, .val (.long q5n_2), .second, .unset, .unset, .unset, .unset] [])) := fun t k => by rw [hE0]; exact castTop (ef_5n m q5n_0 q5n_1 q5n_2) k
  have P1 : own_Go p e below S0 (s₁.setTop (mkF m 1 #[.val (.ref q5n_0), .val (.long q5n_1), .second, .val (.long q5n_2), .second, .unset, .unset, .unset, .unset] [(.ref q5n_0)])) := fun t k => P0 t (by
    show Steps p.tables e below (s₁.setTop (mkF m 0 #[.val (.ref q5n_0), .val (.long q5n_1), .second, .val (.long q5n_2), .second, .unset, .unset, .unset, .unset] [])) t
    refine XS.aloadN X0.here hx rfl (hb hby d5_0) rfl rfl ?_
    show Steps p.tables e below (s₁.setTop (mkF m 1 #[.val (.ref q5n_0), .val (.long q5n_1), .second, .val (.long q5n_2), .second, .unset, .unset, .unset, .unset] [(.ref q5n_0)])) t
    exact k)
  obtain ⟨T2, X2, e2, st2⟩ := getF X0 hx hZ hown (host := "") (Or.inl (hw _ (List.mem_of_getElem? (i := 28) rfl))) Via.refl e0 F_q5n_0_low (g := (mkF m 1 #[.val (.ref q5n_0), .val (.long q5n_1), .second, .val (.long q5n_2), .second, .unset, .unset, .unset, .unset] [(.ref q5n_0)])) rfl rfl (hb hby d5_1)
  have P2 : own_Go p e below S0 (T2.setTop (mkF m 4 #[.val (.ref q5n_0), .val (.long q5n_1), .second, .val (.long q5n_2), .second, .unset, .unset, .unset, .unset] [(.long ql)])) := fun t k => P1 t (st2 _ k)
  have P3 : own_Go p e below S0 (T2.setTop (mkF m 11 #[.val (.ref q5n_0), .val (.long q5n_1), .second, .val (.long q5n_2), .second, .val (.long (ql + q5n_2)), .second, .unset, .unset] [(.ref q5n_0), (.long (ql + q5n_2))])) := fun t k => P2 t (by
    show Steps p.tables e below (T2.setTop (mkF m 4 #[.val (.ref q5n_0), .val (.long q5n_1), .second, .val (.long q5n_2), .second, .unset, .unset, .unset, .unset] [(.long ql)])) t
    refine XS.lloadN X2.here hx rfl (hb hby d5_4) rfl ?_
    refine XS.ladd X2.here hx rfl (hb hby d5_5) rfl ?_
    refine XS.lstore X2.here hx rfl (hb hby d5_6) rfl (l' := #[.val (.ref q5n_0), .val (.long q5n_1), .second, .val (.long q5n_2), .second, .val (.long (ql + q5n_2)), .second, .unset, .unset]) rfl ?_
    refine XS.lload X2.here hx rfl (hb hby d5_8) rfl ?_
    refine XS.aloadN X2.here hx rfl (hb hby d5_10) rfl rfl ?_
    show Steps p.tables e below (T2.setTop (mkF m 11 #[.val (.ref q5n_0), .val (.long q5n_1), .second, .val (.long q5n_2), .second, .val (.long (ql + q5n_2)), .second, .unset, .unset] [(.ref q5n_0), (.long (ql + q5n_2))])) t
    exact k)
  obtain ⟨T4, X4, e4, st4⟩ := getF X2 hx hZ hown (host := "") (Or.inl (hw _ (List.mem_of_getElem? (i := 28) rfl))) Via.refl e2 F_q5n_0_low (g := (mkF m 11 #[.val (.ref q5n_0), .val (.long q5n_1), .second, .val (.long q5n_2), .second, .val (.long (ql + q5n_2)), .second, .unset, .unset] [(.ref q5n_0), (.long (ql + q5n_2))])) rfl rfl (hb hby d5_11)
  have P4 : own_Go p e below S0 (T4.setTop (mkF m 14 #[.val (.ref q5n_0), .val (.long q5n_1), .second, .val (.long q5n_2), .second, .val (.long (ql + q5n_2)), .second, .unset, .unset] [(.long ql), (.long (ql + q5n_2))])) := fun t k => P3 t (st4 _ k)
  obtain ⟨_, _, ⟨T5, L5, k5, n5⟩, -, X5, ⟨Lc5, hQ5, l5, y5, z5⟩, st5⟩ := Jvm.LawKit.callS X4 hx (y := (⟨"java/lang/Long", "compareUnsigned", "(JJ)I"⟩ : MethodName)) hown (mvT hZ (hw _ (List.mem_of_getElem? (i := 30) rfl))) (mvT hZ (hw _ (List.mem_of_getElem? (i := 31) rfl))) (mvT hZ (hw _ (List.mem_of_getElem? (i := 32) rfl))) (mvT hZ (hw _ (List.mem_of_getElem? (i := 33) rfl))) (by decide) (backOf (W := 0) (rm6 l Z a0 hw [] (ql + q5n_2) ql h0 n0 Z0) hZ (hw _ (List.mem_of_getElem? (i := 33) rfl)) (hw _ (List.mem_of_getElem? (i := 32) rfl)) (by decide) (by decide)) (g := (mkF m 14 #[.val (.ref q5n_0), .val (.long q5n_1), .second, .val (.long q5n_2), .second, .val (.long (ql + q5n_2)), .second, .unset, .unset] [(.long ql), (.long (ql + q5n_2))])) rfl (by rw [hml]; rfl) (argsL := [(.long (ql + q5n_2)), (.long ql)]) (rest := []) (lenOf pd_0 rfl) rfl (by show 2 * 0 + _ ≤ _; exact Nat.le_of_eq rfl) (hb hby d5_14) (fun _ _ => ⟨rfl, e4, (by decide : 0 + 0 ≤ _), (by decide : 0 + 0 ≤ _)⟩)
  dsimp only [Pt.U, Pt.locs, Pt.cells, Pt.slots] at X5 l5 y5 z5 st5 hQ5
  subst l5 y5 z5
  obtain ⟨rfl, N5q, e5⟩ := hQ5
  have N5 := Fr.app N0 N5q
  have P5 : own_Go p e below S0 (T5.setTop (mkF m 17 #[.val (.ref q5n_0), .val (.long q5n_1), .second, .val (.long q5n_2), .second, .val (.long (ql + q5n_2)), .second, .unset, .unset] [(.int (own_cu (ql + q5n_2) ql))])) := fun t k => P4 t (st5 _ k)
  by_cases c6 : (own_cu (ql + q5n_2) ql) < (0 : Int32)
  · skip
    have P7 : own_Go p e below S0 (T5.setTop (mkF m 30 #[.val (.ref q5n_0), .val (.long q5n_1), .second, .val (.long q5n_2), .second, .val (.long (ql + q5n_2)), .second, .val (.long (1 : Int64)), .second] [(.long (ql + q5n_2)), (.ref q5n_0)])) := fun t k => P5 t (by
      show Steps p.tables e below (T5.setTop (mkF m 17 #[.val (.ref q5n_0), .val (.long q5n_1), .second, .val (.long q5n_2), .second, .val (.long (ql + q5n_2)), .second, .unset, .unset] [(.int (own_cu (ql + q5n_2) ql))])) t
      refine XS.ifNo X5.here hx rfl (hb hby d5_17) rfl ((if0 _ _).trans (tlt c6).2.1) ?_
      refine XS.lconst X5.here hx rfl (hb hby d5_20) ?_
      refine XS.goto X5.here hx rfl (pc0 := 21) (pc' := 25) rfl (hb hby d5_21) (by decide) (by decide) ?_
      refine XS.lstore X5.here hx rfl (hb hby d5_25) rfl (l' := #[.val (.ref q5n_0), .val (.long q5n_1), .second, .val (.long q5n_2), .second, .val (.long (ql + q5n_2)), .second, .val (.long (1 : Int64)), .second]) rfl ?_
      refine XS.aloadN X5.here hx rfl (hb hby d5_27) rfl rfl ?_
      refine XS.lload X5.here hx rfl (hb hby d5_28) rfl ?_
      show Steps p.tables e below (T5.setTop (mkF m 30 #[.val (.ref q5n_0), .val (.long q5n_1), .second, .val (.long q5n_2), .second, .val (.long (ql + q5n_2)), .second, .val (.long (1 : Int64)), .second] [(.long (ql + q5n_2)), (.ref q5n_0)])) t
      exact k)
    obtain ⟨T8, h8, X8, e8, W8, st8⟩ := putF X5 hx hZ hown (host := "") (Or.inl (hw _ (List.mem_of_getElem? (i := 28) rfl))) Via.refl e5 F_q5n_0_low E_q5n_0 (Or.inl (hw _ (List.mem_of_getElem? (i := 29) rfl))) (hw _ (List.mem_of_getElem? (i := 2) rfl)) (ty := .long) (by decide) rfl rfl (g := (mkF m 30 #[.val (.ref q5n_0), .val (.long q5n_1), .second, .val (.long q5n_2), .second, .val (.long (ql + q5n_2)), .second, .val (.long (1 : Int64)), .second] [(.long (ql + q5n_2)), (.ref q5n_0)])) rfl rfl (hb hby d5_30)
    have K8 : Keep h0 h8 [q5n_0] := (Keep.refl h0 [q5n_0]).wr W8 (Or.inl (by simp))
    have N8 := Fr.snoc X8 N5 g_q5n_0
    have F8w : Fld Z h8 q5n_0 "dev/quotefuse/engine/WideCount" "low" "J" (.long (ql + q5n_2)) := F_q5n_0_low.same W8
    have P8 : own_Go p e below S0 (T8.setTop (mkF m 33 #[.val (.ref q5n_0), .val (.long q5n_1), .second, .val (.long q5n_2), .second, .val (.long (ql + q5n_2)), .second, .val (.long (1 : Int64)), .second] [])) := fun t k => P7 t (st8 _ k)
    have F9 : Fld Z h8 q5n_0 "dev/quotefuse/engine/WideCount" "high" "J" (.long qh) := F_q5n_0_high.other W8 (Or.inr (slot_ne (Or.inl (hw _ (List.mem_of_getElem? (i := 39) rfl))) (Or.inl (hw _ (List.mem_of_getElem? (i := 29) rfl))) (by decide) (t := .long) (t' := .long) (by decide) (by decide)))
    have P10 : own_Go p e below S0 (T8.setTop (mkF m 35 #[.val (.ref q5n_0), .val (.long q5n_1), .second, .val (.long q5n_2), .second, .val (.long (ql + q5n_2)), .second, .val (.long (1 : Int64)), .second] [(.ref q5n_0), (.ref q5n_0)])) := fun t k => P8 t (by
      show Steps p.tables e below (T8.setTop (mkF m 33 #[.val (.ref q5n_0), .val (.long q5n_1), .second, .val (.long q5n_2), .second, .val (.long (ql + q5n_2)), .second, .val (.long (1 : Int64)), .second] [])) t
      refine XS.aloadN X8.here hx rfl (hb hby d5_33) rfl rfl ?_
      refine XS.dup X8.here hx rfl (hb hby d5_34) rfl rfl ?_
      show Steps p.tables e below (T8.setTop (mkF m 35 #[.val (.ref q5n_0), .val (.long q5n_1), .second, .val (.long q5n_2), .second, .val (.long (ql + q5n_2)), .second, .val (.long (1 : Int64)), .second] [(.ref q5n_0), (.ref q5n_0)])) t
      exact k)
    obtain ⟨T11, X11, e11, st11⟩ := getF X8 hx hZ hown (host := "") (Or.inl (hw _ (List.mem_of_getElem? (i := 38) rfl))) Via.refl e8 F9 (g := (mkF m 35 #[.val (.ref q5n_0), .val (.long q5n_1), .second, .val (.long q5n_2), .second, .val (.long (ql + q5n_2)), .second, .val (.long (1 : Int64)), .second] [(.ref q5n_0), (.ref q5n_0)])) rfl rfl (hb hby d5_35)
    have P11 : own_Go p e below S0 (T11.setTop (mkF m 38 #[.val (.ref q5n_0), .val (.long q5n_1), .second, .val (.long q5n_2), .second, .val (.long (ql + q5n_2)), .second, .val (.long (1 : Int64)), .second] [(.long qh), (.ref q5n_0)])) := fun t k => P10 t (st11 _ k)
    have F12 : Exa Z h8 q5n_0 "dev/quotefuse/engine/WideCount" := E_q5n_0.wr W8
    have P13 : own_Go p e below S0 (T11.setTop (mkF m 43 #[.val (.ref q5n_0), .val (.long q5n_1), .second, .val (.long q5n_2), .second, .val (.long (ql + q5n_2)), .second, .val (.long (1 : Int64)), .second] [(.long (qh + (q5n_1 + (1 : Int64)))), (.ref q5n_0)])) := fun t k => P11 t (by
      show Steps p.tables e below (T11.setTop (mkF m 38 #[.val (.ref q5n_0), .val (.long q5n_1), .second, .val (.long q5n_2), .second, .val (.long (ql + q5n_2)), .second, .val (.long (1 : Int64)), .second] [(.long qh), (.ref q5n_0)])) t
      refine XS.lloadN X11.here hx rfl (hb hby d5_38) rfl ?_
      refine XS.lload X11.here hx rfl (hb hby d5_39) rfl ?_
      refine XS.ladd X11.here hx rfl (hb hby d5_41) rfl ?_
      refine XS.ladd X11.here hx rfl (hb hby d5_42) rfl ?_
      show Steps p.tables e below (T11.setTop (mkF m 43 #[.val (.ref q5n_0), .val (.long q5n_1), .second, .val (.long q5n_2), .second, .val (.long (ql + q5n_2)), .second, .val (.long (1 : Int64)), .second] [(.long (qh + (q5n_1 + (1 : Int64)))), (.ref q5n_0)])) t
      exact k)
    obtain ⟨T14, h14, X14, e14, W14, st14⟩ := putF X11 hx hZ hown (host := "") (Or.inl (hw _ (List.mem_of_getElem? (i := 38) rfl))) Via.refl e11 F9 F12 (Or.inl (hw _ (List.mem_of_getElem? (i := 39) rfl))) (hw _ (List.mem_of_getElem? (i := 2) rfl)) (ty := .long) (by decide) rfl rfl (g := (mkF m 43 #[.val (.ref q5n_0), .val (.long q5n_1), .second, .val (.long q5n_2), .second, .val (.long (ql + q5n_2)), .second, .val (.long (1 : Int64)), .second] [(.long (qh + (q5n_1 + (1 : Int64)))), (.ref q5n_0)])) rfl rfl (hb hby d5_43)
    have K14 : Keep h0 h14 [q5n_0] := K8.wr W14 (Or.inl (by simp))
    have N14 := Fr.snoc X14 N8 g_q5n_0
    have F14w : Fld Z h14 q5n_0 "dev/quotefuse/engine/WideCount" "high" "J" (.long (qh + (q5n_1 + (1 : Int64)))) := F9.same W14
    have P14 : own_Go p e below S0 (T14.setTop (mkF m 46 #[.val (.ref q5n_0), .val (.long q5n_1), .second, .val (.long q5n_2), .second, .val (.long (ql + q5n_2)), .second, .val (.long (1 : Int64)), .second] [])) := fun t k => P13 t (st14 _ k)
    have P15 : own_Go p e below S0 (T14.setTop (mkF m 47 #[.val (.ref q5n_0), .val (.long q5n_1), .second, .val (.long q5n_2), .second, .val (.long (ql + q5n_2)), .second, .val (.long (1 : Int64)), .second] [(.ref q5n_0)])) := fun t k => P14 t (by
      show Steps p.tables e below (T14.setTop (mkF m 46 #[.val (.ref q5n_0), .val (.long q5n_1), .second, .val (.long q5n_2), .second, .val (.long (ql + q5n_2)), .second, .val (.long (1 : Int64)), .second] [])) t
      refine XS.aloadN X14.here hx rfl (hb hby d5_46) rfl rfl ?_
      show Steps p.tables e below (T14.setTop (mkF m 47 #[.val (.ref q5n_0), .val (.long q5n_1), .second, .val (.long q5n_2), .second, .val (.long (ql + q5n_2)), .second, .val (.long (1 : Int64)), .second] [(.ref q5n_0)])) t
      exact k)
    obtain ⟨T16, X16, e16, st16⟩ := getF X14 hx hZ hown (host := "") (Or.inl (hw _ (List.mem_of_getElem? (i := 38) rfl))) Via.refl e14 F14w (g := (mkF m 47 #[.val (.ref q5n_0), .val (.long q5n_1), .second, .val (.long q5n_2), .second, .val (.long (ql + q5n_2)), .second, .val (.long (1 : Int64)), .second] [(.ref q5n_0)])) rfl rfl (hb hby d5_47)
    have P16 : own_Go p e below S0 (T16.setTop (mkF m 50 #[.val (.ref q5n_0), .val (.long q5n_1), .second, .val (.long q5n_2), .second, .val (.long (ql + q5n_2)), .second, .val (.long (1 : Int64)), .second] [(.long (qh + (q5n_1 + (1 : Int64))))])) := fun t k => P15 t (st16 _ k)
    have c17 : ¬ ((qh + (q5n_1 + (1 : Int64))) < (0 : Int64)) := hno.1 c6
    have P18 : own_Go p e below S0 (T16.setTop (mkF m 81 #[.val (.ref q5n_0), .val (.long q5n_1), .second, .val (.long q5n_2), .second, .val (.long (ql + q5n_2)), .second, .val (.long (1 : Int64)), .second] [])) := fun t k => P16 t (by
      show Steps p.tables e below (T16.setTop (mkF m 50 #[.val (.ref q5n_0), .val (.long q5n_1), .second, .val (.long q5n_2), .second, .val (.long (ql + q5n_2)), .second, .val (.long (1 : Int64)), .second] [(.long (qh + (q5n_1 + (1 : Int64))))])) t
      refine XS.lconst X16.here hx rfl (hb hby d5_50) ?_
      refine XS.lcmp X16.here hx rfl (hb hby d5_51) rfl ?_
      refine XS.ifYes X16.here hx rfl (pc0 := 52) (pc' := 81) rfl (hb hby d5_52) rfl ((if0 _ _).trans (flt (fun q => c17 ((lw_lt (qh + (q5n_1 + (1 : Int64))) (0 : Int64)).mp q))).2.1) (by decide) (by decide) ?_
      show Steps p.tables e below (T16.setTop (mkF m 81 #[.val (.ref q5n_0), .val (.long q5n_1), .second, .val (.long q5n_2), .second, .val (.long (ql + q5n_2)), .second, .val (.long (1 : Int64)), .second] [])) t
      exact k)
    have F19 : Fld Z h14 q5n_0 "dev/quotefuse/engine/WideCount" "low" "J" (.long (ql + q5n_2)) := F8w.other W14 (Or.inr (slot_ne (Or.inl (hw _ (List.mem_of_getElem? (i := 29) rfl))) (Or.inl (hw _ (List.mem_of_getElem? (i := 39) rfl))) (by decide) (t := .long) (t' := .long) (by decide) (by decide)))
    have F20 : Fld Z h8 q5n_0 "dev/quotefuse/engine/WideCount" "beyond" "Ljava/math/BigInteger;" (.ref w5n_q5n_0_beyond) := F_q5n_0_beyond.other W8 (Or.inr (slot_ne (Or.inl (hw _ (List.mem_of_getElem? (i := 13) rfl))) (Or.inl (hw _ (List.mem_of_getElem? (i := 29) rfl))) (by decide) (t := (.object "java/math/BigInteger")) (t' := .long) (by decide) (by decide)))
    have F21 : Fld Z h14 q5n_0 "dev/quotefuse/engine/WideCount" "beyond" "Ljava/math/BigInteger;" (.ref w5n_q5n_0_beyond) := F20.other W14 (Or.inr (slot_ne (Or.inl (hw _ (List.mem_of_getElem? (i := 13) rfl))) (Or.inl (hw _ (List.mem_of_getElem? (i := 39) rfl))) (by decide) (t := (.object "java/math/BigInteger")) (t' := .long) (by decide) (by decide)))
    obtain ⟨fs, hr, hrun, hended, hW, hsame⟩ := X16.leave (v := none) (fun _ => rfl) (BodyLoose.notSynchronized Bd)
    refine ⟨_, _, own_from hE0 (P18 _ ?_), hrun, hended, _, _, rfl, ?_, ⟨_, rfl⟩, hW, hsame.mono (by decide) (by decide)⟩
    · show Steps p.tables e below (T16.setTop (mkF m 81 #[.val (.ref q5n_0), .val (.long q5n_1), .second, .val (.long q5n_2), .second, .val (.long (ql + q5n_2)), .second, .val (.long (1 : Int64)), .second] [])) _
      exact X16.returnOut hx Bd.returns (hb hby d5_81) hr
    · show Q5n Z q5n_0 q5n_1 q5n_2 ql qh w5n_q5n_0_beyond h0 n0 _ T16.heap _
      rw [e16]
      exact ⟨rfl, N14, K14, F19, (Eq.mp (congrArg (fun z => Fld Z h14 q5n_0 "dev/quotefuse/engine/WideCount" "high" "J" (.long z)) (Eq.symm (if_pos c6))) F14w), F21⟩
  · skip
    have P22 : own_Go p e below S0 (T5.setTop (mkF m 30 #[.val (.ref q5n_0), .val (.long q5n_1), .second, .val (.long q5n_2), .second, .val (.long (ql + q5n_2)), .second, .val (.long (0 : Int64)), .second] [(.long (ql + q5n_2)), (.ref q5n_0)])) := fun t k => P5 t (by
      show Steps p.tables e below (T5.setTop (mkF m 17 #[.val (.ref q5n_0), .val (.long q5n_1), .second, .val (.long q5n_2), .second, .val (.long (ql + q5n_2)), .second, .unset, .unset] [(.int (own_cu (ql + q5n_2) ql))])) t
      refine XS.ifYes X5.here hx rfl (pc0 := 17) (pc' := 24) rfl (hb hby d5_17) rfl ((if0 _ _).trans (flt c6).2.1) (by decide) (by decide) ?_
      refine XS.lconst X5.here hx rfl (hb hby d5_24) ?_
      refine XS.lstore X5.here hx rfl (hb hby d5_25) rfl (l' := #[.val (.ref q5n_0), .val (.long q5n_1), .second, .val (.long q5n_2), .second, .val (.long (ql + q5n_2)), .second, .val (.long (0 : Int64)), .second]) rfl ?_
      refine XS.aloadN X5.here hx rfl (hb hby d5_27) rfl rfl ?_
      refine XS.lload X5.here hx rfl (hb hby d5_28) rfl ?_
      show Steps p.tables e below (T5.setTop (mkF m 30 #[.val (.ref q5n_0), .val (.long q5n_1), .second, .val (.long q5n_2), .second, .val (.long (ql + q5n_2)), .second, .val (.long (0 : Int64)), .second] [(.long (ql + q5n_2)), (.ref q5n_0)])) t
      exact k)
    obtain ⟨T23, h23, X23, e23, W23, st23⟩ := putF X5 hx hZ hown (host := "") (Or.inl (hw _ (List.mem_of_getElem? (i := 28) rfl))) Via.refl e5 F_q5n_0_low E_q5n_0 (Or.inl (hw _ (List.mem_of_getElem? (i := 29) rfl))) (hw _ (List.mem_of_getElem? (i := 2) rfl)) (ty := .long) (by decide) rfl rfl (g := (mkF m 30 #[.val (.ref q5n_0), .val (.long q5n_1), .second, .val (.long q5n_2), .second, .val (.long (ql + q5n_2)), .second, .val (.long (0 : Int64)), .second] [(.long (ql + q5n_2)), (.ref q5n_0)])) rfl rfl (hb hby d5_30)
    have K23 : Keep h0 h23 [q5n_0] := (Keep.refl h0 [q5n_0]).wr W23 (Or.inl (by simp))
    have N23 := Fr.snoc X23 N5 g_q5n_0
    have F23w : Fld Z h23 q5n_0 "dev/quotefuse/engine/WideCount" "low" "J" (.long (ql + q5n_2)) := F_q5n_0_low.same W23
    have P23 : own_Go p e below S0 (T23.setTop (mkF m 33 #[.val (.ref q5n_0), .val (.long q5n_1), .second, .val (.long q5n_2), .second, .val (.long (ql + q5n_2)), .second, .val (.long (0 : Int64)), .second] [])) := fun t k => P22 t (st23 _ k)
    have F24 : Fld Z h23 q5n_0 "dev/quotefuse/engine/WideCount" "high" "J" (.long qh) := F_q5n_0_high.other W23 (Or.inr (slot_ne (Or.inl (hw _ (List.mem_of_getElem? (i := 39) rfl))) (Or.inl (hw _ (List.mem_of_getElem? (i := 29) rfl))) (by decide) (t := .long) (t' := .long) (by decide) (by decide)))
    have P25 : own_Go p e below S0 (T23.setTop (mkF m 35 #[.val (.ref q5n_0), .val (.long q5n_1), .second, .val (.long q5n_2), .second, .val (.long (ql + q5n_2)), .second, .val (.long (0 : Int64)), .second] [(.ref q5n_0), (.ref q5n_0)])) := fun t k => P23 t (by
      show Steps p.tables e below (T23.setTop (mkF m 33 #[.val (.ref q5n_0), .val (.long q5n_1), .second, .val (.long q5n_2), .second, .val (.long (ql + q5n_2)), .second, .val (.long (0 : Int64)), .second] [])) t
      refine XS.aloadN X23.here hx rfl (hb hby d5_33) rfl rfl ?_
      refine XS.dup X23.here hx rfl (hb hby d5_34) rfl rfl ?_
      show Steps p.tables e below (T23.setTop (mkF m 35 #[.val (.ref q5n_0), .val (.long q5n_1), .second, .val (.long q5n_2), .second, .val (.long (ql + q5n_2)), .second, .val (.long (0 : Int64)), .second] [(.ref q5n_0), (.ref q5n_0)])) t
      exact k)
    obtain ⟨T26, X26, e26, st26⟩ := getF X23 hx hZ hown (host := "") (Or.inl (hw _ (List.mem_of_getElem? (i := 38) rfl))) Via.refl e23 F24 (g := (mkF m 35 #[.val (.ref q5n_0), .val (.long q5n_1), .second, .val (.long q5n_2), .second, .val (.long (ql + q5n_2)), .second, .val (.long (0 : Int64)), .second] [(.ref q5n_0), (.ref q5n_0)])) rfl rfl (hb hby d5_35)
    have P26 : own_Go p e below S0 (T26.setTop (mkF m 38 #[.val (.ref q5n_0), .val (.long q5n_1), .second, .val (.long q5n_2), .second, .val (.long (ql + q5n_2)), .second, .val (.long (0 : Int64)), .second] [(.long qh), (.ref q5n_0)])) := fun t k => P25 t (st26 _ k)
    have F27 : Exa Z h23 q5n_0 "dev/quotefuse/engine/WideCount" := E_q5n_0.wr W23
    have P28 : own_Go p e below S0 (T26.setTop (mkF m 43 #[.val (.ref q5n_0), .val (.long q5n_1), .second, .val (.long q5n_2), .second, .val (.long (ql + q5n_2)), .second, .val (.long (0 : Int64)), .second] [(.long (qh + (q5n_1 + (0 : Int64)))), (.ref q5n_0)])) := fun t k => P26 t (by
      show Steps p.tables e below (T26.setTop (mkF m 38 #[.val (.ref q5n_0), .val (.long q5n_1), .second, .val (.long q5n_2), .second, .val (.long (ql + q5n_2)), .second, .val (.long (0 : Int64)), .second] [(.long qh), (.ref q5n_0)])) t
      refine XS.lloadN X26.here hx rfl (hb hby d5_38) rfl ?_
      refine XS.lload X26.here hx rfl (hb hby d5_39) rfl ?_
      refine XS.ladd X26.here hx rfl (hb hby d5_41) rfl ?_
      refine XS.ladd X26.here hx rfl (hb hby d5_42) rfl ?_
      show Steps p.tables e below (T26.setTop (mkF m 43 #[.val (.ref q5n_0), .val (.long q5n_1), .second, .val (.long q5n_2), .second, .val (.long (ql + q5n_2)), .second, .val (.long (0 : Int64)), .second] [(.long (qh + (q5n_1 + (0 : Int64)))), (.ref q5n_0)])) t
      exact k)
    obtain ⟨T29, h29, X29, e29, W29, st29⟩ := putF X26 hx hZ hown (host := "") (Or.inl (hw _ (List.mem_of_getElem? (i := 38) rfl))) Via.refl e26 F24 F27 (Or.inl (hw _ (List.mem_of_getElem? (i := 39) rfl))) (hw _ (List.mem_of_getElem? (i := 2) rfl)) (ty := .long) (by decide) rfl rfl (g := (mkF m 43 #[.val (.ref q5n_0), .val (.long q5n_1), .second, .val (.long q5n_2), .second, .val (.long (ql + q5n_2)), .second, .val (.long (0 : Int64)), .second] [(.long (qh + (q5n_1 + (0 : Int64)))), (.ref q5n_0)])) rfl rfl (hb hby d5_43)
    have K29 : Keep h0 h29 [q5n_0] := K23.wr W29 (Or.inl (by simp))
    have N29 := Fr.snoc X29 N23 g_q5n_0
    have F29w : Fld Z h29 q5n_0 "dev/quotefuse/engine/WideCount" "high" "J" (.long (qh + (q5n_1 + (0 : Int64)))) := F24.same W29
    have P29 : own_Go p e below S0 (T29.setTop (mkF m 46 #[.val (.ref q5n_0), .val (.long q5n_1), .second, .val (.long q5n_2), .second, .val (.long (ql + q5n_2)), .second, .val (.long (0 : Int64)), .second] [])) := fun t k => P28 t (st29 _ k)
    have P30 : own_Go p e below S0 (T29.setTop (mkF m 47 #[.val (.ref q5n_0), .val (.long q5n_1), .second, .val (.long q5n_2), .second, .val (.long (ql + q5n_2)), .second, .val (.long (0 : Int64)), .second] [(.ref q5n_0)])) := fun t k => P29 t (by
      show Steps p.tables e below (T29.setTop (mkF m 46 #[.val (.ref q5n_0), .val (.long q5n_1), .second, .val (.long q5n_2), .second, .val (.long (ql + q5n_2)), .second, .val (.long (0 : Int64)), .second] [])) t
      refine XS.aloadN X29.here hx rfl (hb hby d5_46) rfl rfl ?_
      show Steps p.tables e below (T29.setTop (mkF m 47 #[.val (.ref q5n_0), .val (.long q5n_1), .second, .val (.long q5n_2), .second, .val (.long (ql + q5n_2)), .second, .val (.long (0 : Int64)), .second] [(.ref q5n_0)])) t
      exact k)
    obtain ⟨T31, X31, e31, st31⟩ := getF X29 hx hZ hown (host := "") (Or.inl (hw _ (List.mem_of_getElem? (i := 38) rfl))) Via.refl e29 F29w (g := (mkF m 47 #[.val (.ref q5n_0), .val (.long q5n_1), .second, .val (.long q5n_2), .second, .val (.long (ql + q5n_2)), .second, .val (.long (0 : Int64)), .second] [(.ref q5n_0)])) rfl rfl (hb hby d5_47)
    have P31 : own_Go p e below S0 (T31.setTop (mkF m 50 #[.val (.ref q5n_0), .val (.long q5n_1), .second, .val (.long q5n_2), .second, .val (.long (ql + q5n_2)), .second, .val (.long (0 : Int64)), .second] [(.long (qh + (q5n_1 + (0 : Int64))))])) := fun t k => P30 t (st31 _ k)
    have c32 : ¬ ((qh + (q5n_1 + (0 : Int64))) < (0 : Int64)) := hno.2 c6
    have P33 : own_Go p e below S0 (T31.setTop (mkF m 81 #[.val (.ref q5n_0), .val (.long q5n_1), .second, .val (.long q5n_2), .second, .val (.long (ql + q5n_2)), .second, .val (.long (0 : Int64)), .second] [])) := fun t k => P31 t (by
      show Steps p.tables e below (T31.setTop (mkF m 50 #[.val (.ref q5n_0), .val (.long q5n_1), .second, .val (.long q5n_2), .second, .val (.long (ql + q5n_2)), .second, .val (.long (0 : Int64)), .second] [(.long (qh + (q5n_1 + (0 : Int64))))])) t
      refine XS.lconst X31.here hx rfl (hb hby d5_50) ?_
      refine XS.lcmp X31.here hx rfl (hb hby d5_51) rfl ?_
      refine XS.ifYes X31.here hx rfl (pc0 := 52) (pc' := 81) rfl (hb hby d5_52) rfl ((if0 _ _).trans (flt (fun q => c32 ((lw_lt (qh + (q5n_1 + (0 : Int64))) (0 : Int64)).mp q))).2.1) (by decide) (by decide) ?_
      show Steps p.tables e below (T31.setTop (mkF m 81 #[.val (.ref q5n_0), .val (.long q5n_1), .second, .val (.long q5n_2), .second, .val (.long (ql + q5n_2)), .second, .val (.long (0 : Int64)), .second] [])) t
      exact k)
    have F34 : Fld Z h29 q5n_0 "dev/quotefuse/engine/WideCount" "low" "J" (.long (ql + q5n_2)) := F23w.other W29 (Or.inr (slot_ne (Or.inl (hw _ (List.mem_of_getElem? (i := 29) rfl))) (Or.inl (hw _ (List.mem_of_getElem? (i := 39) rfl))) (by decide) (t := .long) (t' := .long) (by decide) (by decide)))
    have F35 : Fld Z h23 q5n_0 "dev/quotefuse/engine/WideCount" "beyond" "Ljava/math/BigInteger;" (.ref w5n_q5n_0_beyond) := F_q5n_0_beyond.other W23 (Or.inr (slot_ne (Or.inl (hw _ (List.mem_of_getElem? (i := 13) rfl))) (Or.inl (hw _ (List.mem_of_getElem? (i := 29) rfl))) (by decide) (t := (.object "java/math/BigInteger")) (t' := .long) (by decide) (by decide)))
    have F36 : Fld Z h29 q5n_0 "dev/quotefuse/engine/WideCount" "beyond" "Ljava/math/BigInteger;" (.ref w5n_q5n_0_beyond) := F35.other W29 (Or.inr (slot_ne (Or.inl (hw _ (List.mem_of_getElem? (i := 13) rfl))) (Or.inl (hw _ (List.mem_of_getElem? (i := 39) rfl))) (by decide) (t := (.object "java/math/BigInteger")) (t' := .long) (by decide) (by decide)))
    obtain ⟨fs, hr, hrun, hended, hW, hsame⟩ := X31.leave (v := none) (fun _ => rfl) (BodyLoose.notSynchronized Bd)
    refine ⟨_, _, own_from hE0 (P33 _ ?_), hrun, hended, _, _, rfl, ?_, ⟨_, rfl⟩, hW, hsame.mono (by decide) (by decide)⟩
    · show Steps p.tables e below (T31.setTop (mkF m 81 #[.val (.ref q5n_0), .val (.long q5n_1), .second, .val (.long q5n_2), .second, .val (.long (ql + q5n_2)), .second, .val (.long (0 : Int64)), .second] [])) _
      exact X31.returnOut hx Bd.returns (hb hby d5_81) hr
    · show Q5n Z q5n_0 q5n_1 q5n_2 ql qh w5n_q5n_0_beyond h0 n0 _ T31.heap _
      rw [e31]
      exact ⟨rfl, N29, K29, F34, (Eq.mp (congrArg (fun z => Fld Z h29 q5n_0 "dev/quotefuse/engine/WideCount" "high" "J" (.long z)) (Eq.symm (if_neg c6))) F29w), F36⟩
theorem pd_1 : parseMethodDescriptor "(Ljava/math/BigInteger;)Ljava/math/BigInteger;" = some ⟨[(.object "java/math/BigInteger")], some (.object "java/math/BigInteger")⟩ := by decide +kernel
theorem d5_55 : decode prog_40_method_9_code 55 = .ok (.aload_n 0, 1) := by decide +kernel
theorem d5_56 : decode prog_40_method_9_code 56 = .ok (.dup, 1) := by decide +kernel
theorem d5_57 : decode prog_40_method_9_code 57 = .ok (.getfield 38, 3) := by decide +kernel
theorem d5_60 : decode prog_40_method_9_code 60 = .ok (.ldc2_w 41, 3) := by decide +kernel
theorem d5_63 : decode prog_40_method_9_code 63 = .ok (.land, 1) := by decide +kernel
theorem d5_64 : decode prog_40_method_9_code 64 = .ok (.putfield 38, 3) := by decide +kernel
theorem d5_67 : decode prog_40_method_9_code 67 = .ok (.aload_n 0, 1) := by decide +kernel
theorem d5_68 : decode prog_40_method_9_code 68 = .ok (.aload_n 0, 1) := by decide +kernel
theorem d5_69 : decode prog_40_method_9_code 69 = .ok (.getfield 13, 3) := by decide +kernel
theorem d5_72 : decode prog_40_method_9_code 72 = .ok (.getstatic 43, 3) := by decide +kernel
theorem d5_75 : decode prog_40_method_9_code 75 = .ok (.invokevirtual 64, 3) := by decide +kernel
theorem d5_78 : decode prog_40_method_9_code 78 = .ok (.putfield 13, 3) := by decide +kernel
theorem ef_5v (m : MethodId) (q5v_0 : Addr) (q5v_1 : Int64) (q5v_2 : Int64) : entryFrame m #[(.ref q5v_0), (.long q5v_1), (.long q5v_2)] 9 = mkF m 0 #[.val (.ref q5v_0), .val (.long q5v_1), .second, .val (.long q5v_2), .second, .unset, .unset, .unset, .unset] [] := by first | (simp [entryFrame, mkF, argsToLocals, Value.category]; done) | rfl
def f5v_high (q5v_1 : Int64) (q5v_2 : Int64) (ql : Int64) (qh : Int64) : Int64 := (if (own_cu (ql + q5v_2) ql) < (0 : Int32) then ((qh + (q5v_1 + (1 : Int64))) &&& (9223372036854775807 : Int64)) else ((qh + (q5v_1 + (0 : Int64))) &&& (9223372036854775807 : Int64)))
def Q5v (Z : State) (q5v_0 : Addr) (q5v_1 : Int64) (q5v_2 : Int64) (ql : Int64) (qh : Int64) (qb : Addr) (qo : Addr) (h0 : Heap) (n0 : Nat) (v : Option Value) (h : Heap) (L : List Loc) : Prop := v = none ∧ Fr n0 L ∧ Keep h0 h [q5v_0] ∧ Fld Z h q5v_0 "dev/quotefuse/engine/WideCount" "low" "J" (.long (ql + q5v_2)) ∧ Fld Z h q5v_0 "dev/quotefuse/engine/WideCount" "high" "J" (.long (f5v_high q5v_1 q5v_2 ql qh)) ∧ Fld Z h q5v_0 "dev/quotefuse/engine/WideCount" "beyond" "Ljava/math/BigInteger;" (.ref qo)
set_option maxRecDepth 65536 in
set_option maxHeartbeats 40000000 in
theorem rm5v (l : Launch) (Z : State) (a0 : Array Value) (hw : ∀ d ∈ tables_1, d.before a0 Z = true) (ws : List Jvm.Cond) (q5v_0 : Addr) (q5v_1 : Int64) (q5v_2 : Int64) (ql : Int64) (qh : Int64) (qb : Addr) (qo : Addr) (h0 : Heap) (n0 : Nat) (Z0 : n0 ≤ h0.size) (F_q5v_0_low : Fld Z h0 q5v_0 "dev/quotefuse/engine/WideCount" "low" "J" (.long ql)) (F_q5v_0_high : Fld Z h0 q5v_0 "dev/quotefuse/engine/WideCount" "high" "J" (.long qh)) (hov : (((own_cu (ql + q5v_2) ql) < (0 : Int32)) → (qh + (q5v_1 + (1 : Int64))) < (0 : Int64)) ∧ (¬ ((own_cu (ql + q5v_2) ql) < (0 : Int32)) → (qh + (q5v_1 + (0 : Int64))) < (0 : Int64))) (F_q5v_0_beyond : Fld Z h0 q5v_0 "dev/quotefuse/engine/WideCount" "beyond" "Ljava/math/BigInteger;" (.ref qb)) (F_qb_signum : Fld Z h0 qb "java/math/BigInteger" "signum" "I" (.int (0 : Int32))) (E_qb : Exa Z h0 qb "java/math/BigInteger") (S_ONE : Sta Z h0 "java/math/BigInteger" "ONE" "Ljava/math/BigInteger;" (.ref qo)) (F_qo_signum : Fld Z h0 qo "java/math/BigInteger" "signum" "I" (.int (1 : Int32))) (E_q5v_0 : Exa Z h0 q5v_0 "dev/quotefuse/engine/WideCount") (g_q5v_0 : n0 ≤ q5v_0) (hne_qb_q5v_0 : qb ≠ q5v_0) (hne_qo_q5v_0 : qo ≠ q5v_0) :
    MetFree l (⟨"dev/quotefuse/engine/WideCount", "plus", "(JJ)V"⟩ : MethodName) (head1 (Jvm.Cond.code (⟨"dev/quotefuse/engine/WideCount", "plus", "(JJ)V"⟩ : MethodName) prog_40_method_9_code 9 none :: ws) ({ frames := 2, cells := 0, slots := 0, locals := 30 } : Room)) (fun a U => a = #[(.ref q5v_0), (.long q5v_1), (.long q5v_2)] ∧ Z.Warmed39 U.vm ∧ U.heap = h0) (fun _ _ _ _ _ => True) (fun _ U o U' => ∃ v L, o = .returned v ∧ Q5v Z q5v_0 q5v_1 q5v_2 ql qh qb qo h0 n0 v U'.heap L ∧ FrameEnd U o U' L ({ frames := 2, cells := 0, slots := 0, locals := 30 } : Room).cells ({ frames := 2, cells := 0, slots := 0, locals := 30 } : Room).slots) := by
  refine MetFree.of_bodySF (plainFor_of_name pn_1) hisR ?_
  intro p e s m args below meth c s₁ Bd hml0 hP hK
  obtain ⟨rfl, hZ, hh⟩ := hP
  have hx := Bd.exec
  have hby := Bd.bytes
  have hml : c.maxLocals = 9 := hml0
  have hown : s.vm.findClass "dev/quotefuse/engine/WideCount" = some m.cls := findClass_of_methodNamed Bd.named
  have hnm := (name_of_methodNamed Bd.named Bd.method).1
  have X0 : Stand p l e ({ frames := 2, cells := 0, slots := 0, locals := 30 } : Room) s m #[(.ref q5v_0), (.long q5v_1), (.long q5v_2)] below meth c s₁ [] 0 0 := Stand.of_body Bd
  have e0 : s₁.heap = h0 := by rw [← hh, Bd.state]; rfl
  have N0 := Fr.nil n0
  obtain ⟨S0, hE0⟩ : ∃ z, z = s₁.setTop (entryFrame m #[(.ref q5v_0), (.long q5v_1), (.long q5v_2)] 9) := ⟨_, rfl⟩
  have P0 : own_Go p e below S0 (s₁.setTop (mkF m 0 #[.val (.ref q5v_0), .val (.long q5v_1), .second, .val (.long q5v_2), .second, .unset, .unset, .unset, .unset] [])) := fun t k => by rw [hE0]; exact castTop (ef_5v m q5v_0 q5v_1 q5v_2) k
  have P1 : own_Go p e below S0 (s₁.setTop (mkF m 1 #[.val (.ref q5v_0), .val (.long q5v_1), .second, .val (.long q5v_2), .second, .unset, .unset, .unset, .unset] [(.ref q5v_0)])) := fun t k => P0 t (by
    show Steps p.tables e below (s₁.setTop (mkF m 0 #[.val (.ref q5v_0), .val (.long q5v_1), .second, .val (.long q5v_2), .second, .unset, .unset, .unset, .unset] [])) t
    refine XS.aloadN X0.here hx rfl (hb hby d5_0) rfl rfl ?_
    show Steps p.tables e below (s₁.setTop (mkF m 1 #[.val (.ref q5v_0), .val (.long q5v_1), .second, .val (.long q5v_2), .second, .unset, .unset, .unset, .unset] [(.ref q5v_0)])) t
    exact k)
  obtain ⟨T2, X2, e2, st2⟩ := getF X0 hx hZ hown (host := "") (Or.inl (hw _ (List.mem_of_getElem? (i := 28) rfl))) Via.refl e0 F_q5v_0_low (g := (mkF m 1 #[.val (.ref q5v_0), .val (.long q5v_1), .second, .val (.long q5v_2), .second, .unset, .unset, .unset, .unset] [(.ref q5v_0)])) rfl rfl (hb hby d5_1)
  have P2 : own_Go p e below S0 (T2.setTop (mkF m 4 #[.val (.ref q5v_0), .val (.long q5v_1), .second, .val (.long q5v_2), .second, .unset, .unset, .unset, .unset] [(.long ql)])) := fun t k => P1 t (st2 _ k)
  have P3 : own_Go p e below S0 (T2.setTop (mkF m 11 #[.val (.ref q5v_0), .val (.long q5v_1), .second, .val (.long q5v_2), .second, .val (.long (ql + q5v_2)), .second, .unset, .unset] [(.ref q5v_0), (.long (ql + q5v_2))])) := fun t k => P2 t (by
    show Steps p.tables e below (T2.setTop (mkF m 4 #[.val (.ref q5v_0), .val (.long q5v_1), .second, .val (.long q5v_2), .second, .unset, .unset, .unset, .unset] [(.long ql)])) t
    refine XS.lloadN X2.here hx rfl (hb hby d5_4) rfl ?_
    refine XS.ladd X2.here hx rfl (hb hby d5_5) rfl ?_
    refine XS.lstore X2.here hx rfl (hb hby d5_6) rfl (l' := #[.val (.ref q5v_0), .val (.long q5v_1), .second, .val (.long q5v_2), .second, .val (.long (ql + q5v_2)), .second, .unset, .unset]) rfl ?_
    refine XS.lload X2.here hx rfl (hb hby d5_8) rfl ?_
    refine XS.aloadN X2.here hx rfl (hb hby d5_10) rfl rfl ?_
    show Steps p.tables e below (T2.setTop (mkF m 11 #[.val (.ref q5v_0), .val (.long q5v_1), .second, .val (.long q5v_2), .second, .val (.long (ql + q5v_2)), .second, .unset, .unset] [(.ref q5v_0), (.long (ql + q5v_2))])) t
    exact k)
  obtain ⟨T4, X4, e4, st4⟩ := getF X2 hx hZ hown (host := "") (Or.inl (hw _ (List.mem_of_getElem? (i := 28) rfl))) Via.refl e2 F_q5v_0_low (g := (mkF m 11 #[.val (.ref q5v_0), .val (.long q5v_1), .second, .val (.long q5v_2), .second, .val (.long (ql + q5v_2)), .second, .unset, .unset] [(.ref q5v_0), (.long (ql + q5v_2))])) rfl rfl (hb hby d5_11)
  have P4 : own_Go p e below S0 (T4.setTop (mkF m 14 #[.val (.ref q5v_0), .val (.long q5v_1), .second, .val (.long q5v_2), .second, .val (.long (ql + q5v_2)), .second, .unset, .unset] [(.long ql), (.long (ql + q5v_2))])) := fun t k => P3 t (st4 _ k)
  obtain ⟨_, _, ⟨T5, L5, k5, n5⟩, -, X5, ⟨Lc5, hQ5, l5, y5, z5⟩, st5⟩ := Jvm.LawKit.callS X4 hx (y := (⟨"java/lang/Long", "compareUnsigned", "(JJ)I"⟩ : MethodName)) hown (mvT hZ (hw _ (List.mem_of_getElem? (i := 30) rfl))) (mvT hZ (hw _ (List.mem_of_getElem? (i := 31) rfl))) (mvT hZ (hw _ (List.mem_of_getElem? (i := 32) rfl))) (mvT hZ (hw _ (List.mem_of_getElem? (i := 33) rfl))) (by decide) (backOf (W := 0) (rm6 l Z a0 hw [] (ql + q5v_2) ql h0 n0 Z0) hZ (hw _ (List.mem_of_getElem? (i := 33) rfl)) (hw _ (List.mem_of_getElem? (i := 32) rfl)) (by decide) (by decide)) (g := (mkF m 14 #[.val (.ref q5v_0), .val (.long q5v_1), .second, .val (.long q5v_2), .second, .val (.long (ql + q5v_2)), .second, .unset, .unset] [(.long ql), (.long (ql + q5v_2))])) rfl (by rw [hml]; rfl) (argsL := [(.long (ql + q5v_2)), (.long ql)]) (rest := []) (lenOf pd_0 rfl) rfl (by show 2 * 0 + _ ≤ _; exact Nat.le_of_eq rfl) (hb hby d5_14) (fun _ _ => ⟨rfl, e4, (by decide : 0 + 0 ≤ _), (by decide : 0 + 0 ≤ _)⟩)
  dsimp only [Pt.U, Pt.locs, Pt.cells, Pt.slots] at X5 l5 y5 z5 st5 hQ5
  subst l5 y5 z5
  obtain ⟨rfl, N5q, e5⟩ := hQ5
  have N5 := Fr.app N0 N5q
  have P5 : own_Go p e below S0 (T5.setTop (mkF m 17 #[.val (.ref q5v_0), .val (.long q5v_1), .second, .val (.long q5v_2), .second, .val (.long (ql + q5v_2)), .second, .unset, .unset] [(.int (own_cu (ql + q5v_2) ql))])) := fun t k => P4 t (st5 _ k)
  by_cases c6 : (own_cu (ql + q5v_2) ql) < (0 : Int32)
  · skip
    have P7 : own_Go p e below S0 (T5.setTop (mkF m 30 #[.val (.ref q5v_0), .val (.long q5v_1), .second, .val (.long q5v_2), .second, .val (.long (ql + q5v_2)), .second, .val (.long (1 : Int64)), .second] [(.long (ql + q5v_2)), (.ref q5v_0)])) := fun t k => P5 t (by
      show Steps p.tables e below (T5.setTop (mkF m 17 #[.val (.ref q5v_0), .val (.long q5v_1), .second, .val (.long q5v_2), .second, .val (.long (ql + q5v_2)), .second, .unset, .unset] [(.int (own_cu (ql + q5v_2) ql))])) t
      refine XS.ifNo X5.here hx rfl (hb hby d5_17) rfl ((if0 _ _).trans (tlt c6).2.1) ?_
      refine XS.lconst X5.here hx rfl (hb hby d5_20) ?_
      refine XS.goto X5.here hx rfl (pc0 := 21) (pc' := 25) rfl (hb hby d5_21) (by decide) (by decide) ?_
      refine XS.lstore X5.here hx rfl (hb hby d5_25) rfl (l' := #[.val (.ref q5v_0), .val (.long q5v_1), .second, .val (.long q5v_2), .second, .val (.long (ql + q5v_2)), .second, .val (.long (1 : Int64)), .second]) rfl ?_
      refine XS.aloadN X5.here hx rfl (hb hby d5_27) rfl rfl ?_
      refine XS.lload X5.here hx rfl (hb hby d5_28) rfl ?_
      show Steps p.tables e below (T5.setTop (mkF m 30 #[.val (.ref q5v_0), .val (.long q5v_1), .second, .val (.long q5v_2), .second, .val (.long (ql + q5v_2)), .second, .val (.long (1 : Int64)), .second] [(.long (ql + q5v_2)), (.ref q5v_0)])) t
      exact k)
    obtain ⟨T8, h8, X8, e8, W8, st8⟩ := putF X5 hx hZ hown (host := "") (Or.inl (hw _ (List.mem_of_getElem? (i := 28) rfl))) Via.refl e5 F_q5v_0_low E_q5v_0 (Or.inl (hw _ (List.mem_of_getElem? (i := 29) rfl))) (hw _ (List.mem_of_getElem? (i := 2) rfl)) (ty := .long) (by decide) rfl rfl (g := (mkF m 30 #[.val (.ref q5v_0), .val (.long q5v_1), .second, .val (.long q5v_2), .second, .val (.long (ql + q5v_2)), .second, .val (.long (1 : Int64)), .second] [(.long (ql + q5v_2)), (.ref q5v_0)])) rfl rfl (hb hby d5_30)
    have K8 : Keep h0 h8 [q5v_0] := (Keep.refl h0 [q5v_0]).wr W8 (Or.inl (by simp))
    have N8 := Fr.snoc X8 N5 g_q5v_0
    have F8w : Fld Z h8 q5v_0 "dev/quotefuse/engine/WideCount" "low" "J" (.long (ql + q5v_2)) := F_q5v_0_low.same W8
    have P8 : own_Go p e below S0 (T8.setTop (mkF m 33 #[.val (.ref q5v_0), .val (.long q5v_1), .second, .val (.long q5v_2), .second, .val (.long (ql + q5v_2)), .second, .val (.long (1 : Int64)), .second] [])) := fun t k => P7 t (st8 _ k)
    have F9 : Fld Z h8 q5v_0 "dev/quotefuse/engine/WideCount" "high" "J" (.long qh) := F_q5v_0_high.other W8 (Or.inr (slot_ne (Or.inl (hw _ (List.mem_of_getElem? (i := 39) rfl))) (Or.inl (hw _ (List.mem_of_getElem? (i := 29) rfl))) (by decide) (t := .long) (t' := .long) (by decide) (by decide)))
    have P10 : own_Go p e below S0 (T8.setTop (mkF m 35 #[.val (.ref q5v_0), .val (.long q5v_1), .second, .val (.long q5v_2), .second, .val (.long (ql + q5v_2)), .second, .val (.long (1 : Int64)), .second] [(.ref q5v_0), (.ref q5v_0)])) := fun t k => P8 t (by
      show Steps p.tables e below (T8.setTop (mkF m 33 #[.val (.ref q5v_0), .val (.long q5v_1), .second, .val (.long q5v_2), .second, .val (.long (ql + q5v_2)), .second, .val (.long (1 : Int64)), .second] [])) t
      refine XS.aloadN X8.here hx rfl (hb hby d5_33) rfl rfl ?_
      refine XS.dup X8.here hx rfl (hb hby d5_34) rfl rfl ?_
      show Steps p.tables e below (T8.setTop (mkF m 35 #[.val (.ref q5v_0), .val (.long q5v_1), .second, .val (.long q5v_2), .second, .val (.long (ql + q5v_2)), .second, .val (.long (1 : Int64)), .second] [(.ref q5v_0), (.ref q5v_0)])) t
      exact k)
    obtain ⟨T11, X11, e11, st11⟩ := getF X8 hx hZ hown (host := "") (Or.inl (hw _ (List.mem_of_getElem? (i := 38) rfl))) Via.refl e8 F9 (g := (mkF m 35 #[.val (.ref q5v_0), .val (.long q5v_1), .second, .val (.long q5v_2), .second, .val (.long (ql + q5v_2)), .second, .val (.long (1 : Int64)), .second] [(.ref q5v_0), (.ref q5v_0)])) rfl rfl (hb hby d5_35)
    have P11 : own_Go p e below S0 (T11.setTop (mkF m 38 #[.val (.ref q5v_0), .val (.long q5v_1), .second, .val (.long q5v_2), .second, .val (.long (ql + q5v_2)), .second, .val (.long (1 : Int64)), .second] [(.long qh), (.ref q5v_0)])) := fun t k => P10 t (st11 _ k)
    have F12 : Exa Z h8 q5v_0 "dev/quotefuse/engine/WideCount" := E_q5v_0.wr W8
    have P13 : own_Go p e below S0 (T11.setTop (mkF m 43 #[.val (.ref q5v_0), .val (.long q5v_1), .second, .val (.long q5v_2), .second, .val (.long (ql + q5v_2)), .second, .val (.long (1 : Int64)), .second] [(.long (qh + (q5v_1 + (1 : Int64)))), (.ref q5v_0)])) := fun t k => P11 t (by
      show Steps p.tables e below (T11.setTop (mkF m 38 #[.val (.ref q5v_0), .val (.long q5v_1), .second, .val (.long q5v_2), .second, .val (.long (ql + q5v_2)), .second, .val (.long (1 : Int64)), .second] [(.long qh), (.ref q5v_0)])) t
      refine XS.lloadN X11.here hx rfl (hb hby d5_38) rfl ?_
      refine XS.lload X11.here hx rfl (hb hby d5_39) rfl ?_
      refine XS.ladd X11.here hx rfl (hb hby d5_41) rfl ?_
      refine XS.ladd X11.here hx rfl (hb hby d5_42) rfl ?_
      show Steps p.tables e below (T11.setTop (mkF m 43 #[.val (.ref q5v_0), .val (.long q5v_1), .second, .val (.long q5v_2), .second, .val (.long (ql + q5v_2)), .second, .val (.long (1 : Int64)), .second] [(.long (qh + (q5v_1 + (1 : Int64)))), (.ref q5v_0)])) t
      exact k)
    obtain ⟨T14, h14, X14, e14, W14, st14⟩ := putF X11 hx hZ hown (host := "") (Or.inl (hw _ (List.mem_of_getElem? (i := 38) rfl))) Via.refl e11 F9 F12 (Or.inl (hw _ (List.mem_of_getElem? (i := 39) rfl))) (hw _ (List.mem_of_getElem? (i := 2) rfl)) (ty := .long) (by decide) rfl rfl (g := (mkF m 43 #[.val (.ref q5v_0), .val (.long q5v_1), .second, .val (.long q5v_2), .second, .val (.long (ql + q5v_2)), .second, .val (.long (1 : Int64)), .second] [(.long (qh + (q5v_1 + (1 : Int64)))), (.ref q5v_0)])) rfl rfl (hb hby d5_43)
    have K14 : Keep h0 h14 [q5v_0] := K8.wr W14 (Or.inl (by simp))
    have N14 := Fr.snoc X14 N8 g_q5v_0
    have F14w : Fld Z h14 q5v_0 "dev/quotefuse/engine/WideCount" "high" "J" (.long (qh + (q5v_1 + (1 : Int64)))) := F9.same W14
    have P14 : own_Go p e below S0 (T14.setTop (mkF m 46 #[.val (.ref q5v_0), .val (.long q5v_1), .second, .val (.long q5v_2), .second, .val (.long (ql + q5v_2)), .second, .val (.long (1 : Int64)), .second] [])) := fun t k => P13 t (st14 _ k)
    have P15 : own_Go p e below S0 (T14.setTop (mkF m 47 #[.val (.ref q5v_0), .val (.long q5v_1), .second, .val (.long q5v_2), .second, .val (.long (ql + q5v_2)), .second, .val (.long (1 : Int64)), .second] [(.ref q5v_0)])) := fun t k => P14 t (by
      show Steps p.tables e below (T14.setTop (mkF m 46 #[.val (.ref q5v_0), .val (.long q5v_1), .second, .val (.long q5v_2), .second, .val (.long (ql + q5v_2)), .second, .val (.long (1 : Int64)), .second] [])) t
      refine XS.aloadN X14.here hx rfl (hb hby d5_46) rfl rfl ?_
      show Steps p.tables e below (T14.setTop (mkF m 47 #[.val (.ref q5v_0), .val (.long q5v_1), .second, .val (.long q5v_2), .second, .val (.long (ql + q5v_2)), .second, .val (.long (1 : Int64)), .second] [(.ref q5v_0)])) t
      exact k)
    obtain ⟨T16, X16, e16, st16⟩ := getF X14 hx hZ hown (host := "") (Or.inl (hw _ (List.mem_of_getElem? (i := 38) rfl))) Via.refl e14 F14w (g := (mkF m 47 #[.val (.ref q5v_0), .val (.long q5v_1), .second, .val (.long q5v_2), .second, .val (.long (ql + q5v_2)), .second, .val (.long (1 : Int64)), .second] [(.ref q5v_0)])) rfl rfl (hb hby d5_47)
    have P16 : own_Go p e below S0 (T16.setTop (mkF m 50 #[.val (.ref q5v_0), .val (.long q5v_1), .second, .val (.long q5v_2), .second, .val (.long (ql + q5v_2)), .second, .val (.long (1 : Int64)), .second] [(.long (qh + (q5v_1 + (1 : Int64))))])) := fun t k => P15 t (st16 _ k)
    have c17 : (qh + (q5v_1 + (1 : Int64))) < (0 : Int64) := hov.1 c6
    have P18 : own_Go p e below S0 (T16.setTop (mkF m 57 #[.val (.ref q5v_0), .val (.long q5v_1), .second, .val (.long q5v_2), .second, .val (.long (ql + q5v_2)), .second, .val (.long (1 : Int64)), .second] [(.ref q5v_0), (.ref q5v_0)])) := fun t k => P16 t (by
      show Steps p.tables e below (T16.setTop (mkF m 50 #[.val (.ref q5v_0), .val (.long q5v_1), .second, .val (.long q5v_2), .second, .val (.long (ql + q5v_2)), .second, .val (.long (1 : Int64)), .second] [(.long (qh + (q5v_1 + (1 : Int64))))])) t
      refine XS.lconst X16.here hx rfl (hb hby d5_50) ?_
      refine XS.lcmp X16.here hx rfl (hb hby d5_51) rfl ?_
      refine XS.ifNo X16.here hx rfl (hb hby d5_52) rfl ((if0 _ _).trans (tlt ((lw_lt (qh + (q5v_1 + (1 : Int64))) (0 : Int64)).mpr c17)).2.1) ?_
      refine XS.aloadN X16.here hx rfl (hb hby d5_55) rfl rfl ?_
      refine XS.dup X16.here hx rfl (hb hby d5_56) rfl rfl ?_
      show Steps p.tables e below (T16.setTop (mkF m 57 #[.val (.ref q5v_0), .val (.long q5v_1), .second, .val (.long q5v_2), .second, .val (.long (ql + q5v_2)), .second, .val (.long (1 : Int64)), .second] [(.ref q5v_0), (.ref q5v_0)])) t
      exact k)
    obtain ⟨T19, X19, e19, st19⟩ := getF X16 hx hZ hown (host := "") (Or.inl (hw _ (List.mem_of_getElem? (i := 38) rfl))) Via.refl e16 F14w (g := (mkF m 57 #[.val (.ref q5v_0), .val (.long q5v_1), .second, .val (.long q5v_2), .second, .val (.long (ql + q5v_2)), .second, .val (.long (1 : Int64)), .second] [(.ref q5v_0), (.ref q5v_0)])) rfl rfl (hb hby d5_57)
    have P19 : own_Go p e below S0 (T19.setTop (mkF m 60 #[.val (.ref q5v_0), .val (.long q5v_1), .second, .val (.long q5v_2), .second, .val (.long (ql + q5v_2)), .second, .val (.long (1 : Int64)), .second] [(.long (qh + (q5v_1 + (1 : Int64)))), (.ref q5v_0)])) := fun t k => P18 t (st19 _ k)
    have F20 : Exa Z h14 q5v_0 "dev/quotefuse/engine/WideCount" := F12.wr W14
    have P21 : own_Go p e below S0 (T19.setTop (mkF m 64 #[.val (.ref q5v_0), .val (.long q5v_1), .second, .val (.long q5v_2), .second, .val (.long (ql + q5v_2)), .second, .val (.long (1 : Int64)), .second] [(.long ((qh + (q5v_1 + (1 : Int64))) &&& (9223372036854775807 : Int64))), (.ref q5v_0)])) := fun t k => P19 t (by
      show Steps p.tables e below (T19.setTop (mkF m 60 #[.val (.ref q5v_0), .val (.long q5v_1), .second, .val (.long q5v_2), .second, .val (.long (ql + q5v_2)), .second, .val (.long (1 : Int64)), .second] [(.long (qh + (q5v_1 + (1 : Int64)))), (.ref q5v_0)])) t
      refine X19.ldc2Long hx hown (mvT hZ (hw _ (List.mem_of_getElem? (i := 67) rfl))) (g := (mkF m 60 #[.val (.ref q5v_0), .val (.long q5v_1), .second, .val (.long q5v_2), .second, .val (.long (ql + q5v_2)), .second, .val (.long (1 : Int64)), .second] [(.long (qh + (q5v_1 + (1 : Int64)))), (.ref q5v_0)])) rfl (hb hby d5_60) _ ?_
      refine XS.land X19.here hx rfl (hb hby d5_63) rfl ?_
      show Steps p.tables e below (T19.setTop (mkF m 64 #[.val (.ref q5v_0), .val (.long q5v_1), .second, .val (.long q5v_2), .second, .val (.long (ql + q5v_2)), .second, .val (.long (1 : Int64)), .second] [(.long ((qh + (q5v_1 + (1 : Int64))) &&& (9223372036854775807 : Int64))), (.ref q5v_0)])) t
      exact k)
    obtain ⟨T22, h22, X22, e22, W22, st22⟩ := putF X19 hx hZ hown (host := "") (Or.inl (hw _ (List.mem_of_getElem? (i := 38) rfl))) Via.refl e19 F14w F20 (Or.inl (hw _ (List.mem_of_getElem? (i := 39) rfl))) (hw _ (List.mem_of_getElem? (i := 2) rfl)) (ty := .long) (by decide) rfl rfl (g := (mkF m 64 #[.val (.ref q5v_0), .val (.long q5v_1), .second, .val (.long q5v_2), .second, .val (.long (ql + q5v_2)), .second, .val (.long (1 : Int64)), .second] [(.long ((qh + (q5v_1 + (1 : Int64))) &&& (9223372036854775807 : Int64))), (.ref q5v_0)])) rfl rfl (hb hby d5_64)
    have K22 : Keep h0 h22 [q5v_0] := K14.wr W22 (Or.inl (by simp))
    have N22 := Fr.snoc X22 N14 g_q5v_0
    have F22w : Fld Z h22 q5v_0 "dev/quotefuse/engine/WideCount" "high" "J" (.long ((qh + (q5v_1 + (1 : Int64))) &&& (9223372036854775807 : Int64))) := F14w.same W22
    have P22 : own_Go p e below S0 (T22.setTop (mkF m 67 #[.val (.ref q5v_0), .val (.long q5v_1), .second, .val (.long q5v_2), .second, .val (.long (ql + q5v_2)), .second, .val (.long (1 : Int64)), .second] [])) := fun t k => P21 t (st22 _ k)
    have F23 : Fld Z h8 q5v_0 "dev/quotefuse/engine/WideCount" "beyond" "Ljava/math/BigInteger;" (.ref qb) := F_q5v_0_beyond.other W8 (Or.inr (slot_ne (Or.inl (hw _ (List.mem_of_getElem? (i := 13) rfl))) (Or.inl (hw _ (List.mem_of_getElem? (i := 29) rfl))) (by decide) (t := (.object "java/math/BigInteger")) (t' := .long) (by decide) (by decide)))
    have F24 : Fld Z h14 q5v_0 "dev/quotefuse/engine/WideCount" "beyond" "Ljava/math/BigInteger;" (.ref qb) := F23.other W14 (Or.inr (slot_ne (Or.inl (hw _ (List.mem_of_getElem? (i := 13) rfl))) (Or.inl (hw _ (List.mem_of_getElem? (i := 39) rfl))) (by decide) (t := (.object "java/math/BigInteger")) (t' := .long) (by decide) (by decide)))
    have F25 : Fld Z h22 q5v_0 "dev/quotefuse/engine/WideCount" "beyond" "Ljava/math/BigInteger;" (.ref qb) := F24.other W22 (Or.inr (slot_ne (Or.inl (hw _ (List.mem_of_getElem? (i := 13) rfl))) (Or.inl (hw _ (List.mem_of_getElem? (i := 39) rfl))) (by decide) (t := (.object "java/math/BigInteger")) (t' := .long) (by decide) (by decide)))
    have P26 : own_Go p e below S0 (T22.setTop (mkF m 69 #[.val (.ref q5v_0), .val (.long q5v_1), .second, .val (.long q5v_2), .second, .val (.long (ql + q5v_2)), .second, .val (.long (1 : Int64)), .second] [(.ref q5v_0), (.ref q5v_0)])) := fun t k => P22 t (by
      show Steps p.tables e below (T22.setTop (mkF m 67 #[.val (.ref q5v_0), .val (.long q5v_1), .second, .val (.long q5v_2), .second, .val (.long (ql + q5v_2)), .second, .val (.long (1 : Int64)), .second] [])) t
      refine XS.aloadN X22.here hx rfl (hb hby d5_67) rfl rfl ?_
      refine XS.aloadN X22.here hx rfl (hb hby d5_68) rfl rfl ?_
      show Steps p.tables e below (T22.setTop (mkF m 69 #[.val (.ref q5v_0), .val (.long q5v_1), .second, .val (.long q5v_2), .second, .val (.long (ql + q5v_2)), .second, .val (.long (1 : Int64)), .second] [(.ref q5v_0), (.ref q5v_0)])) t
      exact k)
    obtain ⟨T27, X27, e27, st27⟩ := getF X22 hx hZ hown (host := "") (Or.inl (hw _ (List.mem_of_getElem? (i := 12) rfl))) Via.refl e22 F25 (g := (mkF m 69 #[.val (.ref q5v_0), .val (.long q5v_1), .second, .val (.long q5v_2), .second, .val (.long (ql + q5v_2)), .second, .val (.long (1 : Int64)), .second] [(.ref q5v_0), (.ref q5v_0)])) rfl rfl (hb hby d5_69)
    have P27 : own_Go p e below S0 (T27.setTop (mkF m 72 #[.val (.ref q5v_0), .val (.long q5v_1), .second, .val (.long q5v_2), .second, .val (.long (ql + q5v_2)), .second, .val (.long (1 : Int64)), .second] [(.ref qb), (.ref q5v_0)])) := fun t k => P26 t (st27 _ k)
    have F28 : Sta Z h8 "java/math/BigInteger" "ONE" "Ljava/math/BigInteger;" (.ref qo) := S_ONE.wr W8
    have F29 : Sta Z h14 "java/math/BigInteger" "ONE" "Ljava/math/BigInteger;" (.ref qo) := F28.wr W14
    have F30 : Sta Z h22 "java/math/BigInteger" "ONE" "Ljava/math/BigInteger;" (.ref qo) := F29.wr W22
    obtain ⟨T31, X31, e31, st31⟩ := getS2 X27 hx hZ hown (host := "") (Or.inl (hw _ (List.mem_of_getElem? (i := 68) rfl))) Via.refl e27 F30 (g := (mkF m 72 #[.val (.ref q5v_0), .val (.long q5v_1), .second, .val (.long q5v_2), .second, .val (.long (ql + q5v_2)), .second, .val (.long (1 : Int64)), .second] [(.ref qb), (.ref q5v_0)])) rfl (hb hby d5_72)
    have P31 : own_Go p e below S0 (T31.setTop (mkF m 75 #[.val (.ref q5v_0), .val (.long q5v_1), .second, .val (.long q5v_2), .second, .val (.long (ql + q5v_2)), .second, .val (.long (1 : Int64)), .second] [(.ref qo), (.ref qb), (.ref q5v_0)])) := fun t k => P27 t (st31 _ k)
    have F32 : Exa Z h8 qb "java/math/BigInteger" := E_qb.wr W8
    have F33 : Exa Z h14 qb "java/math/BigInteger" := F32.wr W14
    have F34 : Exa Z h22 qb "java/math/BigInteger" := F33.wr W22
    have F35 : Fld Z h8 qb "java/math/BigInteger" "signum" "I" (.int (0 : Int32)) := F_qb_signum.other W8 (Or.inl hne_qb_q5v_0)
    have F36 : Fld Z h14 qb "java/math/BigInteger" "signum" "I" (.int (0 : Int32)) := F35.other W14 (Or.inl hne_qb_q5v_0)
    have F37 : Fld Z h22 qb "java/math/BigInteger" "signum" "I" (.int (0 : Int32)) := F36.other W22 (Or.inl hne_qb_q5v_0)
    have F38 : Fld Z h8 qo "java/math/BigInteger" "signum" "I" (.int (1 : Int32)) := F_qo_signum.other W8 (Or.inl hne_qo_q5v_0)
    have F39 : Fld Z h14 qo "java/math/BigInteger" "signum" "I" (.int (1 : Int32)) := F38.other W14 (Or.inl hne_qo_q5v_0)
    have F40 : Fld Z h22 qo "java/math/BigInteger" "signum" "I" (.int (1 : Int32)) := F39.other W22 (Or.inl hne_qo_q5v_0)
    obtain ⟨cq41, kq41, q41a, q41b, q41c⟩ := isOf hZ e31 F34
    obtain ⟨_, _, ⟨T41, L41, k41, n41⟩, -, X41, ⟨Lc41, hQ41, l41, y41, z41⟩, st41⟩ := X31.virtualBack hx (y := (⟨"java/math/BigInteger", "add", "(Ljava/math/BigInteger;)Ljava/math/BigInteger;"⟩ : MethodName)) (z := (⟨"java/math/BigInteger", "add", "(Ljava/math/BigInteger;)Ljava/math/BigInteger;"⟩ : MethodName)) hown (mvT hZ (hw _ (List.mem_of_getElem? (i := 69) rfl))) (mvT hZ (hw _ (List.mem_of_getElem? (i := 70) rfl))) (notFace_of_selects (args := #[]) (mvT hZ (hw _ (List.mem_of_getElem? (i := 72) rfl)))) (mvT hZ (hw _ (List.mem_of_getElem? (i := 72) rfl))) (mvT hZ (hw _ (List.mem_of_getElem? (i := 71) rfl))) (by decide) (backOf (W := 1) (rm13 l Z a0 hw [] qb qo h22 n0 (Nat.le_trans Z0 K22.1) F37 F40) hZ (hw _ (List.mem_of_getElem? (i := 73) rfl)) (hw _ (List.mem_of_getElem? (i := 11) rfl)) (by decide) (by decide)) q41a q41c (g := (mkF m 75 #[.val (.ref q5v_0), .val (.long q5v_1), .second, .val (.long q5v_2), .second, .val (.long (ql + q5v_2)), .second, .val (.long (1 : Int64)), .second] [(.ref qo), (.ref qb), (.ref q5v_0)])) rfl (by rw [hml]; rfl) (Steps.refl _) (argsL := [(.ref qo)]) (rest := [(.ref q5v_0)]) (lenOf pd_1 rfl) rfl (by show 2 * 0 + _ ≤ _; exact Nat.le_of_eq rfl) (hb hby d5_75) (fun _ _ => ⟨rfl, e31, (by decide : 0 + 0 ≤ _), (by decide : 0 + 0 ≤ _)⟩)
    dsimp only [Pt.U, Pt.locs, Pt.cells, Pt.slots] at X41 l41 y41 z41 st41 hQ41
    subst l41 y41 z41
    obtain ⟨rfl, N41q, e41⟩ := hQ41
    have N41 := Fr.app N22 N41q
    have P41 : own_Go p e below S0 (T41.setTop (mkF m 78 #[.val (.ref q5v_0), .val (.long q5v_1), .second, .val (.long q5v_2), .second, .val (.long (ql + q5v_2)), .second, .val (.long (1 : Int64)), .second] [(.ref qo), (.ref q5v_0)])) := fun t k => P31 t (st41.trans k)
    have F42 : Exa Z h22 q5v_0 "dev/quotefuse/engine/WideCount" := F20.wr W22
    obtain ⟨T43, h43, X43, e43, W43, st43⟩ := putF X41 hx hZ hown (host := "") (Or.inl (hw _ (List.mem_of_getElem? (i := 12) rfl))) Via.refl e41 F25 F42 (Or.inl (hw _ (List.mem_of_getElem? (i := 13) rfl))) (hw _ (List.mem_of_getElem? (i := 2) rfl)) (ty := (.object "java/math/BigInteger")) (by decide) rfl rfl (g := (mkF m 78 #[.val (.ref q5v_0), .val (.long q5v_1), .second, .val (.long q5v_2), .second, .val (.long (ql + q5v_2)), .second, .val (.long (1 : Int64)), .second] [(.ref qo), (.ref q5v_0)])) rfl rfl (hb hby d5_78)
    have K43 : Keep h0 h43 [q5v_0] := K22.wr W43 (Or.inl (by simp))
    have N43 := Fr.snoc X43 N41 g_q5v_0
    have F43w : Fld Z h43 q5v_0 "dev/quotefuse/engine/WideCount" "beyond" "Ljava/math/BigInteger;" (.ref qo) := F25.same W43
    have P43 : own_Go p e below S0 (T43.setTop (mkF m 81 #[.val (.ref q5v_0), .val (.long q5v_1), .second, .val (.long q5v_2), .second, .val (.long (ql + q5v_2)), .second, .val (.long (1 : Int64)), .second] [])) := fun t k => P41 t (st43 _ k)
    have F44 : Fld Z h14 q5v_0 "dev/quotefuse/engine/WideCount" "low" "J" (.long (ql + q5v_2)) := F8w.other W14 (Or.inr (slot_ne (Or.inl (hw _ (List.mem_of_getElem? (i := 29) rfl))) (Or.inl (hw _ (List.mem_of_getElem? (i := 39) rfl))) (by decide) (t := .long) (t' := .long) (by decide) (by decide)))
    have F45 : Fld Z h22 q5v_0 "dev/quotefuse/engine/WideCount" "low" "J" (.long (ql + q5v_2)) := F44.other W22 (Or.inr (slot_ne (Or.inl (hw _ (List.mem_of_getElem? (i := 29) rfl))) (Or.inl (hw _ (List.mem_of_getElem? (i := 39) rfl))) (by decide) (t := .long) (t' := .long) (by decide) (by decide)))
    have F46 : Fld Z h43 q5v_0 "dev/quotefuse/engine/WideCount" "low" "J" (.long (ql + q5v_2)) := F45.other W43 (Or.inr (slot_ne (Or.inl (hw _ (List.mem_of_getElem? (i := 29) rfl))) (Or.inl (hw _ (List.mem_of_getElem? (i := 13) rfl))) (by decide) (t := .long) (t' := (.object "java/math/BigInteger")) (by decide) (by decide)))
    have F47 : Fld Z h43 q5v_0 "dev/quotefuse/engine/WideCount" "high" "J" (.long ((qh + (q5v_1 + (1 : Int64))) &&& (9223372036854775807 : Int64))) := F22w.other W43 (Or.inr (slot_ne (Or.inl (hw _ (List.mem_of_getElem? (i := 39) rfl))) (Or.inl (hw _ (List.mem_of_getElem? (i := 13) rfl))) (by decide) (t := .long) (t' := (.object "java/math/BigInteger")) (by decide) (by decide)))
    obtain ⟨fs, hr, hrun, hended, hW, hsame⟩ := X43.leave (v := none) (fun _ => rfl) (BodyLoose.notSynchronized Bd)
    refine ⟨_, _, own_from hE0 (P43 _ ?_), hrun, hended, _, _, rfl, ?_, ⟨_, rfl⟩, hW, hsame.mono (by decide) (by decide)⟩
    · show Steps p.tables e below (T43.setTop (mkF m 81 #[.val (.ref q5v_0), .val (.long q5v_1), .second, .val (.long q5v_2), .second, .val (.long (ql + q5v_2)), .second, .val (.long (1 : Int64)), .second] [])) _
      exact X43.returnOut hx Bd.returns (hb hby d5_81) hr
    · show Q5v Z q5v_0 q5v_1 q5v_2 ql qh qb qo h0 n0 _ T43.heap _
      rw [e43]
      exact ⟨rfl, N43, K43, F46, (Eq.mp (congrArg (fun z => Fld Z h43 q5v_0 "dev/quotefuse/engine/WideCount" "high" "J" (.long z)) (Eq.symm (if_pos c6))) F47), F43w⟩
  · skip
    have P48 : own_Go p e below S0 (T5.setTop (mkF m 30 #[.val (.ref q5v_0), .val (.long q5v_1), .second, .val (.long q5v_2), .second, .val (.long (ql + q5v_2)), .second, .val (.long (0 : Int64)), .second] [(.long (ql + q5v_2)), (.ref q5v_0)])) := fun t k => P5 t (by
      show Steps p.tables e below (T5.setTop (mkF m 17 #[.val (.ref q5v_0), .val (.long q5v_1), .second, .val (.long q5v_2), .second, .val (.long (ql + q5v_2)), .second, .unset, .unset] [(.int (own_cu (ql + q5v_2) ql))])) t
      refine XS.ifYes X5.here hx rfl (pc0 := 17) (pc' := 24) rfl (hb hby d5_17) rfl ((if0 _ _).trans (flt c6).2.1) (by decide) (by decide) ?_
      refine XS.lconst X5.here hx rfl (hb hby d5_24) ?_
      refine XS.lstore X5.here hx rfl (hb hby d5_25) rfl (l' := #[.val (.ref q5v_0), .val (.long q5v_1), .second, .val (.long q5v_2), .second, .val (.long (ql + q5v_2)), .second, .val (.long (0 : Int64)), .second]) rfl ?_
      refine XS.aloadN X5.here hx rfl (hb hby d5_27) rfl rfl ?_
      refine XS.lload X5.here hx rfl (hb hby d5_28) rfl ?_
      show Steps p.tables e below (T5.setTop (mkF m 30 #[.val (.ref q5v_0), .val (.long q5v_1), .second, .val (.long q5v_2), .second, .val (.long (ql + q5v_2)), .second, .val (.long (0 : Int64)), .second] [(.long (ql + q5v_2)), (.ref q5v_0)])) t
      exact k)
    obtain ⟨T49, h49, X49, e49, W49, st49⟩ := putF X5 hx hZ hown (host := "") (Or.inl (hw _ (List.mem_of_getElem? (i := 28) rfl))) Via.refl e5 F_q5v_0_low E_q5v_0 (Or.inl (hw _ (List.mem_of_getElem? (i := 29) rfl))) (hw _ (List.mem_of_getElem? (i := 2) rfl)) (ty := .long) (by decide) rfl rfl (g := (mkF m 30 #[.val (.ref q5v_0), .val (.long q5v_1), .second, .val (.long q5v_2), .second, .val (.long (ql + q5v_2)), .second, .val (.long (0 : Int64)), .second] [(.long (ql + q5v_2)), (.ref q5v_0)])) rfl rfl (hb hby d5_30)
    have K49 : Keep h0 h49 [q5v_0] := (Keep.refl h0 [q5v_0]).wr W49 (Or.inl (by simp))
    have N49 := Fr.snoc X49 N5 g_q5v_0
    have F49w : Fld Z h49 q5v_0 "dev/quotefuse/engine/WideCount" "low" "J" (.long (ql + q5v_2)) := F_q5v_0_low.same W49
    have P49 : own_Go p e below S0 (T49.setTop (mkF m 33 #[.val (.ref q5v_0), .val (.long q5v_1), .second, .val (.long q5v_2), .second, .val (.long (ql + q5v_2)), .second, .val (.long (0 : Int64)), .second] [])) := fun t k => P48 t (st49 _ k)
    have F50 : Fld Z h49 q5v_0 "dev/quotefuse/engine/WideCount" "high" "J" (.long qh) := F_q5v_0_high.other W49 (Or.inr (slot_ne (Or.inl (hw _ (List.mem_of_getElem? (i := 39) rfl))) (Or.inl (hw _ (List.mem_of_getElem? (i := 29) rfl))) (by decide) (t := .long) (t' := .long) (by decide) (by decide)))
    have P51 : own_Go p e below S0 (T49.setTop (mkF m 35 #[.val (.ref q5v_0), .val (.long q5v_1), .second, .val (.long q5v_2), .second, .val (.long (ql + q5v_2)), .second, .val (.long (0 : Int64)), .second] [(.ref q5v_0), (.ref q5v_0)])) := fun t k => P49 t (by
      show Steps p.tables e below (T49.setTop (mkF m 33 #[.val (.ref q5v_0), .val (.long q5v_1), .second, .val (.long q5v_2), .second, .val (.long (ql + q5v_2)), .second, .val (.long (0 : Int64)), .second] [])) t
      refine XS.aloadN X49.here hx rfl (hb hby d5_33) rfl rfl ?_
      refine XS.dup X49.here hx rfl (hb hby d5_34) rfl rfl ?_
      show Steps p.tables e below (T49.setTop (mkF m 35 #[.val (.ref q5v_0), .val (.long q5v_1), .second, .val (.long q5v_2), .second, .val (.long (ql + q5v_2)), .second, .val (.long (0 : Int64)), .second] [(.ref q5v_0), (.ref q5v_0)])) t
      exact k)
    obtain ⟨T52, X52, e52, st52⟩ := getF X49 hx hZ hown (host := "") (Or.inl (hw _ (List.mem_of_getElem? (i := 38) rfl))) Via.refl e49 F50 (g := (mkF m 35 #[.val (.ref q5v_0), .val (.long q5v_1), .second, .val (.long q5v_2), .second, .val (.long (ql + q5v_2)), .second, .val (.long (0 : Int64)), .second] [(.ref q5v_0), (.ref q5v_0)])) rfl rfl (hb hby d5_35)
    have P52 : own_Go p e below S0 (T52.setTop (mkF m 38 #[.val (.ref q5v_0), .val (.long q5v_1), .second, .val (.long q5v_2), .second, .val (.long (ql + q5v_2)), .second, .val (.long (0 : Int64)), .second] [(.long qh), (.ref q5v_0)])) := fun t k => P51 t (st52 _ k)
    have F53 : Exa Z h49 q5v_0 "dev/quotefuse/engine/WideCount" := E_q5v_0.wr W49
    have P54 : own_Go p e below S0 (T52.setTop (mkF m 43 #[.val (.ref q5v_0), .val (.long q5v_1), .second, .val (.long q5v_2), .second, .val (.long (ql + q5v_2)), .second, .val (.long (0 : Int64)), .second] [(.long (qh + (q5v_1 + (0 : Int64)))), (.ref q5v_0)])) := fun t k => P52 t (by
      show Steps p.tables e below (T52.setTop (mkF m 38 #[.val (.ref q5v_0), .val (.long q5v_1), .second, .val (.long q5v_2), .second, .val (.long (ql + q5v_2)), .second, .val (.long (0 : Int64)), .second] [(.long qh), (.ref q5v_0)])) t
      refine XS.lloadN X52.here hx rfl (hb hby d5_38) rfl ?_
      refine XS.lload X52.here hx rfl (hb hby d5_39) rfl ?_
      refine XS.ladd X52.here hx rfl (hb hby d5_41) rfl ?_
      refine XS.ladd X52.here hx rfl (hb hby d5_42) rfl ?_
      show Steps p.tables e below (T52.setTop (mkF m 43 #[.val (.ref q5v_0), .val (.long q5v_1), .second, .val (.long q5v_2), .second, .val (.long (ql + q5v_2)), .second, .val (.long (0 : Int64)), .second] [(.long (qh + (q5v_1 + (0 : Int64)))), (.ref q5v_0)])) t
      exact k)
    obtain ⟨T55, h55, X55, e55, W55, st55⟩ := putF X52 hx hZ hown (host := "") (Or.inl (hw _ (List.mem_of_getElem? (i := 38) rfl))) Via.refl e52 F50 F53 (Or.inl (hw _ (List.mem_of_getElem? (i := 39) rfl))) (hw _ (List.mem_of_getElem? (i := 2) rfl)) (ty := .long) (by decide) rfl rfl (g := (mkF m 43 #[.val (.ref q5v_0), .val (.long q5v_1), .second, .val (.long q5v_2), .second, .val (.long (ql + q5v_2)), .second, .val (.long (0 : Int64)), .second] [(.long (qh + (q5v_1 + (0 : Int64)))), (.ref q5v_0)])) rfl rfl (hb hby d5_43)
    have K55 : Keep h0 h55 [q5v_0] := K49.wr W55 (Or.inl (by simp))
    have N55 := Fr.snoc X55 N49 g_q5v_0
    have F55w : Fld Z h55 q5v_0 "dev/quotefuse/engine/WideCount" "high" "J" (.long (qh + (q5v_1 + (0 : Int64)))) := F50.same W55
    have P55 : own_Go p e below S0 (T55.setTop (mkF m 46 #[.val (.ref q5v_0), .val (.long q5v_1), .second, .val (.long q5v_2), .second, .val (.long (ql + q5v_2)), .second, .val (.long (0 : Int64)), .second] [])) := fun t k => P54 t (st55 _ k)
    have P56 : own_Go p e below S0 (T55.setTop (mkF m 47 #[.val (.ref q5v_0), .val (.long q5v_1), .second, .val (.long q5v_2), .second, .val (.long (ql + q5v_2)), .second, .val (.long (0 : Int64)), .second] [(.ref q5v_0)])) := fun t k => P55 t (by
      show Steps p.tables e below (T55.setTop (mkF m 46 #[.val (.ref q5v_0), .val (.long q5v_1), .second, .val (.long q5v_2), .second, .val (.long (ql + q5v_2)), .second, .val (.long (0 : Int64)), .second] [])) t
      refine XS.aloadN X55.here hx rfl (hb hby d5_46) rfl rfl ?_
      show Steps p.tables e below (T55.setTop (mkF m 47 #[.val (.ref q5v_0), .val (.long q5v_1), .second, .val (.long q5v_2), .second, .val (.long (ql + q5v_2)), .second, .val (.long (0 : Int64)), .second] [(.ref q5v_0)])) t
      exact k)
    obtain ⟨T57, X57, e57, st57⟩ := getF X55 hx hZ hown (host := "") (Or.inl (hw _ (List.mem_of_getElem? (i := 38) rfl))) Via.refl e55 F55w (g := (mkF m 47 #[.val (.ref q5v_0), .val (.long q5v_1), .second, .val (.long q5v_2), .second, .val (.long (ql + q5v_2)), .second, .val (.long (0 : Int64)), .second] [(.ref q5v_0)])) rfl rfl (hb hby d5_47)
    have P57 : own_Go p e below S0 (T57.setTop (mkF m 50 #[.val (.ref q5v_0), .val (.long q5v_1), .second, .val (.long q5v_2), .second, .val (.long (ql + q5v_2)), .second, .val (.long (0 : Int64)), .second] [(.long (qh + (q5v_1 + (0 : Int64))))])) := fun t k => P56 t (st57 _ k)
    have c58 : (qh + (q5v_1 + (0 : Int64))) < (0 : Int64) := hov.2 c6
    have P59 : own_Go p e below S0 (T57.setTop (mkF m 57 #[.val (.ref q5v_0), .val (.long q5v_1), .second, .val (.long q5v_2), .second, .val (.long (ql + q5v_2)), .second, .val (.long (0 : Int64)), .second] [(.ref q5v_0), (.ref q5v_0)])) := fun t k => P57 t (by
      show Steps p.tables e below (T57.setTop (mkF m 50 #[.val (.ref q5v_0), .val (.long q5v_1), .second, .val (.long q5v_2), .second, .val (.long (ql + q5v_2)), .second, .val (.long (0 : Int64)), .second] [(.long (qh + (q5v_1 + (0 : Int64))))])) t
      refine XS.lconst X57.here hx rfl (hb hby d5_50) ?_
      refine XS.lcmp X57.here hx rfl (hb hby d5_51) rfl ?_
      refine XS.ifNo X57.here hx rfl (hb hby d5_52) rfl ((if0 _ _).trans (tlt ((lw_lt (qh + (q5v_1 + (0 : Int64))) (0 : Int64)).mpr c58)).2.1) ?_
      refine XS.aloadN X57.here hx rfl (hb hby d5_55) rfl rfl ?_
      refine XS.dup X57.here hx rfl (hb hby d5_56) rfl rfl ?_
      show Steps p.tables e below (T57.setTop (mkF m 57 #[.val (.ref q5v_0), .val (.long q5v_1), .second, .val (.long q5v_2), .second, .val (.long (ql + q5v_2)), .second, .val (.long (0 : Int64)), .second] [(.ref q5v_0), (.ref q5v_0)])) t
      exact k)
    obtain ⟨T60, X60, e60, st60⟩ := getF X57 hx hZ hown (host := "") (Or.inl (hw _ (List.mem_of_getElem? (i := 38) rfl))) Via.refl e57 F55w (g := (mkF m 57 #[.val (.ref q5v_0), .val (.long q5v_1), .second, .val (.long q5v_2), .second, .val (.long (ql + q5v_2)), .second, .val (.long (0 : Int64)), .second] [(.ref q5v_0), (.ref q5v_0)])) rfl rfl (hb hby d5_57)
    have P60 : own_Go p e below S0 (T60.setTop (mkF m 60 #[.val (.ref q5v_0), .val (.long q5v_1), .second, .val (.long q5v_2), .second, .val (.long (ql + q5v_2)), .second, .val (.long (0 : Int64)), .second] [(.long (qh + (q5v_1 + (0 : Int64)))), (.ref q5v_0)])) := fun t k => P59 t (st60 _ k)
    have F61 : Exa Z h55 q5v_0 "dev/quotefuse/engine/WideCount" := F53.wr W55
    have P62 : own_Go p e below S0 (T60.setTop (mkF m 64 #[.val (.ref q5v_0), .val (.long q5v_1), .second, .val (.long q5v_2), .second, .val (.long (ql + q5v_2)), .second, .val (.long (0 : Int64)), .second] [(.long ((qh + (q5v_1 + (0 : Int64))) &&& (9223372036854775807 : Int64))), (.ref q5v_0)])) := fun t k => P60 t (by
      show Steps p.tables e below (T60.setTop (mkF m 60 #[.val (.ref q5v_0), .val (.long q5v_1), .second, .val (.long q5v_2), .second, .val (.long (ql + q5v_2)), .second, .val (.long (0 : Int64)), .second] [(.long (qh + (q5v_1 + (0 : Int64)))), (.ref q5v_0)])) t
      refine X60.ldc2Long hx hown (mvT hZ (hw _ (List.mem_of_getElem? (i := 67) rfl))) (g := (mkF m 60 #[.val (.ref q5v_0), .val (.long q5v_1), .second, .val (.long q5v_2), .second, .val (.long (ql + q5v_2)), .second, .val (.long (0 : Int64)), .second] [(.long (qh + (q5v_1 + (0 : Int64)))), (.ref q5v_0)])) rfl (hb hby d5_60) _ ?_
      refine XS.land X60.here hx rfl (hb hby d5_63) rfl ?_
      show Steps p.tables e below (T60.setTop (mkF m 64 #[.val (.ref q5v_0), .val (.long q5v_1), .second, .val (.long q5v_2), .second, .val (.long (ql + q5v_2)), .second, .val (.long (0 : Int64)), .second] [(.long ((qh + (q5v_1 + (0 : Int64))) &&& (9223372036854775807 : Int64))), (.ref q5v_0)])) t
      exact k)
    obtain ⟨T63, h63, X63, e63, W63, st63⟩ := putF X60 hx hZ hown (host := "") (Or.inl (hw _ (List.mem_of_getElem? (i := 38) rfl))) Via.refl e60 F55w F61 (Or.inl (hw _ (List.mem_of_getElem? (i := 39) rfl))) (hw _ (List.mem_of_getElem? (i := 2) rfl)) (ty := .long) (by decide) rfl rfl (g := (mkF m 64 #[.val (.ref q5v_0), .val (.long q5v_1), .second, .val (.long q5v_2), .second, .val (.long (ql + q5v_2)), .second, .val (.long (0 : Int64)), .second] [(.long ((qh + (q5v_1 + (0 : Int64))) &&& (9223372036854775807 : Int64))), (.ref q5v_0)])) rfl rfl (hb hby d5_64)
    have K63 : Keep h0 h63 [q5v_0] := K55.wr W63 (Or.inl (by simp))
    have N63 := Fr.snoc X63 N55 g_q5v_0
    have F63w : Fld Z h63 q5v_0 "dev/quotefuse/engine/WideCount" "high" "J" (.long ((qh + (q5v_1 + (0 : Int64))) &&& (9223372036854775807 : Int64))) := F55w.same W63
    have P63 : own_Go p e below S0 (T63.setTop (mkF m 67 #[.val (.ref q5v_0), .val (.long q5v_1), .second, .val (.long q5v_2), .second, .val (.long (ql + q5v_2)), .second, .val (.long (0 : Int64)), .second] [])) := fun t k => P62 t (st63 _ k)
    have F64 : Fld Z h49 q5v_0 "dev/quotefuse/engine/WideCount" "beyond" "Ljava/math/BigInteger;" (.ref qb) := F_q5v_0_beyond.other W49 (Or.inr (slot_ne (Or.inl (hw _ (List.mem_of_getElem? (i := 13) rfl))) (Or.inl (hw _ (List.mem_of_getElem? (i := 29) rfl))) (by decide) (t := (.object "java/math/BigInteger")) (t' := .long) (by decide) (by decide)))
    have F65 : Fld Z h55 q5v_0 "dev/quotefuse/engine/WideCount" "beyond" "Ljava/math/BigInteger;" (.ref qb) := F64.other W55 (Or.inr (slot_ne (Or.inl (hw _ (List.mem_of_getElem? (i := 13) rfl))) (Or.inl (hw _ (List.mem_of_getElem? (i := 39) rfl))) (by decide) (t := (.object "java/math/BigInteger")) (t' := .long) (by decide) (by decide)))
    have F66 : Fld Z h63 q5v_0 "dev/quotefuse/engine/WideCount" "beyond" "Ljava/math/BigInteger;" (.ref qb) := F65.other W63 (Or.inr (slot_ne (Or.inl (hw _ (List.mem_of_getElem? (i := 13) rfl))) (Or.inl (hw _ (List.mem_of_getElem? (i := 39) rfl))) (by decide) (t := (.object "java/math/BigInteger")) (t' := .long) (by decide) (by decide)))
    have P67 : own_Go p e below S0 (T63.setTop (mkF m 69 #[.val (.ref q5v_0), .val (.long q5v_1), .second, .val (.long q5v_2), .second, .val (.long (ql + q5v_2)), .second, .val (.long (0 : Int64)), .second] [(.ref q5v_0), (.ref q5v_0)])) := fun t k => P63 t (by
      show Steps p.tables e below (T63.setTop (mkF m 67 #[.val (.ref q5v_0), .val (.long q5v_1), .second, .val (.long q5v_2), .second, .val (.long (ql + q5v_2)), .second, .val (.long (0 : Int64)), .second] [])) t
      refine XS.aloadN X63.here hx rfl (hb hby d5_67) rfl rfl ?_
      refine XS.aloadN X63.here hx rfl (hb hby d5_68) rfl rfl ?_
      show Steps p.tables e below (T63.setTop (mkF m 69 #[.val (.ref q5v_0), .val (.long q5v_1), .second, .val (.long q5v_2), .second, .val (.long (ql + q5v_2)), .second, .val (.long (0 : Int64)), .second] [(.ref q5v_0), (.ref q5v_0)])) t
      exact k)
    obtain ⟨T68, X68, e68, st68⟩ := getF X63 hx hZ hown (host := "") (Or.inl (hw _ (List.mem_of_getElem? (i := 12) rfl))) Via.refl e63 F66 (g := (mkF m 69 #[.val (.ref q5v_0), .val (.long q5v_1), .second, .val (.long q5v_2), .second, .val (.long (ql + q5v_2)), .second, .val (.long (0 : Int64)), .second] [(.ref q5v_0), (.ref q5v_0)])) rfl rfl (hb hby d5_69)
    have P68 : own_Go p e below S0 (T68.setTop (mkF m 72 #[.val (.ref q5v_0), .val (.long q5v_1), .second, .val (.long q5v_2), .second, .val (.long (ql + q5v_2)), .second, .val (.long (0 : Int64)), .second] [(.ref qb), (.ref q5v_0)])) := fun t k => P67 t (st68 _ k)
    have F69 : Sta Z h49 "java/math/BigInteger" "ONE" "Ljava/math/BigInteger;" (.ref qo) := S_ONE.wr W49
    have F70 : Sta Z h55 "java/math/BigInteger" "ONE" "Ljava/math/BigInteger;" (.ref qo) := F69.wr W55
    have F71 : Sta Z h63 "java/math/BigInteger" "ONE" "Ljava/math/BigInteger;" (.ref qo) := F70.wr W63
    obtain ⟨T72, X72, e72, st72⟩ := getS2 X68 hx hZ hown (host := "") (Or.inl (hw _ (List.mem_of_getElem? (i := 68) rfl))) Via.refl e68 F71 (g := (mkF m 72 #[.val (.ref q5v_0), .val (.long q5v_1), .second, .val (.long q5v_2), .second, .val (.long (ql + q5v_2)), .second, .val (.long (0 : Int64)), .second] [(.ref qb), (.ref q5v_0)])) rfl (hb hby d5_72)
    have P72 : own_Go p e below S0 (T72.setTop (mkF m 75 #[.val (.ref q5v_0), .val (.long q5v_1), .second, .val (.long q5v_2), .second, .val (.long (ql + q5v_2)), .second, .val (.long (0 : Int64)), .second] [(.ref qo), (.ref qb), (.ref q5v_0)])) := fun t k => P68 t (st72 _ k)
    have F73 : Exa Z h49 qb "java/math/BigInteger" := E_qb.wr W49
    have F74 : Exa Z h55 qb "java/math/BigInteger" := F73.wr W55
    have F75 : Exa Z h63 qb "java/math/BigInteger" := F74.wr W63
    have F76 : Fld Z h49 qb "java/math/BigInteger" "signum" "I" (.int (0 : Int32)) := F_qb_signum.other W49 (Or.inl hne_qb_q5v_0)
    have F77 : Fld Z h55 qb "java/math/BigInteger" "signum" "I" (.int (0 : Int32)) := F76.other W55 (Or.inl hne_qb_q5v_0)
    have F78 : Fld Z h63 qb "java/math/BigInteger" "signum" "I" (.int (0 : Int32)) := F77.other W63 (Or.inl hne_qb_q5v_0)
    have F79 : Fld Z h49 qo "java/math/BigInteger" "signum" "I" (.int (1 : Int32)) := F_qo_signum.other W49 (Or.inl hne_qo_q5v_0)
    have F80 : Fld Z h55 qo "java/math/BigInteger" "signum" "I" (.int (1 : Int32)) := F79.other W55 (Or.inl hne_qo_q5v_0)
    have F81 : Fld Z h63 qo "java/math/BigInteger" "signum" "I" (.int (1 : Int32)) := F80.other W63 (Or.inl hne_qo_q5v_0)
    obtain ⟨cq82, kq82, q82a, q82b, q82c⟩ := isOf hZ e72 F75
    obtain ⟨_, _, ⟨T82, L82, k82, n82⟩, -, X82, ⟨Lc82, hQ82, l82, y82, z82⟩, st82⟩ := X72.virtualBack hx (y := (⟨"java/math/BigInteger", "add", "(Ljava/math/BigInteger;)Ljava/math/BigInteger;"⟩ : MethodName)) (z := (⟨"java/math/BigInteger", "add", "(Ljava/math/BigInteger;)Ljava/math/BigInteger;"⟩ : MethodName)) hown (mvT hZ (hw _ (List.mem_of_getElem? (i := 69) rfl))) (mvT hZ (hw _ (List.mem_of_getElem? (i := 70) rfl))) (notFace_of_selects (args := #[]) (mvT hZ (hw _ (List.mem_of_getElem? (i := 72) rfl)))) (mvT hZ (hw _ (List.mem_of_getElem? (i := 72) rfl))) (mvT hZ (hw _ (List.mem_of_getElem? (i := 71) rfl))) (by decide) (backOf (W := 1) (rm13 l Z a0 hw [] qb qo h63 n0 (Nat.le_trans Z0 K63.1) F78 F81) hZ (hw _ (List.mem_of_getElem? (i := 73) rfl)) (hw _ (List.mem_of_getElem? (i := 11) rfl)) (by decide) (by decide)) q82a q82c (g := (mkF m 75 #[.val (.ref q5v_0), .val (.long q5v_1), .second, .val (.long q5v_2), .second, .val (.long (ql + q5v_2)), .second, .val (.long (0 : Int64)), .second] [(.ref qo), (.ref qb), (.ref q5v_0)])) rfl (by rw [hml]; rfl) (Steps.refl _) (argsL := [(.ref qo)]) (rest := [(.ref q5v_0)]) (lenOf pd_1 rfl) rfl (by show 2 * 0 + _ ≤ _; exact Nat.le_of_eq rfl) (hb hby d5_75) (fun _ _ => ⟨rfl, e72, (by decide : 0 + 0 ≤ _), (by decide : 0 + 0 ≤ _)⟩)
    dsimp only [Pt.U, Pt.locs, Pt.cells, Pt.slots] at X82 l82 y82 z82 st82 hQ82
    subst l82 y82 z82
    obtain ⟨rfl, N82q, e82⟩ := hQ82
    have N82 := Fr.app N63 N82q
    have P82 : own_Go p e below S0 (T82.setTop (mkF m 78 #[.val (.ref q5v_0), .val (.long q5v_1), .second, .val (.long q5v_2), .second, .val (.long (ql + q5v_2)), .second, .val (.long (0 : Int64)), .second] [(.ref qo), (.ref q5v_0)])) := fun t k => P72 t (st82.trans k)
    have F83 : Exa Z h63 q5v_0 "dev/quotefuse/engine/WideCount" := F61.wr W63
    obtain ⟨T84, h84, X84, e84, W84, st84⟩ := putF X82 hx hZ hown (host := "") (Or.inl (hw _ (List.mem_of_getElem? (i := 12) rfl))) Via.refl e82 F66 F83 (Or.inl (hw _ (List.mem_of_getElem? (i := 13) rfl))) (hw _ (List.mem_of_getElem? (i := 2) rfl)) (ty := (.object "java/math/BigInteger")) (by decide) rfl rfl (g := (mkF m 78 #[.val (.ref q5v_0), .val (.long q5v_1), .second, .val (.long q5v_2), .second, .val (.long (ql + q5v_2)), .second, .val (.long (0 : Int64)), .second] [(.ref qo), (.ref q5v_0)])) rfl rfl (hb hby d5_78)
    have K84 : Keep h0 h84 [q5v_0] := K63.wr W84 (Or.inl (by simp))
    have N84 := Fr.snoc X84 N82 g_q5v_0
    have F84w : Fld Z h84 q5v_0 "dev/quotefuse/engine/WideCount" "beyond" "Ljava/math/BigInteger;" (.ref qo) := F66.same W84
    have P84 : own_Go p e below S0 (T84.setTop (mkF m 81 #[.val (.ref q5v_0), .val (.long q5v_1), .second, .val (.long q5v_2), .second, .val (.long (ql + q5v_2)), .second, .val (.long (0 : Int64)), .second] [])) := fun t k => P82 t (st84 _ k)
    have F85 : Fld Z h55 q5v_0 "dev/quotefuse/engine/WideCount" "low" "J" (.long (ql + q5v_2)) := F49w.other W55 (Or.inr (slot_ne (Or.inl (hw _ (List.mem_of_getElem? (i := 29) rfl))) (Or.inl (hw _ (List.mem_of_getElem? (i := 39) rfl))) (by decide) (t := .long) (t' := .long) (by decide) (by decide)))
    have F86 : Fld Z h63 q5v_0 "dev/quotefuse/engine/WideCount" "low" "J" (.long (ql + q5v_2)) := F85.other W63 (Or.inr (slot_ne (Or.inl (hw _ (List.mem_of_getElem? (i := 29) rfl))) (Or.inl (hw _ (List.mem_of_getElem? (i := 39) rfl))) (by decide) (t := .long) (t' := .long) (by decide) (by decide)))
    have F87 : Fld Z h84 q5v_0 "dev/quotefuse/engine/WideCount" "low" "J" (.long (ql + q5v_2)) := F86.other W84 (Or.inr (slot_ne (Or.inl (hw _ (List.mem_of_getElem? (i := 29) rfl))) (Or.inl (hw _ (List.mem_of_getElem? (i := 13) rfl))) (by decide) (t := .long) (t' := (.object "java/math/BigInteger")) (by decide) (by decide)))
    have F88 : Fld Z h84 q5v_0 "dev/quotefuse/engine/WideCount" "high" "J" (.long ((qh + (q5v_1 + (0 : Int64))) &&& (9223372036854775807 : Int64))) := F63w.other W84 (Or.inr (slot_ne (Or.inl (hw _ (List.mem_of_getElem? (i := 39) rfl))) (Or.inl (hw _ (List.mem_of_getElem? (i := 13) rfl))) (by decide) (t := .long) (t' := (.object "java/math/BigInteger")) (by decide) (by decide)))
    obtain ⟨fs, hr, hrun, hended, hW, hsame⟩ := X84.leave (v := none) (fun _ => rfl) (BodyLoose.notSynchronized Bd)
    refine ⟨_, _, own_from hE0 (P84 _ ?_), hrun, hended, _, _, rfl, ?_, ⟨_, rfl⟩, hW, hsame.mono (by decide) (by decide)⟩
    · show Steps p.tables e below (T84.setTop (mkF m 81 #[.val (.ref q5v_0), .val (.long q5v_1), .second, .val (.long q5v_2), .second, .val (.long (ql + q5v_2)), .second, .val (.long (0 : Int64)), .second] [])) _
      exact X84.returnOut hx Bd.returns (hb hby d5_81) hr
    · show Q5v Z q5v_0 q5v_1 q5v_2 ql qh qb qo h0 n0 _ T84.heap _
      rw [e84]
      exact ⟨rfl, N84, K84, F87, (Eq.mp (congrArg (fun z => Fld Z h84 q5v_0 "dev/quotefuse/engine/WideCount" "high" "J" (.long z)) (Eq.symm (if_neg c6))) F88), F84w⟩
theorem pd_2 : parseMethodDescriptor "(JJ)J" = some ⟨[.long, .long], some .long⟩ := by decide +kernel
theorem pd_3 : parseMethodDescriptor "(JJ)V" = some ⟨[.long, .long], none⟩ := by decide +kernel
theorem d3_0 : decode prog_40_method_3_code 0 = .ok (.aload_n 0, 1) := by decide +kernel
theorem d3_1 : decode prog_40_method_3_code 1 = .ok (.lload_n 1, 1) := by decide +kernel
theorem d3_2 : decode prog_40_method_3_code 2 = .ok (.lload_n 3, 1) := by decide +kernel
theorem d3_3 : decode prog_40_method_3_code 3 = .ok (.invokestatic 22, 3) := by decide +kernel
theorem d3_6 : decode prog_40_method_3_code 6 = .ok (.lload_n 1, 1) := by decide +kernel
theorem d3_7 : decode prog_40_method_3_code 7 = .ok (.lload_n 3, 1) := by decide +kernel
theorem d3_8 : decode prog_40_method_3_code 8 = .ok (.lmul, 1) := by decide +kernel
theorem d3_9 : decode prog_40_method_3_code 9 = .ok (.invokevirtual 18, 3) := by decide +kernel
theorem d3_12 : decode prog_40_method_3_code 12 = .ok (.return_, 1) := by decide +kernel
theorem ef_3a (m : MethodId) (q3a_0 : Addr) (q3a_1 : Int64) (q3a_2 : Int64) : entryFrame m #[(.ref q3a_0), (.long q3a_1), (.long q3a_2)] 5 = mkF m 0 #[.val (.ref q3a_0), .val (.long q3a_1), .second, .val (.long q3a_2), .second] [] := by first | (simp [entryFrame, mkF, argsToLocals, Value.category]; done) | rfl
def Q3a (Z : State) (q3a_0 : Addr) (q3a_1 : Int64) (q3a_2 : Int64) (w3a_q3a_0_beyond : Addr) (h0 : Heap) (n0 : Nat) (v : Option Value) (h : Heap) (L : List Loc) : Prop := v = none ∧ Fr n0 L ∧ Keep h0 h [q3a_0] ∧ Fld Z h q3a_0 "dev/quotefuse/engine/WideCount" "low" "J" (.long ((0 : Int64) + (q3a_1 * q3a_2))) ∧ Fld Z h q3a_0 "dev/quotefuse/engine/WideCount" "high" "J" (.long ((0 : Int64) + ((own_mh q3a_1 q3a_2) + (0 : Int64)))) ∧ Fld Z h q3a_0 "dev/quotefuse/engine/WideCount" "beyond" "Ljava/math/BigInteger;" (.ref w3a_q3a_0_beyond)
set_option maxRecDepth 65536 in
set_option maxHeartbeats 40000000 in
theorem rm3a (l : Launch) (Z : State) (a0 : Array Value) (hw : ∀ d ∈ tables_1, d.before a0 Z = true) (ws : List Jvm.Cond) (q3a_0 : Addr) (q3a_1 : Int64) (q3a_2 : Int64) (w3a_q3a_0_beyond : Addr) (h0 : Heap) (n0 : Nat) (Z0 : n0 ≤ h0.size) (F_q3a_0_low : Fld Z h0 q3a_0 "dev/quotefuse/engine/WideCount" "low" "J" (.long (0 : Int64))) (F_q3a_0_high : Fld Z h0 q3a_0 "dev/quotefuse/engine/WideCount" "high" "J" (.long (0 : Int64))) (hno : ¬ (((0 : Int64) + ((own_mh q3a_1 q3a_2) + (0 : Int64))) < (0 : Int64))) (F_q3a_0_beyond : Fld Z h0 q3a_0 "dev/quotefuse/engine/WideCount" "beyond" "Ljava/math/BigInteger;" (.ref w3a_q3a_0_beyond)) (E_q3a_0 : Exa Z h0 q3a_0 "dev/quotefuse/engine/WideCount") (g_q3a_0 : n0 ≤ q3a_0) :
    MetFree l (⟨"dev/quotefuse/engine/WideCount", "addProduct", "(JJ)V"⟩ : MethodName) (head1 (Jvm.Cond.code (⟨"dev/quotefuse/engine/WideCount", "addProduct", "(JJ)V"⟩ : MethodName) prog_40_method_3_code 5 none :: ws) ({ frames := 3, cells := 0, slots := 0, locals := 50 } : Room)) (fun a U => a = #[(.ref q3a_0), (.long q3a_1), (.long q3a_2)] ∧ Z.Warmed39 U.vm ∧ U.heap = h0) (fun _ _ _ _ _ => True) (fun _ U o U' => ∃ v L, o = .returned v ∧ Q3a Z q3a_0 q3a_1 q3a_2 w3a_q3a_0_beyond h0 n0 v U'.heap L ∧ FrameEnd U o U' L ({ frames := 3, cells := 0, slots := 0, locals := 50 } : Room).cells ({ frames := 3, cells := 0, slots := 0, locals := 50 } : Room).slots) := by
  refine MetFree.of_bodySF (plainFor_of_name pn_1) hisR ?_
  intro p e s m args below meth c s₁ Bd hml0 hP hK
  obtain ⟨rfl, hZ, hh⟩ := hP
  have hx := Bd.exec
  have hby := Bd.bytes
  have hml : c.maxLocals = 5 := hml0
  have hown : s.vm.findClass "dev/quotefuse/engine/WideCount" = some m.cls := findClass_of_methodNamed Bd.named
  have hnm := (name_of_methodNamed Bd.named Bd.method).1
  have X0 : Stand p l e ({ frames := 3, cells := 0, slots := 0, locals := 50 } : Room) s m #[(.ref q3a_0), (.long q3a_1), (.long q3a_2)] below meth c s₁ [] 0 0 := Stand.of_body Bd
  have e0 : s₁.heap = h0 := by rw [← hh, Bd.state]; rfl
  have N0 := Fr.nil n0
  obtain ⟨S0, hE0⟩ : ∃ z, z = s₁.setTop (entryFrame m #[(.ref q3a_0), (.long q3a_1), (.long q3a_2)] 5) := ⟨_, rfl⟩
  have P0 : own_Go p e below S0 (s₁.setTop (mkF m 0 #[.val (.ref q3a_0), .val (.long q3a_1), .second, .val (.long q3a_2), .second] [])) := fun t k => by rw [hE0]; exact castTop (ef_3a m q3a_0 q3a_1 q3a_2) k
  have P1 : own_Go p e below S0 (s₁.setTop (mkF m 3 #[.val (.ref q3a_0), .val (.long q3a_1), .second, .val (.long q3a_2), .second] [(.long q3a_2), (.long q3a_1), (.ref q3a_0)])) := fun t k => P0 t (by
    show Steps p.tables e below (s₁.setTop (mkF m 0 #[.val (.ref q3a_0), .val (.long q3a_1), .second, .val (.long q3a_2), .second] [])) t
    refine XS.aloadN X0.here hx rfl (hb hby d3_0) rfl rfl ?_
    refine XS.lloadN X0.here hx rfl (hb hby d3_1) rfl ?_
    refine XS.lloadN X0.here hx rfl (hb hby d3_2) rfl ?_
    show Steps p.tables e below (s₁.setTop (mkF m 3 #[.val (.ref q3a_0), .val (.long q3a_1), .second, .val (.long q3a_2), .second] [(.long q3a_2), (.long q3a_1), (.ref q3a_0)])) t
    exact k)
  obtain ⟨_, _, ⟨T2, L2, k2, n2⟩, -, X2, ⟨Lc2, hQ2, l2, y2, z2⟩, st2⟩ := Jvm.LawKit.callS X0 hx (y := (⟨"java/lang/Math", "multiplyHigh", "(JJ)J"⟩ : MethodName)) hown (mvT hZ (hw _ (List.mem_of_getElem? (i := 19) rfl))) (mvT hZ (hw _ (List.mem_of_getElem? (i := 20) rfl))) (mvT hZ (hw _ (List.mem_of_getElem? (i := 21) rfl))) (mvT hZ (hw _ (List.mem_of_getElem? (i := 22) rfl))) (by decide) (backOf (W := 1) (rm4 l Z a0 hw [] q3a_1 q3a_2 h0 n0 Z0) hZ (hw _ (List.mem_of_getElem? (i := 22) rfl)) (hw _ (List.mem_of_getElem? (i := 21) rfl)) (by decide) (by decide)) (g := (mkF m 3 #[.val (.ref q3a_0), .val (.long q3a_1), .second, .val (.long q3a_2), .second] [(.long q3a_2), (.long q3a_1), (.ref q3a_0)])) rfl (by rw [hml]; rfl) (argsL := [(.long q3a_1), (.long q3a_2)]) (rest := [(.ref q3a_0)]) (lenOf pd_2 rfl) rfl (by show 2 * 0 + _ ≤ _; exact Nat.le_of_eq rfl) (hb hby d3_3) (fun _ _ => ⟨rfl, e0, (by decide : 0 + 0 ≤ _), (by decide : 0 + 0 ≤ _)⟩)
  dsimp only [Pt.U, Pt.locs, Pt.cells, Pt.slots] at X2 l2 y2 z2 st2 hQ2
  subst l2 y2 z2
  obtain ⟨rfl, N2q, e2⟩ := hQ2
  have N2 := Fr.app N0 N2q
  have P2 : own_Go p e below S0 (T2.setTop (mkF m 6 #[.val (.ref q3a_0), .val (.long q3a_1), .second, .val (.long q3a_2), .second] [(.long (own_mh q3a_1 q3a_2)), (.ref q3a_0)])) := fun t k => P1 t (st2 _ k)
  have P3 : own_Go p e below S0 (T2.setTop (mkF m 9 #[.val (.ref q3a_0), .val (.long q3a_1), .second, .val (.long q3a_2), .second] [(.long (q3a_1 * q3a_2)), (.long (own_mh q3a_1 q3a_2)), (.ref q3a_0)])) := fun t k => P2 t (by
    show Steps p.tables e below (T2.setTop (mkF m 6 #[.val (.ref q3a_0), .val (.long q3a_1), .second, .val (.long q3a_2), .second] [(.long (own_mh q3a_1 q3a_2)), (.ref q3a_0)])) t
    refine XS.lloadN X2.here hx rfl (hb hby d3_6) rfl ?_
    refine XS.lloadN X2.here hx rfl (hb hby d3_7) rfl ?_
    refine XS.lmul X2.here hx rfl (hb hby d3_8) rfl ?_
    show Steps p.tables e below (T2.setTop (mkF m 9 #[.val (.ref q3a_0), .val (.long q3a_1), .second, .val (.long q3a_2), .second] [(.long (q3a_1 * q3a_2)), (.long (own_mh q3a_1 q3a_2)), (.ref q3a_0)])) t
    exact k)
  obtain ⟨cq4, q4, q4'⟩ := E_q3a_0.cell
  obtain ⟨_, _, ⟨T4, L4, k4, n4⟩, -, X4, ⟨Lc4, hQ4, l4, y4, z4⟩, st4⟩ := X2.privateBack hx (y := (⟨"dev/quotefuse/engine/WideCount", "plus", "(JJ)V"⟩ : MethodName)) hown (mvT hZ (hw _ (List.mem_of_getElem? (i := 24) rfl))) (mvT hZ (hw _ (List.mem_of_getElem? (i := 25) rfl))) (own_selp (y := (⟨"dev/quotefuse/engine/WideCount", "plus", "(JJ)V"⟩ : MethodName)) (mvT hZ (hw _ (List.mem_of_getElem? (i := 2) rfl))) (Cond.privateMethod_at (mvP hZ (hw _ (List.mem_of_getElem? (i := 26) rfl)) (args := #[]))) (mvT hZ (hw _ (List.mem_of_getElem? (i := 25) rfl))) (by decide)) (Cond.privateMethod_at (mvP hZ (hw _ (List.mem_of_getElem? (i := 26) rfl)) (args := #[]))) (mvT hZ (hw _ (List.mem_of_getElem? (i := 27) rfl))) (by decide) (backOf (W := 0) (rm5a l Z a0 hw [] q3a_0 (own_mh q3a_1 q3a_2) (q3a_1 * q3a_2) w3a_q3a_0_beyond h0 n0 Z0 F_q3a_0_low F_q3a_0_high hno F_q3a_0_beyond E_q3a_0 g_q3a_0) hZ (hw _ (List.mem_of_getElem? (i := 27) rfl)) (hw _ (List.mem_of_getElem? (i := 3) rfl)) (by decide) (by decide)) (g := (mkF m 9 #[.val (.ref q3a_0), .val (.long q3a_1), .second, .val (.long q3a_2), .second] [(.long (q3a_1 * q3a_2)), (.long (own_mh q3a_1 q3a_2)), (.ref q3a_0)])) rfl (by rw [hml]; rfl) (Steps.refl _) (a := q3a_0) (by rw [e2]; exact q4) q4' (argsL := [(.long (own_mh q3a_1 q3a_2)), (.long (q3a_1 * q3a_2))]) (rest := []) (lenOf pd_3 rfl) rfl (by show 2 * 0 + _ ≤ _; exact Nat.le_of_eq rfl) (hb hby d3_9) (fun _ _ => ⟨rfl, e2, (by decide : 0 + 0 ≤ _), (by decide : 0 + 0 ≤ _)⟩)
  dsimp only [Pt.U, Pt.locs, Pt.cells, Pt.slots] at X4 l4 y4 z4 st4 hQ4
  subst l4 y4 z4
  obtain ⟨rfl, N4q, Kc4, F4_0, F4_1, F4_2⟩ := hQ4
  have N4 := Fr.app N2 N4q
  have K4 : Keep h0 T4.heap [q3a_0] := Keep.trans (Keep.refl h0 [q3a_0]) Kc4 (allS (Or.inl (by simp)) all0)
  have P4 : own_Go p e below S0 (T4.setTop (mkF m 12 #[.val (.ref q3a_0), .val (.long q3a_1), .second, .val (.long q3a_2), .second] [])) := fun t k => P3 t (st4.trans k)
  obtain ⟨fs, hr, hrun, hended, hW, hsame⟩ := X4.leave (v := none) (fun _ => rfl) (BodyLoose.notSynchronized Bd)
  refine ⟨_, _, own_from hE0 (P4 _ ?_), hrun, hended, _, _, rfl, ?_, ⟨_, rfl⟩, hW, hsame.mono (by decide) (by decide)⟩
  · show Steps p.tables e below (T4.setTop (mkF m 12 #[.val (.ref q3a_0), .val (.long q3a_1), .second, .val (.long q3a_2), .second] [])) _
    exact X4.returnOut hx Bd.returns (hb hby d3_12) hr
  · show Q3a Z q3a_0 q3a_1 q3a_2 w3a_q3a_0_beyond h0 n0 _ T4.heap _
    exact ⟨rfl, N4, K4, F4_0, F4_1, F4_2⟩
theorem ef_3n (m : MethodId) (q3n_0 : Addr) (q3n_1 : Int64) (q3n_2 : Int64) : entryFrame m #[(.ref q3n_0), (.long q3n_1), (.long q3n_2)] 5 = mkF m 0 #[.val (.ref q3n_0), .val (.long q3n_1), .second, .val (.long q3n_2), .second] [] := by first | (simp [entryFrame, mkF, argsToLocals, Value.category]; done) | rfl
def Q3n (Z : State) (q3n_0 : Addr) (q3n_1 : Int64) (q3n_2 : Int64) (ql : Int64) (qh : Int64) (w3n_q3n_0_beyond : Addr) (h0 : Heap) (n0 : Nat) (v : Option Value) (h : Heap) (L : List Loc) : Prop := v = none ∧ Fr n0 L ∧ Keep h0 h [q3n_0] ∧ Fld Z h q3n_0 "dev/quotefuse/engine/WideCount" "low" "J" (.long (ql + (q3n_1 * q3n_2))) ∧ Fld Z h q3n_0 "dev/quotefuse/engine/WideCount" "high" "J" (.long (f5n_high (own_mh q3n_1 q3n_2) (q3n_1 * q3n_2) ql qh)) ∧ Fld Z h q3n_0 "dev/quotefuse/engine/WideCount" "beyond" "Ljava/math/BigInteger;" (.ref w3n_q3n_0_beyond)
set_option maxRecDepth 65536 in
set_option maxHeartbeats 40000000 in
theorem rm3n (l : Launch) (Z : State) (a0 : Array Value) (hw : ∀ d ∈ tables_1, d.before a0 Z = true) (ws : List Jvm.Cond) (q3n_0 : Addr) (q3n_1 : Int64) (q3n_2 : Int64) (ql : Int64) (qh : Int64) (w3n_q3n_0_beyond : Addr) (h0 : Heap) (n0 : Nat) (Z0 : n0 ≤ h0.size) (F_q3n_0_low : Fld Z h0 q3n_0 "dev/quotefuse/engine/WideCount" "low" "J" (.long ql)) (F_q3n_0_high : Fld Z h0 q3n_0 "dev/quotefuse/engine/WideCount" "high" "J" (.long qh)) (hno : (((own_cu (ql + (q3n_1 * q3n_2)) ql) < (0 : Int32)) → ¬ ((qh + ((own_mh q3n_1 q3n_2) + (1 : Int64))) < (0 : Int64))) ∧ (¬ ((own_cu (ql + (q3n_1 * q3n_2)) ql) < (0 : Int32)) → ¬ ((qh + ((own_mh q3n_1 q3n_2) + (0 : Int64))) < (0 : Int64)))) (F_q3n_0_beyond : Fld Z h0 q3n_0 "dev/quotefuse/engine/WideCount" "beyond" "Ljava/math/BigInteger;" (.ref w3n_q3n_0_beyond)) (E_q3n_0 : Exa Z h0 q3n_0 "dev/quotefuse/engine/WideCount") (g_q3n_0 : n0 ≤ q3n_0) :
    MetFree l (⟨"dev/quotefuse/engine/WideCount", "addProduct", "(JJ)V"⟩ : MethodName) (head1 (Jvm.Cond.code (⟨"dev/quotefuse/engine/WideCount", "addProduct", "(JJ)V"⟩ : MethodName) prog_40_method_3_code 5 none :: ws) ({ frames := 3, cells := 0, slots := 0, locals := 50 } : Room)) (fun a U => a = #[(.ref q3n_0), (.long q3n_1), (.long q3n_2)] ∧ Z.Warmed39 U.vm ∧ U.heap = h0) (fun _ _ _ _ _ => True) (fun _ U o U' => ∃ v L, o = .returned v ∧ Q3n Z q3n_0 q3n_1 q3n_2 ql qh w3n_q3n_0_beyond h0 n0 v U'.heap L ∧ FrameEnd U o U' L ({ frames := 3, cells := 0, slots := 0, locals := 50 } : Room).cells ({ frames := 3, cells := 0, slots := 0, locals := 50 } : Room).slots) := by
  refine MetFree.of_bodySF (plainFor_of_name pn_1) hisR ?_
  intro p e s m args below meth c s₁ Bd hml0 hP hK
  obtain ⟨rfl, hZ, hh⟩ := hP
  have hx := Bd.exec
  have hby := Bd.bytes
  have hml : c.maxLocals = 5 := hml0
  have hown : s.vm.findClass "dev/quotefuse/engine/WideCount" = some m.cls := findClass_of_methodNamed Bd.named
  have hnm := (name_of_methodNamed Bd.named Bd.method).1
  have X0 : Stand p l e ({ frames := 3, cells := 0, slots := 0, locals := 50 } : Room) s m #[(.ref q3n_0), (.long q3n_1), (.long q3n_2)] below meth c s₁ [] 0 0 := Stand.of_body Bd
  have e0 : s₁.heap = h0 := by rw [← hh, Bd.state]; rfl
  have N0 := Fr.nil n0
  obtain ⟨S0, hE0⟩ : ∃ z, z = s₁.setTop (entryFrame m #[(.ref q3n_0), (.long q3n_1), (.long q3n_2)] 5) := ⟨_, rfl⟩
  have P0 : own_Go p e below S0 (s₁.setTop (mkF m 0 #[.val (.ref q3n_0), .val (.long q3n_1), .second, .val (.long q3n_2), .second] [])) := fun t k => by rw [hE0]; exact castTop (ef_3n m q3n_0 q3n_1 q3n_2) k
  have P1 : own_Go p e below S0 (s₁.setTop (mkF m 3 #[.val (.ref q3n_0), .val (.long q3n_1), .second, .val (.long q3n_2), .second] [(.long q3n_2), (.long q3n_1), (.ref q3n_0)])) := fun t k => P0 t (by
    show Steps p.tables e below (s₁.setTop (mkF m 0 #[.val (.ref q3n_0), .val (.long q3n_1), .second, .val (.long q3n_2), .second] [])) t
    refine XS.aloadN X0.here hx rfl (hb hby d3_0) rfl rfl ?_
    refine XS.lloadN X0.here hx rfl (hb hby d3_1) rfl ?_
    refine XS.lloadN X0.here hx rfl (hb hby d3_2) rfl ?_
    show Steps p.tables e below (s₁.setTop (mkF m 3 #[.val (.ref q3n_0), .val (.long q3n_1), .second, .val (.long q3n_2), .second] [(.long q3n_2), (.long q3n_1), (.ref q3n_0)])) t
    exact k)
  obtain ⟨_, _, ⟨T2, L2, k2, n2⟩, -, X2, ⟨Lc2, hQ2, l2, y2, z2⟩, st2⟩ := Jvm.LawKit.callS X0 hx (y := (⟨"java/lang/Math", "multiplyHigh", "(JJ)J"⟩ : MethodName)) hown (mvT hZ (hw _ (List.mem_of_getElem? (i := 19) rfl))) (mvT hZ (hw _ (List.mem_of_getElem? (i := 20) rfl))) (mvT hZ (hw _ (List.mem_of_getElem? (i := 21) rfl))) (mvT hZ (hw _ (List.mem_of_getElem? (i := 22) rfl))) (by decide) (backOf (W := 1) (rm4 l Z a0 hw [] q3n_1 q3n_2 h0 n0 Z0) hZ (hw _ (List.mem_of_getElem? (i := 22) rfl)) (hw _ (List.mem_of_getElem? (i := 21) rfl)) (by decide) (by decide)) (g := (mkF m 3 #[.val (.ref q3n_0), .val (.long q3n_1), .second, .val (.long q3n_2), .second] [(.long q3n_2), (.long q3n_1), (.ref q3n_0)])) rfl (by rw [hml]; rfl) (argsL := [(.long q3n_1), (.long q3n_2)]) (rest := [(.ref q3n_0)]) (lenOf pd_2 rfl) rfl (by show 2 * 0 + _ ≤ _; exact Nat.le_of_eq rfl) (hb hby d3_3) (fun _ _ => ⟨rfl, e0, (by decide : 0 + 0 ≤ _), (by decide : 0 + 0 ≤ _)⟩)
  dsimp only [Pt.U, Pt.locs, Pt.cells, Pt.slots] at X2 l2 y2 z2 st2 hQ2
  subst l2 y2 z2
  obtain ⟨rfl, N2q, e2⟩ := hQ2
  have N2 := Fr.app N0 N2q
  have P2 : own_Go p e below S0 (T2.setTop (mkF m 6 #[.val (.ref q3n_0), .val (.long q3n_1), .second, .val (.long q3n_2), .second] [(.long (own_mh q3n_1 q3n_2)), (.ref q3n_0)])) := fun t k => P1 t (st2 _ k)
  have P3 : own_Go p e below S0 (T2.setTop (mkF m 9 #[.val (.ref q3n_0), .val (.long q3n_1), .second, .val (.long q3n_2), .second] [(.long (q3n_1 * q3n_2)), (.long (own_mh q3n_1 q3n_2)), (.ref q3n_0)])) := fun t k => P2 t (by
    show Steps p.tables e below (T2.setTop (mkF m 6 #[.val (.ref q3n_0), .val (.long q3n_1), .second, .val (.long q3n_2), .second] [(.long (own_mh q3n_1 q3n_2)), (.ref q3n_0)])) t
    refine XS.lloadN X2.here hx rfl (hb hby d3_6) rfl ?_
    refine XS.lloadN X2.here hx rfl (hb hby d3_7) rfl ?_
    refine XS.lmul X2.here hx rfl (hb hby d3_8) rfl ?_
    show Steps p.tables e below (T2.setTop (mkF m 9 #[.val (.ref q3n_0), .val (.long q3n_1), .second, .val (.long q3n_2), .second] [(.long (q3n_1 * q3n_2)), (.long (own_mh q3n_1 q3n_2)), (.ref q3n_0)])) t
    exact k)
  obtain ⟨cq4, q4, q4'⟩ := E_q3n_0.cell
  obtain ⟨_, _, ⟨T4, L4, k4, n4⟩, -, X4, ⟨Lc4, hQ4, l4, y4, z4⟩, st4⟩ := X2.privateBack hx (y := (⟨"dev/quotefuse/engine/WideCount", "plus", "(JJ)V"⟩ : MethodName)) hown (mvT hZ (hw _ (List.mem_of_getElem? (i := 24) rfl))) (mvT hZ (hw _ (List.mem_of_getElem? (i := 25) rfl))) (own_selp (y := (⟨"dev/quotefuse/engine/WideCount", "plus", "(JJ)V"⟩ : MethodName)) (mvT hZ (hw _ (List.mem_of_getElem? (i := 2) rfl))) (Cond.privateMethod_at (mvP hZ (hw _ (List.mem_of_getElem? (i := 26) rfl)) (args := #[]))) (mvT hZ (hw _ (List.mem_of_getElem? (i := 25) rfl))) (by decide)) (Cond.privateMethod_at (mvP hZ (hw _ (List.mem_of_getElem? (i := 26) rfl)) (args := #[]))) (mvT hZ (hw _ (List.mem_of_getElem? (i := 27) rfl))) (by decide) (backOf (W := 0) (rm5n l Z a0 hw [] q3n_0 (own_mh q3n_1 q3n_2) (q3n_1 * q3n_2) ql qh w3n_q3n_0_beyond h0 n0 Z0 F_q3n_0_low F_q3n_0_high hno F_q3n_0_beyond E_q3n_0 g_q3n_0) hZ (hw _ (List.mem_of_getElem? (i := 27) rfl)) (hw _ (List.mem_of_getElem? (i := 3) rfl)) (by decide) (by decide)) (g := (mkF m 9 #[.val (.ref q3n_0), .val (.long q3n_1), .second, .val (.long q3n_2), .second] [(.long (q3n_1 * q3n_2)), (.long (own_mh q3n_1 q3n_2)), (.ref q3n_0)])) rfl (by rw [hml]; rfl) (Steps.refl _) (a := q3n_0) (by rw [e2]; exact q4) q4' (argsL := [(.long (own_mh q3n_1 q3n_2)), (.long (q3n_1 * q3n_2))]) (rest := []) (lenOf pd_3 rfl) rfl (by show 2 * 0 + _ ≤ _; exact Nat.le_of_eq rfl) (hb hby d3_9) (fun _ _ => ⟨rfl, e2, (by decide : 0 + 0 ≤ _), (by decide : 0 + 0 ≤ _)⟩)
  dsimp only [Pt.U, Pt.locs, Pt.cells, Pt.slots] at X4 l4 y4 z4 st4 hQ4
  subst l4 y4 z4
  obtain ⟨rfl, N4q, Kc4, F4_0, F4_1, F4_2⟩ := hQ4
  have N4 := Fr.app N2 N4q
  have K4 : Keep h0 T4.heap [q3n_0] := Keep.trans (Keep.refl h0 [q3n_0]) Kc4 (allS (Or.inl (by simp)) all0)
  have P4 : own_Go p e below S0 (T4.setTop (mkF m 12 #[.val (.ref q3n_0), .val (.long q3n_1), .second, .val (.long q3n_2), .second] [])) := fun t k => P3 t (st4.trans k)
  obtain ⟨fs, hr, hrun, hended, hW, hsame⟩ := X4.leave (v := none) (fun _ => rfl) (BodyLoose.notSynchronized Bd)
  refine ⟨_, _, own_from hE0 (P4 _ ?_), hrun, hended, _, _, rfl, ?_, ⟨_, rfl⟩, hW, hsame.mono (by decide) (by decide)⟩
  · show Steps p.tables e below (T4.setTop (mkF m 12 #[.val (.ref q3n_0), .val (.long q3n_1), .second, .val (.long q3n_2), .second] [])) _
    exact X4.returnOut hx Bd.returns (hb hby d3_12) hr
  · show Q3n Z q3n_0 q3n_1 q3n_2 ql qh w3n_q3n_0_beyond h0 n0 _ T4.heap _
    exact ⟨rfl, N4, K4, F4_0, F4_1, F4_2⟩
theorem ef_3v (m : MethodId) (q3v_0 : Addr) (q3v_1 : Int64) (q3v_2 : Int64) : entryFrame m #[(.ref q3v_0), (.long q3v_1), (.long q3v_2)] 5 = mkF m 0 #[.val (.ref q3v_0), .val (.long q3v_1), .second, .val (.long q3v_2), .second] [] := by first | (simp [entryFrame, mkF, argsToLocals, Value.category]; done) | rfl
def Q3v (Z : State) (q3v_0 : Addr) (q3v_1 : Int64) (q3v_2 : Int64) (ql : Int64) (qh : Int64) (qb : Addr) (qo : Addr) (h0 : Heap) (n0 : Nat) (v : Option Value) (h : Heap) (L : List Loc) : Prop := v = none ∧ Fr n0 L ∧ Keep h0 h [q3v_0] ∧ Fld Z h q3v_0 "dev/quotefuse/engine/WideCount" "low" "J" (.long (ql + (q3v_1 * q3v_2))) ∧ Fld Z h q3v_0 "dev/quotefuse/engine/WideCount" "high" "J" (.long (f5v_high (own_mh q3v_1 q3v_2) (q3v_1 * q3v_2) ql qh)) ∧ Fld Z h q3v_0 "dev/quotefuse/engine/WideCount" "beyond" "Ljava/math/BigInteger;" (.ref qo)
set_option maxRecDepth 65536 in
set_option maxHeartbeats 40000000 in
theorem rm3v (l : Launch) (Z : State) (a0 : Array Value) (hw : ∀ d ∈ tables_1, d.before a0 Z = true) (ws : List Jvm.Cond) (q3v_0 : Addr) (q3v_1 : Int64) (q3v_2 : Int64) (ql : Int64) (qh : Int64) (qb : Addr) (qo : Addr) (h0 : Heap) (n0 : Nat) (Z0 : n0 ≤ h0.size) (F_q3v_0_low : Fld Z h0 q3v_0 "dev/quotefuse/engine/WideCount" "low" "J" (.long ql)) (F_q3v_0_high : Fld Z h0 q3v_0 "dev/quotefuse/engine/WideCount" "high" "J" (.long qh)) (hov : (((own_cu (ql + (q3v_1 * q3v_2)) ql) < (0 : Int32)) → (qh + ((own_mh q3v_1 q3v_2) + (1 : Int64))) < (0 : Int64)) ∧ (¬ ((own_cu (ql + (q3v_1 * q3v_2)) ql) < (0 : Int32)) → (qh + ((own_mh q3v_1 q3v_2) + (0 : Int64))) < (0 : Int64))) (F_q3v_0_beyond : Fld Z h0 q3v_0 "dev/quotefuse/engine/WideCount" "beyond" "Ljava/math/BigInteger;" (.ref qb)) (F_qb_signum : Fld Z h0 qb "java/math/BigInteger" "signum" "I" (.int (0 : Int32))) (E_qb : Exa Z h0 qb "java/math/BigInteger") (S_ONE : Sta Z h0 "java/math/BigInteger" "ONE" "Ljava/math/BigInteger;" (.ref qo)) (F_qo_signum : Fld Z h0 qo "java/math/BigInteger" "signum" "I" (.int (1 : Int32))) (E_q3v_0 : Exa Z h0 q3v_0 "dev/quotefuse/engine/WideCount") (g_q3v_0 : n0 ≤ q3v_0) (hne_qb_q3v_0 : qb ≠ q3v_0) (hne_qo_q3v_0 : qo ≠ q3v_0) :
    MetFree l (⟨"dev/quotefuse/engine/WideCount", "addProduct", "(JJ)V"⟩ : MethodName) (head1 (Jvm.Cond.code (⟨"dev/quotefuse/engine/WideCount", "addProduct", "(JJ)V"⟩ : MethodName) prog_40_method_3_code 5 none :: ws) ({ frames := 3, cells := 0, slots := 0, locals := 50 } : Room)) (fun a U => a = #[(.ref q3v_0), (.long q3v_1), (.long q3v_2)] ∧ Z.Warmed39 U.vm ∧ U.heap = h0) (fun _ _ _ _ _ => True) (fun _ U o U' => ∃ v L, o = .returned v ∧ Q3v Z q3v_0 q3v_1 q3v_2 ql qh qb qo h0 n0 v U'.heap L ∧ FrameEnd U o U' L ({ frames := 3, cells := 0, slots := 0, locals := 50 } : Room).cells ({ frames := 3, cells := 0, slots := 0, locals := 50 } : Room).slots) := by
  refine MetFree.of_bodySF (plainFor_of_name pn_1) hisR ?_
  intro p e s m args below meth c s₁ Bd hml0 hP hK
  obtain ⟨rfl, hZ, hh⟩ := hP
  have hx := Bd.exec
  have hby := Bd.bytes
  have hml : c.maxLocals = 5 := hml0
  have hown : s.vm.findClass "dev/quotefuse/engine/WideCount" = some m.cls := findClass_of_methodNamed Bd.named
  have hnm := (name_of_methodNamed Bd.named Bd.method).1
  have X0 : Stand p l e ({ frames := 3, cells := 0, slots := 0, locals := 50 } : Room) s m #[(.ref q3v_0), (.long q3v_1), (.long q3v_2)] below meth c s₁ [] 0 0 := Stand.of_body Bd
  have e0 : s₁.heap = h0 := by rw [← hh, Bd.state]; rfl
  have N0 := Fr.nil n0
  obtain ⟨S0, hE0⟩ : ∃ z, z = s₁.setTop (entryFrame m #[(.ref q3v_0), (.long q3v_1), (.long q3v_2)] 5) := ⟨_, rfl⟩
  have P0 : own_Go p e below S0 (s₁.setTop (mkF m 0 #[.val (.ref q3v_0), .val (.long q3v_1), .second, .val (.long q3v_2), .second] [])) := fun t k => by rw [hE0]; exact castTop (ef_3v m q3v_0 q3v_1 q3v_2) k
  have P1 : own_Go p e below S0 (s₁.setTop (mkF m 3 #[.val (.ref q3v_0), .val (.long q3v_1), .second, .val (.long q3v_2), .second] [(.long q3v_2), (.long q3v_1), (.ref q3v_0)])) := fun t k => P0 t (by
    show Steps p.tables e below (s₁.setTop (mkF m 0 #[.val (.ref q3v_0), .val (.long q3v_1), .second, .val (.long q3v_2), .second] [])) t
    refine XS.aloadN X0.here hx rfl (hb hby d3_0) rfl rfl ?_
    refine XS.lloadN X0.here hx rfl (hb hby d3_1) rfl ?_
    refine XS.lloadN X0.here hx rfl (hb hby d3_2) rfl ?_
    show Steps p.tables e below (s₁.setTop (mkF m 3 #[.val (.ref q3v_0), .val (.long q3v_1), .second, .val (.long q3v_2), .second] [(.long q3v_2), (.long q3v_1), (.ref q3v_0)])) t
    exact k)
  obtain ⟨_, _, ⟨T2, L2, k2, n2⟩, -, X2, ⟨Lc2, hQ2, l2, y2, z2⟩, st2⟩ := Jvm.LawKit.callS X0 hx (y := (⟨"java/lang/Math", "multiplyHigh", "(JJ)J"⟩ : MethodName)) hown (mvT hZ (hw _ (List.mem_of_getElem? (i := 19) rfl))) (mvT hZ (hw _ (List.mem_of_getElem? (i := 20) rfl))) (mvT hZ (hw _ (List.mem_of_getElem? (i := 21) rfl))) (mvT hZ (hw _ (List.mem_of_getElem? (i := 22) rfl))) (by decide) (backOf (W := 1) (rm4 l Z a0 hw [] q3v_1 q3v_2 h0 n0 Z0) hZ (hw _ (List.mem_of_getElem? (i := 22) rfl)) (hw _ (List.mem_of_getElem? (i := 21) rfl)) (by decide) (by decide)) (g := (mkF m 3 #[.val (.ref q3v_0), .val (.long q3v_1), .second, .val (.long q3v_2), .second] [(.long q3v_2), (.long q3v_1), (.ref q3v_0)])) rfl (by rw [hml]; rfl) (argsL := [(.long q3v_1), (.long q3v_2)]) (rest := [(.ref q3v_0)]) (lenOf pd_2 rfl) rfl (by show 2 * 0 + _ ≤ _; exact Nat.le_of_eq rfl) (hb hby d3_3) (fun _ _ => ⟨rfl, e0, (by decide : 0 + 0 ≤ _), (by decide : 0 + 0 ≤ _)⟩)
  dsimp only [Pt.U, Pt.locs, Pt.cells, Pt.slots] at X2 l2 y2 z2 st2 hQ2
  subst l2 y2 z2
  obtain ⟨rfl, N2q, e2⟩ := hQ2
  have N2 := Fr.app N0 N2q
  have P2 : own_Go p e below S0 (T2.setTop (mkF m 6 #[.val (.ref q3v_0), .val (.long q3v_1), .second, .val (.long q3v_2), .second] [(.long (own_mh q3v_1 q3v_2)), (.ref q3v_0)])) := fun t k => P1 t (st2 _ k)
  have P3 : own_Go p e below S0 (T2.setTop (mkF m 9 #[.val (.ref q3v_0), .val (.long q3v_1), .second, .val (.long q3v_2), .second] [(.long (q3v_1 * q3v_2)), (.long (own_mh q3v_1 q3v_2)), (.ref q3v_0)])) := fun t k => P2 t (by
    show Steps p.tables e below (T2.setTop (mkF m 6 #[.val (.ref q3v_0), .val (.long q3v_1), .second, .val (.long q3v_2), .second] [(.long (own_mh q3v_1 q3v_2)), (.ref q3v_0)])) t
    refine XS.lloadN X2.here hx rfl (hb hby d3_6) rfl ?_
    refine XS.lloadN X2.here hx rfl (hb hby d3_7) rfl ?_
    refine XS.lmul X2.here hx rfl (hb hby d3_8) rfl ?_
    show Steps p.tables e below (T2.setTop (mkF m 9 #[.val (.ref q3v_0), .val (.long q3v_1), .second, .val (.long q3v_2), .second] [(.long (q3v_1 * q3v_2)), (.long (own_mh q3v_1 q3v_2)), (.ref q3v_0)])) t
    exact k)
  obtain ⟨cq4, q4, q4'⟩ := E_q3v_0.cell
  obtain ⟨_, _, ⟨T4, L4, k4, n4⟩, -, X4, ⟨Lc4, hQ4, l4, y4, z4⟩, st4⟩ := X2.privateBack hx (y := (⟨"dev/quotefuse/engine/WideCount", "plus", "(JJ)V"⟩ : MethodName)) hown (mvT hZ (hw _ (List.mem_of_getElem? (i := 24) rfl))) (mvT hZ (hw _ (List.mem_of_getElem? (i := 25) rfl))) (own_selp (y := (⟨"dev/quotefuse/engine/WideCount", "plus", "(JJ)V"⟩ : MethodName)) (mvT hZ (hw _ (List.mem_of_getElem? (i := 2) rfl))) (Cond.privateMethod_at (mvP hZ (hw _ (List.mem_of_getElem? (i := 26) rfl)) (args := #[]))) (mvT hZ (hw _ (List.mem_of_getElem? (i := 25) rfl))) (by decide)) (Cond.privateMethod_at (mvP hZ (hw _ (List.mem_of_getElem? (i := 26) rfl)) (args := #[]))) (mvT hZ (hw _ (List.mem_of_getElem? (i := 27) rfl))) (by decide) (backOf (W := 0) (rm5v l Z a0 hw [] q3v_0 (own_mh q3v_1 q3v_2) (q3v_1 * q3v_2) ql qh qb qo h0 n0 Z0 F_q3v_0_low F_q3v_0_high hov F_q3v_0_beyond F_qb_signum E_qb S_ONE F_qo_signum E_q3v_0 g_q3v_0 hne_qb_q3v_0 hne_qo_q3v_0) hZ (hw _ (List.mem_of_getElem? (i := 27) rfl)) (hw _ (List.mem_of_getElem? (i := 3) rfl)) (by decide) (by decide)) (g := (mkF m 9 #[.val (.ref q3v_0), .val (.long q3v_1), .second, .val (.long q3v_2), .second] [(.long (q3v_1 * q3v_2)), (.long (own_mh q3v_1 q3v_2)), (.ref q3v_0)])) rfl (by rw [hml]; rfl) (Steps.refl _) (a := q3v_0) (by rw [e2]; exact q4) q4' (argsL := [(.long (own_mh q3v_1 q3v_2)), (.long (q3v_1 * q3v_2))]) (rest := []) (lenOf pd_3 rfl) rfl (by show 2 * 0 + _ ≤ _; exact Nat.le_of_eq rfl) (hb hby d3_9) (fun _ _ => ⟨rfl, e2, (by decide : 0 + 0 ≤ _), (by decide : 0 + 0 ≤ _)⟩)
  dsimp only [Pt.U, Pt.locs, Pt.cells, Pt.slots] at X4 l4 y4 z4 st4 hQ4
  subst l4 y4 z4
  obtain ⟨rfl, N4q, Kc4, F4_0, F4_1, F4_2⟩ := hQ4
  have N4 := Fr.app N2 N4q
  have K4 : Keep h0 T4.heap [q3v_0] := Keep.trans (Keep.refl h0 [q3v_0]) Kc4 (allS (Or.inl (by simp)) all0)
  have P4 : own_Go p e below S0 (T4.setTop (mkF m 12 #[.val (.ref q3v_0), .val (.long q3v_1), .second, .val (.long q3v_2), .second] [])) := fun t k => P3 t (st4.trans k)
  obtain ⟨fs, hr, hrun, hended, hW, hsame⟩ := X4.leave (v := none) (fun _ => rfl) (BodyLoose.notSynchronized Bd)
  refine ⟨_, _, own_from hE0 (P4 _ ?_), hrun, hended, _, _, rfl, ?_, ⟨_, rfl⟩, hW, hsame.mono (by decide) (by decide)⟩
  · show Steps p.tables e below (T4.setTop (mkF m 12 #[.val (.ref q3v_0), .val (.long q3v_1), .second, .val (.long q3v_2), .second] [])) _
    exact X4.returnOut hx Bd.returns (hb hby d3_12) hr
  · show Q3v Z q3v_0 q3v_1 q3v_2 ql qh qb qo h0 n0 _ T4.heap _
    exact ⟨rfl, N4, K4, F4_0, F4_1, F4_2⟩
theorem d12_0 : decode prog_40_method_2_code 0 = .ok (.aload_n 0, 1) := by decide +kernel
theorem d12_1 : decode prog_40_method_2_code 1 = .ok (.lconst 0, 1) := by decide +kernel
theorem d12_2 : decode prog_40_method_2_code 2 = .ok (.lload_n 1, 1) := by decide +kernel
theorem d12_3 : decode prog_40_method_2_code 3 = .ok (.invokevirtual 18, 3) := by decide +kernel
theorem d12_6 : decode prog_40_method_2_code 6 = .ok (.return_, 1) := by decide +kernel
theorem ef_12a (m : MethodId) (q12a_0 : Addr) (q12a_1 : Int64) : entryFrame m #[(.ref q12a_0), (.long q12a_1)] 3 = mkF m 0 #[.val (.ref q12a_0), .val (.long q12a_1), .second] [] := by first | (simp [entryFrame, mkF, argsToLocals, Value.category]; done) | rfl
def Q12a (Z : State) (q12a_0 : Addr) (q12a_1 : Int64) (w12a_q12a_0_beyond : Addr) (h0 : Heap) (n0 : Nat) (v : Option Value) (h : Heap) (L : List Loc) : Prop := v = none ∧ Fr n0 L ∧ Keep h0 h [q12a_0] ∧ Fld Z h q12a_0 "dev/quotefuse/engine/WideCount" "low" "J" (.long ((0 : Int64) + q12a_1)) ∧ Fld Z h q12a_0 "dev/quotefuse/engine/WideCount" "high" "J" (.long ((0 : Int64) + ((0 : Int64) + (0 : Int64)))) ∧ Fld Z h q12a_0 "dev/quotefuse/engine/WideCount" "beyond" "Ljava/math/BigInteger;" (.ref w12a_q12a_0_beyond)
set_option maxRecDepth 65536 in
set_option maxHeartbeats 40000000 in
theorem rm12a (l : Launch) (Z : State) (a0 : Array Value) (hw : ∀ d ∈ tables_1, d.before a0 Z = true) (ws : List Jvm.Cond) (q12a_0 : Addr) (q12a_1 : Int64) (w12a_q12a_0_beyond : Addr) (h0 : Heap) (n0 : Nat) (Z0 : n0 ≤ h0.size) (F_q12a_0_low : Fld Z h0 q12a_0 "dev/quotefuse/engine/WideCount" "low" "J" (.long (0 : Int64))) (F_q12a_0_high : Fld Z h0 q12a_0 "dev/quotefuse/engine/WideCount" "high" "J" (.long (0 : Int64))) (hno : ¬ (((0 : Int64) + ((0 : Int64) + (0 : Int64))) < (0 : Int64))) (F_q12a_0_beyond : Fld Z h0 q12a_0 "dev/quotefuse/engine/WideCount" "beyond" "Ljava/math/BigInteger;" (.ref w12a_q12a_0_beyond)) (E_q12a_0 : Exa Z h0 q12a_0 "dev/quotefuse/engine/WideCount") (g_q12a_0 : n0 ≤ q12a_0) :
    MetFree l (⟨"dev/quotefuse/engine/WideCount", "add", "(J)V"⟩ : MethodName) (head1 (Jvm.Cond.code (⟨"dev/quotefuse/engine/WideCount", "add", "(J)V"⟩ : MethodName) prog_40_method_2_code 3 none :: ws) ({ frames := 3, cells := 0, slots := 0, locals := 50 } : Room)) (fun a U => a = #[(.ref q12a_0), (.long q12a_1)] ∧ Z.Warmed39 U.vm ∧ U.heap = h0) (fun _ _ _ _ _ => True) (fun _ U o U' => ∃ v L, o = .returned v ∧ Q12a Z q12a_0 q12a_1 w12a_q12a_0_beyond h0 n0 v U'.heap L ∧ FrameEnd U o U' L ({ frames := 3, cells := 0, slots := 0, locals := 50 } : Room).cells ({ frames := 3, cells := 0, slots := 0, locals := 50 } : Room).slots) := by
  refine MetFree.of_bodySF (plainFor_of_name pn_1) hisR ?_
  intro p e s m args below meth c s₁ Bd hml0 hP hK
  obtain ⟨rfl, hZ, hh⟩ := hP
  have hx := Bd.exec
  have hby := Bd.bytes
  have hml : c.maxLocals = 3 := hml0
  have hown : s.vm.findClass "dev/quotefuse/engine/WideCount" = some m.cls := findClass_of_methodNamed Bd.named
  have hnm := (name_of_methodNamed Bd.named Bd.method).1
  have X0 : Stand p l e ({ frames := 3, cells := 0, slots := 0, locals := 50 } : Room) s m #[(.ref q12a_0), (.long q12a_1)] below meth c s₁ [] 0 0 := Stand.of_body Bd
  have e0 : s₁.heap = h0 := by rw [← hh, Bd.state]; rfl
  have N0 := Fr.nil n0
  obtain ⟨S0, hE0⟩ : ∃ z, z = s₁.setTop (entryFrame m #[(.ref q12a_0), (.long q12a_1)] 3) := ⟨_, rfl⟩
  have P0 : own_Go p e below S0 (s₁.setTop (mkF m 0 #[.val (.ref q12a_0), .val (.long q12a_1), .second] [])) := fun t k => by rw [hE0]; exact castTop (ef_12a m q12a_0 q12a_1) k
  have P1 : own_Go p e below S0 (s₁.setTop (mkF m 3 #[.val (.ref q12a_0), .val (.long q12a_1), .second] [(.long q12a_1), (.long (0 : Int64)), (.ref q12a_0)])) := fun t k => P0 t (by
    show Steps p.tables e below (s₁.setTop (mkF m 0 #[.val (.ref q12a_0), .val (.long q12a_1), .second] [])) t
    refine XS.aloadN X0.here hx rfl (hb hby d12_0) rfl rfl ?_
    refine XS.lconst X0.here hx rfl (hb hby d12_1) ?_
    refine XS.lloadN X0.here hx rfl (hb hby d12_2) rfl ?_
    show Steps p.tables e below (s₁.setTop (mkF m 3 #[.val (.ref q12a_0), .val (.long q12a_1), .second] [(.long q12a_1), (.long (0 : Int64)), (.ref q12a_0)])) t
    exact k)
  obtain ⟨cq2, q2, q2'⟩ := E_q12a_0.cell
  obtain ⟨_, _, ⟨T2, L2, k2, n2⟩, -, X2, ⟨Lc2, hQ2, l2, y2, z2⟩, st2⟩ := X0.privateBack hx (y := (⟨"dev/quotefuse/engine/WideCount", "plus", "(JJ)V"⟩ : MethodName)) hown (mvT hZ (hw _ (List.mem_of_getElem? (i := 24) rfl))) (mvT hZ (hw _ (List.mem_of_getElem? (i := 25) rfl))) (own_selp (y := (⟨"dev/quotefuse/engine/WideCount", "plus", "(JJ)V"⟩ : MethodName)) (mvT hZ (hw _ (List.mem_of_getElem? (i := 2) rfl))) (Cond.privateMethod_at (mvP hZ (hw _ (List.mem_of_getElem? (i := 26) rfl)) (args := #[]))) (mvT hZ (hw _ (List.mem_of_getElem? (i := 25) rfl))) (by decide)) (Cond.privateMethod_at (mvP hZ (hw _ (List.mem_of_getElem? (i := 26) rfl)) (args := #[]))) (mvT hZ (hw _ (List.mem_of_getElem? (i := 27) rfl))) (by decide) (backOf (W := 0) (rm5a l Z a0 hw [] q12a_0 (0 : Int64) q12a_1 w12a_q12a_0_beyond h0 n0 Z0 F_q12a_0_low F_q12a_0_high hno F_q12a_0_beyond E_q12a_0 g_q12a_0) hZ (hw _ (List.mem_of_getElem? (i := 27) rfl)) (hw _ (List.mem_of_getElem? (i := 3) rfl)) (by decide) (by decide)) (g := (mkF m 3 #[.val (.ref q12a_0), .val (.long q12a_1), .second] [(.long q12a_1), (.long (0 : Int64)), (.ref q12a_0)])) rfl (by rw [hml]; rfl) (Steps.refl _) (a := q12a_0) (by rw [e0]; exact q2) q2' (argsL := [(.long (0 : Int64)), (.long q12a_1)]) (rest := []) (lenOf pd_3 rfl) rfl (by show 2 * 0 + _ ≤ _; exact Nat.le_of_eq rfl) (hb hby d12_3) (fun _ _ => ⟨rfl, e0, (by decide : 0 + 0 ≤ _), (by decide : 0 + 0 ≤ _)⟩)
  dsimp only [Pt.U, Pt.locs, Pt.cells, Pt.slots] at X2 l2 y2 z2 st2 hQ2
  subst l2 y2 z2
  obtain ⟨rfl, N2q, Kc2, F2_0, F2_1, F2_2⟩ := hQ2
  have N2 := Fr.app N0 N2q
  have K2 : Keep h0 T2.heap [q12a_0] := Keep.trans (Keep.refl h0 [q12a_0]) Kc2 (allS (Or.inl (by simp)) all0)
  have P2 : own_Go p e below S0 (T2.setTop (mkF m 6 #[.val (.ref q12a_0), .val (.long q12a_1), .second] [])) := fun t k => P1 t (st2.trans k)
  obtain ⟨fs, hr, hrun, hended, hW, hsame⟩ := X2.leave (v := none) (fun _ => rfl) (BodyLoose.notSynchronized Bd)
  refine ⟨_, _, own_from hE0 (P2 _ ?_), hrun, hended, _, _, rfl, ?_, ⟨_, rfl⟩, hW, hsame.mono (by decide) (by decide)⟩
  · show Steps p.tables e below (T2.setTop (mkF m 6 #[.val (.ref q12a_0), .val (.long q12a_1), .second] [])) _
    exact X2.returnOut hx Bd.returns (hb hby d12_6) hr
  · show Q12a Z q12a_0 q12a_1 w12a_q12a_0_beyond h0 n0 _ T2.heap _
    exact ⟨rfl, N2, K2, F2_0, F2_1, F2_2⟩
theorem ef_12n (m : MethodId) (q12n_0 : Addr) (q12n_1 : Int64) : entryFrame m #[(.ref q12n_0), (.long q12n_1)] 3 = mkF m 0 #[.val (.ref q12n_0), .val (.long q12n_1), .second] [] := by first | (simp [entryFrame, mkF, argsToLocals, Value.category]; done) | rfl
def Q12n (Z : State) (q12n_0 : Addr) (q12n_1 : Int64) (ql : Int64) (qh : Int64) (w12n_q12n_0_beyond : Addr) (h0 : Heap) (n0 : Nat) (v : Option Value) (h : Heap) (L : List Loc) : Prop := v = none ∧ Fr n0 L ∧ Keep h0 h [q12n_0] ∧ Fld Z h q12n_0 "dev/quotefuse/engine/WideCount" "low" "J" (.long (ql + q12n_1)) ∧ Fld Z h q12n_0 "dev/quotefuse/engine/WideCount" "high" "J" (.long (f5n_high (0 : Int64) q12n_1 ql qh)) ∧ Fld Z h q12n_0 "dev/quotefuse/engine/WideCount" "beyond" "Ljava/math/BigInteger;" (.ref w12n_q12n_0_beyond)
set_option maxRecDepth 65536 in
set_option maxHeartbeats 40000000 in
theorem rm12n (l : Launch) (Z : State) (a0 : Array Value) (hw : ∀ d ∈ tables_1, d.before a0 Z = true) (ws : List Jvm.Cond) (q12n_0 : Addr) (q12n_1 : Int64) (ql : Int64) (qh : Int64) (w12n_q12n_0_beyond : Addr) (h0 : Heap) (n0 : Nat) (Z0 : n0 ≤ h0.size) (F_q12n_0_low : Fld Z h0 q12n_0 "dev/quotefuse/engine/WideCount" "low" "J" (.long ql)) (F_q12n_0_high : Fld Z h0 q12n_0 "dev/quotefuse/engine/WideCount" "high" "J" (.long qh)) (hno : (((own_cu (ql + q12n_1) ql) < (0 : Int32)) → ¬ ((qh + ((0 : Int64) + (1 : Int64))) < (0 : Int64))) ∧ (¬ ((own_cu (ql + q12n_1) ql) < (0 : Int32)) → ¬ ((qh + ((0 : Int64) + (0 : Int64))) < (0 : Int64)))) (F_q12n_0_beyond : Fld Z h0 q12n_0 "dev/quotefuse/engine/WideCount" "beyond" "Ljava/math/BigInteger;" (.ref w12n_q12n_0_beyond)) (E_q12n_0 : Exa Z h0 q12n_0 "dev/quotefuse/engine/WideCount") (g_q12n_0 : n0 ≤ q12n_0) :
    MetFree l (⟨"dev/quotefuse/engine/WideCount", "add", "(J)V"⟩ : MethodName) (head1 (Jvm.Cond.code (⟨"dev/quotefuse/engine/WideCount", "add", "(J)V"⟩ : MethodName) prog_40_method_2_code 3 none :: ws) ({ frames := 3, cells := 0, slots := 0, locals := 50 } : Room)) (fun a U => a = #[(.ref q12n_0), (.long q12n_1)] ∧ Z.Warmed39 U.vm ∧ U.heap = h0) (fun _ _ _ _ _ => True) (fun _ U o U' => ∃ v L, o = .returned v ∧ Q12n Z q12n_0 q12n_1 ql qh w12n_q12n_0_beyond h0 n0 v U'.heap L ∧ FrameEnd U o U' L ({ frames := 3, cells := 0, slots := 0, locals := 50 } : Room).cells ({ frames := 3, cells := 0, slots := 0, locals := 50 } : Room).slots) := by
  refine MetFree.of_bodySF (plainFor_of_name pn_1) hisR ?_
  intro p e s m args below meth c s₁ Bd hml0 hP hK
  obtain ⟨rfl, hZ, hh⟩ := hP
  have hx := Bd.exec
  have hby := Bd.bytes
  have hml : c.maxLocals = 3 := hml0
  have hown : s.vm.findClass "dev/quotefuse/engine/WideCount" = some m.cls := findClass_of_methodNamed Bd.named
  have hnm := (name_of_methodNamed Bd.named Bd.method).1
  have X0 : Stand p l e ({ frames := 3, cells := 0, slots := 0, locals := 50 } : Room) s m #[(.ref q12n_0), (.long q12n_1)] below meth c s₁ [] 0 0 := Stand.of_body Bd
  have e0 : s₁.heap = h0 := by rw [← hh, Bd.state]; rfl
  have N0 := Fr.nil n0
  obtain ⟨S0, hE0⟩ : ∃ z, z = s₁.setTop (entryFrame m #[(.ref q12n_0), (.long q12n_1)] 3) := ⟨_, rfl⟩
  have P0 : own_Go p e below S0 (s₁.setTop (mkF m 0 #[.val (.ref q12n_0), .val (.long q12n_1), .second] [])) := fun t k => by rw [hE0]; exact castTop (ef_12n m q12n_0 q12n_1) k
  have P1 : own_Go p e below S0 (s₁.setTop (mkF m 3 #[.val (.ref q12n_0), .val (.long q12n_1), .second] [(.long q12n_1), (.long (0 : Int64)), (.ref q12n_0)])) := fun t k => P0 t (by
    show Steps p.tables e below (s₁.setTop (mkF m 0 #[.val (.ref q12n_0), .val (.long q12n_1), .second] [])) t
    refine XS.aloadN X0.here hx rfl (hb hby d12_0) rfl rfl ?_
    refine XS.lconst X0.here hx rfl (hb hby d12_1) ?_
    refine XS.lloadN X0.here hx rfl (hb hby d12_2) rfl ?_
    show Steps p.tables e below (s₁.setTop (mkF m 3 #[.val (.ref q12n_0), .val (.long q12n_1), .second] [(.long q12n_1), (.long (0 : Int64)), (.ref q12n_0)])) t
    exact k)
  obtain ⟨cq2, q2, q2'⟩ := E_q12n_0.cell
  obtain ⟨_, _, ⟨T2, L2, k2, n2⟩, -, X2, ⟨Lc2, hQ2, l2, y2, z2⟩, st2⟩ := X0.privateBack hx (y := (⟨"dev/quotefuse/engine/WideCount", "plus", "(JJ)V"⟩ : MethodName)) hown (mvT hZ (hw _ (List.mem_of_getElem? (i := 24) rfl))) (mvT hZ (hw _ (List.mem_of_getElem? (i := 25) rfl))) (own_selp (y := (⟨"dev/quotefuse/engine/WideCount", "plus", "(JJ)V"⟩ : MethodName)) (mvT hZ (hw _ (List.mem_of_getElem? (i := 2) rfl))) (Cond.privateMethod_at (mvP hZ (hw _ (List.mem_of_getElem? (i := 26) rfl)) (args := #[]))) (mvT hZ (hw _ (List.mem_of_getElem? (i := 25) rfl))) (by decide)) (Cond.privateMethod_at (mvP hZ (hw _ (List.mem_of_getElem? (i := 26) rfl)) (args := #[]))) (mvT hZ (hw _ (List.mem_of_getElem? (i := 27) rfl))) (by decide) (backOf (W := 0) (rm5n l Z a0 hw [] q12n_0 (0 : Int64) q12n_1 ql qh w12n_q12n_0_beyond h0 n0 Z0 F_q12n_0_low F_q12n_0_high hno F_q12n_0_beyond E_q12n_0 g_q12n_0) hZ (hw _ (List.mem_of_getElem? (i := 27) rfl)) (hw _ (List.mem_of_getElem? (i := 3) rfl)) (by decide) (by decide)) (g := (mkF m 3 #[.val (.ref q12n_0), .val (.long q12n_1), .second] [(.long q12n_1), (.long (0 : Int64)), (.ref q12n_0)])) rfl (by rw [hml]; rfl) (Steps.refl _) (a := q12n_0) (by rw [e0]; exact q2) q2' (argsL := [(.long (0 : Int64)), (.long q12n_1)]) (rest := []) (lenOf pd_3 rfl) rfl (by show 2 * 0 + _ ≤ _; exact Nat.le_of_eq rfl) (hb hby d12_3) (fun _ _ => ⟨rfl, e0, (by decide : 0 + 0 ≤ _), (by decide : 0 + 0 ≤ _)⟩)
  dsimp only [Pt.U, Pt.locs, Pt.cells, Pt.slots] at X2 l2 y2 z2 st2 hQ2
  subst l2 y2 z2
  obtain ⟨rfl, N2q, Kc2, F2_0, F2_1, F2_2⟩ := hQ2
  have N2 := Fr.app N0 N2q
  have K2 : Keep h0 T2.heap [q12n_0] := Keep.trans (Keep.refl h0 [q12n_0]) Kc2 (allS (Or.inl (by simp)) all0)
  have P2 : own_Go p e below S0 (T2.setTop (mkF m 6 #[.val (.ref q12n_0), .val (.long q12n_1), .second] [])) := fun t k => P1 t (st2.trans k)
  obtain ⟨fs, hr, hrun, hended, hW, hsame⟩ := X2.leave (v := none) (fun _ => rfl) (BodyLoose.notSynchronized Bd)
  refine ⟨_, _, own_from hE0 (P2 _ ?_), hrun, hended, _, _, rfl, ?_, ⟨_, rfl⟩, hW, hsame.mono (by decide) (by decide)⟩
  · show Steps p.tables e below (T2.setTop (mkF m 6 #[.val (.ref q12n_0), .val (.long q12n_1), .second] [])) _
    exact X2.returnOut hx Bd.returns (hb hby d12_6) hr
  · show Q12n Z q12n_0 q12n_1 ql qh w12n_q12n_0_beyond h0 n0 _ T2.heap _
    exact ⟨rfl, N2, K2, F2_0, F2_1, F2_2⟩
theorem ef_12v (m : MethodId) (q12v_0 : Addr) (q12v_1 : Int64) : entryFrame m #[(.ref q12v_0), (.long q12v_1)] 3 = mkF m 0 #[.val (.ref q12v_0), .val (.long q12v_1), .second] [] := by first | (simp [entryFrame, mkF, argsToLocals, Value.category]; done) | rfl
def Q12v (Z : State) (q12v_0 : Addr) (q12v_1 : Int64) (ql : Int64) (qh : Int64) (qb : Addr) (qo : Addr) (h0 : Heap) (n0 : Nat) (v : Option Value) (h : Heap) (L : List Loc) : Prop := v = none ∧ Fr n0 L ∧ Keep h0 h [q12v_0] ∧ Fld Z h q12v_0 "dev/quotefuse/engine/WideCount" "low" "J" (.long (ql + q12v_1)) ∧ Fld Z h q12v_0 "dev/quotefuse/engine/WideCount" "high" "J" (.long (f5v_high (0 : Int64) q12v_1 ql qh)) ∧ Fld Z h q12v_0 "dev/quotefuse/engine/WideCount" "beyond" "Ljava/math/BigInteger;" (.ref qo)
set_option maxRecDepth 65536 in
set_option maxHeartbeats 40000000 in
theorem rm12v (l : Launch) (Z : State) (a0 : Array Value) (hw : ∀ d ∈ tables_1, d.before a0 Z = true) (ws : List Jvm.Cond) (q12v_0 : Addr) (q12v_1 : Int64) (ql : Int64) (qh : Int64) (qb : Addr) (qo : Addr) (h0 : Heap) (n0 : Nat) (Z0 : n0 ≤ h0.size) (F_q12v_0_low : Fld Z h0 q12v_0 "dev/quotefuse/engine/WideCount" "low" "J" (.long ql)) (F_q12v_0_high : Fld Z h0 q12v_0 "dev/quotefuse/engine/WideCount" "high" "J" (.long qh)) (hov : (((own_cu (ql + q12v_1) ql) < (0 : Int32)) → (qh + ((0 : Int64) + (1 : Int64))) < (0 : Int64)) ∧ (¬ ((own_cu (ql + q12v_1) ql) < (0 : Int32)) → (qh + ((0 : Int64) + (0 : Int64))) < (0 : Int64))) (F_q12v_0_beyond : Fld Z h0 q12v_0 "dev/quotefuse/engine/WideCount" "beyond" "Ljava/math/BigInteger;" (.ref qb)) (F_qb_signum : Fld Z h0 qb "java/math/BigInteger" "signum" "I" (.int (0 : Int32))) (E_qb : Exa Z h0 qb "java/math/BigInteger") (S_ONE : Sta Z h0 "java/math/BigInteger" "ONE" "Ljava/math/BigInteger;" (.ref qo)) (F_qo_signum : Fld Z h0 qo "java/math/BigInteger" "signum" "I" (.int (1 : Int32))) (E_q12v_0 : Exa Z h0 q12v_0 "dev/quotefuse/engine/WideCount") (g_q12v_0 : n0 ≤ q12v_0) (hne_qb_q12v_0 : qb ≠ q12v_0) (hne_qo_q12v_0 : qo ≠ q12v_0) :
    MetFree l (⟨"dev/quotefuse/engine/WideCount", "add", "(J)V"⟩ : MethodName) (head1 (Jvm.Cond.code (⟨"dev/quotefuse/engine/WideCount", "add", "(J)V"⟩ : MethodName) prog_40_method_2_code 3 none :: ws) ({ frames := 3, cells := 0, slots := 0, locals := 50 } : Room)) (fun a U => a = #[(.ref q12v_0), (.long q12v_1)] ∧ Z.Warmed39 U.vm ∧ U.heap = h0) (fun _ _ _ _ _ => True) (fun _ U o U' => ∃ v L, o = .returned v ∧ Q12v Z q12v_0 q12v_1 ql qh qb qo h0 n0 v U'.heap L ∧ FrameEnd U o U' L ({ frames := 3, cells := 0, slots := 0, locals := 50 } : Room).cells ({ frames := 3, cells := 0, slots := 0, locals := 50 } : Room).slots) := by
  refine MetFree.of_bodySF (plainFor_of_name pn_1) hisR ?_
  intro p e s m args below meth c s₁ Bd hml0 hP hK
  obtain ⟨rfl, hZ, hh⟩ := hP
  have hx := Bd.exec
  have hby := Bd.bytes
  have hml : c.maxLocals = 3 := hml0
  have hown : s.vm.findClass "dev/quotefuse/engine/WideCount" = some m.cls := findClass_of_methodNamed Bd.named
  have hnm := (name_of_methodNamed Bd.named Bd.method).1
  have X0 : Stand p l e ({ frames := 3, cells := 0, slots := 0, locals := 50 } : Room) s m #[(.ref q12v_0), (.long q12v_1)] below meth c s₁ [] 0 0 := Stand.of_body Bd
  have e0 : s₁.heap = h0 := by rw [← hh, Bd.state]; rfl
  have N0 := Fr.nil n0
  obtain ⟨S0, hE0⟩ : ∃ z, z = s₁.setTop (entryFrame m #[(.ref q12v_0), (.long q12v_1)] 3) := ⟨_, rfl⟩
  have P0 : own_Go p e below S0 (s₁.setTop (mkF m 0 #[.val (.ref q12v_0), .val (.long q12v_1), .second] [])) := fun t k => by rw [hE0]; exact castTop (ef_12v m q12v_0 q12v_1) k
  have P1 : own_Go p e below S0 (s₁.setTop (mkF m 3 #[.val (.ref q12v_0), .val (.long q12v_1), .second] [(.long q12v_1), (.long (0 : Int64)), (.ref q12v_0)])) := fun t k => P0 t (by
    show Steps p.tables e below (s₁.setTop (mkF m 0 #[.val (.ref q12v_0), .val (.long q12v_1), .second] [])) t
    refine XS.aloadN X0.here hx rfl (hb hby d12_0) rfl rfl ?_
    refine XS.lconst X0.here hx rfl (hb hby d12_1) ?_
    refine XS.lloadN X0.here hx rfl (hb hby d12_2) rfl ?_
    show Steps p.tables e below (s₁.setTop (mkF m 3 #[.val (.ref q12v_0), .val (.long q12v_1), .second] [(.long q12v_1), (.long (0 : Int64)), (.ref q12v_0)])) t
    exact k)
  obtain ⟨cq2, q2, q2'⟩ := E_q12v_0.cell
  obtain ⟨_, _, ⟨T2, L2, k2, n2⟩, -, X2, ⟨Lc2, hQ2, l2, y2, z2⟩, st2⟩ := X0.privateBack hx (y := (⟨"dev/quotefuse/engine/WideCount", "plus", "(JJ)V"⟩ : MethodName)) hown (mvT hZ (hw _ (List.mem_of_getElem? (i := 24) rfl))) (mvT hZ (hw _ (List.mem_of_getElem? (i := 25) rfl))) (own_selp (y := (⟨"dev/quotefuse/engine/WideCount", "plus", "(JJ)V"⟩ : MethodName)) (mvT hZ (hw _ (List.mem_of_getElem? (i := 2) rfl))) (Cond.privateMethod_at (mvP hZ (hw _ (List.mem_of_getElem? (i := 26) rfl)) (args := #[]))) (mvT hZ (hw _ (List.mem_of_getElem? (i := 25) rfl))) (by decide)) (Cond.privateMethod_at (mvP hZ (hw _ (List.mem_of_getElem? (i := 26) rfl)) (args := #[]))) (mvT hZ (hw _ (List.mem_of_getElem? (i := 27) rfl))) (by decide) (backOf (W := 0) (rm5v l Z a0 hw [] q12v_0 (0 : Int64) q12v_1 ql qh qb qo h0 n0 Z0 F_q12v_0_low F_q12v_0_high hov F_q12v_0_beyond F_qb_signum E_qb S_ONE F_qo_signum E_q12v_0 g_q12v_0 hne_qb_q12v_0 hne_qo_q12v_0) hZ (hw _ (List.mem_of_getElem? (i := 27) rfl)) (hw _ (List.mem_of_getElem? (i := 3) rfl)) (by decide) (by decide)) (g := (mkF m 3 #[.val (.ref q12v_0), .val (.long q12v_1), .second] [(.long q12v_1), (.long (0 : Int64)), (.ref q12v_0)])) rfl (by rw [hml]; rfl) (Steps.refl _) (a := q12v_0) (by rw [e0]; exact q2) q2' (argsL := [(.long (0 : Int64)), (.long q12v_1)]) (rest := []) (lenOf pd_3 rfl) rfl (by show 2 * 0 + _ ≤ _; exact Nat.le_of_eq rfl) (hb hby d12_3) (fun _ _ => ⟨rfl, e0, (by decide : 0 + 0 ≤ _), (by decide : 0 + 0 ≤ _)⟩)
  dsimp only [Pt.U, Pt.locs, Pt.cells, Pt.slots] at X2 l2 y2 z2 st2 hQ2
  subst l2 y2 z2
  obtain ⟨rfl, N2q, Kc2, F2_0, F2_1, F2_2⟩ := hQ2
  have N2 := Fr.app N0 N2q
  have K2 : Keep h0 T2.heap [q12v_0] := Keep.trans (Keep.refl h0 [q12v_0]) Kc2 (allS (Or.inl (by simp)) all0)
  have P2 : own_Go p e below S0 (T2.setTop (mkF m 6 #[.val (.ref q12v_0), .val (.long q12v_1), .second] [])) := fun t k => P1 t (st2.trans k)
  obtain ⟨fs, hr, hrun, hended, hW, hsame⟩ := X2.leave (v := none) (fun _ => rfl) (BodyLoose.notSynchronized Bd)
  refine ⟨_, _, own_from hE0 (P2 _ ?_), hrun, hended, _, _, rfl, ?_, ⟨_, rfl⟩, hW, hsame.mono (by decide) (by decide)⟩
  · show Steps p.tables e below (T2.setTop (mkF m 6 #[.val (.ref q12v_0), .val (.long q12v_1), .second] [])) _
    exact X2.returnOut hx Bd.returns (hb hby d12_6) hr
  · show Q12v Z q12v_0 q12v_1 ql qh qb qo h0 n0 _ T2.heap _
    exact ⟨rfl, N2, K2, F2_0, F2_1, F2_2⟩
theorem d8_0 : decode prog_40_method_5_code 0 = .ok (.aload_n 0, 1) := by decide +kernel
theorem d8_1 : decode prog_40_method_5_code 1 = .ok (.getstatic 7, 3) := by decide +kernel
theorem d8_4 : decode prog_40_method_5_code 4 = .ok (.putfield 13, 3) := by decide +kernel
theorem d8_7 : decode prog_40_method_5_code 7 = .ok (.aload_n 0, 1) := by decide +kernel
theorem d8_8 : decode prog_40_method_5_code 8 = .ok (.lconst 0, 1) := by decide +kernel
theorem d8_9 : decode prog_40_method_5_code 9 = .ok (.putfield 38, 3) := by decide +kernel
theorem d8_12 : decode prog_40_method_5_code 12 = .ok (.aload_n 0, 1) := by decide +kernel
theorem d8_13 : decode prog_40_method_5_code 13 = .ok (.lconst 0, 1) := by decide +kernel
theorem d8_14 : decode prog_40_method_5_code 14 = .ok (.putfield 28, 3) := by decide +kernel
theorem d8_17 : decode prog_40_method_5_code 17 = .ok (.return_, 1) := by decide +kernel
theorem ef_8 (m : MethodId) (q8_0 : Addr) : entryFrame m #[(.ref q8_0)] 1 = mkF m 0 #[.val (.ref q8_0)] [] := by first | (simp [entryFrame, mkF, argsToLocals, Value.category]; done) | rfl
def Q8 (Z : State) (q8_0 : Addr) (z8_ZERO : Addr) (u8_q8_0_beyond : Value) (u8_q8_0_high : Value) (u8_q8_0_low : Value) (h0 : Heap) (n0 : Nat) (v : Option Value) (h : Heap) (L : List Loc) : Prop := v = none ∧ Fr n0 L ∧ Keep h0 h [q8_0] ∧ Fld Z h q8_0 "dev/quotefuse/engine/WideCount" "beyond" "Ljava/math/BigInteger;" (.ref z8_ZERO) ∧ Fld Z h q8_0 "dev/quotefuse/engine/WideCount" "high" "J" (.long (0 : Int64)) ∧ Fld Z h q8_0 "dev/quotefuse/engine/WideCount" "low" "J" (.long (0 : Int64))
set_option maxRecDepth 65536 in
set_option maxHeartbeats 40000000 in
theorem rm8 (l : Launch) (Z : State) (a0 : Array Value) (hw : ∀ d ∈ tables_1, d.before a0 Z = true) (ws : List Jvm.Cond) (q8_0 : Addr) (z8_ZERO : Addr) (u8_q8_0_beyond : Value) (u8_q8_0_high : Value) (u8_q8_0_low : Value) (h0 : Heap) (n0 : Nat) (Z0 : n0 ≤ h0.size) (S_ZERO : Sta Z h0 "java/math/BigInteger" "ZERO" "Ljava/math/BigInteger;" (.ref z8_ZERO)) (E_q8_0 : Exa Z h0 q8_0 "dev/quotefuse/engine/WideCount") (F_q8_0_beyond : Fld Z h0 q8_0 "dev/quotefuse/engine/WideCount" "beyond" "Ljava/math/BigInteger;" u8_q8_0_beyond) (g_q8_0 : n0 ≤ q8_0) (F_q8_0_high : Fld Z h0 q8_0 "dev/quotefuse/engine/WideCount" "high" "J" u8_q8_0_high) (F_q8_0_low : Fld Z h0 q8_0 "dev/quotefuse/engine/WideCount" "low" "J" u8_q8_0_low) :
    MetFree l (⟨"dev/quotefuse/engine/WideCount", "clear", "()V"⟩ : MethodName) (head1 (Jvm.Cond.code (⟨"dev/quotefuse/engine/WideCount", "clear", "()V"⟩ : MethodName) prog_40_method_5_code 1 none :: ws) ({ frames := 0, cells := 0, slots := 0, locals := 0 } : Room)) (fun a U => a = #[(.ref q8_0)] ∧ Z.Warmed39 U.vm ∧ U.heap = h0) (fun _ _ _ _ _ => True) (fun _ U o U' => ∃ v L, o = .returned v ∧ Q8 Z q8_0 z8_ZERO u8_q8_0_beyond u8_q8_0_high u8_q8_0_low h0 n0 v U'.heap L ∧ FrameEnd U o U' L ({ frames := 0, cells := 0, slots := 0, locals := 0 } : Room).cells ({ frames := 0, cells := 0, slots := 0, locals := 0 } : Room).slots) := by
  refine MetFree.of_bodySF (plainFor_of_name pn_1) hisR ?_
  intro p e s m args below meth c s₁ Bd hml0 hP hK
  obtain ⟨rfl, hZ, hh⟩ := hP
  have hx := Bd.exec
  have hby := Bd.bytes
  have hml : c.maxLocals = 1 := hml0
  have hown : s.vm.findClass "dev/quotefuse/engine/WideCount" = some m.cls := findClass_of_methodNamed Bd.named
  have hnm := (name_of_methodNamed Bd.named Bd.method).1
  have X0 : Stand p l e ({ frames := 0, cells := 0, slots := 0, locals := 0 } : Room) s m #[(.ref q8_0)] below meth c s₁ [] 0 0 := Stand.of_body Bd
  have e0 : s₁.heap = h0 := by rw [← hh, Bd.state]; rfl
  have N0 := Fr.nil n0
  obtain ⟨S0, hE0⟩ : ∃ z, z = s₁.setTop (entryFrame m #[(.ref q8_0)] 1) := ⟨_, rfl⟩
  have P0 : own_Go p e below S0 (s₁.setTop (mkF m 0 #[.val (.ref q8_0)] [])) := fun t k => by rw [hE0]; exact castTop (ef_8 m q8_0) k
  have P1 : own_Go p e below S0 (s₁.setTop (mkF m 1 #[.val (.ref q8_0)] [(.ref q8_0)])) := fun t k => P0 t (by
    show Steps p.tables e below (s₁.setTop (mkF m 0 #[.val (.ref q8_0)] [])) t
    refine XS.aloadN X0.here hx rfl (hb hby d8_0) rfl rfl ?_
    show Steps p.tables e below (s₁.setTop (mkF m 1 #[.val (.ref q8_0)] [(.ref q8_0)])) t
    exact k)
  obtain ⟨T2, X2, e2, st2⟩ := getS2 X0 hx hZ hown (host := "") (Or.inl (hw _ (List.mem_of_getElem? (i := 10) rfl))) Via.refl e0 S_ZERO (g := (mkF m 1 #[.val (.ref q8_0)] [(.ref q8_0)])) rfl (hb hby d8_1)
  have P2 : own_Go p e below S0 (T2.setTop (mkF m 4 #[.val (.ref q8_0)] [(.ref z8_ZERO), (.ref q8_0)])) := fun t k => P1 t (st2 _ k)
  obtain ⟨T3, h3, X3, e3, W3, st3⟩ := putF X2 hx hZ hown (host := "") (Or.inl (hw _ (List.mem_of_getElem? (i := 12) rfl))) Via.refl e2 F_q8_0_beyond E_q8_0 (Or.inl (hw _ (List.mem_of_getElem? (i := 13) rfl))) (hw _ (List.mem_of_getElem? (i := 2) rfl)) (ty := (.object "java/math/BigInteger")) (by decide) rfl rfl (g := (mkF m 4 #[.val (.ref q8_0)] [(.ref z8_ZERO), (.ref q8_0)])) rfl rfl (hb hby d8_4)
  have K3 : Keep h0 h3 [q8_0] := (Keep.refl h0 [q8_0]).wr W3 (Or.inl (by simp))
  have N3 := Fr.snoc X3 N0 g_q8_0
  have F3w : Fld Z h3 q8_0 "dev/quotefuse/engine/WideCount" "beyond" "Ljava/math/BigInteger;" (.ref z8_ZERO) := F_q8_0_beyond.same W3
  have P3 : own_Go p e below S0 (T3.setTop (mkF m 7 #[.val (.ref q8_0)] [])) := fun t k => P2 t (st3 _ k)
  have F4 : Exa Z h3 q8_0 "dev/quotefuse/engine/WideCount" := E_q8_0.wr W3
  have F5 : Fld Z h3 q8_0 "dev/quotefuse/engine/WideCount" "high" "J" u8_q8_0_high := F_q8_0_high.other W3 (Or.inr (slot_ne (Or.inl (hw _ (List.mem_of_getElem? (i := 39) rfl))) (Or.inl (hw _ (List.mem_of_getElem? (i := 13) rfl))) (by decide) (t := .long) (t' := (.object "java/math/BigInteger")) (by decide) (by decide)))
  have P6 : own_Go p e below S0 (T3.setTop (mkF m 9 #[.val (.ref q8_0)] [(.long (0 : Int64)), (.ref q8_0)])) := fun t k => P3 t (by
    show Steps p.tables e below (T3.setTop (mkF m 7 #[.val (.ref q8_0)] [])) t
    refine XS.aloadN X3.here hx rfl (hb hby d8_7) rfl rfl ?_
    refine XS.lconst X3.here hx rfl (hb hby d8_8) ?_
    show Steps p.tables e below (T3.setTop (mkF m 9 #[.val (.ref q8_0)] [(.long (0 : Int64)), (.ref q8_0)])) t
    exact k)
  obtain ⟨T7, h7, X7, e7, W7, st7⟩ := putF X3 hx hZ hown (host := "") (Or.inl (hw _ (List.mem_of_getElem? (i := 38) rfl))) Via.refl e3 F5 F4 (Or.inl (hw _ (List.mem_of_getElem? (i := 39) rfl))) (hw _ (List.mem_of_getElem? (i := 2) rfl)) (ty := .long) (by decide) rfl rfl (g := (mkF m 9 #[.val (.ref q8_0)] [(.long (0 : Int64)), (.ref q8_0)])) rfl rfl (hb hby d8_9)
  have K7 : Keep h0 h7 [q8_0] := K3.wr W7 (Or.inl (by simp))
  have N7 := Fr.snoc X7 N3 g_q8_0
  have F7w : Fld Z h7 q8_0 "dev/quotefuse/engine/WideCount" "high" "J" (.long (0 : Int64)) := F5.same W7
  have P7 : own_Go p e below S0 (T7.setTop (mkF m 12 #[.val (.ref q8_0)] [])) := fun t k => P6 t (st7 _ k)
  have F8 : Exa Z h7 q8_0 "dev/quotefuse/engine/WideCount" := F4.wr W7
  have F9 : Fld Z h3 q8_0 "dev/quotefuse/engine/WideCount" "low" "J" u8_q8_0_low := F_q8_0_low.other W3 (Or.inr (slot_ne (Or.inl (hw _ (List.mem_of_getElem? (i := 29) rfl))) (Or.inl (hw _ (List.mem_of_getElem? (i := 13) rfl))) (by decide) (t := .long) (t' := (.object "java/math/BigInteger")) (by decide) (by decide)))
  have F10 : Fld Z h7 q8_0 "dev/quotefuse/engine/WideCount" "low" "J" u8_q8_0_low := F9.other W7 (Or.inr (slot_ne (Or.inl (hw _ (List.mem_of_getElem? (i := 29) rfl))) (Or.inl (hw _ (List.mem_of_getElem? (i := 39) rfl))) (by decide) (t := .long) (t' := .long) (by decide) (by decide)))
  have P11 : own_Go p e below S0 (T7.setTop (mkF m 14 #[.val (.ref q8_0)] [(.long (0 : Int64)), (.ref q8_0)])) := fun t k => P7 t (by
    show Steps p.tables e below (T7.setTop (mkF m 12 #[.val (.ref q8_0)] [])) t
    refine XS.aloadN X7.here hx rfl (hb hby d8_12) rfl rfl ?_
    refine XS.lconst X7.here hx rfl (hb hby d8_13) ?_
    show Steps p.tables e below (T7.setTop (mkF m 14 #[.val (.ref q8_0)] [(.long (0 : Int64)), (.ref q8_0)])) t
    exact k)
  obtain ⟨T12, h12, X12, e12, W12, st12⟩ := putF X7 hx hZ hown (host := "") (Or.inl (hw _ (List.mem_of_getElem? (i := 28) rfl))) Via.refl e7 F10 F8 (Or.inl (hw _ (List.mem_of_getElem? (i := 29) rfl))) (hw _ (List.mem_of_getElem? (i := 2) rfl)) (ty := .long) (by decide) rfl rfl (g := (mkF m 14 #[.val (.ref q8_0)] [(.long (0 : Int64)), (.ref q8_0)])) rfl rfl (hb hby d8_14)
  have K12 : Keep h0 h12 [q8_0] := K7.wr W12 (Or.inl (by simp))
  have N12 := Fr.snoc X12 N7 g_q8_0
  have F12w : Fld Z h12 q8_0 "dev/quotefuse/engine/WideCount" "low" "J" (.long (0 : Int64)) := F10.same W12
  have P12 : own_Go p e below S0 (T12.setTop (mkF m 17 #[.val (.ref q8_0)] [])) := fun t k => P11 t (st12 _ k)
  have F13 : Fld Z h7 q8_0 "dev/quotefuse/engine/WideCount" "beyond" "Ljava/math/BigInteger;" (.ref z8_ZERO) := F3w.other W7 (Or.inr (slot_ne (Or.inl (hw _ (List.mem_of_getElem? (i := 13) rfl))) (Or.inl (hw _ (List.mem_of_getElem? (i := 39) rfl))) (by decide) (t := (.object "java/math/BigInteger")) (t' := .long) (by decide) (by decide)))
  have F14 : Fld Z h12 q8_0 "dev/quotefuse/engine/WideCount" "beyond" "Ljava/math/BigInteger;" (.ref z8_ZERO) := F13.other W12 (Or.inr (slot_ne (Or.inl (hw _ (List.mem_of_getElem? (i := 13) rfl))) (Or.inl (hw _ (List.mem_of_getElem? (i := 29) rfl))) (by decide) (t := (.object "java/math/BigInteger")) (t' := .long) (by decide) (by decide)))
  have F15 : Fld Z h12 q8_0 "dev/quotefuse/engine/WideCount" "high" "J" (.long (0 : Int64)) := F7w.other W12 (Or.inr (slot_ne (Or.inl (hw _ (List.mem_of_getElem? (i := 39) rfl))) (Or.inl (hw _ (List.mem_of_getElem? (i := 29) rfl))) (by decide) (t := .long) (t' := .long) (by decide) (by decide)))
  obtain ⟨fs, hr, hrun, hended, hW, hsame⟩ := X12.leave (v := none) (fun _ => rfl) (BodyLoose.notSynchronized Bd)
  refine ⟨_, _, own_from hE0 (P12 _ ?_), hrun, hended, _, _, rfl, ?_, ⟨_, rfl⟩, hW, hsame.mono (by decide) (by decide)⟩
  · show Steps p.tables e below (T12.setTop (mkF m 17 #[.val (.ref q8_0)] [])) _
    exact X12.returnOut hx Bd.returns (hb hby d8_17) hr
  · show Q8 Z q8_0 z8_ZERO u8_q8_0_beyond u8_q8_0_high u8_q8_0_low h0 n0 _ T12.heap _
    rw [e12]
    exact ⟨rfl, N12, K12, F14, F15, F12w⟩
theorem pd_4 : parseMethodDescriptor "()I" = some ⟨[], some .int⟩ := by decide +kernel
theorem d9_0 : decode prog_40_method_7_code 0 = .ok (.aload_n 0, 1) := by decide +kernel
theorem d9_1 : decode prog_40_method_7_code 1 = .ok (.getfield 13, 3) := by decide +kernel
theorem d9_4 : decode prog_40_method_7_code 4 = .ok (.invokevirtual 50, 3) := by decide +kernel
theorem d9_7 : decode prog_40_method_7_code 7 = .ok (.ifCond .ne 28, 3) := by decide +kernel
theorem d9_10 : decode prog_40_method_7_code 10 = .ok (.aload_n 0, 1) := by decide +kernel
theorem d9_11 : decode prog_40_method_7_code 11 = .ok (.getfield 38, 3) := by decide +kernel
theorem d9_14 : decode prog_40_method_7_code 14 = .ok (.lconst 0, 1) := by decide +kernel
theorem d9_15 : decode prog_40_method_7_code 15 = .ok (.lcmp, 1) := by decide +kernel
theorem d9_16 : decode prog_40_method_7_code 16 = .ok (.ifCond .ne 19, 3) := by decide +kernel
theorem d9_19 : decode prog_40_method_7_code 19 = .ok (.aload_n 0, 1) := by decide +kernel
theorem d9_20 : decode prog_40_method_7_code 20 = .ok (.getfield 28, 3) := by decide +kernel
theorem d9_23 : decode prog_40_method_7_code 23 = .ok (.lconst 0, 1) := by decide +kernel
theorem d9_24 : decode prog_40_method_7_code 24 = .ok (.lcmp, 1) := by decide +kernel
theorem d9_25 : decode prog_40_method_7_code 25 = .ok (.ifCond .lt 10, 3) := by decide +kernel
theorem d9_28 : decode prog_40_method_7_code 28 = .ok (.aload_n 0, 1) := by decide +kernel
theorem d9_29 : decode prog_40_method_7_code 29 = .ok (.getfield 28, 3) := by decide +kernel
theorem d9_32 : decode prog_40_method_7_code 32 = .ok (.goto 6, 3) := by decide +kernel
theorem d9_38 : decode prog_40_method_7_code 38 = .ok (.lreturn, 1) := by decide +kernel
theorem ef_9z (m : MethodId) (q9z_0 : Addr) : entryFrame m #[(.ref q9z_0)] 1 = mkF m 0 #[.val (.ref q9z_0)] [] := by first | (simp [entryFrame, mkF, argsToLocals, Value.category]; done) | rfl
def Q9z (Z : State) (q9z_0 : Addr) (qb : Addr) (h0 : Heap) (n0 : Nat) (v : Option Value) (h : Heap) (L : List Loc) : Prop := v = some (.long (0 : Int64)) ∧ Fr n0 L ∧ h = h0
set_option maxRecDepth 65536 in
set_option maxHeartbeats 40000000 in
theorem rm9z (l : Launch) (Z : State) (a0 : Array Value) (hw : ∀ d ∈ tables_1, d.before a0 Z = true) (ws : List Jvm.Cond) (q9z_0 : Addr) (qb : Addr) (h0 : Heap) (n0 : Nat) (Z0 : n0 ≤ h0.size) (F_q9z_0_beyond : Fld Z h0 q9z_0 "dev/quotefuse/engine/WideCount" "beyond" "Ljava/math/BigInteger;" (.ref qb)) (F_qb_signum : Fld Z h0 qb "java/math/BigInteger" "signum" "I" (.int (0 : Int32))) (E_qb : Exa Z h0 qb "java/math/BigInteger") (F_q9z_0_high : Fld Z h0 q9z_0 "dev/quotefuse/engine/WideCount" "high" "J" (.long (0 : Int64))) (F_q9z_0_low : Fld Z h0 q9z_0 "dev/quotefuse/engine/WideCount" "low" "J" (.long (0 : Int64))) :
    MetFree l (⟨"dev/quotefuse/engine/WideCount", "narrowValue", "()J"⟩ : MethodName) (head1 (Jvm.Cond.code (⟨"dev/quotefuse/engine/WideCount", "narrowValue", "()J"⟩ : MethodName) prog_40_method_7_code 1 (some .long) :: ws) ({ frames := 1, cells := 0, slots := 0, locals := 12 } : Room)) (fun a U => a = #[(.ref q9z_0)] ∧ Z.Warmed39 U.vm ∧ U.heap = h0) (fun _ _ _ _ _ => True) (fun _ U o U' => ∃ v L, o = .returned v ∧ Q9z Z q9z_0 qb h0 n0 v U'.heap L ∧ FrameEnd U o U' L ({ frames := 1, cells := 0, slots := 0, locals := 12 } : Room).cells ({ frames := 1, cells := 0, slots := 0, locals := 12 } : Room).slots) := by
  refine MetFree.of_bodySF (plainFor_of_name pn_1) hisR ?_
  intro p e s m args below meth c s₁ Bd hml0 hP hK
  obtain ⟨rfl, hZ, hh⟩ := hP
  have hx := Bd.exec
  have hby := Bd.bytes
  have hml : c.maxLocals = 1 := hml0
  have hown : s.vm.findClass "dev/quotefuse/engine/WideCount" = some m.cls := findClass_of_methodNamed Bd.named
  have hnm := (name_of_methodNamed Bd.named Bd.method).1
  have X0 : Stand p l e ({ frames := 1, cells := 0, slots := 0, locals := 12 } : Room) s m #[(.ref q9z_0)] below meth c s₁ [] 0 0 := Stand.of_body Bd
  have e0 : s₁.heap = h0 := by rw [← hh, Bd.state]; rfl
  have N0 := Fr.nil n0
  obtain ⟨S0, hE0⟩ : ∃ z, z = s₁.setTop (entryFrame m #[(.ref q9z_0)] 1) := ⟨_, rfl⟩
  have P0 : own_Go p e below S0 (s₁.setTop (mkF m 0 #[.val (.ref q9z_0)] [])) := fun t k => by rw [hE0]; exact castTop (ef_9z m q9z_0) k
  have P1 : own_Go p e below S0 (s₁.setTop (mkF m 1 #[.val (.ref q9z_0)] [(.ref q9z_0)])) := fun t k => P0 t (by
    show Steps p.tables e below (s₁.setTop (mkF m 0 #[.val (.ref q9z_0)] [])) t
    refine XS.aloadN X0.here hx rfl (hb hby d9_0) rfl rfl ?_
    show Steps p.tables e below (s₁.setTop (mkF m 1 #[.val (.ref q9z_0)] [(.ref q9z_0)])) t
    exact k)
  obtain ⟨T2, X2, e2, st2⟩ := getF X0 hx hZ hown (host := "") (Or.inl (hw _ (List.mem_of_getElem? (i := 12) rfl))) Via.refl e0 F_q9z_0_beyond (g := (mkF m 1 #[.val (.ref q9z_0)] [(.ref q9z_0)])) rfl rfl (hb hby d9_1)
  have P2 : own_Go p e below S0 (T2.setTop (mkF m 4 #[.val (.ref q9z_0)] [(.ref qb)])) := fun t k => P1 t (st2 _ k)
  obtain ⟨cq3, kq3, q3a, q3b, q3c⟩ := isOf hZ e2 E_qb
  obtain ⟨_, _, ⟨T3, L3, k3, n3⟩, -, X3, ⟨Lc3, hQ3, l3, y3, z3⟩, st3⟩ := X2.virtualBack hx (y := (⟨"java/math/BigInteger", "signum", "()I"⟩ : MethodName)) (z := (⟨"java/math/BigInteger", "signum", "()I"⟩ : MethodName)) hown (mvT hZ (hw _ (List.mem_of_getElem? (i := 50) rfl))) (mvT hZ (hw _ (List.mem_of_getElem? (i := 51) rfl))) (notFace_of_selects (args := #[]) (mvT hZ (hw _ (List.mem_of_getElem? (i := 53) rfl)))) (mvT hZ (hw _ (List.mem_of_getElem? (i := 53) rfl))) (mvT hZ (hw _ (List.mem_of_getElem? (i := 52) rfl))) (by decide) (backOf (W := 0) (rm10 l Z a0 hw [] qb (0 : Int32) h0 n0 Z0 F_qb_signum) hZ (hw _ (List.mem_of_getElem? (i := 54) rfl)) (hw _ (List.mem_of_getElem? (i := 11) rfl)) (by decide) (by decide)) q3a q3c (g := (mkF m 4 #[.val (.ref q9z_0)] [(.ref qb)])) rfl (by rw [hml]; rfl) (Steps.refl _) (argsL := []) (rest := []) (lenOf pd_4 rfl) rfl (by show 2 * 0 + _ ≤ _; exact Nat.le_of_eq rfl) (hb hby d9_4) (fun _ _ => ⟨rfl, e2, (by decide : 0 + 0 ≤ _), (by decide : 0 + 0 ≤ _)⟩)
  dsimp only [Pt.U, Pt.locs, Pt.cells, Pt.slots] at X3 l3 y3 z3 st3 hQ3
  subst l3 y3 z3
  obtain ⟨rfl, N3q, e3⟩ := hQ3
  have N3 := Fr.app N0 N3q
  have P3 : own_Go p e below S0 (T3.setTop (mkF m 7 #[.val (.ref q9z_0)] [(.int (0 : Int32))])) := fun t k => P2 t (st3.trans k)
  have P4 : own_Go p e below S0 (T3.setTop (mkF m 11 #[.val (.ref q9z_0)] [(.ref q9z_0)])) := fun t k => P3 t (by
    show Steps p.tables e below (T3.setTop (mkF m 7 #[.val (.ref q9z_0)] [(.int (0 : Int32))])) t
    refine XS.ifNo X3.here hx rfl (hb hby d9_7) rfl ((if0 _ _).trans (teq (by decide)).2) ?_
    refine XS.aloadN X3.here hx rfl (hb hby d9_10) rfl rfl ?_
    show Steps p.tables e below (T3.setTop (mkF m 11 #[.val (.ref q9z_0)] [(.ref q9z_0)])) t
    exact k)
  obtain ⟨T5, X5, e5, st5⟩ := getF X3 hx hZ hown (host := "") (Or.inl (hw _ (List.mem_of_getElem? (i := 38) rfl))) Via.refl e3 F_q9z_0_high (g := (mkF m 11 #[.val (.ref q9z_0)] [(.ref q9z_0)])) rfl rfl (hb hby d9_11)
  have P5 : own_Go p e below S0 (T5.setTop (mkF m 14 #[.val (.ref q9z_0)] [(.long (0 : Int64))])) := fun t k => P4 t (st5 _ k)
  have P6 : own_Go p e below S0 (T5.setTop (mkF m 20 #[.val (.ref q9z_0)] [(.ref q9z_0)])) := fun t k => P5 t (by
    show Steps p.tables e below (T5.setTop (mkF m 14 #[.val (.ref q9z_0)] [(.long (0 : Int64))])) t
    refine XS.lconst X5.here hx rfl (hb hby d9_14) ?_
    refine XS.lcmp X5.here hx rfl (hb hby d9_15) rfl ?_
    refine XS.ifNo X5.here hx rfl (hb hby d9_16) rfl ((if0 _ _).trans (teq ((lw_eq (0 : Int64) (0 : Int64)).mpr (by decide))).2) ?_
    refine XS.aloadN X5.here hx rfl (hb hby d9_19) rfl rfl ?_
    show Steps p.tables e below (T5.setTop (mkF m 20 #[.val (.ref q9z_0)] [(.ref q9z_0)])) t
    exact k)
  obtain ⟨T7, X7, e7, st7⟩ := getF X5 hx hZ hown (host := "") (Or.inl (hw _ (List.mem_of_getElem? (i := 28) rfl))) Via.refl e5 F_q9z_0_low (g := (mkF m 20 #[.val (.ref q9z_0)] [(.ref q9z_0)])) rfl rfl (hb hby d9_20)
  have P7 : own_Go p e below S0 (T7.setTop (mkF m 23 #[.val (.ref q9z_0)] [(.long (0 : Int64))])) := fun t k => P6 t (st7 _ k)
  have P8 : own_Go p e below S0 (T7.setTop (mkF m 29 #[.val (.ref q9z_0)] [(.ref q9z_0)])) := fun t k => P7 t (by
    show Steps p.tables e below (T7.setTop (mkF m 23 #[.val (.ref q9z_0)] [(.long (0 : Int64))])) t
    refine XS.lconst X7.here hx rfl (hb hby d9_23) ?_
    refine XS.lcmp X7.here hx rfl (hb hby d9_24) rfl ?_
    refine XS.ifNo X7.here hx rfl (hb hby d9_25) rfl ((if0 _ _).trans (flt (fun q => absurd ((lw_lt (0 : Int64) (0 : Int64)).mp q) (by decide))).1) ?_
    refine XS.aloadN X7.here hx rfl (hb hby d9_28) rfl rfl ?_
    show Steps p.tables e below (T7.setTop (mkF m 29 #[.val (.ref q9z_0)] [(.ref q9z_0)])) t
    exact k)
  obtain ⟨T9, X9, e9, st9⟩ := getF X7 hx hZ hown (host := "") (Or.inl (hw _ (List.mem_of_getElem? (i := 28) rfl))) Via.refl e7 F_q9z_0_low (g := (mkF m 29 #[.val (.ref q9z_0)] [(.ref q9z_0)])) rfl rfl (hb hby d9_29)
  have P9 : own_Go p e below S0 (T9.setTop (mkF m 32 #[.val (.ref q9z_0)] [(.long (0 : Int64))])) := fun t k => P8 t (st9 _ k)
  have P10 : own_Go p e below S0 (T9.setTop (mkF m 38 #[.val (.ref q9z_0)] [(.long (0 : Int64))])) := fun t k => P9 t (by
    show Steps p.tables e below (T9.setTop (mkF m 32 #[.val (.ref q9z_0)] [(.long (0 : Int64))])) t
    refine XS.goto X9.here hx rfl (pc0 := 32) (pc' := 38) rfl (hb hby d9_32) (by decide) (by decide) ?_
    show Steps p.tables e below (T9.setTop (mkF m 38 #[.val (.ref q9z_0)] [(.long (0 : Int64))])) t
    exact k)
  obtain ⟨fs, hr, hrun, hended, hW, hsame⟩ := X9.leave (v := some (.long (0 : Int64))) (fun h => by rw [Bd.returns] at h; cases h) (BodyLoose.notSynchronized Bd)
  refine ⟨_, _, own_from hE0 (P10 _ ?_), hrun, hended, _, _, rfl, ?_, ⟨_, rfl⟩, hW, hsame.mono (by decide) (by decide)⟩
  · show Steps p.tables e below (T9.setTop (mkF m 38 #[.val (.ref q9z_0)] [(.long (0 : Int64))])) _
    exact X9.lreturnOut hx Bd.returns (hb hby d9_38) hr
  · show Q9z Z q9z_0 qb h0 n0 _ T9.heap _
    rw [e9]
    exact ⟨rfl, N3, rfl⟩
theorem ef_9d (m : MethodId) (q9d_0 : Addr) : entryFrame m #[(.ref q9d_0)] 1 = mkF m 0 #[.val (.ref q9d_0)] [] := by first | (simp [entryFrame, mkF, argsToLocals, Value.category]; done) | rfl
def Q9d (Z : State) (q9d_0 : Addr) (qb : Addr) (ql : Int64) (h0 : Heap) (n0 : Nat) (v : Option Value) (h : Heap) (L : List Loc) : Prop := v = some (.long ql) ∧ Fr n0 L ∧ h = h0
set_option maxRecDepth 65536 in
set_option maxHeartbeats 40000000 in
theorem rm9d (l : Launch) (Z : State) (a0 : Array Value) (hw : ∀ d ∈ tables_1, d.before a0 Z = true) (ws : List Jvm.Cond) (q9d_0 : Addr) (qb : Addr) (ql : Int64) (h0 : Heap) (n0 : Nat) (Z0 : n0 ≤ h0.size) (F_q9d_0_beyond : Fld Z h0 q9d_0 "dev/quotefuse/engine/WideCount" "beyond" "Ljava/math/BigInteger;" (.ref qb)) (F_qb_signum : Fld Z h0 qb "java/math/BigInteger" "signum" "I" (.int (0 : Int32))) (E_qb : Exa Z h0 qb "java/math/BigInteger") (F_q9d_0_high : Fld Z h0 q9d_0 "dev/quotefuse/engine/WideCount" "high" "J" (.long (0 : Int64))) (F_q9d_0_low : Fld Z h0 q9d_0 "dev/quotefuse/engine/WideCount" "low" "J" (.long ql)) (hge : ¬ (ql < (0 : Int64))) :
    MetFree l (⟨"dev/quotefuse/engine/WideCount", "narrowValue", "()J"⟩ : MethodName) (head1 (Jvm.Cond.code (⟨"dev/quotefuse/engine/WideCount", "narrowValue", "()J"⟩ : MethodName) prog_40_method_7_code 1 (some .long) :: ws) ({ frames := 1, cells := 0, slots := 0, locals := 12 } : Room)) (fun a U => a = #[(.ref q9d_0)] ∧ Z.Warmed39 U.vm ∧ U.heap = h0) (fun _ _ _ _ _ => True) (fun _ U o U' => ∃ v L, o = .returned v ∧ Q9d Z q9d_0 qb ql h0 n0 v U'.heap L ∧ FrameEnd U o U' L ({ frames := 1, cells := 0, slots := 0, locals := 12 } : Room).cells ({ frames := 1, cells := 0, slots := 0, locals := 12 } : Room).slots) := by
  refine MetFree.of_bodySF (plainFor_of_name pn_1) hisR ?_
  intro p e s m args below meth c s₁ Bd hml0 hP hK
  obtain ⟨rfl, hZ, hh⟩ := hP
  have hx := Bd.exec
  have hby := Bd.bytes
  have hml : c.maxLocals = 1 := hml0
  have hown : s.vm.findClass "dev/quotefuse/engine/WideCount" = some m.cls := findClass_of_methodNamed Bd.named
  have hnm := (name_of_methodNamed Bd.named Bd.method).1
  have X0 : Stand p l e ({ frames := 1, cells := 0, slots := 0, locals := 12 } : Room) s m #[(.ref q9d_0)] below meth c s₁ [] 0 0 := Stand.of_body Bd
  have e0 : s₁.heap = h0 := by rw [← hh, Bd.state]; rfl
  have N0 := Fr.nil n0
  obtain ⟨S0, hE0⟩ : ∃ z, z = s₁.setTop (entryFrame m #[(.ref q9d_0)] 1) := ⟨_, rfl⟩
  have P0 : own_Go p e below S0 (s₁.setTop (mkF m 0 #[.val (.ref q9d_0)] [])) := fun t k => by rw [hE0]; exact castTop (ef_9d m q9d_0) k
  have P1 : own_Go p e below S0 (s₁.setTop (mkF m 1 #[.val (.ref q9d_0)] [(.ref q9d_0)])) := fun t k => P0 t (by
    show Steps p.tables e below (s₁.setTop (mkF m 0 #[.val (.ref q9d_0)] [])) t
    refine XS.aloadN X0.here hx rfl (hb hby d9_0) rfl rfl ?_
    show Steps p.tables e below (s₁.setTop (mkF m 1 #[.val (.ref q9d_0)] [(.ref q9d_0)])) t
    exact k)
  obtain ⟨T2, X2, e2, st2⟩ := getF X0 hx hZ hown (host := "") (Or.inl (hw _ (List.mem_of_getElem? (i := 12) rfl))) Via.refl e0 F_q9d_0_beyond (g := (mkF m 1 #[.val (.ref q9d_0)] [(.ref q9d_0)])) rfl rfl (hb hby d9_1)
  have P2 : own_Go p e below S0 (T2.setTop (mkF m 4 #[.val (.ref q9d_0)] [(.ref qb)])) := fun t k => P1 t (st2 _ k)
  obtain ⟨cq3, kq3, q3a, q3b, q3c⟩ := isOf hZ e2 E_qb
  obtain ⟨_, _, ⟨T3, L3, k3, n3⟩, -, X3, ⟨Lc3, hQ3, l3, y3, z3⟩, st3⟩ := X2.virtualBack hx (y := (⟨"java/math/BigInteger", "signum", "()I"⟩ : MethodName)) (z := (⟨"java/math/BigInteger", "signum", "()I"⟩ : MethodName)) hown (mvT hZ (hw _ (List.mem_of_getElem? (i := 50) rfl))) (mvT hZ (hw _ (List.mem_of_getElem? (i := 51) rfl))) (notFace_of_selects (args := #[]) (mvT hZ (hw _ (List.mem_of_getElem? (i := 53) rfl)))) (mvT hZ (hw _ (List.mem_of_getElem? (i := 53) rfl))) (mvT hZ (hw _ (List.mem_of_getElem? (i := 52) rfl))) (by decide) (backOf (W := 0) (rm10 l Z a0 hw [] qb (0 : Int32) h0 n0 Z0 F_qb_signum) hZ (hw _ (List.mem_of_getElem? (i := 54) rfl)) (hw _ (List.mem_of_getElem? (i := 11) rfl)) (by decide) (by decide)) q3a q3c (g := (mkF m 4 #[.val (.ref q9d_0)] [(.ref qb)])) rfl (by rw [hml]; rfl) (Steps.refl _) (argsL := []) (rest := []) (lenOf pd_4 rfl) rfl (by show 2 * 0 + _ ≤ _; exact Nat.le_of_eq rfl) (hb hby d9_4) (fun _ _ => ⟨rfl, e2, (by decide : 0 + 0 ≤ _), (by decide : 0 + 0 ≤ _)⟩)
  dsimp only [Pt.U, Pt.locs, Pt.cells, Pt.slots] at X3 l3 y3 z3 st3 hQ3
  subst l3 y3 z3
  obtain ⟨rfl, N3q, e3⟩ := hQ3
  have N3 := Fr.app N0 N3q
  have P3 : own_Go p e below S0 (T3.setTop (mkF m 7 #[.val (.ref q9d_0)] [(.int (0 : Int32))])) := fun t k => P2 t (st3.trans k)
  have P4 : own_Go p e below S0 (T3.setTop (mkF m 11 #[.val (.ref q9d_0)] [(.ref q9d_0)])) := fun t k => P3 t (by
    show Steps p.tables e below (T3.setTop (mkF m 7 #[.val (.ref q9d_0)] [(.int (0 : Int32))])) t
    refine XS.ifNo X3.here hx rfl (hb hby d9_7) rfl ((if0 _ _).trans (teq (by decide)).2) ?_
    refine XS.aloadN X3.here hx rfl (hb hby d9_10) rfl rfl ?_
    show Steps p.tables e below (T3.setTop (mkF m 11 #[.val (.ref q9d_0)] [(.ref q9d_0)])) t
    exact k)
  obtain ⟨T5, X5, e5, st5⟩ := getF X3 hx hZ hown (host := "") (Or.inl (hw _ (List.mem_of_getElem? (i := 38) rfl))) Via.refl e3 F_q9d_0_high (g := (mkF m 11 #[.val (.ref q9d_0)] [(.ref q9d_0)])) rfl rfl (hb hby d9_11)
  have P5 : own_Go p e below S0 (T5.setTop (mkF m 14 #[.val (.ref q9d_0)] [(.long (0 : Int64))])) := fun t k => P4 t (st5 _ k)
  have P6 : own_Go p e below S0 (T5.setTop (mkF m 20 #[.val (.ref q9d_0)] [(.ref q9d_0)])) := fun t k => P5 t (by
    show Steps p.tables e below (T5.setTop (mkF m 14 #[.val (.ref q9d_0)] [(.long (0 : Int64))])) t
    refine XS.lconst X5.here hx rfl (hb hby d9_14) ?_
    refine XS.lcmp X5.here hx rfl (hb hby d9_15) rfl ?_
    refine XS.ifNo X5.here hx rfl (hb hby d9_16) rfl ((if0 _ _).trans (teq ((lw_eq (0 : Int64) (0 : Int64)).mpr (by decide))).2) ?_
    refine XS.aloadN X5.here hx rfl (hb hby d9_19) rfl rfl ?_
    show Steps p.tables e below (T5.setTop (mkF m 20 #[.val (.ref q9d_0)] [(.ref q9d_0)])) t
    exact k)
  obtain ⟨T7, X7, e7, st7⟩ := getF X5 hx hZ hown (host := "") (Or.inl (hw _ (List.mem_of_getElem? (i := 28) rfl))) Via.refl e5 F_q9d_0_low (g := (mkF m 20 #[.val (.ref q9d_0)] [(.ref q9d_0)])) rfl rfl (hb hby d9_20)
  have P7 : own_Go p e below S0 (T7.setTop (mkF m 23 #[.val (.ref q9d_0)] [(.long ql)])) := fun t k => P6 t (st7 _ k)
  have c8 : ¬ (ql < (0 : Int64)) := hge
  have P9 : own_Go p e below S0 (T7.setTop (mkF m 29 #[.val (.ref q9d_0)] [(.ref q9d_0)])) := fun t k => P7 t (by
    show Steps p.tables e below (T7.setTop (mkF m 23 #[.val (.ref q9d_0)] [(.long ql)])) t
    refine XS.lconst X7.here hx rfl (hb hby d9_23) ?_
    refine XS.lcmp X7.here hx rfl (hb hby d9_24) rfl ?_
    refine XS.ifNo X7.here hx rfl (hb hby d9_25) rfl ((if0 _ _).trans (flt (fun q => c8 ((lw_lt ql (0 : Int64)).mp q))).1) ?_
    refine XS.aloadN X7.here hx rfl (hb hby d9_28) rfl rfl ?_
    show Steps p.tables e below (T7.setTop (mkF m 29 #[.val (.ref q9d_0)] [(.ref q9d_0)])) t
    exact k)
  obtain ⟨T10, X10, e10, st10⟩ := getF X7 hx hZ hown (host := "") (Or.inl (hw _ (List.mem_of_getElem? (i := 28) rfl))) Via.refl e7 F_q9d_0_low (g := (mkF m 29 #[.val (.ref q9d_0)] [(.ref q9d_0)])) rfl rfl (hb hby d9_29)
  have P10 : own_Go p e below S0 (T10.setTop (mkF m 32 #[.val (.ref q9d_0)] [(.long ql)])) := fun t k => P9 t (st10 _ k)
  have P11 : own_Go p e below S0 (T10.setTop (mkF m 38 #[.val (.ref q9d_0)] [(.long ql)])) := fun t k => P10 t (by
    show Steps p.tables e below (T10.setTop (mkF m 32 #[.val (.ref q9d_0)] [(.long ql)])) t
    refine XS.goto X10.here hx rfl (pc0 := 32) (pc' := 38) rfl (hb hby d9_32) (by decide) (by decide) ?_
    show Steps p.tables e below (T10.setTop (mkF m 38 #[.val (.ref q9d_0)] [(.long ql)])) t
    exact k)
  obtain ⟨fs, hr, hrun, hended, hW, hsame⟩ := X10.leave (v := some (.long ql)) (fun h => by rw [Bd.returns] at h; cases h) (BodyLoose.notSynchronized Bd)
  refine ⟨_, _, own_from hE0 (P11 _ ?_), hrun, hended, _, _, rfl, ?_, ⟨_, rfl⟩, hW, hsame.mono (by decide) (by decide)⟩
  · show Steps p.tables e below (T10.setTop (mkF m 38 #[.val (.ref q9d_0)] [(.long ql)])) _
    exact X10.lreturnOut hx Bd.returns (hb hby d9_38) hr
  · show Q9d Z q9d_0 qb ql h0 n0 _ T10.heap _
    rw [e10]
    exact ⟨rfl, N3, rfl⟩
theorem d11_0 : decode prog_40_method_6_code 0 = .ok (.aload_n 0, 1) := by decide +kernel
theorem d11_1 : decode prog_40_method_6_code 1 = .ok (.getfield 13, 3) := by decide +kernel
theorem d11_4 : decode prog_40_method_6_code 4 = .ok (.invokevirtual 50, 3) := by decide +kernel
theorem d11_7 : decode prog_40_method_6_code 7 = .ok (.ifCond .ne 23, 3) := by decide +kernel
theorem d11_10 : decode prog_40_method_6_code 10 = .ok (.aload_n 0, 1) := by decide +kernel
theorem d11_11 : decode prog_40_method_6_code 11 = .ok (.getfield 38, 3) := by decide +kernel
theorem d11_14 : decode prog_40_method_6_code 14 = .ok (.lconst 0, 1) := by decide +kernel
theorem d11_15 : decode prog_40_method_6_code 15 = .ok (.lcmp, 1) := by decide +kernel
theorem d11_16 : decode prog_40_method_6_code 16 = .ok (.ifCond .ne 14, 3) := by decide +kernel
theorem d11_19 : decode prog_40_method_6_code 19 = .ok (.aload_n 0, 1) := by decide +kernel
theorem d11_20 : decode prog_40_method_6_code 20 = .ok (.getfield 28, 3) := by decide +kernel
theorem d11_23 : decode prog_40_method_6_code 23 = .ok (.lload_n 1, 1) := by decide +kernel
theorem d11_24 : decode prog_40_method_6_code 24 = .ok (.invokestatic 32, 3) := by decide +kernel
theorem d11_27 : decode prog_40_method_6_code 27 = .ok (.ifCond .lt 7, 3) := by decide +kernel
theorem d11_30 : decode prog_40_method_6_code 30 = .ok (.iconst 1, 1) := by decide +kernel
theorem d11_31 : decode prog_40_method_6_code 31 = .ok (.goto 4, 3) := by decide +kernel
theorem d11_34 : decode prog_40_method_6_code 34 = .ok (.iconst 0, 1) := by decide +kernel
theorem d11_35 : decode prog_40_method_6_code 35 = .ok (.ireturn, 1) := by decide +kernel
theorem ef_11 (m : MethodId) (q11_0 : Addr) (q11_1 : Int64) : entryFrame m #[(.ref q11_0), (.long q11_1)] 3 = mkF m 0 #[.val (.ref q11_0), .val (.long q11_1), .second] [] := by first | (simp [entryFrame, mkF, argsToLocals, Value.category]; done) | rfl
def r11 (q11_1 : Int64) : Int32 := (if (own_cu (0 : Int64) q11_1) < (0 : Int32) then (0 : Int32) else (1 : Int32))
def Q11 (Z : State) (q11_0 : Addr) (q11_1 : Int64) (qb : Addr) (h0 : Heap) (n0 : Nat) (v : Option Value) (h : Heap) (L : List Loc) : Prop := v = some (.int (r11 q11_1)) ∧ Fr n0 L ∧ h = h0
set_option maxRecDepth 65536 in
set_option maxHeartbeats 40000000 in
theorem rm11 (l : Launch) (Z : State) (a0 : Array Value) (hw : ∀ d ∈ tables_1, d.before a0 Z = true) (ws : List Jvm.Cond) (q11_0 : Addr) (q11_1 : Int64) (qb : Addr) (h0 : Heap) (n0 : Nat) (Z0 : n0 ≤ h0.size) (F_q11_0_beyond : Fld Z h0 q11_0 "dev/quotefuse/engine/WideCount" "beyond" "Ljava/math/BigInteger;" (.ref qb)) (F_qb_signum : Fld Z h0 qb "java/math/BigInteger" "signum" "I" (.int (0 : Int32))) (E_qb : Exa Z h0 qb "java/math/BigInteger") (F_q11_0_high : Fld Z h0 q11_0 "dev/quotefuse/engine/WideCount" "high" "J" (.long (0 : Int64))) (F_q11_0_low : Fld Z h0 q11_0 "dev/quotefuse/engine/WideCount" "low" "J" (.long (0 : Int64))) :
    MetFree l (⟨"dev/quotefuse/engine/WideCount", "atLeast", "(J)Z"⟩ : MethodName) (head1 (Jvm.Cond.code (⟨"dev/quotefuse/engine/WideCount", "atLeast", "(J)Z"⟩ : MethodName) prog_40_method_6_code 3 (some .boolean) :: ws) ({ frames := 2, cells := 0, slots := 0, locals := 30 } : Room)) (fun a U => a = #[(.ref q11_0), (.long q11_1)] ∧ Z.Warmed39 U.vm ∧ U.heap = h0) (fun _ _ _ _ _ => True) (fun _ U o U' => ∃ v L, o = .returned v ∧ Q11 Z q11_0 q11_1 qb h0 n0 v U'.heap L ∧ FrameEnd U o U' L ({ frames := 2, cells := 0, slots := 0, locals := 30 } : Room).cells ({ frames := 2, cells := 0, slots := 0, locals := 30 } : Room).slots) := by
  refine MetFree.of_bodySF (plainFor_of_name pn_1) hisR ?_
  intro p e s m args below meth c s₁ Bd hml0 hP hK
  obtain ⟨rfl, hZ, hh⟩ := hP
  have hx := Bd.exec
  have hby := Bd.bytes
  have hml : c.maxLocals = 3 := hml0
  have hown : s.vm.findClass "dev/quotefuse/engine/WideCount" = some m.cls := findClass_of_methodNamed Bd.named
  have hnm := (name_of_methodNamed Bd.named Bd.method).1
  have X0 : Stand p l e ({ frames := 2, cells := 0, slots := 0, locals := 30 } : Room) s m #[(.ref q11_0), (.long q11_1)] below meth c s₁ [] 0 0 := Stand.of_body Bd
  have e0 : s₁.heap = h0 := by rw [← hh, Bd.state]; rfl
  have N0 := Fr.nil n0
  obtain ⟨S0, hE0⟩ : ∃ z, z = s₁.setTop (entryFrame m #[(.ref q11_0), (.long q11_1)] 3) := ⟨_, rfl⟩
  have P0 : own_Go p e below S0 (s₁.setTop (mkF m 0 #[.val (.ref q11_0), .val (.long q11_1), .second] [])) := fun t k => by rw [hE0]; exact castTop (ef_11 m q11_0 q11_1) k
  have P1 : own_Go p e below S0 (s₁.setTop (mkF m 1 #[.val (.ref q11_0), .val (.long q11_1), .second] [(.ref q11_0)])) := fun t k => P0 t (by
    show Steps p.tables e below (s₁.setTop (mkF m 0 #[.val (.ref q11_0), .val (.long q11_1), .second] [])) t
    refine XS.aloadN X0.here hx rfl (hb hby d11_0) rfl rfl ?_
    show Steps p.tables e below (s₁.setTop (mkF m 1 #[.val (.ref q11_0), .val (.long q11_1), .second] [(.ref q11_0)])) t
    exact k)
  obtain ⟨T2, X2, e2, st2⟩ := getF X0 hx hZ hown (host := "") (Or.inl (hw _ (List.mem_of_getElem? (i := 12) rfl))) Via.refl e0 F_q11_0_beyond (g := (mkF m 1 #[.val (.ref q11_0), .val (.long q11_1), .second] [(.ref q11_0)])) rfl rfl (hb hby d11_1)
  have P2 : own_Go p e below S0 (T2.setTop (mkF m 4 #[.val (.ref q11_0), .val (.long q11_1), .second] [(.ref qb)])) := fun t k => P1 t (st2 _ k)
  obtain ⟨cq3, kq3, q3a, q3b, q3c⟩ := isOf hZ e2 E_qb
  obtain ⟨_, _, ⟨T3, L3, k3, n3⟩, -, X3, ⟨Lc3, hQ3, l3, y3, z3⟩, st3⟩ := X2.virtualBack hx (y := (⟨"java/math/BigInteger", "signum", "()I"⟩ : MethodName)) (z := (⟨"java/math/BigInteger", "signum", "()I"⟩ : MethodName)) hown (mvT hZ (hw _ (List.mem_of_getElem? (i := 50) rfl))) (mvT hZ (hw _ (List.mem_of_getElem? (i := 51) rfl))) (notFace_of_selects (args := #[]) (mvT hZ (hw _ (List.mem_of_getElem? (i := 53) rfl)))) (mvT hZ (hw _ (List.mem_of_getElem? (i := 53) rfl))) (mvT hZ (hw _ (List.mem_of_getElem? (i := 52) rfl))) (by decide) (backOf (W := 0) (rm10 l Z a0 hw [] qb (0 : Int32) h0 n0 Z0 F_qb_signum) hZ (hw _ (List.mem_of_getElem? (i := 54) rfl)) (hw _ (List.mem_of_getElem? (i := 11) rfl)) (by decide) (by decide)) q3a q3c (g := (mkF m 4 #[.val (.ref q11_0), .val (.long q11_1), .second] [(.ref qb)])) rfl (by rw [hml]; rfl) (Steps.refl _) (argsL := []) (rest := []) (lenOf pd_4 rfl) rfl (by show 2 * 0 + _ ≤ _; exact Nat.le_of_eq rfl) (hb hby d11_4) (fun _ _ => ⟨rfl, e2, (by decide : 0 + 0 ≤ _), (by decide : 0 + 0 ≤ _)⟩)
  dsimp only [Pt.U, Pt.locs, Pt.cells, Pt.slots] at X3 l3 y3 z3 st3 hQ3
  subst l3 y3 z3
  obtain ⟨rfl, N3q, e3⟩ := hQ3
  have N3 := Fr.app N0 N3q
  have P3 : own_Go p e below S0 (T3.setTop (mkF m 7 #[.val (.ref q11_0), .val (.long q11_1), .second] [(.int (0 : Int32))])) := fun t k => P2 t (st3.trans k)
  have P4 : own_Go p e below S0 (T3.setTop (mkF m 11 #[.val (.ref q11_0), .val (.long q11_1), .second] [(.ref q11_0)])) := fun t k => P3 t (by
    show Steps p.tables e below (T3.setTop (mkF m 7 #[.val (.ref q11_0), .val (.long q11_1), .second] [(.int (0 : Int32))])) t
    refine XS.ifNo X3.here hx rfl (hb hby d11_7) rfl ((if0 _ _).trans (teq (by decide)).2) ?_
    refine XS.aloadN X3.here hx rfl (hb hby d11_10) rfl rfl ?_
    show Steps p.tables e below (T3.setTop (mkF m 11 #[.val (.ref q11_0), .val (.long q11_1), .second] [(.ref q11_0)])) t
    exact k)
  obtain ⟨T5, X5, e5, st5⟩ := getF X3 hx hZ hown (host := "") (Or.inl (hw _ (List.mem_of_getElem? (i := 38) rfl))) Via.refl e3 F_q11_0_high (g := (mkF m 11 #[.val (.ref q11_0), .val (.long q11_1), .second] [(.ref q11_0)])) rfl rfl (hb hby d11_11)
  have P5 : own_Go p e below S0 (T5.setTop (mkF m 14 #[.val (.ref q11_0), .val (.long q11_1), .second] [(.long (0 : Int64))])) := fun t k => P4 t (st5 _ k)
  have P6 : own_Go p e below S0 (T5.setTop (mkF m 20 #[.val (.ref q11_0), .val (.long q11_1), .second] [(.ref q11_0)])) := fun t k => P5 t (by
    show Steps p.tables e below (T5.setTop (mkF m 14 #[.val (.ref q11_0), .val (.long q11_1), .second] [(.long (0 : Int64))])) t
    refine XS.lconst X5.here hx rfl (hb hby d11_14) ?_
    refine XS.lcmp X5.here hx rfl (hb hby d11_15) rfl ?_
    refine XS.ifNo X5.here hx rfl (hb hby d11_16) rfl ((if0 _ _).trans (teq ((lw_eq (0 : Int64) (0 : Int64)).mpr (by decide))).2) ?_
    refine XS.aloadN X5.here hx rfl (hb hby d11_19) rfl rfl ?_
    show Steps p.tables e below (T5.setTop (mkF m 20 #[.val (.ref q11_0), .val (.long q11_1), .second] [(.ref q11_0)])) t
    exact k)
  obtain ⟨T7, X7, e7, st7⟩ := getF X5 hx hZ hown (host := "") (Or.inl (hw _ (List.mem_of_getElem? (i := 28) rfl))) Via.refl e5 F_q11_0_low (g := (mkF m 20 #[.val (.ref q11_0), .val (.long q11_1), .second] [(.ref q11_0)])) rfl rfl (hb hby d11_20)
  have P7 : own_Go p e below S0 (T7.setTop (mkF m 23 #[.val (.ref q11_0), .val (.long q11_1), .second] [(.long (0 : Int64))])) := fun t k => P6 t (st7 _ k)
  have P8 : own_Go p e below S0 (T7.setTop (mkF m 24 #[.val (.ref q11_0), .val (.long q11_1), .second] [(.long q11_1), (.long (0 : Int64))])) := fun t k => P7 t (by
    show Steps p.tables e below (T7.setTop (mkF m 23 #[.val (.ref q11_0), .val (.long q11_1), .second] [(.long (0 : Int64))])) t
    refine XS.lloadN X7.here hx rfl (hb hby d11_23) rfl ?_
    show Steps p.tables e below (T7.setTop (mkF m 24 #[.val (.ref q11_0), .val (.long q11_1), .second] [(.long q11_1), (.long (0 : Int64))])) t
    exact k)
  obtain ⟨_, _, ⟨T9, L9, k9, n9⟩, -, X9, ⟨Lc9, hQ9, l9, y9, z9⟩, st9⟩ := Jvm.LawKit.callS X7 hx (y := (⟨"java/lang/Long", "compareUnsigned", "(JJ)I"⟩ : MethodName)) hown (mvT hZ (hw _ (List.mem_of_getElem? (i := 30) rfl))) (mvT hZ (hw _ (List.mem_of_getElem? (i := 31) rfl))) (mvT hZ (hw _ (List.mem_of_getElem? (i := 32) rfl))) (mvT hZ (hw _ (List.mem_of_getElem? (i := 33) rfl))) (by decide) (backOf (W := 0) (rm6 l Z a0 hw [] (0 : Int64) q11_1 h0 n0 Z0) hZ (hw _ (List.mem_of_getElem? (i := 33) rfl)) (hw _ (List.mem_of_getElem? (i := 32) rfl)) (by decide) (by decide)) (g := (mkF m 24 #[.val (.ref q11_0), .val (.long q11_1), .second] [(.long q11_1), (.long (0 : Int64))])) rfl (by rw [hml]; rfl) (argsL := [(.long (0 : Int64)), (.long q11_1)]) (rest := []) (lenOf pd_0 rfl) rfl (by show 2 * 0 + _ ≤ _; exact Nat.le_of_eq rfl) (hb hby d11_24) (fun _ _ => ⟨rfl, e7, (by decide : 0 + 0 ≤ _), (by decide : 0 + 0 ≤ _)⟩)
  dsimp only [Pt.U, Pt.locs, Pt.cells, Pt.slots] at X9 l9 y9 z9 st9 hQ9
  subst l9 y9 z9
  obtain ⟨rfl, N9q, e9⟩ := hQ9
  have N9 := Fr.app N3 N9q
  have P9 : own_Go p e below S0 (T9.setTop (mkF m 27 #[.val (.ref q11_0), .val (.long q11_1), .second] [(.int (own_cu (0 : Int64) q11_1))])) := fun t k => P8 t (st9 _ k)
  by_cases c10 : (own_cu (0 : Int64) q11_1) < (0 : Int32)
  · skip
    have P11 : own_Go p e below S0 (T9.setTop (mkF m 35 #[.val (.ref q11_0), .val (.long q11_1), .second] [(.int (0 : Int32))])) := fun t k => P9 t (by
      show Steps p.tables e below (T9.setTop (mkF m 27 #[.val (.ref q11_0), .val (.long q11_1), .second] [(.int (own_cu (0 : Int64) q11_1))])) t
      refine XS.ifYes X9.here hx rfl (pc0 := 27) (pc' := 34) rfl (hb hby d11_27) rfl ((if0 _ _).trans (tlt c10).1) (by decide) (by decide) ?_
      refine XS.iconst X9.here hx rfl (hb hby d11_34) ?_
      show Steps p.tables e below (T9.setTop (mkF m 35 #[.val (.ref q11_0), .val (.long q11_1), .second] [(.int (0 : Int32))])) t
      exact k)
    obtain ⟨fs, hr, hrun, hended, hW, hsame⟩ := X9.leave (v := some (.int (0 : Int32))) (fun h => by rw [Bd.returns] at h; cases h) (BodyLoose.notSynchronized Bd)
    refine ⟨_, _, own_from hE0 (P11 _ ?_), hrun, hended, _, _, rfl, ?_, ⟨_, rfl⟩, hW, hsame.mono (by decide) (by decide)⟩
    · show Steps p.tables e below (T9.setTop (mkF m 35 #[.val (.ref q11_0), .val (.long q11_1), .second] [(.int (0 : Int32))])) _
      exact retN X9 hx (t := .boolean) Bd.returns (by simp) (hb hby d11_35) hr
    · show Q11 Z q11_0 q11_1 qb h0 n0 _ T9.heap _
      rw [e9]
      exact ⟨(congrArg (fun z => some (Value.int z)) (Eq.symm (if_pos c10))), N9, rfl⟩
  · skip
    have P12 : own_Go p e below S0 (T9.setTop (mkF m 35 #[.val (.ref q11_0), .val (.long q11_1), .second] [(.int (1 : Int32))])) := fun t k => P9 t (by
      show Steps p.tables e below (T9.setTop (mkF m 27 #[.val (.ref q11_0), .val (.long q11_1), .second] [(.int (own_cu (0 : Int64) q11_1))])) t
      refine XS.ifNo X9.here hx rfl (hb hby d11_27) rfl ((if0 _ _).trans (flt c10).1) ?_
      refine XS.iconst X9.here hx rfl (hb hby d11_30) ?_
      refine XS.goto X9.here hx rfl (pc0 := 31) (pc' := 35) rfl (hb hby d11_31) (by decide) (by decide) ?_
      show Steps p.tables e below (T9.setTop (mkF m 35 #[.val (.ref q11_0), .val (.long q11_1), .second] [(.int (1 : Int32))])) t
      exact k)
    obtain ⟨fs, hr, hrun, hended, hW, hsame⟩ := X9.leave (v := some (.int (1 : Int32))) (fun h => by rw [Bd.returns] at h; cases h) (BodyLoose.notSynchronized Bd)
    refine ⟨_, _, own_from hE0 (P12 _ ?_), hrun, hended, _, _, rfl, ?_, ⟨_, rfl⟩, hW, hsame.mono (by decide) (by decide)⟩
    · show Steps p.tables e below (T9.setTop (mkF m 35 #[.val (.ref q11_0), .val (.long q11_1), .second] [(.int (1 : Int32))])) _
      exact retN X9 hx (t := .boolean) Bd.returns (by simp) (hb hby d11_35) hr
    · show Q11 Z q11_0 q11_1 qb h0 n0 _ T9.heap _
      rw [e9]
      exact ⟨(congrArg (fun z => some (Value.int z)) (Eq.symm (if_neg c10))), N9, rfl⟩
def own_OV (P : Prop) (h q : Int64) : Prop := (P ∧ (h + (q + (1 : Int64))) < (0 : Int64)) ∨ (¬ P ∧ (h + (q + (0 : Int64))) < (0 : Int64))
theorem own_OVv {P : Prop} {h q : Int64} (o : own_OV P h q) : (P → (h + (q + (1 : Int64))) < (0 : Int64)) ∧ (¬ P → (h + (q + (0 : Int64))) < (0 : Int64)) := by
  rcases o with ⟨a, b⟩ | ⟨a, b⟩
  · exact ⟨fun _ => b, fun q => absurd a q⟩
  · exact ⟨fun q => absurd q a, fun _ => b⟩
theorem own_OVn {P : Prop} {h q : Int64} (o : ¬ own_OV P h q) : (P → ¬ ((h + (q + (1 : Int64))) < (0 : Int64))) ∧ (¬ P → ¬ ((h + (q + (0 : Int64))) < (0 : Int64))) :=
  ⟨fun a b => o (Or.inl ⟨a, b⟩), fun a b => o (Or.inr ⟨a, b⟩)⟩
theorem own_pos (x : Int64) : 0 ≤ (x &&& (9223372036854775807 : Int64)).toInt := by
  rw [c_maskL x 9223372036854775807 63 (by decide) (by decide)]
  exact Int.emod_nonneg _ (by decide)
theorem own_mulb {a b A B : Int} (h1 : 0 ≤ a) (h2 : a ≤ A) (h3 : 0 ≤ b) (h4 : b ≤ B) : 0 ≤ a * b ∧ a * b ≤ A * B := ⟨Int.mul_nonneg h1 h3, Int.mul_le_mul h2 h4 h3 (Int.le_trans h1 h2)⟩
theorem own_mulL {a b : Int64} {A B : Int} (h1 : 0 ≤ a.toInt) (h2 : a.toInt ≤ A) (h3 : 0 ≤ b.toInt) (h4 : b.toInt ≤ B) (hAB : A * B < 9223372036854775808) : 0 ≤ (a * b).toInt ∧ (a * b).toInt ≤ A * B := by
  obtain ⟨p1, p2⟩ := own_mulb h1 h2 h3 h4
  have m := c_lmul a b
  have r := rng64 (a * b)
  generalize a.toInt * b.toInt = P at *
  omega
theorem own_hi (x : Int64) : (x >>> ((32 : Int32) &&& 0x3f).toInt64).toInt = x.toInt / 4294967296 := c_lshr x 32 32 (by decide)
theorem own_lo (x : Int64) : 0 ≤ (x &&& (4294967295 : Int64)).toInt ∧ (x &&& (4294967295 : Int64)).toInt ≤ 4294967295 := by
  rw [c_maskL x 4294967295 32 (by decide) (by decide)]
  omega
theorem own_us (x : Int64) : 0 ≤ ((x.toUInt64 >>> ((32 : Int32) &&& 0x3f).toInt64.toUInt64).toInt64).toInt ∧ ((x.toUInt64 >>> ((32 : Int32) &&& 0x3f).toInt64.toUInt64).toInt64).toInt ≤ 4294967295 := by
  rw [c_lushr x 32 32 (by decide) (by decide)]
  omega
theorem own_addL {a b : Int64} {A B : Int} (h1 : 0 ≤ a.toInt ∧ a.toInt ≤ A) (h2 : 0 ≤ b.toInt ∧ b.toInt ≤ B) (h : A + B < 9223372036854775808) : 0 ≤ (a + b).toInt ∧ (a + b).toInt ≤ A + B := by
  have m := c_ladd a b
  have r := rng64 (a + b)
  omega
theorem own_mhb {x y : Int64} (hx : 0 ≤ x.toInt) (hy : 0 ≤ y.toInt) : 0 ≤ (own_mh x y).toInt ∧ (own_mh x y).toInt ≤ 4611686018427387903 := by
  have rx := rng64 x
  have ry := rng64 y
  have x1 := own_hi x
  have y1 := own_hi y
  have x2 := own_lo x
  have y2 := own_lo y
  have z2 := own_us ((x &&& (4294967295 : Int64)) * (y &&& (4294967295 : Int64)))
  unfold own_mh
  generalize (((x &&& (4294967295 : Int64)) * (y &&& (4294967295 : Int64))).toUInt64 >>> ((32 : Int32) &&& 0x3f).toInt64.toUInt64).toInt64 = z at *
  generalize x >>> ((32 : Int32) &&& 0x3f).toInt64 = a at *
  generalize y >>> ((32 : Int32) &&& 0x3f).toInt64 = b at *
  generalize x &&& (4294967295 : Int64) = c at *
  generalize y &&& (4294967295 : Int64) = d at *
  have ha : 0 ≤ a.toInt ∧ a.toInt ≤ 2147483647 := by omega
  have hb : 0 ≤ b.toInt ∧ b.toInt ≤ 2147483647 := by omega
  have m1 := own_mulL ha.1 ha.2 y2.1 y2.2 (by decide)
  have t := own_addL m1 z2 (by decide)
  have tl := own_lo (a * d + z)
  have th := own_hi (a * d + z)
  have m2 := own_mulL x2.1 x2.2 hb.1 hb.2 (by decide)
  have w := own_addL tl m2 (by decide)
  have wh := own_hi (((a * d + z) &&& (4294967295 : Int64)) + c * b)
  have m3 := own_mulL ha.1 ha.2 hb.1 hb.2 (by decide)
  have th2 : 0 ≤ ((a * d + z) >>> ((32 : Int32) &&& 0x3f).toInt64).toInt ∧ ((a * d + z) >>> ((32 : Int32) &&& 0x3f).toInt64).toInt ≤ 2147483647 := by omega
  have wh2 : 0 ≤ ((((a * d + z) &&& (4294967295 : Int64)) + c * b) >>> ((32 : Int32) &&& 0x3f).toInt64).toInt ∧ ((((a * d + z) &&& (4294967295 : Int64)) + c * b) >>> ((32 : Int32) &&& 0x3f).toInt64).toInt ≤ 2147483647 := by omega
  have s1 := own_addL m3 th2 (by decide)
  have s2 := own_addL s1 wh2 (by decide)
  omega
theorem own_z0 : 0 ≤ (0 : Int64).toInt ∧ (0 : Int64).toInt ≤ 4611686018427387903 := by decide
theorem own_s0 {h q : Int64} (hq : 0 ≤ q.toInt ∧ q.toInt ≤ 4611686018427387903) : ((h + (q + (0 : Int64))).toInt - (h.toInt + q.toInt)) % 18446744073709551616 = 0 ∧ ((h + (q + (1 : Int64))).toInt - (h.toInt + q.toInt + 1)) % 18446744073709551616 = 0 := by
  have a := c_ladd q (0 : Int64); have b := c_ladd q (1 : Int64); have c := c_ladd h (q + (0 : Int64)); have d := c_ladd h (q + (1 : Int64))
  rw [own_z64] at a; rw [own_o64] at b
  have r1 := rng64 (q + (0 : Int64)); have r2 := rng64 (q + (1 : Int64))
  omega
theorem own_b1 {q : Int64} (hq : 0 ≤ q.toInt ∧ q.toInt ≤ 4611686018427387903) : 0 ≤ ((0 : Int64) + (q + (0 : Int64))).toInt ∧ ((0 : Int64) + (q + (0 : Int64))).toInt ≤ 4611686018427387903 := by
  have a := (own_s0 (h := (0 : Int64)) hq).1
  have r := rng64 ((0 : Int64) + (q + (0 : Int64)))
  rw [own_z64] at a
  omega
theorem own_nov0 {q : Int64} (hq : 0 ≤ q.toInt ∧ q.toInt ≤ 4611686018427387903) : ¬ (((0 : Int64) + (q + (0 : Int64))) < (0 : Int64)) := by
  have a := own_b1 hq
  rw [own_lt64, own_z64]
  omega
theorem own_nov {P : Prop} {h q : Int64} (hh : 0 ≤ h.toInt ∧ h.toInt ≤ 4611686018427387903) (hq : 0 ≤ q.toInt ∧ q.toInt ≤ 4611686018427387903) : (P → ¬ ((h + (q + (1 : Int64))) < (0 : Int64))) ∧ (¬ P → ¬ ((h + (q + (0 : Int64))) < (0 : Int64))) := by
  obtain ⟨a, b⟩ := own_s0 (h := h) hq
  have r1 := rng64 (h + (q + (0 : Int64))); have r2 := rng64 (h + (q + (1 : Int64)))
  rw [own_lt64, own_lt64, own_z64]
  exact ⟨fun _ => by omega, fun _ => by omega⟩
theorem own_b2 {l lo h q : Int64} (hh : 0 ≤ h.toInt ∧ h.toInt ≤ 4611686018427387903) (hq : 0 ≤ q.toInt ∧ q.toInt ≤ 4611686018427387903) : 0 ≤ (f5n_high q lo l h).toInt ∧ (f5n_high q lo l h).toInt ≤ 9223372036854775807 := by
  obtain ⟨a, b⟩ := own_s0 (h := h) hq
  have r1 := rng64 (h + (q + (0 : Int64))); have r2 := rng64 (h + (q + (1 : Int64)))
  unfold f5n_high
  split <;> omega
theorem own_b3 {l lo h q : Int64} (hh : 0 ≤ h.toInt ∧ h.toInt ≤ 9223372036854775807) (hq : 0 ≤ q.toInt ∧ q.toInt ≤ 4611686018427387903) (o : own_OV ((own_cu (l + lo) l) < (0 : Int32)) h q) : 0 ≤ (f5v_high q lo l h).toInt ∧ (f5v_high q lo l h).toInt ≤ 4611686018427387903 := by
  obtain ⟨a, b⟩ := own_s0 (h := h) hq
  have r1 := rng64 (h + (q + (0 : Int64))); have r2 := rng64 (h + (q + (1 : Int64)))
  obtain ⟨v1, v2⟩ := own_OVv o
  unfold f5v_high
  split
  · rename_i hp
    have v := v1 hp
    rw [own_lt64, own_z64] at v
    rw [c_maskL _ 9223372036854775807 63 (by decide) (by decide)]
    omega
  · rename_i hp
    have v := v2 hp
    rw [own_lt64, own_z64] at v
    rw [c_maskL _ 9223372036854775807 63 (by decide) (by decide)]
    omega
theorem own_l12 {x : Int32} (h : x < (1 : Int32)) : x < (2 : Int32) := by
  rw [Int32.lt_iff_toInt_lt] at *
  have e1 : (1 : Int32).toInt = 1 := by decide
  have e2 : (2 : Int32).toInt = 2 := by decide
  omega
theorem own_l23 {x : Int32} (h : x < (2 : Int32)) : x < (3 : Int32) := by
  rw [Int32.lt_iff_toInt_lt] at *
  have e1 : (2 : Int32).toInt = 2 := by decide
  have e2 : (3 : Int32).toInt = 3 := by decide
  omega
theorem own_z1 (x : Int64) : ((0 : Int64) + x) = x := Int64.zero_add x
theorem own_ge (x : Int64) : ¬ (((0 : Int64) + (x &&& (9223372036854775807 : Int64))) < (0 : Int64)) := by
  rw [own_z1, own_lt64, own_z64]
  have := own_pos x
  omega
theorem own_al (x : Int64) : r11 (x &&& (9223372036854775807 : Int64)) = (if (x &&& (9223372036854775807 : Int64)) = (0 : Int64) then (1 : Int32) else (0 : Int32)) := by
  have hp := own_pos x
  generalize x &&& (9223372036854775807 : Int64) = y at *
  have e : ((0 : Int64) + (-9223372036854775808 : Int64)).toInt = -9223372036854775808 := by decide
  have a := c_ladd y (-9223372036854775808 : Int64)
  rw [own_mn64] at a
  have r := rng64 (y + (-9223372036854775808 : Int64)); have r2 := rng64 y
  unfold r11
  by_cases h : y = (0 : Int64)
  · rw [if_pos h, if_neg]
    rw [own_cul, own_lt64, e, h]
    rw [e]
    decide
  · rw [if_neg h, if_pos]
    rw [own_cul, own_lt64, e]
    have : y.toInt ≠ 0 := fun q => h (Int64.toInt_inj.mp (by rw [q, own_z64]))
    omega

theorem pd_5 : parseMethodDescriptor "()V" = some ⟨[], none⟩ := by decide +kernel
theorem pd_6 : parseMethodDescriptor "(J)V" = some ⟨[.long], none⟩ := by decide +kernel
theorem pd_7 : parseMethodDescriptor "()J" = some ⟨[], some .long⟩ := by decide +kernel
theorem pd_8 : parseMethodDescriptor "(J)Z" = some ⟨[.long], some .boolean⟩ := by decide +kernel
theorem pn_0 : plainName "dev/quotefuse/engine/WideCountClearPinLaw" = true := by first | (simp [plainName, overriddenIn]; done) | decide +kernel
theorem ef_0 (m : MethodId) (i0 : Int64) (i1 : Int64) (i2 : Int64) (i3 : Int64) (i4 : Int32) : entryFrame m #[(.long i0), (.long i1), (.long i2), (.long i3), (.int i4)] maxLocals = mkF m 0 #[.val (.long i0), .second, .val (.long i1), .second, .val (.long i2), .second, .val (.long i3), .second, .val (.int i4), .unset, .unset, .unset, .unset, .unset, .unset, .unset, .unset, .unset, .unset, .unset, .unset, .unset, .unset] [] := by first | (simp [entryFrame, mkF, argsToLocals, Value.category, maxLocals]; done) | rfl
def Q0 (Z : State) (i0 : Int64) (i1 : Int64) (i2 : Int64) (i3 : Int64) (i4 : Int32) (z0_ZERO : Addr) (z0_ONE : Addr) (h0 : Heap) (n0 : Nat) (v : Option Value) (h : Heap) (L : List Loc) : Prop := v = some (.int 1) ∧ Fr n0 L
set_option maxRecDepth 65536 in
set_option maxHeartbeats 40000000 in
theorem rm0 (l : Launch) (Z : State) (a0 : Array Value) (hw : ∀ d ∈ tables_1, d.before a0 Z = true) (ws : List Jvm.Cond) (i0 : Int64) (i1 : Int64) (i2 : Int64) (i3 : Int64) (i4 : Int32) (z0_ZERO : Addr) (z0_ONE : Addr) (h0 : Heap) (n0 : Nat) (Z0 : n0 ≤ h0.size) (S_ZERO : Sta Z h0 "java/math/BigInteger" "ZERO" "Ljava/math/BigInteger;" (.ref z0_ZERO)) (E_z0_ZERO : Exa Z h0 z0_ZERO "java/math/BigInteger") (F_z0_ZERO_signum : Fld Z h0 z0_ZERO "java/math/BigInteger" "signum" "I" (.int (0 : Int32))) (S_ONE : Sta Z h0 "java/math/BigInteger" "ONE" "Ljava/math/BigInteger;" (.ref z0_ONE)) (E_z0_ONE : Exa Z h0 z0_ONE "java/math/BigInteger") (F_z0_ONE_signum : Fld Z h0 z0_ONE "java/math/BigInteger" "signum" "I" (.int (1 : Int32))) :
    MetFree l x (head1 (Jvm.Cond.code x code maxLocals ret :: ws) room_1) (fun a U => a = #[(.long i0), (.long i1), (.long i2), (.long i3), (.int i4)] ∧ Z.Warmed39 U.vm ∧ U.heap = h0) (fun _ _ _ _ _ => True) (fun _ U o U' => ∃ v L, o = .returned v ∧ Q0 Z i0 i1 i2 i3 i4 z0_ZERO z0_ONE h0 n0 v U'.heap L ∧ FrameEnd U o U' L room_1.cells room_1.slots) := by
  refine MetFree.of_bodySF (plainFor_of_name pn_0) hisR ?_
  intro p e s m args below meth c s₁ Bd hml0 hP hK
  obtain ⟨rfl, hZ, hh⟩ := hP
  have hx := Bd.exec
  have hby := Bd.bytes
  have hml : c.maxLocals = 23 := hml0
  have hown : s.vm.findClass "dev/quotefuse/engine/WideCountClearPinLaw" = some m.cls := findClass_of_methodNamed Bd.named
  have hnm := (name_of_methodNamed Bd.named Bd.method).1
  have X0 : Stand p l e room_1 s m #[(.long i0), (.long i1), (.long i2), (.long i3), (.int i4)] below meth c s₁ [] 0 0 := Stand.of_body Bd
  have e0 : s₁.heap = h0 := by rw [← hh, Bd.state]; rfl
  have N0 := Fr.nil n0
  obtain ⟨S0, hE0⟩ : ∃ z, z = s₁.setTop (entryFrame m #[(.long i0), (.long i1), (.long i2), (.long i3), (.int i4)] maxLocals) := ⟨_, rfl⟩
  have P0 : own_Go p e below S0 (s₁.setTop (mkF m 0 #[.val (.long i0), .second, .val (.long i1), .second, .val (.long i2), .second, .val (.long i3), .second, .val (.int i4), .unset, .unset, .unset, .unset, .unset, .unset, .unset, .unset, .unset, .unset, .unset, .unset, .unset, .unset] [])) := fun t k => by rw [hE0]; exact castTop (ef_0 m i0 i1 i2 i3 i4) k
  have P1 : own_Go p e below S0 (s₁.setTop (mkF m 40 #[.val (.long i0), .second, .val (.long i1), .second, .val (.long i2), .second, .val (.long i3), .second, .val (.int i4), .val (.long (i0 &&& (9223372036854775807 : Int64))), .second, .val (.long (i1 &&& (9223372036854775807 : Int64))), .second, .val (.long (i2 &&& (9223372036854775807 : Int64))), .second, .val (.long (i3 &&& (9223372036854775807 : Int64))), .second, .val (.int (i4 &&& (3 : Int32))), .unset, .unset, .unset, .unset, .unset] [(.int (i4 &&& (4 : Int32)))])) := fun t k => P0 t (by
    show Steps p.tables e below (s₁.setTop (mkF m 0 #[.val (.long i0), .second, .val (.long i1), .second, .val (.long i2), .second, .val (.long i3), .second, .val (.int i4), .unset, .unset, .unset, .unset, .unset, .unset, .unset, .unset, .unset, .unset, .unset, .unset, .unset, .unset] [])) t
    refine XS.lloadN X0.here hx rfl (hb hby at_0) rfl ?_
    show Steps p.tables e below (s₁.setTop (mkF m 1 #[.val (.long i0), .second, .val (.long i1), .second, .val (.long i2), .second, .val (.long i3), .second, .val (.int i4), .unset, .unset, .unset, .unset, .unset, .unset, .unset, .unset, .unset, .unset, .unset, .unset, .unset, .unset] [(.long i0)])) t
    refine X0.ldc2Long hx hown (mvT hZ (hw _ (List.mem_of_getElem? (i := 0) rfl))) (g := (mkF m 1 #[.val (.long i0), .second, .val (.long i1), .second, .val (.long i2), .second, .val (.long i3), .second, .val (.int i4), .unset, .unset, .unset, .unset, .unset, .unset, .unset, .unset, .unset, .unset, .unset, .unset, .unset, .unset] [(.long i0)])) rfl (hb hby at_1) _ ?_
    refine XS.land X0.here hx rfl (hb hby at_4) rfl ?_
    refine XS.lstore X0.here hx rfl (hb hby at_5) rfl (l' := #[.val (.long i0), .second, .val (.long i1), .second, .val (.long i2), .second, .val (.long i3), .second, .val (.int i4), .val (.long (i0 &&& (9223372036854775807 : Int64))), .second, .unset, .unset, .unset, .unset, .unset, .unset, .unset, .unset, .unset, .unset, .unset, .unset]) rfl ?_
    refine XS.lloadN X0.here hx rfl (hb hby at_7) rfl ?_
    show Steps p.tables e below (s₁.setTop (mkF m 8 #[.val (.long i0), .second, .val (.long i1), .second, .val (.long i2), .second, .val (.long i3), .second, .val (.int i4), .val (.long (i0 &&& (9223372036854775807 : Int64))), .second, .unset, .unset, .unset, .unset, .unset, .unset, .unset, .unset, .unset, .unset, .unset, .unset] [(.long i1)])) t
    refine X0.ldc2Long hx hown (mvT hZ (hw _ (List.mem_of_getElem? (i := 0) rfl))) (g := (mkF m 8 #[.val (.long i0), .second, .val (.long i1), .second, .val (.long i2), .second, .val (.long i3), .second, .val (.int i4), .val (.long (i0 &&& (9223372036854775807 : Int64))), .second, .unset, .unset, .unset, .unset, .unset, .unset, .unset, .unset, .unset, .unset, .unset, .unset] [(.long i1)])) rfl (hb hby at_8) _ ?_
    show Steps p.tables e below (s₁.setTop (mkF m 11 #[.val (.long i0), .second, .val (.long i1), .second, .val (.long i2), .second, .val (.long i3), .second, .val (.int i4), .val (.long (i0 &&& (9223372036854775807 : Int64))), .second, .unset, .unset, .unset, .unset, .unset, .unset, .unset, .unset, .unset, .unset, .unset, .unset] [(.long (9223372036854775807 : Int64)), (.long i1)])) t
    refine XS.land X0.here hx rfl (hb hby at_11) rfl ?_
    refine XS.lstore X0.here hx rfl (hb hby at_12) rfl (l' := #[.val (.long i0), .second, .val (.long i1), .second, .val (.long i2), .second, .val (.long i3), .second, .val (.int i4), .val (.long (i0 &&& (9223372036854775807 : Int64))), .second, .val (.long (i1 &&& (9223372036854775807 : Int64))), .second, .unset, .unset, .unset, .unset, .unset, .unset, .unset, .unset, .unset, .unset]) rfl ?_
    refine XS.lload X0.here hx rfl (hb hby at_14) rfl ?_
    show Steps p.tables e below (s₁.setTop (mkF m 16 #[.val (.long i0), .second, .val (.long i1), .second, .val (.long i2), .second, .val (.long i3), .second, .val (.int i4), .val (.long (i0 &&& (9223372036854775807 : Int64))), .second, .val (.long (i1 &&& (9223372036854775807 : Int64))), .second, .unset, .unset, .unset, .unset, .unset, .unset, .unset, .unset, .unset, .unset] [(.long i2)])) t
    refine X0.ldc2Long hx hown (mvT hZ (hw _ (List.mem_of_getElem? (i := 0) rfl))) (g := (mkF m 16 #[.val (.long i0), .second, .val (.long i1), .second, .val (.long i2), .second, .val (.long i3), .second, .val (.int i4), .val (.long (i0 &&& (9223372036854775807 : Int64))), .second, .val (.long (i1 &&& (9223372036854775807 : Int64))), .second, .unset, .unset, .unset, .unset, .unset, .unset, .unset, .unset, .unset, .unset] [(.long i2)])) rfl (hb hby at_16) _ ?_
    refine XS.land X0.here hx rfl (hb hby at_19) rfl ?_
    refine XS.lstore X0.here hx rfl (hb hby at_20) rfl (l' := #[.val (.long i0), .second, .val (.long i1), .second, .val (.long i2), .second, .val (.long i3), .second, .val (.int i4), .val (.long (i0 &&& (9223372036854775807 : Int64))), .second, .val (.long (i1 &&& (9223372036854775807 : Int64))), .second, .val (.long (i2 &&& (9223372036854775807 : Int64))), .second, .unset, .unset, .unset, .unset, .unset, .unset, .unset, .unset]) rfl ?_
    show Steps p.tables e below (s₁.setTop (mkF m 22 #[.val (.long i0), .second, .val (.long i1), .second, .val (.long i2), .second, .val (.long i3), .second, .val (.int i4), .val (.long (i0 &&& (9223372036854775807 : Int64))), .second, .val (.long (i1 &&& (9223372036854775807 : Int64))), .second, .val (.long (i2 &&& (9223372036854775807 : Int64))), .second, .unset, .unset, .unset, .unset, .unset, .unset, .unset, .unset] [])) t
    refine XS.lload X0.here hx rfl (hb hby at_22) rfl ?_
    show Steps p.tables e below (s₁.setTop (mkF m 24 #[.val (.long i0), .second, .val (.long i1), .second, .val (.long i2), .second, .val (.long i3), .second, .val (.int i4), .val (.long (i0 &&& (9223372036854775807 : Int64))), .second, .val (.long (i1 &&& (9223372036854775807 : Int64))), .second, .val (.long (i2 &&& (9223372036854775807 : Int64))), .second, .unset, .unset, .unset, .unset, .unset, .unset, .unset, .unset] [(.long i3)])) t
    refine X0.ldc2Long hx hown (mvT hZ (hw _ (List.mem_of_getElem? (i := 0) rfl))) (g := (mkF m 24 #[.val (.long i0), .second, .val (.long i1), .second, .val (.long i2), .second, .val (.long i3), .second, .val (.int i4), .val (.long (i0 &&& (9223372036854775807 : Int64))), .second, .val (.long (i1 &&& (9223372036854775807 : Int64))), .second, .val (.long (i2 &&& (9223372036854775807 : Int64))), .second, .unset, .unset, .unset, .unset, .unset, .unset, .unset, .unset] [(.long i3)])) rfl (hb hby at_24) _ ?_
    refine XS.land X0.here hx rfl (hb hby at_27) rfl ?_
    refine XS.lstore X0.here hx rfl (hb hby at_28) rfl (l' := #[.val (.long i0), .second, .val (.long i1), .second, .val (.long i2), .second, .val (.long i3), .second, .val (.int i4), .val (.long (i0 &&& (9223372036854775807 : Int64))), .second, .val (.long (i1 &&& (9223372036854775807 : Int64))), .second, .val (.long (i2 &&& (9223372036854775807 : Int64))), .second, .val (.long (i3 &&& (9223372036854775807 : Int64))), .second, .unset, .unset, .unset, .unset, .unset, .unset]) rfl ?_
    refine XS.iload X0.here hx rfl (hb hby at_30) rfl ?_
    refine XS.iconst X0.here hx rfl (hb hby at_32) ?_
    show Steps p.tables e below (s₁.setTop (mkF m 33 #[.val (.long i0), .second, .val (.long i1), .second, .val (.long i2), .second, .val (.long i3), .second, .val (.int i4), .val (.long (i0 &&& (9223372036854775807 : Int64))), .second, .val (.long (i1 &&& (9223372036854775807 : Int64))), .second, .val (.long (i2 &&& (9223372036854775807 : Int64))), .second, .val (.long (i3 &&& (9223372036854775807 : Int64))), .second, .unset, .unset, .unset, .unset, .unset, .unset] [(.int (3 : Int32)), (.int i4)])) t
    refine XS.iand X0.here hx rfl (hb hby at_33) rfl ?_
    refine XS.istore X0.here hx rfl (hb hby at_34) rfl (l' := #[.val (.long i0), .second, .val (.long i1), .second, .val (.long i2), .second, .val (.long i3), .second, .val (.int i4), .val (.long (i0 &&& (9223372036854775807 : Int64))), .second, .val (.long (i1 &&& (9223372036854775807 : Int64))), .second, .val (.long (i2 &&& (9223372036854775807 : Int64))), .second, .val (.long (i3 &&& (9223372036854775807 : Int64))), .second, .val (.int (i4 &&& (3 : Int32))), .unset, .unset, .unset, .unset, .unset]) rfl ?_
    refine XS.iload X0.here hx rfl (hb hby at_36) rfl ?_
    refine XS.iconst X0.here hx rfl (hb hby at_38) ?_
    refine XS.iand X0.here hx rfl (hb hby at_39) rfl ?_
    show Steps p.tables e below (s₁.setTop (mkF m 40 #[.val (.long i0), .second, .val (.long i1), .second, .val (.long i2), .second, .val (.long i3), .second, .val (.int i4), .val (.long (i0 &&& (9223372036854775807 : Int64))), .second, .val (.long (i1 &&& (9223372036854775807 : Int64))), .second, .val (.long (i2 &&& (9223372036854775807 : Int64))), .second, .val (.long (i3 &&& (9223372036854775807 : Int64))), .second, .val (.int (i4 &&& (3 : Int32))), .unset, .unset, .unset, .unset, .unset] [(.int (i4 &&& (4 : Int32)))])) t
    exact k)
  obtain ⟨v5_s0, hv5_s0, P5⟩ : ∃ (v5_s0 : Int32), (v5_s0 = (if (i4 &&& (4 : Int32)) = (0 : Int32) then (0 : Int32) else (1 : Int32))) ∧ (own_Go p e below S0 (s₁.setTop (mkF m 48 #[.val (.long i0), .second, .val (.long i1), .second, .val (.long i2), .second, .val (.long i3), .second, .val (.int i4), .val (.long (i0 &&& (9223372036854775807 : Int64))), .second, .val (.long (i1 &&& (9223372036854775807 : Int64))), .second, .val (.long (i2 &&& (9223372036854775807 : Int64))), .second, .val (.long (i3 &&& (9223372036854775807 : Int64))), .second, .val (.int (i4 &&& (3 : Int32))), .unset, .unset, .unset, .unset, .unset] [(.int v5_s0)]))) := by
    by_cases c2 : (i4 &&& (4 : Int32)) = (0 : Int32)
    · skip
      have P3 : own_Go p e below S0 (s₁.setTop (mkF m 48 #[.val (.long i0), .second, .val (.long i1), .second, .val (.long i2), .second, .val (.long i3), .second, .val (.int i4), .val (.long (i0 &&& (9223372036854775807 : Int64))), .second, .val (.long (i1 &&& (9223372036854775807 : Int64))), .second, .val (.long (i2 &&& (9223372036854775807 : Int64))), .second, .val (.long (i3 &&& (9223372036854775807 : Int64))), .second, .val (.int (i4 &&& (3 : Int32))), .unset, .unset, .unset, .unset, .unset] [(.int (0 : Int32))])) := fun t k => P1 t (by
        show Steps p.tables e below (s₁.setTop (mkF m 40 #[.val (.long i0), .second, .val (.long i1), .second, .val (.long i2), .second, .val (.long i3), .second, .val (.int i4), .val (.long (i0 &&& (9223372036854775807 : Int64))), .second, .val (.long (i1 &&& (9223372036854775807 : Int64))), .second, .val (.long (i2 &&& (9223372036854775807 : Int64))), .second, .val (.long (i3 &&& (9223372036854775807 : Int64))), .second, .val (.int (i4 &&& (3 : Int32))), .unset, .unset, .unset, .unset, .unset] [(.int (i4 &&& (4 : Int32)))])) t
        refine XS.ifYes X0.here hx rfl (pc0 := 40) (pc' := 47) rfl (hb hby at_40) rfl ((if0 _ _).trans (teq c2).1) (by decide) (by decide) ?_
        refine XS.iconst X0.here hx rfl (hb hby at_47) ?_
        show Steps p.tables e below (s₁.setTop (mkF m 48 #[.val (.long i0), .second, .val (.long i1), .second, .val (.long i2), .second, .val (.long i3), .second, .val (.int i4), .val (.long (i0 &&& (9223372036854775807 : Int64))), .second, .val (.long (i1 &&& (9223372036854775807 : Int64))), .second, .val (.long (i2 &&& (9223372036854775807 : Int64))), .second, .val (.long (i3 &&& (9223372036854775807 : Int64))), .second, .val (.int (i4 &&& (3 : Int32))), .unset, .unset, .unset, .unset, .unset] [(.int (0 : Int32))])) t
        exact k)
      exact ⟨(0 : Int32), (Eq.symm (if_pos c2)), P3⟩
    · skip
      have P4 : own_Go p e below S0 (s₁.setTop (mkF m 48 #[.val (.long i0), .second, .val (.long i1), .second, .val (.long i2), .second, .val (.long i3), .second, .val (.int i4), .val (.long (i0 &&& (9223372036854775807 : Int64))), .second, .val (.long (i1 &&& (9223372036854775807 : Int64))), .second, .val (.long (i2 &&& (9223372036854775807 : Int64))), .second, .val (.long (i3 &&& (9223372036854775807 : Int64))), .second, .val (.int (i4 &&& (3 : Int32))), .unset, .unset, .unset, .unset, .unset] [(.int (1 : Int32))])) := fun t k => P1 t (by
        show Steps p.tables e below (s₁.setTop (mkF m 40 #[.val (.long i0), .second, .val (.long i1), .second, .val (.long i2), .second, .val (.long i3), .second, .val (.int i4), .val (.long (i0 &&& (9223372036854775807 : Int64))), .second, .val (.long (i1 &&& (9223372036854775807 : Int64))), .second, .val (.long (i2 &&& (9223372036854775807 : Int64))), .second, .val (.long (i3 &&& (9223372036854775807 : Int64))), .second, .val (.int (i4 &&& (3 : Int32))), .unset, .unset, .unset, .unset, .unset] [(.int (i4 &&& (4 : Int32)))])) t
        refine XS.ifNo X0.here hx rfl (hb hby at_40) rfl ((if0 _ _).trans (feq c2).1) ?_
        refine XS.iconst X0.here hx rfl (hb hby at_43) ?_
        refine XS.goto X0.here hx rfl (pc0 := 44) (pc' := 48) rfl (hb hby at_44) (by decide) (by decide) ?_
        show Steps p.tables e below (s₁.setTop (mkF m 48 #[.val (.long i0), .second, .val (.long i1), .second, .val (.long i2), .second, .val (.long i3), .second, .val (.int i4), .val (.long (i0 &&& (9223372036854775807 : Int64))), .second, .val (.long (i1 &&& (9223372036854775807 : Int64))), .second, .val (.long (i2 &&& (9223372036854775807 : Int64))), .second, .val (.long (i3 &&& (9223372036854775807 : Int64))), .second, .val (.int (i4 &&& (3 : Int32))), .unset, .unset, .unset, .unset, .unset] [(.int (1 : Int32))])) t
        exact k)
      exact ⟨(1 : Int32), (Eq.symm (if_neg c2)), P4⟩
  have P6 : own_Go p e below S0 (s₁.setTop (mkF m 50 #[.val (.long i0), .second, .val (.long i1), .second, .val (.long i2), .second, .val (.long i3), .second, .val (.int i4), .val (.long (i0 &&& (9223372036854775807 : Int64))), .second, .val (.long (i1 &&& (9223372036854775807 : Int64))), .second, .val (.long (i2 &&& (9223372036854775807 : Int64))), .second, .val (.long (i3 &&& (9223372036854775807 : Int64))), .second, .val (.int (i4 &&& (3 : Int32))), .val (.int v5_s0), .unset, .unset, .unset, .unset] [])) := fun t k => P5 t (by
    show Steps p.tables e below (s₁.setTop (mkF m 48 #[.val (.long i0), .second, .val (.long i1), .second, .val (.long i2), .second, .val (.long i3), .second, .val (.int i4), .val (.long (i0 &&& (9223372036854775807 : Int64))), .second, .val (.long (i1 &&& (9223372036854775807 : Int64))), .second, .val (.long (i2 &&& (9223372036854775807 : Int64))), .second, .val (.long (i3 &&& (9223372036854775807 : Int64))), .second, .val (.int (i4 &&& (3 : Int32))), .unset, .unset, .unset, .unset, .unset] [(.int v5_s0)])) t
    refine XS.istore X0.here hx rfl (hb hby at_48) rfl (l' := #[.val (.long i0), .second, .val (.long i1), .second, .val (.long i2), .second, .val (.long i3), .second, .val (.int i4), .val (.long (i0 &&& (9223372036854775807 : Int64))), .second, .val (.long (i1 &&& (9223372036854775807 : Int64))), .second, .val (.long (i2 &&& (9223372036854775807 : Int64))), .second, .val (.long (i3 &&& (9223372036854775807 : Int64))), .second, .val (.int (i4 &&& (3 : Int32))), .val (.int v5_s0), .unset, .unset, .unset, .unset]) rfl ?_
    show Steps p.tables e below (s₁.setTop (mkF m 50 #[.val (.long i0), .second, .val (.long i1), .second, .val (.long i2), .second, .val (.long i3), .second, .val (.int i4), .val (.long (i0 &&& (9223372036854775807 : Int64))), .second, .val (.long (i1 &&& (9223372036854775807 : Int64))), .second, .val (.long (i2 &&& (9223372036854775807 : Int64))), .second, .val (.long (i3 &&& (9223372036854775807 : Int64))), .second, .val (.int (i4 &&& (3 : Int32))), .val (.int v5_s0), .unset, .unset, .unset, .unset] [])) t
    exact k)
  obtain ⟨T7, h7, X7, e7, E7, A7, D7, -, st7⟩ := newO X0 hx hZ hown (hw _ (List.mem_of_getElem? (i := 1) rfl)) (hw _ (List.mem_of_getElem? (i := 2) rfl)) (hw _ (List.mem_of_getElem? (i := 3) rfl)) e0 (g := (mkF m 50 #[.val (.long i0), .second, .val (.long i1), .second, .val (.long i2), .second, .val (.long i3), .second, .val (.int i4), .val (.long (i0 &&& (9223372036854775807 : Int64))), .second, .val (.long (i1 &&& (9223372036854775807 : Int64))), .second, .val (.long (i2 &&& (9223372036854775807 : Int64))), .second, .val (.long (i3 &&& (9223372036854775807 : Int64))), .second, .val (.int (i4 &&& (3 : Int32))), .val (.int v5_s0), .unset, .unset, .unset, .unset] [])) rfl (hb hby at_50) (by decide) (by decide)
  obtain ⟨b7, g7⟩ : ∃ z, z = h0.size := ⟨_, rfl⟩
  rw [← g7] at A7 D7 st7
  have sz_b7 : h0.size ≤ b7 := Nat.le_of_eq g7.symm
  have ne_z0_ZERO_b7 : z0_ZERO ≠ b7 := Nat.ne_of_lt (Nat.lt_of_lt_of_le E_z0_ZERO.lt sz_b7)
  have ne_z0_ONE_b7 : z0_ONE ≠ b7 := Nat.ne_of_lt (Nat.lt_of_lt_of_le E_z0_ONE.lt sz_b7)
  have g_b7 : n0 ≤ b7 := Nat.le_trans Z0 sz_b7
  have o_b7 : h0.size ≤ b7 := sz_b7
  have K7 : Keep h0 h7 [] := (Keep.refl h0 []).ext E7
  have F7_beyond : Fld Z h7 b7 "dev/quotefuse/engine/WideCount" "beyond" "Ljava/math/BigInteger;" .null := D7 (Or.inl (hw _ (List.mem_of_getElem? (i := 13) rfl))) (ty := (.object "java/math/BigInteger")) (by decide)
  have F7_low : Fld Z h7 b7 "dev/quotefuse/engine/WideCount" "low" "J" (.long (0 : Int64)) := D7 (Or.inl (hw _ (List.mem_of_getElem? (i := 29) rfl))) (ty := .long) (by decide)
  have F7_high : Fld Z h7 b7 "dev/quotefuse/engine/WideCount" "high" "J" (.long (0 : Int64)) := D7 (Or.inl (hw _ (List.mem_of_getElem? (i := 39) rfl))) (ty := .long) (by decide)
  have P7 : own_Go p e below S0 (T7.setTop (mkF m 53 #[.val (.long i0), .second, .val (.long i1), .second, .val (.long i2), .second, .val (.long i3), .second, .val (.int i4), .val (.long (i0 &&& (9223372036854775807 : Int64))), .second, .val (.long (i1 &&& (9223372036854775807 : Int64))), .second, .val (.long (i2 &&& (9223372036854775807 : Int64))), .second, .val (.long (i3 &&& (9223372036854775807 : Int64))), .second, .val (.int (i4 &&& (3 : Int32))), .val (.int v5_s0), .unset, .unset, .unset, .unset] [(.ref b7)])) := fun t k => P6 t (st7 _ k)
  have F8 : Sta Z h7 "java/math/BigInteger" "ZERO" "Ljava/math/BigInteger;" (.ref z0_ZERO) := S_ZERO.ext E7
  have P9 : own_Go p e below S0 (T7.setTop (mkF m 54 #[.val (.long i0), .second, .val (.long i1), .second, .val (.long i2), .second, .val (.long i3), .second, .val (.int i4), .val (.long (i0 &&& (9223372036854775807 : Int64))), .second, .val (.long (i1 &&& (9223372036854775807 : Int64))), .second, .val (.long (i2 &&& (9223372036854775807 : Int64))), .second, .val (.long (i3 &&& (9223372036854775807 : Int64))), .second, .val (.int (i4 &&& (3 : Int32))), .val (.int v5_s0), .unset, .unset, .unset, .unset] [(.ref b7), (.ref b7)])) := fun t k => P7 t (by
    show Steps p.tables e below (T7.setTop (mkF m 53 #[.val (.long i0), .second, .val (.long i1), .second, .val (.long i2), .second, .val (.long i3), .second, .val (.int i4), .val (.long (i0 &&& (9223372036854775807 : Int64))), .second, .val (.long (i1 &&& (9223372036854775807 : Int64))), .second, .val (.long (i2 &&& (9223372036854775807 : Int64))), .second, .val (.long (i3 &&& (9223372036854775807 : Int64))), .second, .val (.int (i4 &&& (3 : Int32))), .val (.int v5_s0), .unset, .unset, .unset, .unset] [(.ref b7)])) t
    refine XS.dup X7.here hx rfl (hb hby at_53) rfl rfl ?_
    show Steps p.tables e below (T7.setTop (mkF m 54 #[.val (.long i0), .second, .val (.long i1), .second, .val (.long i2), .second, .val (.long i3), .second, .val (.int i4), .val (.long (i0 &&& (9223372036854775807 : Int64))), .second, .val (.long (i1 &&& (9223372036854775807 : Int64))), .second, .val (.long (i2 &&& (9223372036854775807 : Int64))), .second, .val (.long (i3 &&& (9223372036854775807 : Int64))), .second, .val (.int (i4 &&& (3 : Int32))), .val (.int v5_s0), .unset, .unset, .unset, .unset] [(.ref b7), (.ref b7)])) t
    exact k)
  obtain ⟨_, _, ⟨T10, L10, k10, n10⟩, -, X10, ⟨Lc10, hQ10, l10, y10, z10⟩, st10⟩ := X7.specialBack hx (y := (⟨"dev/quotefuse/engine/WideCount", "<init>", "()V"⟩ : MethodName)) rfl hown (mvT hZ (hw _ (List.mem_of_getElem? (i := 4) rfl))) (mvT hZ (hw _ (List.mem_of_getElem? (i := 5) rfl))) (mvT hZ (hw _ (List.mem_of_getElem? (i := 6) rfl))) (by decide) (backOf (W := 1) (rm1 l Z a0 hw [] b7 (0 : Int64) (0 : Int64) z0_ZERO .null h7 n0 (Nat.le_trans Z0 K7.1) F7_low F7_high F8 A7 F7_beyond g_b7) hZ (hw _ (List.mem_of_getElem? (i := 6) rfl)) (hw _ (List.mem_of_getElem? (i := 3) rfl)) (by decide) (by decide)) (g := (mkF m 54 #[.val (.long i0), .second, .val (.long i1), .second, .val (.long i2), .second, .val (.long i3), .second, .val (.int i4), .val (.long (i0 &&& (9223372036854775807 : Int64))), .second, .val (.long (i1 &&& (9223372036854775807 : Int64))), .second, .val (.long (i2 &&& (9223372036854775807 : Int64))), .second, .val (.long (i3 &&& (9223372036854775807 : Int64))), .second, .val (.int (i4 &&& (3 : Int32))), .val (.int v5_s0), .unset, .unset, .unset, .unset] [(.ref b7), (.ref b7)])) rfl (by rw [hml]; rfl) (Steps.refl _) (a := b7) (argsL := []) (rest := [(.ref b7)]) (lenOf pd_5 rfl) rfl (by show 2 * 0 + _ ≤ _; exact Nat.le_of_eq rfl) (hb hby at_54) (fun _ _ => ⟨rfl, e7, (by decide : 1 + 0 ≤ _), (by decide : 3 + 0 ≤ _)⟩)
  dsimp only [Pt.U, Pt.locs, Pt.cells, Pt.slots] at X10 l10 y10 z10 st10 hQ10
  subst l10 y10 z10
  obtain ⟨rfl, N10q, Kc10, F10_0, F10_1, F10_2⟩ := hQ10
  have N10 := Fr.app N0 N10q
  have K10 : Keep h0 T10.heap [] := Keep.trans K7 Kc10 (allS (Or.inr o_b7) all0)
  have P10 : own_Go p e below S0 (T10.setTop (mkF m 57 #[.val (.long i0), .second, .val (.long i1), .second, .val (.long i2), .second, .val (.long i3), .second, .val (.int i4), .val (.long (i0 &&& (9223372036854775807 : Int64))), .second, .val (.long (i1 &&& (9223372036854775807 : Int64))), .second, .val (.long (i2 &&& (9223372036854775807 : Int64))), .second, .val (.long (i3 &&& (9223372036854775807 : Int64))), .second, .val (.int (i4 &&& (3 : Int32))), .val (.int v5_s0), .unset, .unset, .unset, .unset] [(.ref b7)])) := fun t k => P9 t (st10.trans k)
  have hmh := own_mhb (own_pos i0) (own_pos i1)
  have F11 : Sta Z T10.heap "java/math/BigInteger" "ZERO" "Ljava/math/BigInteger;" (.ref z0_ZERO) := own_staK F8 Kc10 (allS (own_plE A7) all0)
  have F12 : Exa Z h7 z0_ZERO "java/math/BigInteger" := E_z0_ZERO.ext E7
  have F13 : Exa Z T10.heap z0_ZERO "java/math/BigInteger" := F12.keep Kc10
  have F14 : Fld Z h7 z0_ZERO "java/math/BigInteger" "signum" "I" (.int (0 : Int32)) := F_z0_ZERO_signum.ext E7
  have F15 : Fld Z T10.heap z0_ZERO "java/math/BigInteger" "signum" "I" (.int (0 : Int32)) := F14.keep Kc10 (ninS ne_z0_ZERO_b7 nin0)
  have F16 : Sta Z h7 "java/math/BigInteger" "ONE" "Ljava/math/BigInteger;" (.ref z0_ONE) := S_ONE.ext E7
  have F17 : Sta Z T10.heap "java/math/BigInteger" "ONE" "Ljava/math/BigInteger;" (.ref z0_ONE) := own_staK F16 Kc10 (allS (own_plE A7) all0)
  have F18 : Exa Z h7 z0_ONE "java/math/BigInteger" := E_z0_ONE.ext E7
  have F19 : Exa Z T10.heap z0_ONE "java/math/BigInteger" := F18.keep Kc10
  have F20 : Fld Z h7 z0_ONE "java/math/BigInteger" "signum" "I" (.int (1 : Int32)) := F_z0_ONE_signum.ext E7
  have F21 : Fld Z T10.heap z0_ONE "java/math/BigInteger" "signum" "I" (.int (1 : Int32)) := F20.keep Kc10 (ninS ne_z0_ONE_b7 nin0)
  have F22 : Exa Z T10.heap b7 "dev/quotefuse/engine/WideCount" := A7.keep Kc10
  have P23 : own_Go p e below S0 (T10.setTop (mkF m 62 #[.val (.long i0), .second, .val (.long i1), .second, .val (.long i2), .second, .val (.long i3), .second, .val (.int i4), .val (.long (i0 &&& (9223372036854775807 : Int64))), .second, .val (.long (i1 &&& (9223372036854775807 : Int64))), .second, .val (.long (i2 &&& (9223372036854775807 : Int64))), .second, .val (.long (i3 &&& (9223372036854775807 : Int64))), .second, .val (.int (i4 &&& (3 : Int32))), .val (.int v5_s0), .val (.ref b7), .unset, .unset, .unset] [(.int (1 : Int32)), (.int (i4 &&& (3 : Int32)))])) := fun t k => P10 t (by
    show Steps p.tables e below (T10.setTop (mkF m 57 #[.val (.long i0), .second, .val (.long i1), .second, .val (.long i2), .second, .val (.long i3), .second, .val (.int i4), .val (.long (i0 &&& (9223372036854775807 : Int64))), .second, .val (.long (i1 &&& (9223372036854775807 : Int64))), .second, .val (.long (i2 &&& (9223372036854775807 : Int64))), .second, .val (.long (i3 &&& (9223372036854775807 : Int64))), .second, .val (.int (i4 &&& (3 : Int32))), .val (.int v5_s0), .unset, .unset, .unset, .unset] [(.ref b7)])) t
    refine XS.astore X10.here hx rfl (hb hby at_57) rfl rfl (l' := #[.val (.long i0), .second, .val (.long i1), .second, .val (.long i2), .second, .val (.long i3), .second, .val (.int i4), .val (.long (i0 &&& (9223372036854775807 : Int64))), .second, .val (.long (i1 &&& (9223372036854775807 : Int64))), .second, .val (.long (i2 &&& (9223372036854775807 : Int64))), .second, .val (.long (i3 &&& (9223372036854775807 : Int64))), .second, .val (.int (i4 &&& (3 : Int32))), .val (.int v5_s0), .val (.ref b7), .unset, .unset, .unset]) rfl ?_
    refine XS.iload X10.here hx rfl (hb hby at_59) rfl ?_
    refine XS.iconst X10.here hx rfl (hb hby at_61) ?_
    show Steps p.tables e below (T10.setTop (mkF m 62 #[.val (.long i0), .second, .val (.long i1), .second, .val (.long i2), .second, .val (.long i3), .second, .val (.int i4), .val (.long (i0 &&& (9223372036854775807 : Int64))), .second, .val (.long (i1 &&& (9223372036854775807 : Int64))), .second, .val (.long (i2 &&& (9223372036854775807 : Int64))), .second, .val (.long (i3 &&& (9223372036854775807 : Int64))), .second, .val (.int (i4 &&& (3 : Int32))), .val (.int v5_s0), .val (.ref b7), .unset, .unset, .unset] [(.int (1 : Int32)), (.int (i4 &&& (3 : Int32)))])) t
    exact k)
  obtain ⟨T261, lo261, h261, v261_f_low, v261_f_high, v261_f_beyond, X261, e261, N261, K261, F262, F263, F264, F265, F266, F267, F268, F269, F270, F271, P261⟩ : ∃ (T261 : State) (lo261 : List Loc) (h261 : Heap) (v261_f_low : Int64) (v261_f_high : Int64) (v261_f_beyond : Addr), (Stand p l e room_1 s m #[(.long i0), (.long i1), (.long i2), (.long i3), (.int i4)] below meth c T261 lo261 1 3) ∧ (T261.heap = h261) ∧ (Fr n0 lo261) ∧ (Keep h0 h261 []) ∧ (Sta Z h261 "java/math/BigInteger" "ZERO" "Ljava/math/BigInteger;" (.ref z0_ZERO)) ∧ (Exa Z h261 z0_ZERO "java/math/BigInteger") ∧ (Fld Z h261 z0_ZERO "java/math/BigInteger" "signum" "I" (.int (0 : Int32))) ∧ (Sta Z h261 "java/math/BigInteger" "ONE" "Ljava/math/BigInteger;" (.ref z0_ONE)) ∧ (Exa Z h261 z0_ONE "java/math/BigInteger") ∧ (Fld Z h261 z0_ONE "java/math/BigInteger" "signum" "I" (.int (1 : Int32))) ∧ (Exa Z h261 b7 "dev/quotefuse/engine/WideCount") ∧ (Fld Z h261 b7 "dev/quotefuse/engine/WideCount" "low" "J" (.long v261_f_low)) ∧ (Fld Z h261 b7 "dev/quotefuse/engine/WideCount" "high" "J" (.long v261_f_high)) ∧ (Fld Z h261 b7 "dev/quotefuse/engine/WideCount" "beyond" "Ljava/math/BigInteger;" (.ref v261_f_beyond)) ∧ (own_Go p e below S0 (T261.setTop (mkF m 116 #[.val (.long i0), .second, .val (.long i1), .second, .val (.long i2), .second, .val (.long i3), .second, .val (.int i4), .val (.long (i0 &&& (9223372036854775807 : Int64))), .second, .val (.long (i1 &&& (9223372036854775807 : Int64))), .second, .val (.long (i2 &&& (9223372036854775807 : Int64))), .second, .val (.long (i3 &&& (9223372036854775807 : Int64))), .second, .val (.int (i4 &&& (3 : Int32))), .val (.int v5_s0), .val (.ref b7), .unset, .unset, .unset] []))) := by
    by_cases c24 : (i4 &&& (3 : Int32)) < (1 : Int32)
    · skip
      have c25 : (i4 &&& (3 : Int32)) < (2 : Int32) := own_l12 c24
      have c26 : (i4 &&& (3 : Int32)) < (3 : Int32) := own_l23 c25
      have P27 : own_Go p e below S0 (T10.setTop (mkF m 106 #[.val (.long i0), .second, .val (.long i1), .second, .val (.long i2), .second, .val (.long i3), .second, .val (.int i4), .val (.long (i0 &&& (9223372036854775807 : Int64))), .second, .val (.long (i1 &&& (9223372036854775807 : Int64))), .second, .val (.long (i2 &&& (9223372036854775807 : Int64))), .second, .val (.long (i3 &&& (9223372036854775807 : Int64))), .second, .val (.int (i4 &&& (3 : Int32))), .val (.int v5_s0), .val (.ref b7), .unset, .unset, .unset] [(.int v5_s0)])) := fun t k => P23 t (by
        show Steps p.tables e below (T10.setTop (mkF m 62 #[.val (.long i0), .second, .val (.long i1), .second, .val (.long i2), .second, .val (.long i3), .second, .val (.int i4), .val (.long (i0 &&& (9223372036854775807 : Int64))), .second, .val (.long (i1 &&& (9223372036854775807 : Int64))), .second, .val (.long (i2 &&& (9223372036854775807 : Int64))), .second, .val (.long (i3 &&& (9223372036854775807 : Int64))), .second, .val (.int (i4 &&& (3 : Int32))), .val (.int v5_s0), .val (.ref b7), .unset, .unset, .unset] [(.int (1 : Int32)), (.int (i4 &&& (3 : Int32)))])) t
        refine XS.icmpYes X10.here hx rfl (pc0 := 62) (pc' := 74) rfl (hb hby at_62) rfl (tlt c24).1 (by decide) (by decide) ?_
        refine XS.iload X10.here hx rfl (hb hby at_74) rfl ?_
        refine XS.iconst X10.here hx rfl (hb hby at_76) ?_
        refine XS.icmpYes X10.here hx rfl (pc0 := 77) (pc' := 89) rfl (hb hby at_77) rfl (tlt c25).1 (by decide) (by decide) ?_
        refine XS.iload X10.here hx rfl (hb hby at_89) rfl ?_
        refine XS.iconst X10.here hx rfl (hb hby at_91) ?_
        show Steps p.tables e below (T10.setTop (mkF m 92 #[.val (.long i0), .second, .val (.long i1), .second, .val (.long i2), .second, .val (.long i3), .second, .val (.int i4), .val (.long (i0 &&& (9223372036854775807 : Int64))), .second, .val (.long (i1 &&& (9223372036854775807 : Int64))), .second, .val (.long (i2 &&& (9223372036854775807 : Int64))), .second, .val (.long (i3 &&& (9223372036854775807 : Int64))), .second, .val (.int (i4 &&& (3 : Int32))), .val (.int v5_s0), .val (.ref b7), .unset, .unset, .unset] [(.int (3 : Int32)), (.int (i4 &&& (3 : Int32)))])) t
        refine XS.icmpYes X10.here hx rfl (pc0 := 92) (pc' := 104) rfl (hb hby at_92) rfl (tlt c26).1 (by decide) (by decide) ?_
        refine XS.iload X10.here hx rfl (hb hby at_104) rfl ?_
        show Steps p.tables e below (T10.setTop (mkF m 106 #[.val (.long i0), .second, .val (.long i1), .second, .val (.long i2), .second, .val (.long i3), .second, .val (.int i4), .val (.long (i0 &&& (9223372036854775807 : Int64))), .second, .val (.long (i1 &&& (9223372036854775807 : Int64))), .second, .val (.long (i2 &&& (9223372036854775807 : Int64))), .second, .val (.long (i3 &&& (9223372036854775807 : Int64))), .second, .val (.int (i4 &&& (3 : Int32))), .val (.int v5_s0), .val (.ref b7), .unset, .unset, .unset] [(.int v5_s0)])) t
        exact k)
      by_cases c28 : v5_s0 = (0 : Int32)
      · skip
        have P29 : own_Go p e below S0 (T10.setTop (mkF m 116 #[.val (.long i0), .second, .val (.long i1), .second, .val (.long i2), .second, .val (.long i3), .second, .val (.int i4), .val (.long (i0 &&& (9223372036854775807 : Int64))), .second, .val (.long (i1 &&& (9223372036854775807 : Int64))), .second, .val (.long (i2 &&& (9223372036854775807 : Int64))), .second, .val (.long (i3 &&& (9223372036854775807 : Int64))), .second, .val (.int (i4 &&& (3 : Int32))), .val (.int v5_s0), .val (.ref b7), .unset, .unset, .unset] [])) := fun t k => P27 t (by
          show Steps p.tables e below (T10.setTop (mkF m 106 #[.val (.long i0), .second, .val (.long i1), .second, .val (.long i2), .second, .val (.long i3), .second, .val (.int i4), .val (.long (i0 &&& (9223372036854775807 : Int64))), .second, .val (.long (i1 &&& (9223372036854775807 : Int64))), .second, .val (.long (i2 &&& (9223372036854775807 : Int64))), .second, .val (.long (i3 &&& (9223372036854775807 : Int64))), .second, .val (.int (i4 &&& (3 : Int32))), .val (.int v5_s0), .val (.ref b7), .unset, .unset, .unset] [(.int v5_s0)])) t
          refine XS.ifYes X10.here hx rfl (pc0 := 106) (pc' := 116) rfl (hb hby at_106) rfl ((if0 _ _).trans (teq c28).1) (by decide) (by decide) ?_
          show Steps p.tables e below (T10.setTop (mkF m 116 #[.val (.long i0), .second, .val (.long i1), .second, .val (.long i2), .second, .val (.long i3), .second, .val (.int i4), .val (.long (i0 &&& (9223372036854775807 : Int64))), .second, .val (.long (i1 &&& (9223372036854775807 : Int64))), .second, .val (.long (i2 &&& (9223372036854775807 : Int64))), .second, .val (.long (i3 &&& (9223372036854775807 : Int64))), .second, .val (.int (i4 &&& (3 : Int32))), .val (.int v5_s0), .val (.ref b7), .unset, .unset, .unset] [])) t
          exact k)
        exact ⟨T10, _, T10.heap, (0 : Int64), (0 : Int64), z0_ZERO, X10, rfl, N10, K10, F11, F13, F15, F17, F19, F21, F22, F10_0, F10_1, F10_2, P29⟩
      · skip
        have P30 : own_Go p e below S0 (T10.setTop (mkF m 113 #[.val (.long i0), .second, .val (.long i1), .second, .val (.long i2), .second, .val (.long i3), .second, .val (.int i4), .val (.long (i0 &&& (9223372036854775807 : Int64))), .second, .val (.long (i1 &&& (9223372036854775807 : Int64))), .second, .val (.long (i2 &&& (9223372036854775807 : Int64))), .second, .val (.long (i3 &&& (9223372036854775807 : Int64))), .second, .val (.int (i4 &&& (3 : Int32))), .val (.int v5_s0), .val (.ref b7), .unset, .unset, .unset] [(.long (i2 &&& (9223372036854775807 : Int64))), (.ref b7)])) := fun t k => P27 t (by
          show Steps p.tables e below (T10.setTop (mkF m 106 #[.val (.long i0), .second, .val (.long i1), .second, .val (.long i2), .second, .val (.long i3), .second, .val (.int i4), .val (.long (i0 &&& (9223372036854775807 : Int64))), .second, .val (.long (i1 &&& (9223372036854775807 : Int64))), .second, .val (.long (i2 &&& (9223372036854775807 : Int64))), .second, .val (.long (i3 &&& (9223372036854775807 : Int64))), .second, .val (.int (i4 &&& (3 : Int32))), .val (.int v5_s0), .val (.ref b7), .unset, .unset, .unset] [(.int v5_s0)])) t
          refine XS.ifNo X10.here hx rfl (hb hby at_106) rfl ((if0 _ _).trans (feq c28).1) ?_
          refine XS.aload X10.here hx rfl (hb hby at_109) rfl rfl ?_
          refine XS.lload X10.here hx rfl (hb hby at_111) rfl ?_
          show Steps p.tables e below (T10.setTop (mkF m 113 #[.val (.long i0), .second, .val (.long i1), .second, .val (.long i2), .second, .val (.long i3), .second, .val (.int i4), .val (.long (i0 &&& (9223372036854775807 : Int64))), .second, .val (.long (i1 &&& (9223372036854775807 : Int64))), .second, .val (.long (i2 &&& (9223372036854775807 : Int64))), .second, .val (.long (i3 &&& (9223372036854775807 : Int64))), .second, .val (.int (i4 &&& (3 : Int32))), .val (.int v5_s0), .val (.ref b7), .unset, .unset, .unset] [(.long (i2 &&& (9223372036854775807 : Int64))), (.ref b7)])) t
          exact k)
        obtain ⟨cq31, kq31, q31a, q31b, q31c⟩ := isOf hZ rfl F22
        obtain ⟨_, _, ⟨T31, L31, k31, n31⟩, -, X31, ⟨Lc31, hQ31, l31, y31, z31⟩, st31⟩ := X10.virtualBack hx (y := (⟨"dev/quotefuse/engine/WideCount", "add", "(J)V"⟩ : MethodName)) (z := (⟨"dev/quotefuse/engine/WideCount", "add", "(J)V"⟩ : MethodName)) hown (mvT hZ (hw _ (List.mem_of_getElem? (i := 62) rfl))) (mvT hZ (hw _ (List.mem_of_getElem? (i := 63) rfl))) (notFace_of_selects (args := #[]) (mvT hZ (hw _ (List.mem_of_getElem? (i := 65) rfl)))) (mvT hZ (hw _ (List.mem_of_getElem? (i := 65) rfl))) (mvT hZ (hw _ (List.mem_of_getElem? (i := 64) rfl))) (by decide) (backOf (W := 0) (rm12a l Z a0 hw [] b7 (i2 &&& (9223372036854775807 : Int64)) z0_ZERO T10.heap n0 (Nat.le_trans Z0 K10.1) F10_0 F10_1 (by decide) F10_2 F22 g_b7) hZ (hw _ (List.mem_of_getElem? (i := 66) rfl)) (hw _ (List.mem_of_getElem? (i := 3) rfl)) (by decide) (by decide)) q31a q31c (g := (mkF m 113 #[.val (.long i0), .second, .val (.long i1), .second, .val (.long i2), .second, .val (.long i3), .second, .val (.int i4), .val (.long (i0 &&& (9223372036854775807 : Int64))), .second, .val (.long (i1 &&& (9223372036854775807 : Int64))), .second, .val (.long (i2 &&& (9223372036854775807 : Int64))), .second, .val (.long (i3 &&& (9223372036854775807 : Int64))), .second, .val (.int (i4 &&& (3 : Int32))), .val (.int v5_s0), .val (.ref b7), .unset, .unset, .unset] [(.long (i2 &&& (9223372036854775807 : Int64))), (.ref b7)])) rfl (by rw [hml]; rfl) (Steps.refl _) (argsL := [(.long (i2 &&& (9223372036854775807 : Int64)))]) (rest := []) (lenOf pd_6 rfl) rfl (by show 2 * 0 + _ ≤ _; exact Nat.le_of_eq rfl) (hb hby at_113) (fun _ _ => ⟨rfl, rfl, (by decide : 1 + 0 ≤ _), (by decide : 3 + 0 ≤ _)⟩)
        dsimp only [Pt.U, Pt.locs, Pt.cells, Pt.slots] at X31 l31 y31 z31 st31 hQ31
        subst l31 y31 z31
        obtain ⟨rfl, N31q, Kc31, F31_0, F31_1, F31_2⟩ := hQ31
        have N31 := Fr.app N10 N31q
        have K31 : Keep h0 T31.heap [] := Keep.trans K10 Kc31 (allS (Or.inr o_b7) all0)
        have P31 : own_Go p e below S0 (T31.setTop (mkF m 116 #[.val (.long i0), .second, .val (.long i1), .second, .val (.long i2), .second, .val (.long i3), .second, .val (.int i4), .val (.long (i0 &&& (9223372036854775807 : Int64))), .second, .val (.long (i1 &&& (9223372036854775807 : Int64))), .second, .val (.long (i2 &&& (9223372036854775807 : Int64))), .second, .val (.long (i3 &&& (9223372036854775807 : Int64))), .second, .val (.int (i4 &&& (3 : Int32))), .val (.int v5_s0), .val (.ref b7), .unset, .unset, .unset] [])) := fun t k => P30 t (st31.trans k)
        have F32 : Sta Z T31.heap "java/math/BigInteger" "ZERO" "Ljava/math/BigInteger;" (.ref z0_ZERO) := own_staK F11 Kc31 (allS (own_plE F22) all0)
        have F33 : Exa Z T31.heap z0_ZERO "java/math/BigInteger" := F13.keep Kc31
        have F34 : Fld Z T31.heap z0_ZERO "java/math/BigInteger" "signum" "I" (.int (0 : Int32)) := F15.keep Kc31 (ninS ne_z0_ZERO_b7 nin0)
        have F35 : Sta Z T31.heap "java/math/BigInteger" "ONE" "Ljava/math/BigInteger;" (.ref z0_ONE) := own_staK F17 Kc31 (allS (own_plE F22) all0)
        have F36 : Exa Z T31.heap z0_ONE "java/math/BigInteger" := F19.keep Kc31
        have F37 : Fld Z T31.heap z0_ONE "java/math/BigInteger" "signum" "I" (.int (1 : Int32)) := F21.keep Kc31 (ninS ne_z0_ONE_b7 nin0)
        have F38 : Exa Z T31.heap b7 "dev/quotefuse/engine/WideCount" := F22.keep Kc31
        exact ⟨T31, _, T31.heap, ((0 : Int64) + (i2 &&& (9223372036854775807 : Int64))), ((0 : Int64) + ((0 : Int64) + (0 : Int64))), z0_ZERO, X31, rfl, N31, K31, F32, F33, F34, F35, F36, F37, F38, F31_0, F31_1, F31_2, P31⟩
    · skip
      have P39 : own_Go p e below S0 (T10.setTop (mkF m 71 #[.val (.long i0), .second, .val (.long i1), .second, .val (.long i2), .second, .val (.long i3), .second, .val (.int i4), .val (.long (i0 &&& (9223372036854775807 : Int64))), .second, .val (.long (i1 &&& (9223372036854775807 : Int64))), .second, .val (.long (i2 &&& (9223372036854775807 : Int64))), .second, .val (.long (i3 &&& (9223372036854775807 : Int64))), .second, .val (.int (i4 &&& (3 : Int32))), .val (.int v5_s0), .val (.ref b7), .unset, .unset, .unset] [(.long (i1 &&& (9223372036854775807 : Int64))), (.long (i0 &&& (9223372036854775807 : Int64))), (.ref b7)])) := fun t k => P23 t (by
        show Steps p.tables e below (T10.setTop (mkF m 62 #[.val (.long i0), .second, .val (.long i1), .second, .val (.long i2), .second, .val (.long i3), .second, .val (.int i4), .val (.long (i0 &&& (9223372036854775807 : Int64))), .second, .val (.long (i1 &&& (9223372036854775807 : Int64))), .second, .val (.long (i2 &&& (9223372036854775807 : Int64))), .second, .val (.long (i3 &&& (9223372036854775807 : Int64))), .second, .val (.int (i4 &&& (3 : Int32))), .val (.int v5_s0), .val (.ref b7), .unset, .unset, .unset] [(.int (1 : Int32)), (.int (i4 &&& (3 : Int32)))])) t
        refine XS.icmpNo X10.here hx rfl (hb hby at_62) rfl (flt c24).1 ?_
        refine XS.aload X10.here hx rfl (hb hby at_65) rfl rfl ?_
        refine XS.lload X10.here hx rfl (hb hby at_67) rfl ?_
        refine XS.lload X10.here hx rfl (hb hby at_69) rfl ?_
        show Steps p.tables e below (T10.setTop (mkF m 71 #[.val (.long i0), .second, .val (.long i1), .second, .val (.long i2), .second, .val (.long i3), .second, .val (.int i4), .val (.long (i0 &&& (9223372036854775807 : Int64))), .second, .val (.long (i1 &&& (9223372036854775807 : Int64))), .second, .val (.long (i2 &&& (9223372036854775807 : Int64))), .second, .val (.long (i3 &&& (9223372036854775807 : Int64))), .second, .val (.int (i4 &&& (3 : Int32))), .val (.int v5_s0), .val (.ref b7), .unset, .unset, .unset] [(.long (i1 &&& (9223372036854775807 : Int64))), (.long (i0 &&& (9223372036854775807 : Int64))), (.ref b7)])) t
        exact k)
      obtain ⟨cq40, kq40, q40a, q40b, q40c⟩ := isOf hZ rfl F22
      obtain ⟨_, _, ⟨T40, L40, k40, n40⟩, -, X40, ⟨Lc40, hQ40, l40, y40, z40⟩, st40⟩ := X10.virtualBack hx (y := (⟨"dev/quotefuse/engine/WideCount", "addProduct", "(JJ)V"⟩ : MethodName)) (z := (⟨"dev/quotefuse/engine/WideCount", "addProduct", "(JJ)V"⟩ : MethodName)) hown (mvT hZ (hw _ (List.mem_of_getElem? (i := 14) rfl))) (mvT hZ (hw _ (List.mem_of_getElem? (i := 15) rfl))) (notFace_of_selects (args := #[]) (mvT hZ (hw _ (List.mem_of_getElem? (i := 17) rfl)))) (mvT hZ (hw _ (List.mem_of_getElem? (i := 17) rfl))) (mvT hZ (hw _ (List.mem_of_getElem? (i := 16) rfl))) (by decide) (backOf (W := 0) (rm3a l Z a0 hw [] b7 (i0 &&& (9223372036854775807 : Int64)) (i1 &&& (9223372036854775807 : Int64)) z0_ZERO T10.heap n0 (Nat.le_trans Z0 K10.1) F10_0 F10_1 (own_nov0 hmh) F10_2 F22 g_b7) hZ (hw _ (List.mem_of_getElem? (i := 18) rfl)) (hw _ (List.mem_of_getElem? (i := 3) rfl)) (by decide) (by decide)) q40a q40c (g := (mkF m 71 #[.val (.long i0), .second, .val (.long i1), .second, .val (.long i2), .second, .val (.long i3), .second, .val (.int i4), .val (.long (i0 &&& (9223372036854775807 : Int64))), .second, .val (.long (i1 &&& (9223372036854775807 : Int64))), .second, .val (.long (i2 &&& (9223372036854775807 : Int64))), .second, .val (.long (i3 &&& (9223372036854775807 : Int64))), .second, .val (.int (i4 &&& (3 : Int32))), .val (.int v5_s0), .val (.ref b7), .unset, .unset, .unset] [(.long (i1 &&& (9223372036854775807 : Int64))), (.long (i0 &&& (9223372036854775807 : Int64))), (.ref b7)])) rfl (by rw [hml]; rfl) (Steps.refl _) (argsL := [(.long (i0 &&& (9223372036854775807 : Int64))), (.long (i1 &&& (9223372036854775807 : Int64)))]) (rest := []) (lenOf pd_3 rfl) rfl (by show 2 * 0 + _ ≤ _; exact Nat.le_of_eq rfl) (hb hby at_71) (fun _ _ => ⟨rfl, rfl, (by decide : 1 + 0 ≤ _), (by decide : 3 + 0 ≤ _)⟩)
      dsimp only [Pt.U, Pt.locs, Pt.cells, Pt.slots] at X40 l40 y40 z40 st40 hQ40
      subst l40 y40 z40
      obtain ⟨rfl, N40q, Kc40, F40_0, F40_1, F40_2⟩ := hQ40
      have N40 := Fr.app N10 N40q
      have K40 : Keep h0 T40.heap [] := Keep.trans K10 Kc40 (allS (Or.inr o_b7) all0)
      have P40 : own_Go p e below S0 (T40.setTop (mkF m 74 #[.val (.long i0), .second, .val (.long i1), .second, .val (.long i2), .second, .val (.long i3), .second, .val (.int i4), .val (.long (i0 &&& (9223372036854775807 : Int64))), .second, .val (.long (i1 &&& (9223372036854775807 : Int64))), .second, .val (.long (i2 &&& (9223372036854775807 : Int64))), .second, .val (.long (i3 &&& (9223372036854775807 : Int64))), .second, .val (.int (i4 &&& (3 : Int32))), .val (.int v5_s0), .val (.ref b7), .unset, .unset, .unset] [])) := fun t k => P39 t (st40.trans k)
      have hb1 : 0 ≤ (((0 : Int64) + ((own_mh (i0 &&& (9223372036854775807 : Int64)) (i1 &&& (9223372036854775807 : Int64))) + (0 : Int64)))).toInt ∧ (((0 : Int64) + ((own_mh (i0 &&& (9223372036854775807 : Int64)) (i1 &&& (9223372036854775807 : Int64))) + (0 : Int64)))).toInt ≤ 4611686018427387903 := own_b1 hmh
      have P41 : own_Go p e below S0 (T40.setTop (mkF m 77 #[.val (.long i0), .second, .val (.long i1), .second, .val (.long i2), .second, .val (.long i3), .second, .val (.int i4), .val (.long (i0 &&& (9223372036854775807 : Int64))), .second, .val (.long (i1 &&& (9223372036854775807 : Int64))), .second, .val (.long (i2 &&& (9223372036854775807 : Int64))), .second, .val (.long (i3 &&& (9223372036854775807 : Int64))), .second, .val (.int (i4 &&& (3 : Int32))), .val (.int v5_s0), .val (.ref b7), .unset, .unset, .unset] [(.int (2 : Int32)), (.int (i4 &&& (3 : Int32)))])) := fun t k => P40 t (by
        show Steps p.tables e below (T40.setTop (mkF m 74 #[.val (.long i0), .second, .val (.long i1), .second, .val (.long i2), .second, .val (.long i3), .second, .val (.int i4), .val (.long (i0 &&& (9223372036854775807 : Int64))), .second, .val (.long (i1 &&& (9223372036854775807 : Int64))), .second, .val (.long (i2 &&& (9223372036854775807 : Int64))), .second, .val (.long (i3 &&& (9223372036854775807 : Int64))), .second, .val (.int (i4 &&& (3 : Int32))), .val (.int v5_s0), .val (.ref b7), .unset, .unset, .unset] [])) t
        refine XS.iload X40.here hx rfl (hb hby at_74) rfl ?_
        refine XS.iconst X40.here hx rfl (hb hby at_76) ?_
        show Steps p.tables e below (T40.setTop (mkF m 77 #[.val (.long i0), .second, .val (.long i1), .second, .val (.long i2), .second, .val (.long i3), .second, .val (.int i4), .val (.long (i0 &&& (9223372036854775807 : Int64))), .second, .val (.long (i1 &&& (9223372036854775807 : Int64))), .second, .val (.long (i2 &&& (9223372036854775807 : Int64))), .second, .val (.long (i3 &&& (9223372036854775807 : Int64))), .second, .val (.int (i4 &&& (3 : Int32))), .val (.int v5_s0), .val (.ref b7), .unset, .unset, .unset] [(.int (2 : Int32)), (.int (i4 &&& (3 : Int32)))])) t
        exact k)
      by_cases c42 : (i4 &&& (3 : Int32)) < (2 : Int32)
      · skip
        have c43 : (i4 &&& (3 : Int32)) < (3 : Int32) := own_l23 c42
        have P44 : own_Go p e below S0 (T40.setTop (mkF m 106 #[.val (.long i0), .second, .val (.long i1), .second, .val (.long i2), .second, .val (.long i3), .second, .val (.int i4), .val (.long (i0 &&& (9223372036854775807 : Int64))), .second, .val (.long (i1 &&& (9223372036854775807 : Int64))), .second, .val (.long (i2 &&& (9223372036854775807 : Int64))), .second, .val (.long (i3 &&& (9223372036854775807 : Int64))), .second, .val (.int (i4 &&& (3 : Int32))), .val (.int v5_s0), .val (.ref b7), .unset, .unset, .unset] [(.int v5_s0)])) := fun t k => P41 t (by
          show Steps p.tables e below (T40.setTop (mkF m 77 #[.val (.long i0), .second, .val (.long i1), .second, .val (.long i2), .second, .val (.long i3), .second, .val (.int i4), .val (.long (i0 &&& (9223372036854775807 : Int64))), .second, .val (.long (i1 &&& (9223372036854775807 : Int64))), .second, .val (.long (i2 &&& (9223372036854775807 : Int64))), .second, .val (.long (i3 &&& (9223372036854775807 : Int64))), .second, .val (.int (i4 &&& (3 : Int32))), .val (.int v5_s0), .val (.ref b7), .unset, .unset, .unset] [(.int (2 : Int32)), (.int (i4 &&& (3 : Int32)))])) t
          refine XS.icmpYes X40.here hx rfl (pc0 := 77) (pc' := 89) rfl (hb hby at_77) rfl (tlt c42).1 (by decide) (by decide) ?_
          refine XS.iload X40.here hx rfl (hb hby at_89) rfl ?_
          refine XS.iconst X40.here hx rfl (hb hby at_91) ?_
          refine XS.icmpYes X40.here hx rfl (pc0 := 92) (pc' := 104) rfl (hb hby at_92) rfl (tlt c43).1 (by decide) (by decide) ?_
          refine XS.iload X40.here hx rfl (hb hby at_104) rfl ?_
          show Steps p.tables e below (T40.setTop (mkF m 106 #[.val (.long i0), .second, .val (.long i1), .second, .val (.long i2), .second, .val (.long i3), .second, .val (.int i4), .val (.long (i0 &&& (9223372036854775807 : Int64))), .second, .val (.long (i1 &&& (9223372036854775807 : Int64))), .second, .val (.long (i2 &&& (9223372036854775807 : Int64))), .second, .val (.long (i3 &&& (9223372036854775807 : Int64))), .second, .val (.int (i4 &&& (3 : Int32))), .val (.int v5_s0), .val (.ref b7), .unset, .unset, .unset] [(.int v5_s0)])) t
          exact k)
        by_cases c45 : v5_s0 = (0 : Int32)
        · skip
          have P46 : own_Go p e below S0 (T40.setTop (mkF m 116 #[.val (.long i0), .second, .val (.long i1), .second, .val (.long i2), .second, .val (.long i3), .second, .val (.int i4), .val (.long (i0 &&& (9223372036854775807 : Int64))), .second, .val (.long (i1 &&& (9223372036854775807 : Int64))), .second, .val (.long (i2 &&& (9223372036854775807 : Int64))), .second, .val (.long (i3 &&& (9223372036854775807 : Int64))), .second, .val (.int (i4 &&& (3 : Int32))), .val (.int v5_s0), .val (.ref b7), .unset, .unset, .unset] [])) := fun t k => P44 t (by
            show Steps p.tables e below (T40.setTop (mkF m 106 #[.val (.long i0), .second, .val (.long i1), .second, .val (.long i2), .second, .val (.long i3), .second, .val (.int i4), .val (.long (i0 &&& (9223372036854775807 : Int64))), .second, .val (.long (i1 &&& (9223372036854775807 : Int64))), .second, .val (.long (i2 &&& (9223372036854775807 : Int64))), .second, .val (.long (i3 &&& (9223372036854775807 : Int64))), .second, .val (.int (i4 &&& (3 : Int32))), .val (.int v5_s0), .val (.ref b7), .unset, .unset, .unset] [(.int v5_s0)])) t
            refine XS.ifYes X40.here hx rfl (pc0 := 106) (pc' := 116) rfl (hb hby at_106) rfl ((if0 _ _).trans (teq c45).1) (by decide) (by decide) ?_
            show Steps p.tables e below (T40.setTop (mkF m 116 #[.val (.long i0), .second, .val (.long i1), .second, .val (.long i2), .second, .val (.long i3), .second, .val (.int i4), .val (.long (i0 &&& (9223372036854775807 : Int64))), .second, .val (.long (i1 &&& (9223372036854775807 : Int64))), .second, .val (.long (i2 &&& (9223372036854775807 : Int64))), .second, .val (.long (i3 &&& (9223372036854775807 : Int64))), .second, .val (.int (i4 &&& (3 : Int32))), .val (.int v5_s0), .val (.ref b7), .unset, .unset, .unset] [])) t
            exact k)
          have F47 : Sta Z T40.heap "java/math/BigInteger" "ZERO" "Ljava/math/BigInteger;" (.ref z0_ZERO) := own_staK F11 Kc40 (allS (own_plE F22) all0)
          have F48 : Exa Z T40.heap z0_ZERO "java/math/BigInteger" := F13.keep Kc40
          have F49 : Fld Z T40.heap z0_ZERO "java/math/BigInteger" "signum" "I" (.int (0 : Int32)) := F15.keep Kc40 (ninS ne_z0_ZERO_b7 nin0)
          have F50 : Sta Z T40.heap "java/math/BigInteger" "ONE" "Ljava/math/BigInteger;" (.ref z0_ONE) := own_staK F17 Kc40 (allS (own_plE F22) all0)
          have F51 : Exa Z T40.heap z0_ONE "java/math/BigInteger" := F19.keep Kc40
          have F52 : Fld Z T40.heap z0_ONE "java/math/BigInteger" "signum" "I" (.int (1 : Int32)) := F21.keep Kc40 (ninS ne_z0_ONE_b7 nin0)
          have F53 : Exa Z T40.heap b7 "dev/quotefuse/engine/WideCount" := F22.keep Kc40
          exact ⟨T40, _, T40.heap, ((0 : Int64) + ((i0 &&& (9223372036854775807 : Int64)) * (i1 &&& (9223372036854775807 : Int64)))), ((0 : Int64) + ((own_mh (i0 &&& (9223372036854775807 : Int64)) (i1 &&& (9223372036854775807 : Int64))) + (0 : Int64))), z0_ZERO, X40, rfl, N40, K40, F47, F48, F49, F50, F51, F52, F53, F40_0, F40_1, F40_2, P46⟩
        · skip
          have F54 : Exa Z T40.heap b7 "dev/quotefuse/engine/WideCount" := F22.keep Kc40
          have P55 : own_Go p e below S0 (T40.setTop (mkF m 113 #[.val (.long i0), .second, .val (.long i1), .second, .val (.long i2), .second, .val (.long i3), .second, .val (.int i4), .val (.long (i0 &&& (9223372036854775807 : Int64))), .second, .val (.long (i1 &&& (9223372036854775807 : Int64))), .second, .val (.long (i2 &&& (9223372036854775807 : Int64))), .second, .val (.long (i3 &&& (9223372036854775807 : Int64))), .second, .val (.int (i4 &&& (3 : Int32))), .val (.int v5_s0), .val (.ref b7), .unset, .unset, .unset] [(.long (i2 &&& (9223372036854775807 : Int64))), (.ref b7)])) := fun t k => P44 t (by
            show Steps p.tables e below (T40.setTop (mkF m 106 #[.val (.long i0), .second, .val (.long i1), .second, .val (.long i2), .second, .val (.long i3), .second, .val (.int i4), .val (.long (i0 &&& (9223372036854775807 : Int64))), .second, .val (.long (i1 &&& (9223372036854775807 : Int64))), .second, .val (.long (i2 &&& (9223372036854775807 : Int64))), .second, .val (.long (i3 &&& (9223372036854775807 : Int64))), .second, .val (.int (i4 &&& (3 : Int32))), .val (.int v5_s0), .val (.ref b7), .unset, .unset, .unset] [(.int v5_s0)])) t
            refine XS.ifNo X40.here hx rfl (hb hby at_106) rfl ((if0 _ _).trans (feq c45).1) ?_
            refine XS.aload X40.here hx rfl (hb hby at_109) rfl rfl ?_
            refine XS.lload X40.here hx rfl (hb hby at_111) rfl ?_
            show Steps p.tables e below (T40.setTop (mkF m 113 #[.val (.long i0), .second, .val (.long i1), .second, .val (.long i2), .second, .val (.long i3), .second, .val (.int i4), .val (.long (i0 &&& (9223372036854775807 : Int64))), .second, .val (.long (i1 &&& (9223372036854775807 : Int64))), .second, .val (.long (i2 &&& (9223372036854775807 : Int64))), .second, .val (.long (i3 &&& (9223372036854775807 : Int64))), .second, .val (.int (i4 &&& (3 : Int32))), .val (.int v5_s0), .val (.ref b7), .unset, .unset, .unset] [(.long (i2 &&& (9223372036854775807 : Int64))), (.ref b7)])) t
            exact k)
          obtain ⟨cq56, kq56, q56a, q56b, q56c⟩ := isOf hZ rfl F54
          obtain ⟨_, _, ⟨T56, L56, k56, n56⟩, -, X56, ⟨Lc56, hQ56, l56, y56, z56⟩, st56⟩ := X40.virtualBack hx (y := (⟨"dev/quotefuse/engine/WideCount", "add", "(J)V"⟩ : MethodName)) (z := (⟨"dev/quotefuse/engine/WideCount", "add", "(J)V"⟩ : MethodName)) hown (mvT hZ (hw _ (List.mem_of_getElem? (i := 62) rfl))) (mvT hZ (hw _ (List.mem_of_getElem? (i := 63) rfl))) (notFace_of_selects (args := #[]) (mvT hZ (hw _ (List.mem_of_getElem? (i := 65) rfl)))) (mvT hZ (hw _ (List.mem_of_getElem? (i := 65) rfl))) (mvT hZ (hw _ (List.mem_of_getElem? (i := 64) rfl))) (by decide) (backOf (W := 0) (rm12n l Z a0 hw [] b7 (i2 &&& (9223372036854775807 : Int64)) ((0 : Int64) + ((i0 &&& (9223372036854775807 : Int64)) * (i1 &&& (9223372036854775807 : Int64)))) ((0 : Int64) + ((own_mh (i0 &&& (9223372036854775807 : Int64)) (i1 &&& (9223372036854775807 : Int64))) + (0 : Int64))) z0_ZERO T40.heap n0 (Nat.le_trans Z0 K40.1) F40_0 F40_1 (own_nov hb1 own_z0) F40_2 F54 g_b7) hZ (hw _ (List.mem_of_getElem? (i := 66) rfl)) (hw _ (List.mem_of_getElem? (i := 3) rfl)) (by decide) (by decide)) q56a q56c (g := (mkF m 113 #[.val (.long i0), .second, .val (.long i1), .second, .val (.long i2), .second, .val (.long i3), .second, .val (.int i4), .val (.long (i0 &&& (9223372036854775807 : Int64))), .second, .val (.long (i1 &&& (9223372036854775807 : Int64))), .second, .val (.long (i2 &&& (9223372036854775807 : Int64))), .second, .val (.long (i3 &&& (9223372036854775807 : Int64))), .second, .val (.int (i4 &&& (3 : Int32))), .val (.int v5_s0), .val (.ref b7), .unset, .unset, .unset] [(.long (i2 &&& (9223372036854775807 : Int64))), (.ref b7)])) rfl (by rw [hml]; rfl) (Steps.refl _) (argsL := [(.long (i2 &&& (9223372036854775807 : Int64)))]) (rest := []) (lenOf pd_6 rfl) rfl (by show 2 * 0 + _ ≤ _; exact Nat.le_of_eq rfl) (hb hby at_113) (fun _ _ => ⟨rfl, rfl, (by decide : 1 + 0 ≤ _), (by decide : 3 + 0 ≤ _)⟩)
          dsimp only [Pt.U, Pt.locs, Pt.cells, Pt.slots] at X56 l56 y56 z56 st56 hQ56
          subst l56 y56 z56
          obtain ⟨rfl, N56q, Kc56, F56_0, F56_1, F56_2⟩ := hQ56
          have N56 := Fr.app N40 N56q
          have K56 : Keep h0 T56.heap [] := Keep.trans K40 Kc56 (allS (Or.inr o_b7) all0)
          have P56 : own_Go p e below S0 (T56.setTop (mkF m 116 #[.val (.long i0), .second, .val (.long i1), .second, .val (.long i2), .second, .val (.long i3), .second, .val (.int i4), .val (.long (i0 &&& (9223372036854775807 : Int64))), .second, .val (.long (i1 &&& (9223372036854775807 : Int64))), .second, .val (.long (i2 &&& (9223372036854775807 : Int64))), .second, .val (.long (i3 &&& (9223372036854775807 : Int64))), .second, .val (.int (i4 &&& (3 : Int32))), .val (.int v5_s0), .val (.ref b7), .unset, .unset, .unset] [])) := fun t k => P55 t (st56.trans k)
          have F57 : Sta Z T40.heap "java/math/BigInteger" "ZERO" "Ljava/math/BigInteger;" (.ref z0_ZERO) := own_staK F11 Kc40 (allS (own_plE F22) all0)
          have F58 : Sta Z T56.heap "java/math/BigInteger" "ZERO" "Ljava/math/BigInteger;" (.ref z0_ZERO) := own_staK F57 Kc56 (allS (own_plE F54) all0)
          have F59 : Exa Z T40.heap z0_ZERO "java/math/BigInteger" := F13.keep Kc40
          have F60 : Exa Z T56.heap z0_ZERO "java/math/BigInteger" := F59.keep Kc56
          have F61 : Fld Z T40.heap z0_ZERO "java/math/BigInteger" "signum" "I" (.int (0 : Int32)) := F15.keep Kc40 (ninS ne_z0_ZERO_b7 nin0)
          have F62 : Fld Z T56.heap z0_ZERO "java/math/BigInteger" "signum" "I" (.int (0 : Int32)) := F61.keep Kc56 (ninS ne_z0_ZERO_b7 nin0)
          have F63 : Sta Z T40.heap "java/math/BigInteger" "ONE" "Ljava/math/BigInteger;" (.ref z0_ONE) := own_staK F17 Kc40 (allS (own_plE F22) all0)
          have F64 : Sta Z T56.heap "java/math/BigInteger" "ONE" "Ljava/math/BigInteger;" (.ref z0_ONE) := own_staK F63 Kc56 (allS (own_plE F54) all0)
          have F65 : Exa Z T40.heap z0_ONE "java/math/BigInteger" := F19.keep Kc40
          have F66 : Exa Z T56.heap z0_ONE "java/math/BigInteger" := F65.keep Kc56
          have F67 : Fld Z T40.heap z0_ONE "java/math/BigInteger" "signum" "I" (.int (1 : Int32)) := F21.keep Kc40 (ninS ne_z0_ONE_b7 nin0)
          have F68 : Fld Z T56.heap z0_ONE "java/math/BigInteger" "signum" "I" (.int (1 : Int32)) := F67.keep Kc56 (ninS ne_z0_ONE_b7 nin0)
          have F69 : Exa Z T56.heap b7 "dev/quotefuse/engine/WideCount" := F54.keep Kc56
          exact ⟨T56, _, T56.heap, (((0 : Int64) + ((i0 &&& (9223372036854775807 : Int64)) * (i1 &&& (9223372036854775807 : Int64)))) + (i2 &&& (9223372036854775807 : Int64))), (f5n_high (0 : Int64) (i2 &&& (9223372036854775807 : Int64)) ((0 : Int64) + ((i0 &&& (9223372036854775807 : Int64)) * (i1 &&& (9223372036854775807 : Int64)))) ((0 : Int64) + ((own_mh (i0 &&& (9223372036854775807 : Int64)) (i1 &&& (9223372036854775807 : Int64))) + (0 : Int64)))), z0_ZERO, X56, rfl, N56, K56, F58, F60, F62, F64, F66, F68, F69, F56_0, F56_1, F56_2, P56⟩
      · skip
        have F70 : Exa Z T40.heap b7 "dev/quotefuse/engine/WideCount" := F22.keep Kc40
        have P71 : own_Go p e below S0 (T40.setTop (mkF m 86 #[.val (.long i0), .second, .val (.long i1), .second, .val (.long i2), .second, .val (.long i3), .second, .val (.int i4), .val (.long (i0 &&& (9223372036854775807 : Int64))), .second, .val (.long (i1 &&& (9223372036854775807 : Int64))), .second, .val (.long (i2 &&& (9223372036854775807 : Int64))), .second, .val (.long (i3 &&& (9223372036854775807 : Int64))), .second, .val (.int (i4 &&& (3 : Int32))), .val (.int v5_s0), .val (.ref b7), .unset, .unset, .unset] [(.long (i1 &&& (9223372036854775807 : Int64))), (.long (i0 &&& (9223372036854775807 : Int64))), (.ref b7)])) := fun t k => P41 t (by
          show Steps p.tables e below (T40.setTop (mkF m 77 #[.val (.long i0), .second, .val (.long i1), .second, .val (.long i2), .second, .val (.long i3), .second, .val (.int i4), .val (.long (i0 &&& (9223372036854775807 : Int64))), .second, .val (.long (i1 &&& (9223372036854775807 : Int64))), .second, .val (.long (i2 &&& (9223372036854775807 : Int64))), .second, .val (.long (i3 &&& (9223372036854775807 : Int64))), .second, .val (.int (i4 &&& (3 : Int32))), .val (.int v5_s0), .val (.ref b7), .unset, .unset, .unset] [(.int (2 : Int32)), (.int (i4 &&& (3 : Int32)))])) t
          refine XS.icmpNo X40.here hx rfl (hb hby at_77) rfl (flt c42).1 ?_
          refine XS.aload X40.here hx rfl (hb hby at_80) rfl rfl ?_
          refine XS.lload X40.here hx rfl (hb hby at_82) rfl ?_
          refine XS.lload X40.here hx rfl (hb hby at_84) rfl ?_
          show Steps p.tables e below (T40.setTop (mkF m 86 #[.val (.long i0), .second, .val (.long i1), .second, .val (.long i2), .second, .val (.long i3), .second, .val (.int i4), .val (.long (i0 &&& (9223372036854775807 : Int64))), .second, .val (.long (i1 &&& (9223372036854775807 : Int64))), .second, .val (.long (i2 &&& (9223372036854775807 : Int64))), .second, .val (.long (i3 &&& (9223372036854775807 : Int64))), .second, .val (.int (i4 &&& (3 : Int32))), .val (.int v5_s0), .val (.ref b7), .unset, .unset, .unset] [(.long (i1 &&& (9223372036854775807 : Int64))), (.long (i0 &&& (9223372036854775807 : Int64))), (.ref b7)])) t
          exact k)
        obtain ⟨cq72, kq72, q72a, q72b, q72c⟩ := isOf hZ rfl F70
        obtain ⟨_, _, ⟨T72, L72, k72, n72⟩, -, X72, ⟨Lc72, hQ72, l72, y72, z72⟩, st72⟩ := X40.virtualBack hx (y := (⟨"dev/quotefuse/engine/WideCount", "addProduct", "(JJ)V"⟩ : MethodName)) (z := (⟨"dev/quotefuse/engine/WideCount", "addProduct", "(JJ)V"⟩ : MethodName)) hown (mvT hZ (hw _ (List.mem_of_getElem? (i := 14) rfl))) (mvT hZ (hw _ (List.mem_of_getElem? (i := 15) rfl))) (notFace_of_selects (args := #[]) (mvT hZ (hw _ (List.mem_of_getElem? (i := 17) rfl)))) (mvT hZ (hw _ (List.mem_of_getElem? (i := 17) rfl))) (mvT hZ (hw _ (List.mem_of_getElem? (i := 16) rfl))) (by decide) (backOf (W := 0) (rm3n l Z a0 hw [] b7 (i0 &&& (9223372036854775807 : Int64)) (i1 &&& (9223372036854775807 : Int64)) ((0 : Int64) + ((i0 &&& (9223372036854775807 : Int64)) * (i1 &&& (9223372036854775807 : Int64)))) ((0 : Int64) + ((own_mh (i0 &&& (9223372036854775807 : Int64)) (i1 &&& (9223372036854775807 : Int64))) + (0 : Int64))) z0_ZERO T40.heap n0 (Nat.le_trans Z0 K40.1) F40_0 F40_1 (own_nov hb1 hmh) F40_2 F70 g_b7) hZ (hw _ (List.mem_of_getElem? (i := 18) rfl)) (hw _ (List.mem_of_getElem? (i := 3) rfl)) (by decide) (by decide)) q72a q72c (g := (mkF m 86 #[.val (.long i0), .second, .val (.long i1), .second, .val (.long i2), .second, .val (.long i3), .second, .val (.int i4), .val (.long (i0 &&& (9223372036854775807 : Int64))), .second, .val (.long (i1 &&& (9223372036854775807 : Int64))), .second, .val (.long (i2 &&& (9223372036854775807 : Int64))), .second, .val (.long (i3 &&& (9223372036854775807 : Int64))), .second, .val (.int (i4 &&& (3 : Int32))), .val (.int v5_s0), .val (.ref b7), .unset, .unset, .unset] [(.long (i1 &&& (9223372036854775807 : Int64))), (.long (i0 &&& (9223372036854775807 : Int64))), (.ref b7)])) rfl (by rw [hml]; rfl) (Steps.refl _) (argsL := [(.long (i0 &&& (9223372036854775807 : Int64))), (.long (i1 &&& (9223372036854775807 : Int64)))]) (rest := []) (lenOf pd_3 rfl) rfl (by show 2 * 0 + _ ≤ _; exact Nat.le_of_eq rfl) (hb hby at_86) (fun _ _ => ⟨rfl, rfl, (by decide : 1 + 0 ≤ _), (by decide : 3 + 0 ≤ _)⟩)
        dsimp only [Pt.U, Pt.locs, Pt.cells, Pt.slots] at X72 l72 y72 z72 st72 hQ72
        subst l72 y72 z72
        obtain ⟨rfl, N72q, Kc72, F72_0, F72_1, F72_2⟩ := hQ72
        have N72 := Fr.app N40 N72q
        have K72 : Keep h0 T72.heap [] := Keep.trans K40 Kc72 (allS (Or.inr o_b7) all0)
        have P72 : own_Go p e below S0 (T72.setTop (mkF m 89 #[.val (.long i0), .second, .val (.long i1), .second, .val (.long i2), .second, .val (.long i3), .second, .val (.int i4), .val (.long (i0 &&& (9223372036854775807 : Int64))), .second, .val (.long (i1 &&& (9223372036854775807 : Int64))), .second, .val (.long (i2 &&& (9223372036854775807 : Int64))), .second, .val (.long (i3 &&& (9223372036854775807 : Int64))), .second, .val (.int (i4 &&& (3 : Int32))), .val (.int v5_s0), .val (.ref b7), .unset, .unset, .unset] [])) := fun t k => P71 t (st72.trans k)
        have hb2 : 0 ≤ ((f5n_high (own_mh (i0 &&& (9223372036854775807 : Int64)) (i1 &&& (9223372036854775807 : Int64))) ((i0 &&& (9223372036854775807 : Int64)) * (i1 &&& (9223372036854775807 : Int64))) ((0 : Int64) + ((i0 &&& (9223372036854775807 : Int64)) * (i1 &&& (9223372036854775807 : Int64)))) ((0 : Int64) + ((own_mh (i0 &&& (9223372036854775807 : Int64)) (i1 &&& (9223372036854775807 : Int64))) + (0 : Int64))))).toInt ∧ ((f5n_high (own_mh (i0 &&& (9223372036854775807 : Int64)) (i1 &&& (9223372036854775807 : Int64))) ((i0 &&& (9223372036854775807 : Int64)) * (i1 &&& (9223372036854775807 : Int64))) ((0 : Int64) + ((i0 &&& (9223372036854775807 : Int64)) * (i1 &&& (9223372036854775807 : Int64)))) ((0 : Int64) + ((own_mh (i0 &&& (9223372036854775807 : Int64)) (i1 &&& (9223372036854775807 : Int64))) + (0 : Int64))))).toInt ≤ 9223372036854775807 := own_b2 hb1 hmh
        have P73 : own_Go p e below S0 (T72.setTop (mkF m 92 #[.val (.long i0), .second, .val (.long i1), .second, .val (.long i2), .second, .val (.long i3), .second, .val (.int i4), .val (.long (i0 &&& (9223372036854775807 : Int64))), .second, .val (.long (i1 &&& (9223372036854775807 : Int64))), .second, .val (.long (i2 &&& (9223372036854775807 : Int64))), .second, .val (.long (i3 &&& (9223372036854775807 : Int64))), .second, .val (.int (i4 &&& (3 : Int32))), .val (.int v5_s0), .val (.ref b7), .unset, .unset, .unset] [(.int (3 : Int32)), (.int (i4 &&& (3 : Int32)))])) := fun t k => P72 t (by
          show Steps p.tables e below (T72.setTop (mkF m 89 #[.val (.long i0), .second, .val (.long i1), .second, .val (.long i2), .second, .val (.long i3), .second, .val (.int i4), .val (.long (i0 &&& (9223372036854775807 : Int64))), .second, .val (.long (i1 &&& (9223372036854775807 : Int64))), .second, .val (.long (i2 &&& (9223372036854775807 : Int64))), .second, .val (.long (i3 &&& (9223372036854775807 : Int64))), .second, .val (.int (i4 &&& (3 : Int32))), .val (.int v5_s0), .val (.ref b7), .unset, .unset, .unset] [])) t
          refine XS.iload X72.here hx rfl (hb hby at_89) rfl ?_
          refine XS.iconst X72.here hx rfl (hb hby at_91) ?_
          show Steps p.tables e below (T72.setTop (mkF m 92 #[.val (.long i0), .second, .val (.long i1), .second, .val (.long i2), .second, .val (.long i3), .second, .val (.int i4), .val (.long (i0 &&& (9223372036854775807 : Int64))), .second, .val (.long (i1 &&& (9223372036854775807 : Int64))), .second, .val (.long (i2 &&& (9223372036854775807 : Int64))), .second, .val (.long (i3 &&& (9223372036854775807 : Int64))), .second, .val (.int (i4 &&& (3 : Int32))), .val (.int v5_s0), .val (.ref b7), .unset, .unset, .unset] [(.int (3 : Int32)), (.int (i4 &&& (3 : Int32)))])) t
          exact k)
        by_cases c74 : (i4 &&& (3 : Int32)) < (3 : Int32)
        · skip
          have P75 : own_Go p e below S0 (T72.setTop (mkF m 106 #[.val (.long i0), .second, .val (.long i1), .second, .val (.long i2), .second, .val (.long i3), .second, .val (.int i4), .val (.long (i0 &&& (9223372036854775807 : Int64))), .second, .val (.long (i1 &&& (9223372036854775807 : Int64))), .second, .val (.long (i2 &&& (9223372036854775807 : Int64))), .second, .val (.long (i3 &&& (9223372036854775807 : Int64))), .second, .val (.int (i4 &&& (3 : Int32))), .val (.int v5_s0), .val (.ref b7), .unset, .unset, .unset] [(.int v5_s0)])) := fun t k => P73 t (by
            show Steps p.tables e below (T72.setTop (mkF m 92 #[.val (.long i0), .second, .val (.long i1), .second, .val (.long i2), .second, .val (.long i3), .second, .val (.int i4), .val (.long (i0 &&& (9223372036854775807 : Int64))), .second, .val (.long (i1 &&& (9223372036854775807 : Int64))), .second, .val (.long (i2 &&& (9223372036854775807 : Int64))), .second, .val (.long (i3 &&& (9223372036854775807 : Int64))), .second, .val (.int (i4 &&& (3 : Int32))), .val (.int v5_s0), .val (.ref b7), .unset, .unset, .unset] [(.int (3 : Int32)), (.int (i4 &&& (3 : Int32)))])) t
            refine XS.icmpYes X72.here hx rfl (pc0 := 92) (pc' := 104) rfl (hb hby at_92) rfl (tlt c74).1 (by decide) (by decide) ?_
            refine XS.iload X72.here hx rfl (hb hby at_104) rfl ?_
            show Steps p.tables e below (T72.setTop (mkF m 106 #[.val (.long i0), .second, .val (.long i1), .second, .val (.long i2), .second, .val (.long i3), .second, .val (.int i4), .val (.long (i0 &&& (9223372036854775807 : Int64))), .second, .val (.long (i1 &&& (9223372036854775807 : Int64))), .second, .val (.long (i2 &&& (9223372036854775807 : Int64))), .second, .val (.long (i3 &&& (9223372036854775807 : Int64))), .second, .val (.int (i4 &&& (3 : Int32))), .val (.int v5_s0), .val (.ref b7), .unset, .unset, .unset] [(.int v5_s0)])) t
            exact k)
          by_cases c76 : v5_s0 = (0 : Int32)
          · skip
            have P77 : own_Go p e below S0 (T72.setTop (mkF m 116 #[.val (.long i0), .second, .val (.long i1), .second, .val (.long i2), .second, .val (.long i3), .second, .val (.int i4), .val (.long (i0 &&& (9223372036854775807 : Int64))), .second, .val (.long (i1 &&& (9223372036854775807 : Int64))), .second, .val (.long (i2 &&& (9223372036854775807 : Int64))), .second, .val (.long (i3 &&& (9223372036854775807 : Int64))), .second, .val (.int (i4 &&& (3 : Int32))), .val (.int v5_s0), .val (.ref b7), .unset, .unset, .unset] [])) := fun t k => P75 t (by
              show Steps p.tables e below (T72.setTop (mkF m 106 #[.val (.long i0), .second, .val (.long i1), .second, .val (.long i2), .second, .val (.long i3), .second, .val (.int i4), .val (.long (i0 &&& (9223372036854775807 : Int64))), .second, .val (.long (i1 &&& (9223372036854775807 : Int64))), .second, .val (.long (i2 &&& (9223372036854775807 : Int64))), .second, .val (.long (i3 &&& (9223372036854775807 : Int64))), .second, .val (.int (i4 &&& (3 : Int32))), .val (.int v5_s0), .val (.ref b7), .unset, .unset, .unset] [(.int v5_s0)])) t
              refine XS.ifYes X72.here hx rfl (pc0 := 106) (pc' := 116) rfl (hb hby at_106) rfl ((if0 _ _).trans (teq c76).1) (by decide) (by decide) ?_
              show Steps p.tables e below (T72.setTop (mkF m 116 #[.val (.long i0), .second, .val (.long i1), .second, .val (.long i2), .second, .val (.long i3), .second, .val (.int i4), .val (.long (i0 &&& (9223372036854775807 : Int64))), .second, .val (.long (i1 &&& (9223372036854775807 : Int64))), .second, .val (.long (i2 &&& (9223372036854775807 : Int64))), .second, .val (.long (i3 &&& (9223372036854775807 : Int64))), .second, .val (.int (i4 &&& (3 : Int32))), .val (.int v5_s0), .val (.ref b7), .unset, .unset, .unset] [])) t
              exact k)
            have F78 : Sta Z T40.heap "java/math/BigInteger" "ZERO" "Ljava/math/BigInteger;" (.ref z0_ZERO) := own_staK F11 Kc40 (allS (own_plE F22) all0)
            have F79 : Sta Z T72.heap "java/math/BigInteger" "ZERO" "Ljava/math/BigInteger;" (.ref z0_ZERO) := own_staK F78 Kc72 (allS (own_plE F70) all0)
            have F80 : Exa Z T40.heap z0_ZERO "java/math/BigInteger" := F13.keep Kc40
            have F81 : Exa Z T72.heap z0_ZERO "java/math/BigInteger" := F80.keep Kc72
            have F82 : Fld Z T40.heap z0_ZERO "java/math/BigInteger" "signum" "I" (.int (0 : Int32)) := F15.keep Kc40 (ninS ne_z0_ZERO_b7 nin0)
            have F83 : Fld Z T72.heap z0_ZERO "java/math/BigInteger" "signum" "I" (.int (0 : Int32)) := F82.keep Kc72 (ninS ne_z0_ZERO_b7 nin0)
            have F84 : Sta Z T40.heap "java/math/BigInteger" "ONE" "Ljava/math/BigInteger;" (.ref z0_ONE) := own_staK F17 Kc40 (allS (own_plE F22) all0)
            have F85 : Sta Z T72.heap "java/math/BigInteger" "ONE" "Ljava/math/BigInteger;" (.ref z0_ONE) := own_staK F84 Kc72 (allS (own_plE F70) all0)
            have F86 : Exa Z T40.heap z0_ONE "java/math/BigInteger" := F19.keep Kc40
            have F87 : Exa Z T72.heap z0_ONE "java/math/BigInteger" := F86.keep Kc72
            have F88 : Fld Z T40.heap z0_ONE "java/math/BigInteger" "signum" "I" (.int (1 : Int32)) := F21.keep Kc40 (ninS ne_z0_ONE_b7 nin0)
            have F89 : Fld Z T72.heap z0_ONE "java/math/BigInteger" "signum" "I" (.int (1 : Int32)) := F88.keep Kc72 (ninS ne_z0_ONE_b7 nin0)
            have F90 : Exa Z T72.heap b7 "dev/quotefuse/engine/WideCount" := F70.keep Kc72
            exact ⟨T72, _, T72.heap, (((0 : Int64) + ((i0 &&& (9223372036854775807 : Int64)) * (i1 &&& (9223372036854775807 : Int64)))) + ((i0 &&& (9223372036854775807 : Int64)) * (i1 &&& (9223372036854775807 : Int64)))), (f5n_high (own_mh (i0 &&& (9223372036854775807 : Int64)) (i1 &&& (9223372036854775807 : Int64))) ((i0 &&& (9223372036854775807 : Int64)) * (i1 &&& (9223372036854775807 : Int64))) ((0 : Int64) + ((i0 &&& (9223372036854775807 : Int64)) * (i1 &&& (9223372036854775807 : Int64)))) ((0 : Int64) + ((own_mh (i0 &&& (9223372036854775807 : Int64)) (i1 &&& (9223372036854775807 : Int64))) + (0 : Int64)))), z0_ZERO, X72, rfl, N72, K72, F79, F81, F83, F85, F87, F89, F90, F72_0, F72_1, F72_2, P77⟩
          · skip
            have P91 : own_Go p e below S0 (T72.setTop (mkF m 113 #[.val (.long i0), .second, .val (.long i1), .second, .val (.long i2), .second, .val (.long i3), .second, .val (.int i4), .val (.long (i0 &&& (9223372036854775807 : Int64))), .second, .val (.long (i1 &&& (9223372036854775807 : Int64))), .second, .val (.long (i2 &&& (9223372036854775807 : Int64))), .second, .val (.long (i3 &&& (9223372036854775807 : Int64))), .second, .val (.int (i4 &&& (3 : Int32))), .val (.int v5_s0), .val (.ref b7), .unset, .unset, .unset] [(.long (i2 &&& (9223372036854775807 : Int64))), (.ref b7)])) := fun t k => P75 t (by
              show Steps p.tables e below (T72.setTop (mkF m 106 #[.val (.long i0), .second, .val (.long i1), .second, .val (.long i2), .second, .val (.long i3), .second, .val (.int i4), .val (.long (i0 &&& (9223372036854775807 : Int64))), .second, .val (.long (i1 &&& (9223372036854775807 : Int64))), .second, .val (.long (i2 &&& (9223372036854775807 : Int64))), .second, .val (.long (i3 &&& (9223372036854775807 : Int64))), .second, .val (.int (i4 &&& (3 : Int32))), .val (.int v5_s0), .val (.ref b7), .unset, .unset, .unset] [(.int v5_s0)])) t
              refine XS.ifNo X72.here hx rfl (hb hby at_106) rfl ((if0 _ _).trans (feq c76).1) ?_
              refine XS.aload X72.here hx rfl (hb hby at_109) rfl rfl ?_
              refine XS.lload X72.here hx rfl (hb hby at_111) rfl ?_
              show Steps p.tables e below (T72.setTop (mkF m 113 #[.val (.long i0), .second, .val (.long i1), .second, .val (.long i2), .second, .val (.long i3), .second, .val (.int i4), .val (.long (i0 &&& (9223372036854775807 : Int64))), .second, .val (.long (i1 &&& (9223372036854775807 : Int64))), .second, .val (.long (i2 &&& (9223372036854775807 : Int64))), .second, .val (.long (i3 &&& (9223372036854775807 : Int64))), .second, .val (.int (i4 &&& (3 : Int32))), .val (.int v5_s0), .val (.ref b7), .unset, .unset, .unset] [(.long (i2 &&& (9223372036854775807 : Int64))), (.ref b7)])) t
              exact k)
            by_cases c92 : own_OV ((own_cu ((((0 : Int64) + ((i0 &&& (9223372036854775807 : Int64)) * (i1 &&& (9223372036854775807 : Int64)))) + ((i0 &&& (9223372036854775807 : Int64)) * (i1 &&& (9223372036854775807 : Int64)))) + (i2 &&& (9223372036854775807 : Int64))) (((0 : Int64) + ((i0 &&& (9223372036854775807 : Int64)) * (i1 &&& (9223372036854775807 : Int64)))) + ((i0 &&& (9223372036854775807 : Int64)) * (i1 &&& (9223372036854775807 : Int64))))) < (0 : Int32)) (f5n_high (own_mh (i0 &&& (9223372036854775807 : Int64)) (i1 &&& (9223372036854775807 : Int64))) ((i0 &&& (9223372036854775807 : Int64)) * (i1 &&& (9223372036854775807 : Int64))) ((0 : Int64) + ((i0 &&& (9223372036854775807 : Int64)) * (i1 &&& (9223372036854775807 : Int64)))) ((0 : Int64) + ((own_mh (i0 &&& (9223372036854775807 : Int64)) (i1 &&& (9223372036854775807 : Int64))) + (0 : Int64)))) (0 : Int64)
            · skip
              have F93 : Exa Z T72.heap b7 "dev/quotefuse/engine/WideCount" := F70.keep Kc72
              have F94 : Fld Z T40.heap z0_ZERO "java/math/BigInteger" "signum" "I" (.int (0 : Int32)) := F15.keep Kc40 (ninS ne_z0_ZERO_b7 nin0)
              have F95 : Fld Z T72.heap z0_ZERO "java/math/BigInteger" "signum" "I" (.int (0 : Int32)) := F94.keep Kc72 (ninS ne_z0_ZERO_b7 nin0)
              have F96 : Exa Z T40.heap z0_ZERO "java/math/BigInteger" := F13.keep Kc40
              have F97 : Exa Z T72.heap z0_ZERO "java/math/BigInteger" := F96.keep Kc72
              have F98 : Sta Z T40.heap "java/math/BigInteger" "ONE" "Ljava/math/BigInteger;" (.ref z0_ONE) := own_staK F17 Kc40 (allS (own_plE F22) all0)
              have F99 : Sta Z T72.heap "java/math/BigInteger" "ONE" "Ljava/math/BigInteger;" (.ref z0_ONE) := own_staK F98 Kc72 (allS (own_plE F70) all0)
              have F100 : Fld Z T40.heap z0_ONE "java/math/BigInteger" "signum" "I" (.int (1 : Int32)) := F21.keep Kc40 (ninS ne_z0_ONE_b7 nin0)
              have F101 : Fld Z T72.heap z0_ONE "java/math/BigInteger" "signum" "I" (.int (1 : Int32)) := F100.keep Kc72 (ninS ne_z0_ONE_b7 nin0)
              obtain ⟨cq102, kq102, q102a, q102b, q102c⟩ := isOf hZ rfl F93
              obtain ⟨_, _, ⟨T102, L102, k102, n102⟩, -, X102, ⟨Lc102, hQ102, l102, y102, z102⟩, st102⟩ := X72.virtualBack hx (y := (⟨"dev/quotefuse/engine/WideCount", "add", "(J)V"⟩ : MethodName)) (z := (⟨"dev/quotefuse/engine/WideCount", "add", "(J)V"⟩ : MethodName)) hown (mvT hZ (hw _ (List.mem_of_getElem? (i := 62) rfl))) (mvT hZ (hw _ (List.mem_of_getElem? (i := 63) rfl))) (notFace_of_selects (args := #[]) (mvT hZ (hw _ (List.mem_of_getElem? (i := 65) rfl)))) (mvT hZ (hw _ (List.mem_of_getElem? (i := 65) rfl))) (mvT hZ (hw _ (List.mem_of_getElem? (i := 64) rfl))) (by decide) (backOf (W := 0) (rm12v l Z a0 hw [] b7 (i2 &&& (9223372036854775807 : Int64)) (((0 : Int64) + ((i0 &&& (9223372036854775807 : Int64)) * (i1 &&& (9223372036854775807 : Int64)))) + ((i0 &&& (9223372036854775807 : Int64)) * (i1 &&& (9223372036854775807 : Int64)))) (f5n_high (own_mh (i0 &&& (9223372036854775807 : Int64)) (i1 &&& (9223372036854775807 : Int64))) ((i0 &&& (9223372036854775807 : Int64)) * (i1 &&& (9223372036854775807 : Int64))) ((0 : Int64) + ((i0 &&& (9223372036854775807 : Int64)) * (i1 &&& (9223372036854775807 : Int64)))) ((0 : Int64) + ((own_mh (i0 &&& (9223372036854775807 : Int64)) (i1 &&& (9223372036854775807 : Int64))) + (0 : Int64)))) z0_ZERO z0_ONE T72.heap n0 (Nat.le_trans Z0 K72.1) F72_0 F72_1 (own_OVv c92) F72_2 F95 F97 F99 F101 F93 g_b7 ne_z0_ZERO_b7 ne_z0_ONE_b7) hZ (hw _ (List.mem_of_getElem? (i := 66) rfl)) (hw _ (List.mem_of_getElem? (i := 3) rfl)) (by decide) (by decide)) q102a q102c (g := (mkF m 113 #[.val (.long i0), .second, .val (.long i1), .second, .val (.long i2), .second, .val (.long i3), .second, .val (.int i4), .val (.long (i0 &&& (9223372036854775807 : Int64))), .second, .val (.long (i1 &&& (9223372036854775807 : Int64))), .second, .val (.long (i2 &&& (9223372036854775807 : Int64))), .second, .val (.long (i3 &&& (9223372036854775807 : Int64))), .second, .val (.int (i4 &&& (3 : Int32))), .val (.int v5_s0), .val (.ref b7), .unset, .unset, .unset] [(.long (i2 &&& (9223372036854775807 : Int64))), (.ref b7)])) rfl (by rw [hml]; rfl) (Steps.refl _) (argsL := [(.long (i2 &&& (9223372036854775807 : Int64)))]) (rest := []) (lenOf pd_6 rfl) rfl (by show 2 * 0 + _ ≤ _; exact Nat.le_of_eq rfl) (hb hby at_113) (fun _ _ => ⟨rfl, rfl, (by decide : 1 + 0 ≤ _), (by decide : 3 + 0 ≤ _)⟩)
              dsimp only [Pt.U, Pt.locs, Pt.cells, Pt.slots] at X102 l102 y102 z102 st102 hQ102
              subst l102 y102 z102
              obtain ⟨rfl, N102q, Kc102, F102_0, F102_1, F102_2⟩ := hQ102
              have N102 := Fr.app N72 N102q
              have K102 : Keep h0 T102.heap [] := Keep.trans K72 Kc102 (allS (Or.inr o_b7) all0)
              have P102 : own_Go p e below S0 (T102.setTop (mkF m 116 #[.val (.long i0), .second, .val (.long i1), .second, .val (.long i2), .second, .val (.long i3), .second, .val (.int i4), .val (.long (i0 &&& (9223372036854775807 : Int64))), .second, .val (.long (i1 &&& (9223372036854775807 : Int64))), .second, .val (.long (i2 &&& (9223372036854775807 : Int64))), .second, .val (.long (i3 &&& (9223372036854775807 : Int64))), .second, .val (.int (i4 &&& (3 : Int32))), .val (.int v5_s0), .val (.ref b7), .unset, .unset, .unset] [])) := fun t k => P91 t (st102.trans k)
              have F103 : Sta Z T40.heap "java/math/BigInteger" "ZERO" "Ljava/math/BigInteger;" (.ref z0_ZERO) := own_staK F11 Kc40 (allS (own_plE F22) all0)
              have F104 : Sta Z T72.heap "java/math/BigInteger" "ZERO" "Ljava/math/BigInteger;" (.ref z0_ZERO) := own_staK F103 Kc72 (allS (own_plE F70) all0)
              have F105 : Sta Z T102.heap "java/math/BigInteger" "ZERO" "Ljava/math/BigInteger;" (.ref z0_ZERO) := own_staK F104 Kc102 (allS (own_plE F93) all0)
              have F106 : Exa Z T102.heap z0_ZERO "java/math/BigInteger" := F97.keep Kc102
              have F107 : Fld Z T102.heap z0_ZERO "java/math/BigInteger" "signum" "I" (.int (0 : Int32)) := F95.keep Kc102 (ninS ne_z0_ZERO_b7 nin0)
              have F108 : Sta Z T102.heap "java/math/BigInteger" "ONE" "Ljava/math/BigInteger;" (.ref z0_ONE) := own_staK F99 Kc102 (allS (own_plE F93) all0)
              have F109 : Exa Z T40.heap z0_ONE "java/math/BigInteger" := F19.keep Kc40
              have F110 : Exa Z T72.heap z0_ONE "java/math/BigInteger" := F109.keep Kc72
              have F111 : Exa Z T102.heap z0_ONE "java/math/BigInteger" := F110.keep Kc102
              have F112 : Fld Z T102.heap z0_ONE "java/math/BigInteger" "signum" "I" (.int (1 : Int32)) := F101.keep Kc102 (ninS ne_z0_ONE_b7 nin0)
              have F113 : Exa Z T102.heap b7 "dev/quotefuse/engine/WideCount" := F93.keep Kc102
              exact ⟨T102, _, T102.heap, ((((0 : Int64) + ((i0 &&& (9223372036854775807 : Int64)) * (i1 &&& (9223372036854775807 : Int64)))) + ((i0 &&& (9223372036854775807 : Int64)) * (i1 &&& (9223372036854775807 : Int64)))) + (i2 &&& (9223372036854775807 : Int64))), (f5v_high (0 : Int64) (i2 &&& (9223372036854775807 : Int64)) (((0 : Int64) + ((i0 &&& (9223372036854775807 : Int64)) * (i1 &&& (9223372036854775807 : Int64)))) + ((i0 &&& (9223372036854775807 : Int64)) * (i1 &&& (9223372036854775807 : Int64)))) (f5n_high (own_mh (i0 &&& (9223372036854775807 : Int64)) (i1 &&& (9223372036854775807 : Int64))) ((i0 &&& (9223372036854775807 : Int64)) * (i1 &&& (9223372036854775807 : Int64))) ((0 : Int64) + ((i0 &&& (9223372036854775807 : Int64)) * (i1 &&& (9223372036854775807 : Int64)))) ((0 : Int64) + ((own_mh (i0 &&& (9223372036854775807 : Int64)) (i1 &&& (9223372036854775807 : Int64))) + (0 : Int64))))), z0_ONE, X102, rfl, N102, K102, F105, F106, F107, F108, F111, F112, F113, F102_0, F102_1, F102_2, P102⟩
            · skip
              have F114 : Exa Z T72.heap b7 "dev/quotefuse/engine/WideCount" := F70.keep Kc72
              obtain ⟨cq115, kq115, q115a, q115b, q115c⟩ := isOf hZ rfl F114
              obtain ⟨_, _, ⟨T115, L115, k115, n115⟩, -, X115, ⟨Lc115, hQ115, l115, y115, z115⟩, st115⟩ := X72.virtualBack hx (y := (⟨"dev/quotefuse/engine/WideCount", "add", "(J)V"⟩ : MethodName)) (z := (⟨"dev/quotefuse/engine/WideCount", "add", "(J)V"⟩ : MethodName)) hown (mvT hZ (hw _ (List.mem_of_getElem? (i := 62) rfl))) (mvT hZ (hw _ (List.mem_of_getElem? (i := 63) rfl))) (notFace_of_selects (args := #[]) (mvT hZ (hw _ (List.mem_of_getElem? (i := 65) rfl)))) (mvT hZ (hw _ (List.mem_of_getElem? (i := 65) rfl))) (mvT hZ (hw _ (List.mem_of_getElem? (i := 64) rfl))) (by decide) (backOf (W := 0) (rm12n l Z a0 hw [] b7 (i2 &&& (9223372036854775807 : Int64)) (((0 : Int64) + ((i0 &&& (9223372036854775807 : Int64)) * (i1 &&& (9223372036854775807 : Int64)))) + ((i0 &&& (9223372036854775807 : Int64)) * (i1 &&& (9223372036854775807 : Int64)))) (f5n_high (own_mh (i0 &&& (9223372036854775807 : Int64)) (i1 &&& (9223372036854775807 : Int64))) ((i0 &&& (9223372036854775807 : Int64)) * (i1 &&& (9223372036854775807 : Int64))) ((0 : Int64) + ((i0 &&& (9223372036854775807 : Int64)) * (i1 &&& (9223372036854775807 : Int64)))) ((0 : Int64) + ((own_mh (i0 &&& (9223372036854775807 : Int64)) (i1 &&& (9223372036854775807 : Int64))) + (0 : Int64)))) z0_ZERO T72.heap n0 (Nat.le_trans Z0 K72.1) F72_0 F72_1 (own_OVn c92) F72_2 F114 g_b7) hZ (hw _ (List.mem_of_getElem? (i := 66) rfl)) (hw _ (List.mem_of_getElem? (i := 3) rfl)) (by decide) (by decide)) q115a q115c (g := (mkF m 113 #[.val (.long i0), .second, .val (.long i1), .second, .val (.long i2), .second, .val (.long i3), .second, .val (.int i4), .val (.long (i0 &&& (9223372036854775807 : Int64))), .second, .val (.long (i1 &&& (9223372036854775807 : Int64))), .second, .val (.long (i2 &&& (9223372036854775807 : Int64))), .second, .val (.long (i3 &&& (9223372036854775807 : Int64))), .second, .val (.int (i4 &&& (3 : Int32))), .val (.int v5_s0), .val (.ref b7), .unset, .unset, .unset] [(.long (i2 &&& (9223372036854775807 : Int64))), (.ref b7)])) rfl (by rw [hml]; rfl) (Steps.refl _) (argsL := [(.long (i2 &&& (9223372036854775807 : Int64)))]) (rest := []) (lenOf pd_6 rfl) rfl (by show 2 * 0 + _ ≤ _; exact Nat.le_of_eq rfl) (hb hby at_113) (fun _ _ => ⟨rfl, rfl, (by decide : 1 + 0 ≤ _), (by decide : 3 + 0 ≤ _)⟩)
              dsimp only [Pt.U, Pt.locs, Pt.cells, Pt.slots] at X115 l115 y115 z115 st115 hQ115
              subst l115 y115 z115
              obtain ⟨rfl, N115q, Kc115, F115_0, F115_1, F115_2⟩ := hQ115
              have N115 := Fr.app N72 N115q
              have K115 : Keep h0 T115.heap [] := Keep.trans K72 Kc115 (allS (Or.inr o_b7) all0)
              have P115 : own_Go p e below S0 (T115.setTop (mkF m 116 #[.val (.long i0), .second, .val (.long i1), .second, .val (.long i2), .second, .val (.long i3), .second, .val (.int i4), .val (.long (i0 &&& (9223372036854775807 : Int64))), .second, .val (.long (i1 &&& (9223372036854775807 : Int64))), .second, .val (.long (i2 &&& (9223372036854775807 : Int64))), .second, .val (.long (i3 &&& (9223372036854775807 : Int64))), .second, .val (.int (i4 &&& (3 : Int32))), .val (.int v5_s0), .val (.ref b7), .unset, .unset, .unset] [])) := fun t k => P91 t (st115.trans k)
              have F116 : Sta Z T40.heap "java/math/BigInteger" "ZERO" "Ljava/math/BigInteger;" (.ref z0_ZERO) := own_staK F11 Kc40 (allS (own_plE F22) all0)
              have F117 : Sta Z T72.heap "java/math/BigInteger" "ZERO" "Ljava/math/BigInteger;" (.ref z0_ZERO) := own_staK F116 Kc72 (allS (own_plE F70) all0)
              have F118 : Sta Z T115.heap "java/math/BigInteger" "ZERO" "Ljava/math/BigInteger;" (.ref z0_ZERO) := own_staK F117 Kc115 (allS (own_plE F114) all0)
              have F119 : Exa Z T40.heap z0_ZERO "java/math/BigInteger" := F13.keep Kc40
              have F120 : Exa Z T72.heap z0_ZERO "java/math/BigInteger" := F119.keep Kc72
              have F121 : Exa Z T115.heap z0_ZERO "java/math/BigInteger" := F120.keep Kc115
              have F122 : Fld Z T40.heap z0_ZERO "java/math/BigInteger" "signum" "I" (.int (0 : Int32)) := F15.keep Kc40 (ninS ne_z0_ZERO_b7 nin0)
              have F123 : Fld Z T72.heap z0_ZERO "java/math/BigInteger" "signum" "I" (.int (0 : Int32)) := F122.keep Kc72 (ninS ne_z0_ZERO_b7 nin0)
              have F124 : Fld Z T115.heap z0_ZERO "java/math/BigInteger" "signum" "I" (.int (0 : Int32)) := F123.keep Kc115 (ninS ne_z0_ZERO_b7 nin0)
              have F125 : Sta Z T40.heap "java/math/BigInteger" "ONE" "Ljava/math/BigInteger;" (.ref z0_ONE) := own_staK F17 Kc40 (allS (own_plE F22) all0)
              have F126 : Sta Z T72.heap "java/math/BigInteger" "ONE" "Ljava/math/BigInteger;" (.ref z0_ONE) := own_staK F125 Kc72 (allS (own_plE F70) all0)
              have F127 : Sta Z T115.heap "java/math/BigInteger" "ONE" "Ljava/math/BigInteger;" (.ref z0_ONE) := own_staK F126 Kc115 (allS (own_plE F114) all0)
              have F128 : Exa Z T40.heap z0_ONE "java/math/BigInteger" := F19.keep Kc40
              have F129 : Exa Z T72.heap z0_ONE "java/math/BigInteger" := F128.keep Kc72
              have F130 : Exa Z T115.heap z0_ONE "java/math/BigInteger" := F129.keep Kc115
              have F131 : Fld Z T40.heap z0_ONE "java/math/BigInteger" "signum" "I" (.int (1 : Int32)) := F21.keep Kc40 (ninS ne_z0_ONE_b7 nin0)
              have F132 : Fld Z T72.heap z0_ONE "java/math/BigInteger" "signum" "I" (.int (1 : Int32)) := F131.keep Kc72 (ninS ne_z0_ONE_b7 nin0)
              have F133 : Fld Z T115.heap z0_ONE "java/math/BigInteger" "signum" "I" (.int (1 : Int32)) := F132.keep Kc115 (ninS ne_z0_ONE_b7 nin0)
              have F134 : Exa Z T115.heap b7 "dev/quotefuse/engine/WideCount" := F114.keep Kc115
              exact ⟨T115, _, T115.heap, ((((0 : Int64) + ((i0 &&& (9223372036854775807 : Int64)) * (i1 &&& (9223372036854775807 : Int64)))) + ((i0 &&& (9223372036854775807 : Int64)) * (i1 &&& (9223372036854775807 : Int64)))) + (i2 &&& (9223372036854775807 : Int64))), (f5n_high (0 : Int64) (i2 &&& (9223372036854775807 : Int64)) (((0 : Int64) + ((i0 &&& (9223372036854775807 : Int64)) * (i1 &&& (9223372036854775807 : Int64)))) + ((i0 &&& (9223372036854775807 : Int64)) * (i1 &&& (9223372036854775807 : Int64)))) (f5n_high (own_mh (i0 &&& (9223372036854775807 : Int64)) (i1 &&& (9223372036854775807 : Int64))) ((i0 &&& (9223372036854775807 : Int64)) * (i1 &&& (9223372036854775807 : Int64))) ((0 : Int64) + ((i0 &&& (9223372036854775807 : Int64)) * (i1 &&& (9223372036854775807 : Int64)))) ((0 : Int64) + ((own_mh (i0 &&& (9223372036854775807 : Int64)) (i1 &&& (9223372036854775807 : Int64))) + (0 : Int64))))), z0_ZERO, X115, rfl, N115, K115, F118, F121, F124, F127, F130, F133, F134, F115_0, F115_1, F115_2, P115⟩
        · skip
          have P135 : own_Go p e below S0 (T72.setTop (mkF m 101 #[.val (.long i0), .second, .val (.long i1), .second, .val (.long i2), .second, .val (.long i3), .second, .val (.int i4), .val (.long (i0 &&& (9223372036854775807 : Int64))), .second, .val (.long (i1 &&& (9223372036854775807 : Int64))), .second, .val (.long (i2 &&& (9223372036854775807 : Int64))), .second, .val (.long (i3 &&& (9223372036854775807 : Int64))), .second, .val (.int (i4 &&& (3 : Int32))), .val (.int v5_s0), .val (.ref b7), .unset, .unset, .unset] [(.long (i1 &&& (9223372036854775807 : Int64))), (.long (i0 &&& (9223372036854775807 : Int64))), (.ref b7)])) := fun t k => P73 t (by
            show Steps p.tables e below (T72.setTop (mkF m 92 #[.val (.long i0), .second, .val (.long i1), .second, .val (.long i2), .second, .val (.long i3), .second, .val (.int i4), .val (.long (i0 &&& (9223372036854775807 : Int64))), .second, .val (.long (i1 &&& (9223372036854775807 : Int64))), .second, .val (.long (i2 &&& (9223372036854775807 : Int64))), .second, .val (.long (i3 &&& (9223372036854775807 : Int64))), .second, .val (.int (i4 &&& (3 : Int32))), .val (.int v5_s0), .val (.ref b7), .unset, .unset, .unset] [(.int (3 : Int32)), (.int (i4 &&& (3 : Int32)))])) t
            refine XS.icmpNo X72.here hx rfl (hb hby at_92) rfl (flt c74).1 ?_
            refine XS.aload X72.here hx rfl (hb hby at_95) rfl rfl ?_
            refine XS.lload X72.here hx rfl (hb hby at_97) rfl ?_
            refine XS.lload X72.here hx rfl (hb hby at_99) rfl ?_
            show Steps p.tables e below (T72.setTop (mkF m 101 #[.val (.long i0), .second, .val (.long i1), .second, .val (.long i2), .second, .val (.long i3), .second, .val (.int i4), .val (.long (i0 &&& (9223372036854775807 : Int64))), .second, .val (.long (i1 &&& (9223372036854775807 : Int64))), .second, .val (.long (i2 &&& (9223372036854775807 : Int64))), .second, .val (.long (i3 &&& (9223372036854775807 : Int64))), .second, .val (.int (i4 &&& (3 : Int32))), .val (.int v5_s0), .val (.ref b7), .unset, .unset, .unset] [(.long (i1 &&& (9223372036854775807 : Int64))), (.long (i0 &&& (9223372036854775807 : Int64))), (.ref b7)])) t
            exact k)
          by_cases c136 : own_OV ((own_cu ((((0 : Int64) + ((i0 &&& (9223372036854775807 : Int64)) * (i1 &&& (9223372036854775807 : Int64)))) + ((i0 &&& (9223372036854775807 : Int64)) * (i1 &&& (9223372036854775807 : Int64)))) + ((i0 &&& (9223372036854775807 : Int64)) * (i1 &&& (9223372036854775807 : Int64)))) (((0 : Int64) + ((i0 &&& (9223372036854775807 : Int64)) * (i1 &&& (9223372036854775807 : Int64)))) + ((i0 &&& (9223372036854775807 : Int64)) * (i1 &&& (9223372036854775807 : Int64))))) < (0 : Int32)) (f5n_high (own_mh (i0 &&& (9223372036854775807 : Int64)) (i1 &&& (9223372036854775807 : Int64))) ((i0 &&& (9223372036854775807 : Int64)) * (i1 &&& (9223372036854775807 : Int64))) ((0 : Int64) + ((i0 &&& (9223372036854775807 : Int64)) * (i1 &&& (9223372036854775807 : Int64)))) ((0 : Int64) + ((own_mh (i0 &&& (9223372036854775807 : Int64)) (i1 &&& (9223372036854775807 : Int64))) + (0 : Int64)))) (own_mh (i0 &&& (9223372036854775807 : Int64)) (i1 &&& (9223372036854775807 : Int64)))
          · skip
            have F137 : Exa Z T72.heap b7 "dev/quotefuse/engine/WideCount" := F70.keep Kc72
            have F138 : Fld Z T40.heap z0_ZERO "java/math/BigInteger" "signum" "I" (.int (0 : Int32)) := F15.keep Kc40 (ninS ne_z0_ZERO_b7 nin0)
            have F139 : Fld Z T72.heap z0_ZERO "java/math/BigInteger" "signum" "I" (.int (0 : Int32)) := F138.keep Kc72 (ninS ne_z0_ZERO_b7 nin0)
            have F140 : Exa Z T40.heap z0_ZERO "java/math/BigInteger" := F13.keep Kc40
            have F141 : Exa Z T72.heap z0_ZERO "java/math/BigInteger" := F140.keep Kc72
            have F142 : Sta Z T40.heap "java/math/BigInteger" "ONE" "Ljava/math/BigInteger;" (.ref z0_ONE) := own_staK F17 Kc40 (allS (own_plE F22) all0)
            have F143 : Sta Z T72.heap "java/math/BigInteger" "ONE" "Ljava/math/BigInteger;" (.ref z0_ONE) := own_staK F142 Kc72 (allS (own_plE F70) all0)
            have F144 : Fld Z T40.heap z0_ONE "java/math/BigInteger" "signum" "I" (.int (1 : Int32)) := F21.keep Kc40 (ninS ne_z0_ONE_b7 nin0)
            have F145 : Fld Z T72.heap z0_ONE "java/math/BigInteger" "signum" "I" (.int (1 : Int32)) := F144.keep Kc72 (ninS ne_z0_ONE_b7 nin0)
            obtain ⟨cq146, kq146, q146a, q146b, q146c⟩ := isOf hZ rfl F137
            obtain ⟨_, _, ⟨T146, L146, k146, n146⟩, -, X146, ⟨Lc146, hQ146, l146, y146, z146⟩, st146⟩ := X72.virtualBack hx (y := (⟨"dev/quotefuse/engine/WideCount", "addProduct", "(JJ)V"⟩ : MethodName)) (z := (⟨"dev/quotefuse/engine/WideCount", "addProduct", "(JJ)V"⟩ : MethodName)) hown (mvT hZ (hw _ (List.mem_of_getElem? (i := 14) rfl))) (mvT hZ (hw _ (List.mem_of_getElem? (i := 15) rfl))) (notFace_of_selects (args := #[]) (mvT hZ (hw _ (List.mem_of_getElem? (i := 17) rfl)))) (mvT hZ (hw _ (List.mem_of_getElem? (i := 17) rfl))) (mvT hZ (hw _ (List.mem_of_getElem? (i := 16) rfl))) (by decide) (backOf (W := 0) (rm3v l Z a0 hw [] b7 (i0 &&& (9223372036854775807 : Int64)) (i1 &&& (9223372036854775807 : Int64)) (((0 : Int64) + ((i0 &&& (9223372036854775807 : Int64)) * (i1 &&& (9223372036854775807 : Int64)))) + ((i0 &&& (9223372036854775807 : Int64)) * (i1 &&& (9223372036854775807 : Int64)))) (f5n_high (own_mh (i0 &&& (9223372036854775807 : Int64)) (i1 &&& (9223372036854775807 : Int64))) ((i0 &&& (9223372036854775807 : Int64)) * (i1 &&& (9223372036854775807 : Int64))) ((0 : Int64) + ((i0 &&& (9223372036854775807 : Int64)) * (i1 &&& (9223372036854775807 : Int64)))) ((0 : Int64) + ((own_mh (i0 &&& (9223372036854775807 : Int64)) (i1 &&& (9223372036854775807 : Int64))) + (0 : Int64)))) z0_ZERO z0_ONE T72.heap n0 (Nat.le_trans Z0 K72.1) F72_0 F72_1 (own_OVv c136) F72_2 F139 F141 F143 F145 F137 g_b7 ne_z0_ZERO_b7 ne_z0_ONE_b7) hZ (hw _ (List.mem_of_getElem? (i := 18) rfl)) (hw _ (List.mem_of_getElem? (i := 3) rfl)) (by decide) (by decide)) q146a q146c (g := (mkF m 101 #[.val (.long i0), .second, .val (.long i1), .second, .val (.long i2), .second, .val (.long i3), .second, .val (.int i4), .val (.long (i0 &&& (9223372036854775807 : Int64))), .second, .val (.long (i1 &&& (9223372036854775807 : Int64))), .second, .val (.long (i2 &&& (9223372036854775807 : Int64))), .second, .val (.long (i3 &&& (9223372036854775807 : Int64))), .second, .val (.int (i4 &&& (3 : Int32))), .val (.int v5_s0), .val (.ref b7), .unset, .unset, .unset] [(.long (i1 &&& (9223372036854775807 : Int64))), (.long (i0 &&& (9223372036854775807 : Int64))), (.ref b7)])) rfl (by rw [hml]; rfl) (Steps.refl _) (argsL := [(.long (i0 &&& (9223372036854775807 : Int64))), (.long (i1 &&& (9223372036854775807 : Int64)))]) (rest := []) (lenOf pd_3 rfl) rfl (by show 2 * 0 + _ ≤ _; exact Nat.le_of_eq rfl) (hb hby at_101) (fun _ _ => ⟨rfl, rfl, (by decide : 1 + 0 ≤ _), (by decide : 3 + 0 ≤ _)⟩)
            dsimp only [Pt.U, Pt.locs, Pt.cells, Pt.slots] at X146 l146 y146 z146 st146 hQ146
            subst l146 y146 z146
            obtain ⟨rfl, N146q, Kc146, F146_0, F146_1, F146_2⟩ := hQ146
            have N146 := Fr.app N72 N146q
            have K146 : Keep h0 T146.heap [] := Keep.trans K72 Kc146 (allS (Or.inr o_b7) all0)
            have P146 : own_Go p e below S0 (T146.setTop (mkF m 104 #[.val (.long i0), .second, .val (.long i1), .second, .val (.long i2), .second, .val (.long i3), .second, .val (.int i4), .val (.long (i0 &&& (9223372036854775807 : Int64))), .second, .val (.long (i1 &&& (9223372036854775807 : Int64))), .second, .val (.long (i2 &&& (9223372036854775807 : Int64))), .second, .val (.long (i3 &&& (9223372036854775807 : Int64))), .second, .val (.int (i4 &&& (3 : Int32))), .val (.int v5_s0), .val (.ref b7), .unset, .unset, .unset] [])) := fun t k => P135 t (st146.trans k)
            have P147 : own_Go p e below S0 (T146.setTop (mkF m 106 #[.val (.long i0), .second, .val (.long i1), .second, .val (.long i2), .second, .val (.long i3), .second, .val (.int i4), .val (.long (i0 &&& (9223372036854775807 : Int64))), .second, .val (.long (i1 &&& (9223372036854775807 : Int64))), .second, .val (.long (i2 &&& (9223372036854775807 : Int64))), .second, .val (.long (i3 &&& (9223372036854775807 : Int64))), .second, .val (.int (i4 &&& (3 : Int32))), .val (.int v5_s0), .val (.ref b7), .unset, .unset, .unset] [(.int v5_s0)])) := fun t k => P146 t (by
              show Steps p.tables e below (T146.setTop (mkF m 104 #[.val (.long i0), .second, .val (.long i1), .second, .val (.long i2), .second, .val (.long i3), .second, .val (.int i4), .val (.long (i0 &&& (9223372036854775807 : Int64))), .second, .val (.long (i1 &&& (9223372036854775807 : Int64))), .second, .val (.long (i2 &&& (9223372036854775807 : Int64))), .second, .val (.long (i3 &&& (9223372036854775807 : Int64))), .second, .val (.int (i4 &&& (3 : Int32))), .val (.int v5_s0), .val (.ref b7), .unset, .unset, .unset] [])) t
              refine XS.iload X146.here hx rfl (hb hby at_104) rfl ?_
              show Steps p.tables e below (T146.setTop (mkF m 106 #[.val (.long i0), .second, .val (.long i1), .second, .val (.long i2), .second, .val (.long i3), .second, .val (.int i4), .val (.long (i0 &&& (9223372036854775807 : Int64))), .second, .val (.long (i1 &&& (9223372036854775807 : Int64))), .second, .val (.long (i2 &&& (9223372036854775807 : Int64))), .second, .val (.long (i3 &&& (9223372036854775807 : Int64))), .second, .val (.int (i4 &&& (3 : Int32))), .val (.int v5_s0), .val (.ref b7), .unset, .unset, .unset] [(.int v5_s0)])) t
              exact k)
            by_cases c148 : v5_s0 = (0 : Int32)
            · skip
              have P149 : own_Go p e below S0 (T146.setTop (mkF m 116 #[.val (.long i0), .second, .val (.long i1), .second, .val (.long i2), .second, .val (.long i3), .second, .val (.int i4), .val (.long (i0 &&& (9223372036854775807 : Int64))), .second, .val (.long (i1 &&& (9223372036854775807 : Int64))), .second, .val (.long (i2 &&& (9223372036854775807 : Int64))), .second, .val (.long (i3 &&& (9223372036854775807 : Int64))), .second, .val (.int (i4 &&& (3 : Int32))), .val (.int v5_s0), .val (.ref b7), .unset, .unset, .unset] [])) := fun t k => P147 t (by
                show Steps p.tables e below (T146.setTop (mkF m 106 #[.val (.long i0), .second, .val (.long i1), .second, .val (.long i2), .second, .val (.long i3), .second, .val (.int i4), .val (.long (i0 &&& (9223372036854775807 : Int64))), .second, .val (.long (i1 &&& (9223372036854775807 : Int64))), .second, .val (.long (i2 &&& (9223372036854775807 : Int64))), .second, .val (.long (i3 &&& (9223372036854775807 : Int64))), .second, .val (.int (i4 &&& (3 : Int32))), .val (.int v5_s0), .val (.ref b7), .unset, .unset, .unset] [(.int v5_s0)])) t
                refine XS.ifYes X146.here hx rfl (pc0 := 106) (pc' := 116) rfl (hb hby at_106) rfl ((if0 _ _).trans (teq c148).1) (by decide) (by decide) ?_
                show Steps p.tables e below (T146.setTop (mkF m 116 #[.val (.long i0), .second, .val (.long i1), .second, .val (.long i2), .second, .val (.long i3), .second, .val (.int i4), .val (.long (i0 &&& (9223372036854775807 : Int64))), .second, .val (.long (i1 &&& (9223372036854775807 : Int64))), .second, .val (.long (i2 &&& (9223372036854775807 : Int64))), .second, .val (.long (i3 &&& (9223372036854775807 : Int64))), .second, .val (.int (i4 &&& (3 : Int32))), .val (.int v5_s0), .val (.ref b7), .unset, .unset, .unset] [])) t
                exact k)
              have F150 : Sta Z T40.heap "java/math/BigInteger" "ZERO" "Ljava/math/BigInteger;" (.ref z0_ZERO) := own_staK F11 Kc40 (allS (own_plE F22) all0)
              have F151 : Sta Z T72.heap "java/math/BigInteger" "ZERO" "Ljava/math/BigInteger;" (.ref z0_ZERO) := own_staK F150 Kc72 (allS (own_plE F70) all0)
              have F152 : Sta Z T146.heap "java/math/BigInteger" "ZERO" "Ljava/math/BigInteger;" (.ref z0_ZERO) := own_staK F151 Kc146 (allS (own_plE F137) all0)
              have F153 : Exa Z T146.heap z0_ZERO "java/math/BigInteger" := F141.keep Kc146
              have F154 : Fld Z T146.heap z0_ZERO "java/math/BigInteger" "signum" "I" (.int (0 : Int32)) := F139.keep Kc146 (ninS ne_z0_ZERO_b7 nin0)
              have F155 : Sta Z T146.heap "java/math/BigInteger" "ONE" "Ljava/math/BigInteger;" (.ref z0_ONE) := own_staK F143 Kc146 (allS (own_plE F137) all0)
              have F156 : Exa Z T40.heap z0_ONE "java/math/BigInteger" := F19.keep Kc40
              have F157 : Exa Z T72.heap z0_ONE "java/math/BigInteger" := F156.keep Kc72
              have F158 : Exa Z T146.heap z0_ONE "java/math/BigInteger" := F157.keep Kc146
              have F159 : Fld Z T146.heap z0_ONE "java/math/BigInteger" "signum" "I" (.int (1 : Int32)) := F145.keep Kc146 (ninS ne_z0_ONE_b7 nin0)
              have F160 : Exa Z T146.heap b7 "dev/quotefuse/engine/WideCount" := F137.keep Kc146
              exact ⟨T146, _, T146.heap, ((((0 : Int64) + ((i0 &&& (9223372036854775807 : Int64)) * (i1 &&& (9223372036854775807 : Int64)))) + ((i0 &&& (9223372036854775807 : Int64)) * (i1 &&& (9223372036854775807 : Int64)))) + ((i0 &&& (9223372036854775807 : Int64)) * (i1 &&& (9223372036854775807 : Int64)))), (f5v_high (own_mh (i0 &&& (9223372036854775807 : Int64)) (i1 &&& (9223372036854775807 : Int64))) ((i0 &&& (9223372036854775807 : Int64)) * (i1 &&& (9223372036854775807 : Int64))) (((0 : Int64) + ((i0 &&& (9223372036854775807 : Int64)) * (i1 &&& (9223372036854775807 : Int64)))) + ((i0 &&& (9223372036854775807 : Int64)) * (i1 &&& (9223372036854775807 : Int64)))) (f5n_high (own_mh (i0 &&& (9223372036854775807 : Int64)) (i1 &&& (9223372036854775807 : Int64))) ((i0 &&& (9223372036854775807 : Int64)) * (i1 &&& (9223372036854775807 : Int64))) ((0 : Int64) + ((i0 &&& (9223372036854775807 : Int64)) * (i1 &&& (9223372036854775807 : Int64)))) ((0 : Int64) + ((own_mh (i0 &&& (9223372036854775807 : Int64)) (i1 &&& (9223372036854775807 : Int64))) + (0 : Int64))))), z0_ONE, X146, rfl, N146, K146, F152, F153, F154, F155, F158, F159, F160, F146_0, F146_1, F146_2, P149⟩
            · skip
              have F161 : Exa Z T146.heap b7 "dev/quotefuse/engine/WideCount" := F137.keep Kc146
              have P162 : own_Go p e below S0 (T146.setTop (mkF m 113 #[.val (.long i0), .second, .val (.long i1), .second, .val (.long i2), .second, .val (.long i3), .second, .val (.int i4), .val (.long (i0 &&& (9223372036854775807 : Int64))), .second, .val (.long (i1 &&& (9223372036854775807 : Int64))), .second, .val (.long (i2 &&& (9223372036854775807 : Int64))), .second, .val (.long (i3 &&& (9223372036854775807 : Int64))), .second, .val (.int (i4 &&& (3 : Int32))), .val (.int v5_s0), .val (.ref b7), .unset, .unset, .unset] [(.long (i2 &&& (9223372036854775807 : Int64))), (.ref b7)])) := fun t k => P147 t (by
                show Steps p.tables e below (T146.setTop (mkF m 106 #[.val (.long i0), .second, .val (.long i1), .second, .val (.long i2), .second, .val (.long i3), .second, .val (.int i4), .val (.long (i0 &&& (9223372036854775807 : Int64))), .second, .val (.long (i1 &&& (9223372036854775807 : Int64))), .second, .val (.long (i2 &&& (9223372036854775807 : Int64))), .second, .val (.long (i3 &&& (9223372036854775807 : Int64))), .second, .val (.int (i4 &&& (3 : Int32))), .val (.int v5_s0), .val (.ref b7), .unset, .unset, .unset] [(.int v5_s0)])) t
                refine XS.ifNo X146.here hx rfl (hb hby at_106) rfl ((if0 _ _).trans (feq c148).1) ?_
                refine XS.aload X146.here hx rfl (hb hby at_109) rfl rfl ?_
                refine XS.lload X146.here hx rfl (hb hby at_111) rfl ?_
                show Steps p.tables e below (T146.setTop (mkF m 113 #[.val (.long i0), .second, .val (.long i1), .second, .val (.long i2), .second, .val (.long i3), .second, .val (.int i4), .val (.long (i0 &&& (9223372036854775807 : Int64))), .second, .val (.long (i1 &&& (9223372036854775807 : Int64))), .second, .val (.long (i2 &&& (9223372036854775807 : Int64))), .second, .val (.long (i3 &&& (9223372036854775807 : Int64))), .second, .val (.int (i4 &&& (3 : Int32))), .val (.int v5_s0), .val (.ref b7), .unset, .unset, .unset] [(.long (i2 &&& (9223372036854775807 : Int64))), (.ref b7)])) t
                exact k)
              obtain ⟨cq163, kq163, q163a, q163b, q163c⟩ := isOf hZ rfl F161
              obtain ⟨_, _, ⟨T163, L163, k163, n163⟩, -, X163, ⟨Lc163, hQ163, l163, y163, z163⟩, st163⟩ := X146.virtualBack hx (y := (⟨"dev/quotefuse/engine/WideCount", "add", "(J)V"⟩ : MethodName)) (z := (⟨"dev/quotefuse/engine/WideCount", "add", "(J)V"⟩ : MethodName)) hown (mvT hZ (hw _ (List.mem_of_getElem? (i := 62) rfl))) (mvT hZ (hw _ (List.mem_of_getElem? (i := 63) rfl))) (notFace_of_selects (args := #[]) (mvT hZ (hw _ (List.mem_of_getElem? (i := 65) rfl)))) (mvT hZ (hw _ (List.mem_of_getElem? (i := 65) rfl))) (mvT hZ (hw _ (List.mem_of_getElem? (i := 64) rfl))) (by decide) (backOf (W := 0) (rm12n l Z a0 hw [] b7 (i2 &&& (9223372036854775807 : Int64)) ((((0 : Int64) + ((i0 &&& (9223372036854775807 : Int64)) * (i1 &&& (9223372036854775807 : Int64)))) + ((i0 &&& (9223372036854775807 : Int64)) * (i1 &&& (9223372036854775807 : Int64)))) + ((i0 &&& (9223372036854775807 : Int64)) * (i1 &&& (9223372036854775807 : Int64)))) (f5v_high (own_mh (i0 &&& (9223372036854775807 : Int64)) (i1 &&& (9223372036854775807 : Int64))) ((i0 &&& (9223372036854775807 : Int64)) * (i1 &&& (9223372036854775807 : Int64))) (((0 : Int64) + ((i0 &&& (9223372036854775807 : Int64)) * (i1 &&& (9223372036854775807 : Int64)))) + ((i0 &&& (9223372036854775807 : Int64)) * (i1 &&& (9223372036854775807 : Int64)))) (f5n_high (own_mh (i0 &&& (9223372036854775807 : Int64)) (i1 &&& (9223372036854775807 : Int64))) ((i0 &&& (9223372036854775807 : Int64)) * (i1 &&& (9223372036854775807 : Int64))) ((0 : Int64) + ((i0 &&& (9223372036854775807 : Int64)) * (i1 &&& (9223372036854775807 : Int64)))) ((0 : Int64) + ((own_mh (i0 &&& (9223372036854775807 : Int64)) (i1 &&& (9223372036854775807 : Int64))) + (0 : Int64))))) z0_ONE T146.heap n0 (Nat.le_trans Z0 K146.1) F146_0 F146_1 (own_nov (own_b3 hb2 hmh c136) own_z0) F146_2 F161 g_b7) hZ (hw _ (List.mem_of_getElem? (i := 66) rfl)) (hw _ (List.mem_of_getElem? (i := 3) rfl)) (by decide) (by decide)) q163a q163c (g := (mkF m 113 #[.val (.long i0), .second, .val (.long i1), .second, .val (.long i2), .second, .val (.long i3), .second, .val (.int i4), .val (.long (i0 &&& (9223372036854775807 : Int64))), .second, .val (.long (i1 &&& (9223372036854775807 : Int64))), .second, .val (.long (i2 &&& (9223372036854775807 : Int64))), .second, .val (.long (i3 &&& (9223372036854775807 : Int64))), .second, .val (.int (i4 &&& (3 : Int32))), .val (.int v5_s0), .val (.ref b7), .unset, .unset, .unset] [(.long (i2 &&& (9223372036854775807 : Int64))), (.ref b7)])) rfl (by rw [hml]; rfl) (Steps.refl _) (argsL := [(.long (i2 &&& (9223372036854775807 : Int64)))]) (rest := []) (lenOf pd_6 rfl) rfl (by show 2 * 0 + _ ≤ _; exact Nat.le_of_eq rfl) (hb hby at_113) (fun _ _ => ⟨rfl, rfl, (by decide : 1 + 0 ≤ _), (by decide : 3 + 0 ≤ _)⟩)
              dsimp only [Pt.U, Pt.locs, Pt.cells, Pt.slots] at X163 l163 y163 z163 st163 hQ163
              subst l163 y163 z163
              obtain ⟨rfl, N163q, Kc163, F163_0, F163_1, F163_2⟩ := hQ163
              have N163 := Fr.app N146 N163q
              have K163 : Keep h0 T163.heap [] := Keep.trans K146 Kc163 (allS (Or.inr o_b7) all0)
              have P163 : own_Go p e below S0 (T163.setTop (mkF m 116 #[.val (.long i0), .second, .val (.long i1), .second, .val (.long i2), .second, .val (.long i3), .second, .val (.int i4), .val (.long (i0 &&& (9223372036854775807 : Int64))), .second, .val (.long (i1 &&& (9223372036854775807 : Int64))), .second, .val (.long (i2 &&& (9223372036854775807 : Int64))), .second, .val (.long (i3 &&& (9223372036854775807 : Int64))), .second, .val (.int (i4 &&& (3 : Int32))), .val (.int v5_s0), .val (.ref b7), .unset, .unset, .unset] [])) := fun t k => P162 t (st163.trans k)
              have F164 : Sta Z T40.heap "java/math/BigInteger" "ZERO" "Ljava/math/BigInteger;" (.ref z0_ZERO) := own_staK F11 Kc40 (allS (own_plE F22) all0)
              have F165 : Sta Z T72.heap "java/math/BigInteger" "ZERO" "Ljava/math/BigInteger;" (.ref z0_ZERO) := own_staK F164 Kc72 (allS (own_plE F70) all0)
              have F166 : Sta Z T146.heap "java/math/BigInteger" "ZERO" "Ljava/math/BigInteger;" (.ref z0_ZERO) := own_staK F165 Kc146 (allS (own_plE F137) all0)
              have F167 : Sta Z T163.heap "java/math/BigInteger" "ZERO" "Ljava/math/BigInteger;" (.ref z0_ZERO) := own_staK F166 Kc163 (allS (own_plE F161) all0)
              have F168 : Exa Z T146.heap z0_ZERO "java/math/BigInteger" := F141.keep Kc146
              have F169 : Exa Z T163.heap z0_ZERO "java/math/BigInteger" := F168.keep Kc163
              have F170 : Fld Z T146.heap z0_ZERO "java/math/BigInteger" "signum" "I" (.int (0 : Int32)) := F139.keep Kc146 (ninS ne_z0_ZERO_b7 nin0)
              have F171 : Fld Z T163.heap z0_ZERO "java/math/BigInteger" "signum" "I" (.int (0 : Int32)) := F170.keep Kc163 (ninS ne_z0_ZERO_b7 nin0)
              have F172 : Sta Z T146.heap "java/math/BigInteger" "ONE" "Ljava/math/BigInteger;" (.ref z0_ONE) := own_staK F143 Kc146 (allS (own_plE F137) all0)
              have F173 : Sta Z T163.heap "java/math/BigInteger" "ONE" "Ljava/math/BigInteger;" (.ref z0_ONE) := own_staK F172 Kc163 (allS (own_plE F161) all0)
              have F174 : Exa Z T40.heap z0_ONE "java/math/BigInteger" := F19.keep Kc40
              have F175 : Exa Z T72.heap z0_ONE "java/math/BigInteger" := F174.keep Kc72
              have F176 : Exa Z T146.heap z0_ONE "java/math/BigInteger" := F175.keep Kc146
              have F177 : Exa Z T163.heap z0_ONE "java/math/BigInteger" := F176.keep Kc163
              have F178 : Fld Z T146.heap z0_ONE "java/math/BigInteger" "signum" "I" (.int (1 : Int32)) := F145.keep Kc146 (ninS ne_z0_ONE_b7 nin0)
              have F179 : Fld Z T163.heap z0_ONE "java/math/BigInteger" "signum" "I" (.int (1 : Int32)) := F178.keep Kc163 (ninS ne_z0_ONE_b7 nin0)
              have F180 : Exa Z T163.heap b7 "dev/quotefuse/engine/WideCount" := F161.keep Kc163
              exact ⟨T163, _, T163.heap, (((((0 : Int64) + ((i0 &&& (9223372036854775807 : Int64)) * (i1 &&& (9223372036854775807 : Int64)))) + ((i0 &&& (9223372036854775807 : Int64)) * (i1 &&& (9223372036854775807 : Int64)))) + ((i0 &&& (9223372036854775807 : Int64)) * (i1 &&& (9223372036854775807 : Int64)))) + (i2 &&& (9223372036854775807 : Int64))), (f5n_high (0 : Int64) (i2 &&& (9223372036854775807 : Int64)) ((((0 : Int64) + ((i0 &&& (9223372036854775807 : Int64)) * (i1 &&& (9223372036854775807 : Int64)))) + ((i0 &&& (9223372036854775807 : Int64)) * (i1 &&& (9223372036854775807 : Int64)))) + ((i0 &&& (9223372036854775807 : Int64)) * (i1 &&& (9223372036854775807 : Int64)))) (f5v_high (own_mh (i0 &&& (9223372036854775807 : Int64)) (i1 &&& (9223372036854775807 : Int64))) ((i0 &&& (9223372036854775807 : Int64)) * (i1 &&& (9223372036854775807 : Int64))) (((0 : Int64) + ((i0 &&& (9223372036854775807 : Int64)) * (i1 &&& (9223372036854775807 : Int64)))) + ((i0 &&& (9223372036854775807 : Int64)) * (i1 &&& (9223372036854775807 : Int64)))) (f5n_high (own_mh (i0 &&& (9223372036854775807 : Int64)) (i1 &&& (9223372036854775807 : Int64))) ((i0 &&& (9223372036854775807 : Int64)) * (i1 &&& (9223372036854775807 : Int64))) ((0 : Int64) + ((i0 &&& (9223372036854775807 : Int64)) * (i1 &&& (9223372036854775807 : Int64)))) ((0 : Int64) + ((own_mh (i0 &&& (9223372036854775807 : Int64)) (i1 &&& (9223372036854775807 : Int64))) + (0 : Int64)))))), z0_ONE, X163, rfl, N163, K163, F167, F169, F171, F173, F177, F179, F180, F163_0, F163_1, F163_2, P163⟩
          · skip
            have F181 : Exa Z T72.heap b7 "dev/quotefuse/engine/WideCount" := F70.keep Kc72
            obtain ⟨cq182, kq182, q182a, q182b, q182c⟩ := isOf hZ rfl F181
            obtain ⟨_, _, ⟨T182, L182, k182, n182⟩, -, X182, ⟨Lc182, hQ182, l182, y182, z182⟩, st182⟩ := X72.virtualBack hx (y := (⟨"dev/quotefuse/engine/WideCount", "addProduct", "(JJ)V"⟩ : MethodName)) (z := (⟨"dev/quotefuse/engine/WideCount", "addProduct", "(JJ)V"⟩ : MethodName)) hown (mvT hZ (hw _ (List.mem_of_getElem? (i := 14) rfl))) (mvT hZ (hw _ (List.mem_of_getElem? (i := 15) rfl))) (notFace_of_selects (args := #[]) (mvT hZ (hw _ (List.mem_of_getElem? (i := 17) rfl)))) (mvT hZ (hw _ (List.mem_of_getElem? (i := 17) rfl))) (mvT hZ (hw _ (List.mem_of_getElem? (i := 16) rfl))) (by decide) (backOf (W := 0) (rm3n l Z a0 hw [] b7 (i0 &&& (9223372036854775807 : Int64)) (i1 &&& (9223372036854775807 : Int64)) (((0 : Int64) + ((i0 &&& (9223372036854775807 : Int64)) * (i1 &&& (9223372036854775807 : Int64)))) + ((i0 &&& (9223372036854775807 : Int64)) * (i1 &&& (9223372036854775807 : Int64)))) (f5n_high (own_mh (i0 &&& (9223372036854775807 : Int64)) (i1 &&& (9223372036854775807 : Int64))) ((i0 &&& (9223372036854775807 : Int64)) * (i1 &&& (9223372036854775807 : Int64))) ((0 : Int64) + ((i0 &&& (9223372036854775807 : Int64)) * (i1 &&& (9223372036854775807 : Int64)))) ((0 : Int64) + ((own_mh (i0 &&& (9223372036854775807 : Int64)) (i1 &&& (9223372036854775807 : Int64))) + (0 : Int64)))) z0_ZERO T72.heap n0 (Nat.le_trans Z0 K72.1) F72_0 F72_1 (own_OVn c136) F72_2 F181 g_b7) hZ (hw _ (List.mem_of_getElem? (i := 18) rfl)) (hw _ (List.mem_of_getElem? (i := 3) rfl)) (by decide) (by decide)) q182a q182c (g := (mkF m 101 #[.val (.long i0), .second, .val (.long i1), .second, .val (.long i2), .second, .val (.long i3), .second, .val (.int i4), .val (.long (i0 &&& (9223372036854775807 : Int64))), .second, .val (.long (i1 &&& (9223372036854775807 : Int64))), .second, .val (.long (i2 &&& (9223372036854775807 : Int64))), .second, .val (.long (i3 &&& (9223372036854775807 : Int64))), .second, .val (.int (i4 &&& (3 : Int32))), .val (.int v5_s0), .val (.ref b7), .unset, .unset, .unset] [(.long (i1 &&& (9223372036854775807 : Int64))), (.long (i0 &&& (9223372036854775807 : Int64))), (.ref b7)])) rfl (by rw [hml]; rfl) (Steps.refl _) (argsL := [(.long (i0 &&& (9223372036854775807 : Int64))), (.long (i1 &&& (9223372036854775807 : Int64)))]) (rest := []) (lenOf pd_3 rfl) rfl (by show 2 * 0 + _ ≤ _; exact Nat.le_of_eq rfl) (hb hby at_101) (fun _ _ => ⟨rfl, rfl, (by decide : 1 + 0 ≤ _), (by decide : 3 + 0 ≤ _)⟩)
            dsimp only [Pt.U, Pt.locs, Pt.cells, Pt.slots] at X182 l182 y182 z182 st182 hQ182
            subst l182 y182 z182
            obtain ⟨rfl, N182q, Kc182, F182_0, F182_1, F182_2⟩ := hQ182
            have N182 := Fr.app N72 N182q
            have K182 : Keep h0 T182.heap [] := Keep.trans K72 Kc182 (allS (Or.inr o_b7) all0)
            have P182 : own_Go p e below S0 (T182.setTop (mkF m 104 #[.val (.long i0), .second, .val (.long i1), .second, .val (.long i2), .second, .val (.long i3), .second, .val (.int i4), .val (.long (i0 &&& (9223372036854775807 : Int64))), .second, .val (.long (i1 &&& (9223372036854775807 : Int64))), .second, .val (.long (i2 &&& (9223372036854775807 : Int64))), .second, .val (.long (i3 &&& (9223372036854775807 : Int64))), .second, .val (.int (i4 &&& (3 : Int32))), .val (.int v5_s0), .val (.ref b7), .unset, .unset, .unset] [])) := fun t k => P135 t (st182.trans k)
            have P183 : own_Go p e below S0 (T182.setTop (mkF m 106 #[.val (.long i0), .second, .val (.long i1), .second, .val (.long i2), .second, .val (.long i3), .second, .val (.int i4), .val (.long (i0 &&& (9223372036854775807 : Int64))), .second, .val (.long (i1 &&& (9223372036854775807 : Int64))), .second, .val (.long (i2 &&& (9223372036854775807 : Int64))), .second, .val (.long (i3 &&& (9223372036854775807 : Int64))), .second, .val (.int (i4 &&& (3 : Int32))), .val (.int v5_s0), .val (.ref b7), .unset, .unset, .unset] [(.int v5_s0)])) := fun t k => P182 t (by
              show Steps p.tables e below (T182.setTop (mkF m 104 #[.val (.long i0), .second, .val (.long i1), .second, .val (.long i2), .second, .val (.long i3), .second, .val (.int i4), .val (.long (i0 &&& (9223372036854775807 : Int64))), .second, .val (.long (i1 &&& (9223372036854775807 : Int64))), .second, .val (.long (i2 &&& (9223372036854775807 : Int64))), .second, .val (.long (i3 &&& (9223372036854775807 : Int64))), .second, .val (.int (i4 &&& (3 : Int32))), .val (.int v5_s0), .val (.ref b7), .unset, .unset, .unset] [])) t
              refine XS.iload X182.here hx rfl (hb hby at_104) rfl ?_
              show Steps p.tables e below (T182.setTop (mkF m 106 #[.val (.long i0), .second, .val (.long i1), .second, .val (.long i2), .second, .val (.long i3), .second, .val (.int i4), .val (.long (i0 &&& (9223372036854775807 : Int64))), .second, .val (.long (i1 &&& (9223372036854775807 : Int64))), .second, .val (.long (i2 &&& (9223372036854775807 : Int64))), .second, .val (.long (i3 &&& (9223372036854775807 : Int64))), .second, .val (.int (i4 &&& (3 : Int32))), .val (.int v5_s0), .val (.ref b7), .unset, .unset, .unset] [(.int v5_s0)])) t
              exact k)
            by_cases c184 : v5_s0 = (0 : Int32)
            · skip
              have P185 : own_Go p e below S0 (T182.setTop (mkF m 116 #[.val (.long i0), .second, .val (.long i1), .second, .val (.long i2), .second, .val (.long i3), .second, .val (.int i4), .val (.long (i0 &&& (9223372036854775807 : Int64))), .second, .val (.long (i1 &&& (9223372036854775807 : Int64))), .second, .val (.long (i2 &&& (9223372036854775807 : Int64))), .second, .val (.long (i3 &&& (9223372036854775807 : Int64))), .second, .val (.int (i4 &&& (3 : Int32))), .val (.int v5_s0), .val (.ref b7), .unset, .unset, .unset] [])) := fun t k => P183 t (by
                show Steps p.tables e below (T182.setTop (mkF m 106 #[.val (.long i0), .second, .val (.long i1), .second, .val (.long i2), .second, .val (.long i3), .second, .val (.int i4), .val (.long (i0 &&& (9223372036854775807 : Int64))), .second, .val (.long (i1 &&& (9223372036854775807 : Int64))), .second, .val (.long (i2 &&& (9223372036854775807 : Int64))), .second, .val (.long (i3 &&& (9223372036854775807 : Int64))), .second, .val (.int (i4 &&& (3 : Int32))), .val (.int v5_s0), .val (.ref b7), .unset, .unset, .unset] [(.int v5_s0)])) t
                refine XS.ifYes X182.here hx rfl (pc0 := 106) (pc' := 116) rfl (hb hby at_106) rfl ((if0 _ _).trans (teq c184).1) (by decide) (by decide) ?_
                show Steps p.tables e below (T182.setTop (mkF m 116 #[.val (.long i0), .second, .val (.long i1), .second, .val (.long i2), .second, .val (.long i3), .second, .val (.int i4), .val (.long (i0 &&& (9223372036854775807 : Int64))), .second, .val (.long (i1 &&& (9223372036854775807 : Int64))), .second, .val (.long (i2 &&& (9223372036854775807 : Int64))), .second, .val (.long (i3 &&& (9223372036854775807 : Int64))), .second, .val (.int (i4 &&& (3 : Int32))), .val (.int v5_s0), .val (.ref b7), .unset, .unset, .unset] [])) t
                exact k)
              have F186 : Sta Z T40.heap "java/math/BigInteger" "ZERO" "Ljava/math/BigInteger;" (.ref z0_ZERO) := own_staK F11 Kc40 (allS (own_plE F22) all0)
              have F187 : Sta Z T72.heap "java/math/BigInteger" "ZERO" "Ljava/math/BigInteger;" (.ref z0_ZERO) := own_staK F186 Kc72 (allS (own_plE F70) all0)
              have F188 : Sta Z T182.heap "java/math/BigInteger" "ZERO" "Ljava/math/BigInteger;" (.ref z0_ZERO) := own_staK F187 Kc182 (allS (own_plE F181) all0)
              have F189 : Exa Z T40.heap z0_ZERO "java/math/BigInteger" := F13.keep Kc40
              have F190 : Exa Z T72.heap z0_ZERO "java/math/BigInteger" := F189.keep Kc72
              have F191 : Exa Z T182.heap z0_ZERO "java/math/BigInteger" := F190.keep Kc182
              have F192 : Fld Z T40.heap z0_ZERO "java/math/BigInteger" "signum" "I" (.int (0 : Int32)) := F15.keep Kc40 (ninS ne_z0_ZERO_b7 nin0)
              have F193 : Fld Z T72.heap z0_ZERO "java/math/BigInteger" "signum" "I" (.int (0 : Int32)) := F192.keep Kc72 (ninS ne_z0_ZERO_b7 nin0)
              have F194 : Fld Z T182.heap z0_ZERO "java/math/BigInteger" "signum" "I" (.int (0 : Int32)) := F193.keep Kc182 (ninS ne_z0_ZERO_b7 nin0)
              have F195 : Sta Z T40.heap "java/math/BigInteger" "ONE" "Ljava/math/BigInteger;" (.ref z0_ONE) := own_staK F17 Kc40 (allS (own_plE F22) all0)
              have F196 : Sta Z T72.heap "java/math/BigInteger" "ONE" "Ljava/math/BigInteger;" (.ref z0_ONE) := own_staK F195 Kc72 (allS (own_plE F70) all0)
              have F197 : Sta Z T182.heap "java/math/BigInteger" "ONE" "Ljava/math/BigInteger;" (.ref z0_ONE) := own_staK F196 Kc182 (allS (own_plE F181) all0)
              have F198 : Exa Z T40.heap z0_ONE "java/math/BigInteger" := F19.keep Kc40
              have F199 : Exa Z T72.heap z0_ONE "java/math/BigInteger" := F198.keep Kc72
              have F200 : Exa Z T182.heap z0_ONE "java/math/BigInteger" := F199.keep Kc182
              have F201 : Fld Z T40.heap z0_ONE "java/math/BigInteger" "signum" "I" (.int (1 : Int32)) := F21.keep Kc40 (ninS ne_z0_ONE_b7 nin0)
              have F202 : Fld Z T72.heap z0_ONE "java/math/BigInteger" "signum" "I" (.int (1 : Int32)) := F201.keep Kc72 (ninS ne_z0_ONE_b7 nin0)
              have F203 : Fld Z T182.heap z0_ONE "java/math/BigInteger" "signum" "I" (.int (1 : Int32)) := F202.keep Kc182 (ninS ne_z0_ONE_b7 nin0)
              have F204 : Exa Z T182.heap b7 "dev/quotefuse/engine/WideCount" := F181.keep Kc182
              exact ⟨T182, _, T182.heap, ((((0 : Int64) + ((i0 &&& (9223372036854775807 : Int64)) * (i1 &&& (9223372036854775807 : Int64)))) + ((i0 &&& (9223372036854775807 : Int64)) * (i1 &&& (9223372036854775807 : Int64)))) + ((i0 &&& (9223372036854775807 : Int64)) * (i1 &&& (9223372036854775807 : Int64)))), (f5n_high (own_mh (i0 &&& (9223372036854775807 : Int64)) (i1 &&& (9223372036854775807 : Int64))) ((i0 &&& (9223372036854775807 : Int64)) * (i1 &&& (9223372036854775807 : Int64))) (((0 : Int64) + ((i0 &&& (9223372036854775807 : Int64)) * (i1 &&& (9223372036854775807 : Int64)))) + ((i0 &&& (9223372036854775807 : Int64)) * (i1 &&& (9223372036854775807 : Int64)))) (f5n_high (own_mh (i0 &&& (9223372036854775807 : Int64)) (i1 &&& (9223372036854775807 : Int64))) ((i0 &&& (9223372036854775807 : Int64)) * (i1 &&& (9223372036854775807 : Int64))) ((0 : Int64) + ((i0 &&& (9223372036854775807 : Int64)) * (i1 &&& (9223372036854775807 : Int64)))) ((0 : Int64) + ((own_mh (i0 &&& (9223372036854775807 : Int64)) (i1 &&& (9223372036854775807 : Int64))) + (0 : Int64))))), z0_ZERO, X182, rfl, N182, K182, F188, F191, F194, F197, F200, F203, F204, F182_0, F182_1, F182_2, P185⟩
            · skip
              have P205 : own_Go p e below S0 (T182.setTop (mkF m 113 #[.val (.long i0), .second, .val (.long i1), .second, .val (.long i2), .second, .val (.long i3), .second, .val (.int i4), .val (.long (i0 &&& (9223372036854775807 : Int64))), .second, .val (.long (i1 &&& (9223372036854775807 : Int64))), .second, .val (.long (i2 &&& (9223372036854775807 : Int64))), .second, .val (.long (i3 &&& (9223372036854775807 : Int64))), .second, .val (.int (i4 &&& (3 : Int32))), .val (.int v5_s0), .val (.ref b7), .unset, .unset, .unset] [(.long (i2 &&& (9223372036854775807 : Int64))), (.ref b7)])) := fun t k => P183 t (by
                show Steps p.tables e below (T182.setTop (mkF m 106 #[.val (.long i0), .second, .val (.long i1), .second, .val (.long i2), .second, .val (.long i3), .second, .val (.int i4), .val (.long (i0 &&& (9223372036854775807 : Int64))), .second, .val (.long (i1 &&& (9223372036854775807 : Int64))), .second, .val (.long (i2 &&& (9223372036854775807 : Int64))), .second, .val (.long (i3 &&& (9223372036854775807 : Int64))), .second, .val (.int (i4 &&& (3 : Int32))), .val (.int v5_s0), .val (.ref b7), .unset, .unset, .unset] [(.int v5_s0)])) t
                refine XS.ifNo X182.here hx rfl (hb hby at_106) rfl ((if0 _ _).trans (feq c184).1) ?_
                refine XS.aload X182.here hx rfl (hb hby at_109) rfl rfl ?_
                refine XS.lload X182.here hx rfl (hb hby at_111) rfl ?_
                show Steps p.tables e below (T182.setTop (mkF m 113 #[.val (.long i0), .second, .val (.long i1), .second, .val (.long i2), .second, .val (.long i3), .second, .val (.int i4), .val (.long (i0 &&& (9223372036854775807 : Int64))), .second, .val (.long (i1 &&& (9223372036854775807 : Int64))), .second, .val (.long (i2 &&& (9223372036854775807 : Int64))), .second, .val (.long (i3 &&& (9223372036854775807 : Int64))), .second, .val (.int (i4 &&& (3 : Int32))), .val (.int v5_s0), .val (.ref b7), .unset, .unset, .unset] [(.long (i2 &&& (9223372036854775807 : Int64))), (.ref b7)])) t
                exact k)
              by_cases c206 : own_OV ((own_cu (((((0 : Int64) + ((i0 &&& (9223372036854775807 : Int64)) * (i1 &&& (9223372036854775807 : Int64)))) + ((i0 &&& (9223372036854775807 : Int64)) * (i1 &&& (9223372036854775807 : Int64)))) + ((i0 &&& (9223372036854775807 : Int64)) * (i1 &&& (9223372036854775807 : Int64)))) + (i2 &&& (9223372036854775807 : Int64))) ((((0 : Int64) + ((i0 &&& (9223372036854775807 : Int64)) * (i1 &&& (9223372036854775807 : Int64)))) + ((i0 &&& (9223372036854775807 : Int64)) * (i1 &&& (9223372036854775807 : Int64)))) + ((i0 &&& (9223372036854775807 : Int64)) * (i1 &&& (9223372036854775807 : Int64))))) < (0 : Int32)) (f5n_high (own_mh (i0 &&& (9223372036854775807 : Int64)) (i1 &&& (9223372036854775807 : Int64))) ((i0 &&& (9223372036854775807 : Int64)) * (i1 &&& (9223372036854775807 : Int64))) (((0 : Int64) + ((i0 &&& (9223372036854775807 : Int64)) * (i1 &&& (9223372036854775807 : Int64)))) + ((i0 &&& (9223372036854775807 : Int64)) * (i1 &&& (9223372036854775807 : Int64)))) (f5n_high (own_mh (i0 &&& (9223372036854775807 : Int64)) (i1 &&& (9223372036854775807 : Int64))) ((i0 &&& (9223372036854775807 : Int64)) * (i1 &&& (9223372036854775807 : Int64))) ((0 : Int64) + ((i0 &&& (9223372036854775807 : Int64)) * (i1 &&& (9223372036854775807 : Int64)))) ((0 : Int64) + ((own_mh (i0 &&& (9223372036854775807 : Int64)) (i1 &&& (9223372036854775807 : Int64))) + (0 : Int64))))) (0 : Int64)
              · skip
                have F207 : Exa Z T182.heap b7 "dev/quotefuse/engine/WideCount" := F181.keep Kc182
                have F208 : Fld Z T40.heap z0_ZERO "java/math/BigInteger" "signum" "I" (.int (0 : Int32)) := F15.keep Kc40 (ninS ne_z0_ZERO_b7 nin0)
                have F209 : Fld Z T72.heap z0_ZERO "java/math/BigInteger" "signum" "I" (.int (0 : Int32)) := F208.keep Kc72 (ninS ne_z0_ZERO_b7 nin0)
                have F210 : Fld Z T182.heap z0_ZERO "java/math/BigInteger" "signum" "I" (.int (0 : Int32)) := F209.keep Kc182 (ninS ne_z0_ZERO_b7 nin0)
                have F211 : Exa Z T40.heap z0_ZERO "java/math/BigInteger" := F13.keep Kc40
                have F212 : Exa Z T72.heap z0_ZERO "java/math/BigInteger" := F211.keep Kc72
                have F213 : Exa Z T182.heap z0_ZERO "java/math/BigInteger" := F212.keep Kc182
                have F214 : Sta Z T40.heap "java/math/BigInteger" "ONE" "Ljava/math/BigInteger;" (.ref z0_ONE) := own_staK F17 Kc40 (allS (own_plE F22) all0)
                have F215 : Sta Z T72.heap "java/math/BigInteger" "ONE" "Ljava/math/BigInteger;" (.ref z0_ONE) := own_staK F214 Kc72 (allS (own_plE F70) all0)
                have F216 : Sta Z T182.heap "java/math/BigInteger" "ONE" "Ljava/math/BigInteger;" (.ref z0_ONE) := own_staK F215 Kc182 (allS (own_plE F181) all0)
                have F217 : Fld Z T40.heap z0_ONE "java/math/BigInteger" "signum" "I" (.int (1 : Int32)) := F21.keep Kc40 (ninS ne_z0_ONE_b7 nin0)
                have F218 : Fld Z T72.heap z0_ONE "java/math/BigInteger" "signum" "I" (.int (1 : Int32)) := F217.keep Kc72 (ninS ne_z0_ONE_b7 nin0)
                have F219 : Fld Z T182.heap z0_ONE "java/math/BigInteger" "signum" "I" (.int (1 : Int32)) := F218.keep Kc182 (ninS ne_z0_ONE_b7 nin0)
                obtain ⟨cq220, kq220, q220a, q220b, q220c⟩ := isOf hZ rfl F207
                obtain ⟨_, _, ⟨T220, L220, k220, n220⟩, -, X220, ⟨Lc220, hQ220, l220, y220, z220⟩, st220⟩ := X182.virtualBack hx (y := (⟨"dev/quotefuse/engine/WideCount", "add", "(J)V"⟩ : MethodName)) (z := (⟨"dev/quotefuse/engine/WideCount", "add", "(J)V"⟩ : MethodName)) hown (mvT hZ (hw _ (List.mem_of_getElem? (i := 62) rfl))) (mvT hZ (hw _ (List.mem_of_getElem? (i := 63) rfl))) (notFace_of_selects (args := #[]) (mvT hZ (hw _ (List.mem_of_getElem? (i := 65) rfl)))) (mvT hZ (hw _ (List.mem_of_getElem? (i := 65) rfl))) (mvT hZ (hw _ (List.mem_of_getElem? (i := 64) rfl))) (by decide) (backOf (W := 0) (rm12v l Z a0 hw [] b7 (i2 &&& (9223372036854775807 : Int64)) ((((0 : Int64) + ((i0 &&& (9223372036854775807 : Int64)) * (i1 &&& (9223372036854775807 : Int64)))) + ((i0 &&& (9223372036854775807 : Int64)) * (i1 &&& (9223372036854775807 : Int64)))) + ((i0 &&& (9223372036854775807 : Int64)) * (i1 &&& (9223372036854775807 : Int64)))) (f5n_high (own_mh (i0 &&& (9223372036854775807 : Int64)) (i1 &&& (9223372036854775807 : Int64))) ((i0 &&& (9223372036854775807 : Int64)) * (i1 &&& (9223372036854775807 : Int64))) (((0 : Int64) + ((i0 &&& (9223372036854775807 : Int64)) * (i1 &&& (9223372036854775807 : Int64)))) + ((i0 &&& (9223372036854775807 : Int64)) * (i1 &&& (9223372036854775807 : Int64)))) (f5n_high (own_mh (i0 &&& (9223372036854775807 : Int64)) (i1 &&& (9223372036854775807 : Int64))) ((i0 &&& (9223372036854775807 : Int64)) * (i1 &&& (9223372036854775807 : Int64))) ((0 : Int64) + ((i0 &&& (9223372036854775807 : Int64)) * (i1 &&& (9223372036854775807 : Int64)))) ((0 : Int64) + ((own_mh (i0 &&& (9223372036854775807 : Int64)) (i1 &&& (9223372036854775807 : Int64))) + (0 : Int64))))) z0_ZERO z0_ONE T182.heap n0 (Nat.le_trans Z0 K182.1) F182_0 F182_1 (own_OVv c206) F182_2 F210 F213 F216 F219 F207 g_b7 ne_z0_ZERO_b7 ne_z0_ONE_b7) hZ (hw _ (List.mem_of_getElem? (i := 66) rfl)) (hw _ (List.mem_of_getElem? (i := 3) rfl)) (by decide) (by decide)) q220a q220c (g := (mkF m 113 #[.val (.long i0), .second, .val (.long i1), .second, .val (.long i2), .second, .val (.long i3), .second, .val (.int i4), .val (.long (i0 &&& (9223372036854775807 : Int64))), .second, .val (.long (i1 &&& (9223372036854775807 : Int64))), .second, .val (.long (i2 &&& (9223372036854775807 : Int64))), .second, .val (.long (i3 &&& (9223372036854775807 : Int64))), .second, .val (.int (i4 &&& (3 : Int32))), .val (.int v5_s0), .val (.ref b7), .unset, .unset, .unset] [(.long (i2 &&& (9223372036854775807 : Int64))), (.ref b7)])) rfl (by rw [hml]; rfl) (Steps.refl _) (argsL := [(.long (i2 &&& (9223372036854775807 : Int64)))]) (rest := []) (lenOf pd_6 rfl) rfl (by show 2 * 0 + _ ≤ _; exact Nat.le_of_eq rfl) (hb hby at_113) (fun _ _ => ⟨rfl, rfl, (by decide : 1 + 0 ≤ _), (by decide : 3 + 0 ≤ _)⟩)
                dsimp only [Pt.U, Pt.locs, Pt.cells, Pt.slots] at X220 l220 y220 z220 st220 hQ220
                subst l220 y220 z220
                obtain ⟨rfl, N220q, Kc220, F220_0, F220_1, F220_2⟩ := hQ220
                have N220 := Fr.app N182 N220q
                have K220 : Keep h0 T220.heap [] := Keep.trans K182 Kc220 (allS (Or.inr o_b7) all0)
                have P220 : own_Go p e below S0 (T220.setTop (mkF m 116 #[.val (.long i0), .second, .val (.long i1), .second, .val (.long i2), .second, .val (.long i3), .second, .val (.int i4), .val (.long (i0 &&& (9223372036854775807 : Int64))), .second, .val (.long (i1 &&& (9223372036854775807 : Int64))), .second, .val (.long (i2 &&& (9223372036854775807 : Int64))), .second, .val (.long (i3 &&& (9223372036854775807 : Int64))), .second, .val (.int (i4 &&& (3 : Int32))), .val (.int v5_s0), .val (.ref b7), .unset, .unset, .unset] [])) := fun t k => P205 t (st220.trans k)
                have F221 : Sta Z T40.heap "java/math/BigInteger" "ZERO" "Ljava/math/BigInteger;" (.ref z0_ZERO) := own_staK F11 Kc40 (allS (own_plE F22) all0)
                have F222 : Sta Z T72.heap "java/math/BigInteger" "ZERO" "Ljava/math/BigInteger;" (.ref z0_ZERO) := own_staK F221 Kc72 (allS (own_plE F70) all0)
                have F223 : Sta Z T182.heap "java/math/BigInteger" "ZERO" "Ljava/math/BigInteger;" (.ref z0_ZERO) := own_staK F222 Kc182 (allS (own_plE F181) all0)
                have F224 : Sta Z T220.heap "java/math/BigInteger" "ZERO" "Ljava/math/BigInteger;" (.ref z0_ZERO) := own_staK F223 Kc220 (allS (own_plE F207) all0)
                have F225 : Exa Z T220.heap z0_ZERO "java/math/BigInteger" := F213.keep Kc220
                have F226 : Fld Z T220.heap z0_ZERO "java/math/BigInteger" "signum" "I" (.int (0 : Int32)) := F210.keep Kc220 (ninS ne_z0_ZERO_b7 nin0)
                have F227 : Sta Z T220.heap "java/math/BigInteger" "ONE" "Ljava/math/BigInteger;" (.ref z0_ONE) := own_staK F216 Kc220 (allS (own_plE F207) all0)
                have F228 : Exa Z T40.heap z0_ONE "java/math/BigInteger" := F19.keep Kc40
                have F229 : Exa Z T72.heap z0_ONE "java/math/BigInteger" := F228.keep Kc72
                have F230 : Exa Z T182.heap z0_ONE "java/math/BigInteger" := F229.keep Kc182
                have F231 : Exa Z T220.heap z0_ONE "java/math/BigInteger" := F230.keep Kc220
                have F232 : Fld Z T220.heap z0_ONE "java/math/BigInteger" "signum" "I" (.int (1 : Int32)) := F219.keep Kc220 (ninS ne_z0_ONE_b7 nin0)
                have F233 : Exa Z T220.heap b7 "dev/quotefuse/engine/WideCount" := F207.keep Kc220
                exact ⟨T220, _, T220.heap, (((((0 : Int64) + ((i0 &&& (9223372036854775807 : Int64)) * (i1 &&& (9223372036854775807 : Int64)))) + ((i0 &&& (9223372036854775807 : Int64)) * (i1 &&& (9223372036854775807 : Int64)))) + ((i0 &&& (9223372036854775807 : Int64)) * (i1 &&& (9223372036854775807 : Int64)))) + (i2 &&& (9223372036854775807 : Int64))), (f5v_high (0 : Int64) (i2 &&& (9223372036854775807 : Int64)) ((((0 : Int64) + ((i0 &&& (9223372036854775807 : Int64)) * (i1 &&& (9223372036854775807 : Int64)))) + ((i0 &&& (9223372036854775807 : Int64)) * (i1 &&& (9223372036854775807 : Int64)))) + ((i0 &&& (9223372036854775807 : Int64)) * (i1 &&& (9223372036854775807 : Int64)))) (f5n_high (own_mh (i0 &&& (9223372036854775807 : Int64)) (i1 &&& (9223372036854775807 : Int64))) ((i0 &&& (9223372036854775807 : Int64)) * (i1 &&& (9223372036854775807 : Int64))) (((0 : Int64) + ((i0 &&& (9223372036854775807 : Int64)) * (i1 &&& (9223372036854775807 : Int64)))) + ((i0 &&& (9223372036854775807 : Int64)) * (i1 &&& (9223372036854775807 : Int64)))) (f5n_high (own_mh (i0 &&& (9223372036854775807 : Int64)) (i1 &&& (9223372036854775807 : Int64))) ((i0 &&& (9223372036854775807 : Int64)) * (i1 &&& (9223372036854775807 : Int64))) ((0 : Int64) + ((i0 &&& (9223372036854775807 : Int64)) * (i1 &&& (9223372036854775807 : Int64)))) ((0 : Int64) + ((own_mh (i0 &&& (9223372036854775807 : Int64)) (i1 &&& (9223372036854775807 : Int64))) + (0 : Int64)))))), z0_ONE, X220, rfl, N220, K220, F224, F225, F226, F227, F231, F232, F233, F220_0, F220_1, F220_2, P220⟩
              · skip
                have F234 : Exa Z T182.heap b7 "dev/quotefuse/engine/WideCount" := F181.keep Kc182
                obtain ⟨cq235, kq235, q235a, q235b, q235c⟩ := isOf hZ rfl F234
                obtain ⟨_, _, ⟨T235, L235, k235, n235⟩, -, X235, ⟨Lc235, hQ235, l235, y235, z235⟩, st235⟩ := X182.virtualBack hx (y := (⟨"dev/quotefuse/engine/WideCount", "add", "(J)V"⟩ : MethodName)) (z := (⟨"dev/quotefuse/engine/WideCount", "add", "(J)V"⟩ : MethodName)) hown (mvT hZ (hw _ (List.mem_of_getElem? (i := 62) rfl))) (mvT hZ (hw _ (List.mem_of_getElem? (i := 63) rfl))) (notFace_of_selects (args := #[]) (mvT hZ (hw _ (List.mem_of_getElem? (i := 65) rfl)))) (mvT hZ (hw _ (List.mem_of_getElem? (i := 65) rfl))) (mvT hZ (hw _ (List.mem_of_getElem? (i := 64) rfl))) (by decide) (backOf (W := 0) (rm12n l Z a0 hw [] b7 (i2 &&& (9223372036854775807 : Int64)) ((((0 : Int64) + ((i0 &&& (9223372036854775807 : Int64)) * (i1 &&& (9223372036854775807 : Int64)))) + ((i0 &&& (9223372036854775807 : Int64)) * (i1 &&& (9223372036854775807 : Int64)))) + ((i0 &&& (9223372036854775807 : Int64)) * (i1 &&& (9223372036854775807 : Int64)))) (f5n_high (own_mh (i0 &&& (9223372036854775807 : Int64)) (i1 &&& (9223372036854775807 : Int64))) ((i0 &&& (9223372036854775807 : Int64)) * (i1 &&& (9223372036854775807 : Int64))) (((0 : Int64) + ((i0 &&& (9223372036854775807 : Int64)) * (i1 &&& (9223372036854775807 : Int64)))) + ((i0 &&& (9223372036854775807 : Int64)) * (i1 &&& (9223372036854775807 : Int64)))) (f5n_high (own_mh (i0 &&& (9223372036854775807 : Int64)) (i1 &&& (9223372036854775807 : Int64))) ((i0 &&& (9223372036854775807 : Int64)) * (i1 &&& (9223372036854775807 : Int64))) ((0 : Int64) + ((i0 &&& (9223372036854775807 : Int64)) * (i1 &&& (9223372036854775807 : Int64)))) ((0 : Int64) + ((own_mh (i0 &&& (9223372036854775807 : Int64)) (i1 &&& (9223372036854775807 : Int64))) + (0 : Int64))))) z0_ZERO T182.heap n0 (Nat.le_trans Z0 K182.1) F182_0 F182_1 (own_OVn c206) F182_2 F234 g_b7) hZ (hw _ (List.mem_of_getElem? (i := 66) rfl)) (hw _ (List.mem_of_getElem? (i := 3) rfl)) (by decide) (by decide)) q235a q235c (g := (mkF m 113 #[.val (.long i0), .second, .val (.long i1), .second, .val (.long i2), .second, .val (.long i3), .second, .val (.int i4), .val (.long (i0 &&& (9223372036854775807 : Int64))), .second, .val (.long (i1 &&& (9223372036854775807 : Int64))), .second, .val (.long (i2 &&& (9223372036854775807 : Int64))), .second, .val (.long (i3 &&& (9223372036854775807 : Int64))), .second, .val (.int (i4 &&& (3 : Int32))), .val (.int v5_s0), .val (.ref b7), .unset, .unset, .unset] [(.long (i2 &&& (9223372036854775807 : Int64))), (.ref b7)])) rfl (by rw [hml]; rfl) (Steps.refl _) (argsL := [(.long (i2 &&& (9223372036854775807 : Int64)))]) (rest := []) (lenOf pd_6 rfl) rfl (by show 2 * 0 + _ ≤ _; exact Nat.le_of_eq rfl) (hb hby at_113) (fun _ _ => ⟨rfl, rfl, (by decide : 1 + 0 ≤ _), (by decide : 3 + 0 ≤ _)⟩)
                dsimp only [Pt.U, Pt.locs, Pt.cells, Pt.slots] at X235 l235 y235 z235 st235 hQ235
                subst l235 y235 z235
                obtain ⟨rfl, N235q, Kc235, F235_0, F235_1, F235_2⟩ := hQ235
                have N235 := Fr.app N182 N235q
                have K235 : Keep h0 T235.heap [] := Keep.trans K182 Kc235 (allS (Or.inr o_b7) all0)
                have P235 : own_Go p e below S0 (T235.setTop (mkF m 116 #[.val (.long i0), .second, .val (.long i1), .second, .val (.long i2), .second, .val (.long i3), .second, .val (.int i4), .val (.long (i0 &&& (9223372036854775807 : Int64))), .second, .val (.long (i1 &&& (9223372036854775807 : Int64))), .second, .val (.long (i2 &&& (9223372036854775807 : Int64))), .second, .val (.long (i3 &&& (9223372036854775807 : Int64))), .second, .val (.int (i4 &&& (3 : Int32))), .val (.int v5_s0), .val (.ref b7), .unset, .unset, .unset] [])) := fun t k => P205 t (st235.trans k)
                have F236 : Sta Z T40.heap "java/math/BigInteger" "ZERO" "Ljava/math/BigInteger;" (.ref z0_ZERO) := own_staK F11 Kc40 (allS (own_plE F22) all0)
                have F237 : Sta Z T72.heap "java/math/BigInteger" "ZERO" "Ljava/math/BigInteger;" (.ref z0_ZERO) := own_staK F236 Kc72 (allS (own_plE F70) all0)
                have F238 : Sta Z T182.heap "java/math/BigInteger" "ZERO" "Ljava/math/BigInteger;" (.ref z0_ZERO) := own_staK F237 Kc182 (allS (own_plE F181) all0)
                have F239 : Sta Z T235.heap "java/math/BigInteger" "ZERO" "Ljava/math/BigInteger;" (.ref z0_ZERO) := own_staK F238 Kc235 (allS (own_plE F234) all0)
                have F240 : Exa Z T40.heap z0_ZERO "java/math/BigInteger" := F13.keep Kc40
                have F241 : Exa Z T72.heap z0_ZERO "java/math/BigInteger" := F240.keep Kc72
                have F242 : Exa Z T182.heap z0_ZERO "java/math/BigInteger" := F241.keep Kc182
                have F243 : Exa Z T235.heap z0_ZERO "java/math/BigInteger" := F242.keep Kc235
                have F244 : Fld Z T40.heap z0_ZERO "java/math/BigInteger" "signum" "I" (.int (0 : Int32)) := F15.keep Kc40 (ninS ne_z0_ZERO_b7 nin0)
                have F245 : Fld Z T72.heap z0_ZERO "java/math/BigInteger" "signum" "I" (.int (0 : Int32)) := F244.keep Kc72 (ninS ne_z0_ZERO_b7 nin0)
                have F246 : Fld Z T182.heap z0_ZERO "java/math/BigInteger" "signum" "I" (.int (0 : Int32)) := F245.keep Kc182 (ninS ne_z0_ZERO_b7 nin0)
                have F247 : Fld Z T235.heap z0_ZERO "java/math/BigInteger" "signum" "I" (.int (0 : Int32)) := F246.keep Kc235 (ninS ne_z0_ZERO_b7 nin0)
                have F248 : Sta Z T40.heap "java/math/BigInteger" "ONE" "Ljava/math/BigInteger;" (.ref z0_ONE) := own_staK F17 Kc40 (allS (own_plE F22) all0)
                have F249 : Sta Z T72.heap "java/math/BigInteger" "ONE" "Ljava/math/BigInteger;" (.ref z0_ONE) := own_staK F248 Kc72 (allS (own_plE F70) all0)
                have F250 : Sta Z T182.heap "java/math/BigInteger" "ONE" "Ljava/math/BigInteger;" (.ref z0_ONE) := own_staK F249 Kc182 (allS (own_plE F181) all0)
                have F251 : Sta Z T235.heap "java/math/BigInteger" "ONE" "Ljava/math/BigInteger;" (.ref z0_ONE) := own_staK F250 Kc235 (allS (own_plE F234) all0)
                have F252 : Exa Z T40.heap z0_ONE "java/math/BigInteger" := F19.keep Kc40
                have F253 : Exa Z T72.heap z0_ONE "java/math/BigInteger" := F252.keep Kc72
                have F254 : Exa Z T182.heap z0_ONE "java/math/BigInteger" := F253.keep Kc182
                have F255 : Exa Z T235.heap z0_ONE "java/math/BigInteger" := F254.keep Kc235
                have F256 : Fld Z T40.heap z0_ONE "java/math/BigInteger" "signum" "I" (.int (1 : Int32)) := F21.keep Kc40 (ninS ne_z0_ONE_b7 nin0)
                have F257 : Fld Z T72.heap z0_ONE "java/math/BigInteger" "signum" "I" (.int (1 : Int32)) := F256.keep Kc72 (ninS ne_z0_ONE_b7 nin0)
                have F258 : Fld Z T182.heap z0_ONE "java/math/BigInteger" "signum" "I" (.int (1 : Int32)) := F257.keep Kc182 (ninS ne_z0_ONE_b7 nin0)
                have F259 : Fld Z T235.heap z0_ONE "java/math/BigInteger" "signum" "I" (.int (1 : Int32)) := F258.keep Kc235 (ninS ne_z0_ONE_b7 nin0)
                have F260 : Exa Z T235.heap b7 "dev/quotefuse/engine/WideCount" := F234.keep Kc235
                exact ⟨T235, _, T235.heap, (((((0 : Int64) + ((i0 &&& (9223372036854775807 : Int64)) * (i1 &&& (9223372036854775807 : Int64)))) + ((i0 &&& (9223372036854775807 : Int64)) * (i1 &&& (9223372036854775807 : Int64)))) + ((i0 &&& (9223372036854775807 : Int64)) * (i1 &&& (9223372036854775807 : Int64)))) + (i2 &&& (9223372036854775807 : Int64))), (f5n_high (0 : Int64) (i2 &&& (9223372036854775807 : Int64)) ((((0 : Int64) + ((i0 &&& (9223372036854775807 : Int64)) * (i1 &&& (9223372036854775807 : Int64)))) + ((i0 &&& (9223372036854775807 : Int64)) * (i1 &&& (9223372036854775807 : Int64)))) + ((i0 &&& (9223372036854775807 : Int64)) * (i1 &&& (9223372036854775807 : Int64)))) (f5n_high (own_mh (i0 &&& (9223372036854775807 : Int64)) (i1 &&& (9223372036854775807 : Int64))) ((i0 &&& (9223372036854775807 : Int64)) * (i1 &&& (9223372036854775807 : Int64))) (((0 : Int64) + ((i0 &&& (9223372036854775807 : Int64)) * (i1 &&& (9223372036854775807 : Int64)))) + ((i0 &&& (9223372036854775807 : Int64)) * (i1 &&& (9223372036854775807 : Int64)))) (f5n_high (own_mh (i0 &&& (9223372036854775807 : Int64)) (i1 &&& (9223372036854775807 : Int64))) ((i0 &&& (9223372036854775807 : Int64)) * (i1 &&& (9223372036854775807 : Int64))) ((0 : Int64) + ((i0 &&& (9223372036854775807 : Int64)) * (i1 &&& (9223372036854775807 : Int64)))) ((0 : Int64) + ((own_mh (i0 &&& (9223372036854775807 : Int64)) (i1 &&& (9223372036854775807 : Int64))) + (0 : Int64)))))), z0_ZERO, X235, rfl, N235, K235, F239, F243, F247, F251, F255, F259, F260, F235_0, F235_1, F235_2, P235⟩
  have P272 : own_Go p e below S0 (T261.setTop (mkF m 118 #[.val (.long i0), .second, .val (.long i1), .second, .val (.long i2), .second, .val (.long i3), .second, .val (.int i4), .val (.long (i0 &&& (9223372036854775807 : Int64))), .second, .val (.long (i1 &&& (9223372036854775807 : Int64))), .second, .val (.long (i2 &&& (9223372036854775807 : Int64))), .second, .val (.long (i3 &&& (9223372036854775807 : Int64))), .second, .val (.int (i4 &&& (3 : Int32))), .val (.int v5_s0), .val (.ref b7), .unset, .unset, .unset] [(.ref b7)])) := fun t k => P261 t (by
    show Steps p.tables e below (T261.setTop (mkF m 116 #[.val (.long i0), .second, .val (.long i1), .second, .val (.long i2), .second, .val (.long i3), .second, .val (.int i4), .val (.long (i0 &&& (9223372036854775807 : Int64))), .second, .val (.long (i1 &&& (9223372036854775807 : Int64))), .second, .val (.long (i2 &&& (9223372036854775807 : Int64))), .second, .val (.long (i3 &&& (9223372036854775807 : Int64))), .second, .val (.int (i4 &&& (3 : Int32))), .val (.int v5_s0), .val (.ref b7), .unset, .unset, .unset] [])) t
    refine XS.aload X261.here hx rfl (hb hby at_116) rfl rfl ?_
    show Steps p.tables e below (T261.setTop (mkF m 118 #[.val (.long i0), .second, .val (.long i1), .second, .val (.long i2), .second, .val (.long i3), .second, .val (.int i4), .val (.long (i0 &&& (9223372036854775807 : Int64))), .second, .val (.long (i1 &&& (9223372036854775807 : Int64))), .second, .val (.long (i2 &&& (9223372036854775807 : Int64))), .second, .val (.long (i3 &&& (9223372036854775807 : Int64))), .second, .val (.int (i4 &&& (3 : Int32))), .val (.int v5_s0), .val (.ref b7), .unset, .unset, .unset] [(.ref b7)])) t
    exact k)
  obtain ⟨cq273, kq273, q273a, q273b, q273c⟩ := isOf hZ e261 F268
  obtain ⟨_, _, ⟨T273, L273, k273, n273⟩, -, X273, ⟨Lc273, hQ273, l273, y273, z273⟩, st273⟩ := X261.virtualBack hx (y := (⟨"dev/quotefuse/engine/WideCount", "clear", "()V"⟩ : MethodName)) (z := (⟨"dev/quotefuse/engine/WideCount", "clear", "()V"⟩ : MethodName)) hown (mvT hZ (hw _ (List.mem_of_getElem? (i := 40) rfl))) (mvT hZ (hw _ (List.mem_of_getElem? (i := 41) rfl))) (notFace_of_selects (args := #[]) (mvT hZ (hw _ (List.mem_of_getElem? (i := 43) rfl)))) (mvT hZ (hw _ (List.mem_of_getElem? (i := 43) rfl))) (mvT hZ (hw _ (List.mem_of_getElem? (i := 42) rfl))) (by decide) (backOf (W := 0) (rm8 l Z a0 hw [] b7 z0_ZERO (.ref v261_f_beyond) (.long v261_f_high) (.long v261_f_low) h261 n0 (Nat.le_trans Z0 K261.1) F262 F268 F271 g_b7 F270 F269) hZ (hw _ (List.mem_of_getElem? (i := 44) rfl)) (hw _ (List.mem_of_getElem? (i := 3) rfl)) (by decide) (by decide)) q273a q273c (g := (mkF m 118 #[.val (.long i0), .second, .val (.long i1), .second, .val (.long i2), .second, .val (.long i3), .second, .val (.int i4), .val (.long (i0 &&& (9223372036854775807 : Int64))), .second, .val (.long (i1 &&& (9223372036854775807 : Int64))), .second, .val (.long (i2 &&& (9223372036854775807 : Int64))), .second, .val (.long (i3 &&& (9223372036854775807 : Int64))), .second, .val (.int (i4 &&& (3 : Int32))), .val (.int v5_s0), .val (.ref b7), .unset, .unset, .unset] [(.ref b7)])) rfl (by rw [hml]; rfl) (Steps.refl _) (argsL := []) (rest := []) (lenOf pd_5 rfl) rfl (by show 2 * 0 + _ ≤ _; exact Nat.le_of_eq rfl) (hb hby at_118) (fun _ _ => ⟨rfl, e261, (by decide : 1 + 0 ≤ _), (by decide : 3 + 0 ≤ _)⟩)
  dsimp only [Pt.U, Pt.locs, Pt.cells, Pt.slots] at X273 l273 y273 z273 st273 hQ273
  subst l273 y273 z273
  obtain ⟨rfl, N273q, Kc273, F273_0, F273_1, F273_2⟩ := hQ273
  have N273 := Fr.app N261 N273q
  have K273 : Keep h0 T273.heap [] := Keep.trans K261 Kc273 (allS (Or.inr o_b7) all0)
  have P273 : own_Go p e below S0 (T273.setTop (mkF m 121 #[.val (.long i0), .second, .val (.long i1), .second, .val (.long i2), .second, .val (.long i3), .second, .val (.int i4), .val (.long (i0 &&& (9223372036854775807 : Int64))), .second, .val (.long (i1 &&& (9223372036854775807 : Int64))), .second, .val (.long (i2 &&& (9223372036854775807 : Int64))), .second, .val (.long (i3 &&& (9223372036854775807 : Int64))), .second, .val (.int (i4 &&& (3 : Int32))), .val (.int v5_s0), .val (.ref b7), .unset, .unset, .unset] [])) := fun t k => P272 t (st273.trans k)
  have F274 : Exa Z T273.heap b7 "dev/quotefuse/engine/WideCount" := F268.keep Kc273
  have F275 : Fld Z T273.heap z0_ZERO "java/math/BigInteger" "signum" "I" (.int (0 : Int32)) := F264.keep Kc273 (ninS ne_z0_ZERO_b7 nin0)
  have F276 : Exa Z T273.heap z0_ZERO "java/math/BigInteger" := F263.keep Kc273
  have P277 : own_Go p e below S0 (T273.setTop (mkF m 123 #[.val (.long i0), .second, .val (.long i1), .second, .val (.long i2), .second, .val (.long i3), .second, .val (.int i4), .val (.long (i0 &&& (9223372036854775807 : Int64))), .second, .val (.long (i1 &&& (9223372036854775807 : Int64))), .second, .val (.long (i2 &&& (9223372036854775807 : Int64))), .second, .val (.long (i3 &&& (9223372036854775807 : Int64))), .second, .val (.int (i4 &&& (3 : Int32))), .val (.int v5_s0), .val (.ref b7), .unset, .unset, .unset] [(.ref b7)])) := fun t k => P273 t (by
    show Steps p.tables e below (T273.setTop (mkF m 121 #[.val (.long i0), .second, .val (.long i1), .second, .val (.long i2), .second, .val (.long i3), .second, .val (.int i4), .val (.long (i0 &&& (9223372036854775807 : Int64))), .second, .val (.long (i1 &&& (9223372036854775807 : Int64))), .second, .val (.long (i2 &&& (9223372036854775807 : Int64))), .second, .val (.long (i3 &&& (9223372036854775807 : Int64))), .second, .val (.int (i4 &&& (3 : Int32))), .val (.int v5_s0), .val (.ref b7), .unset, .unset, .unset] [])) t
    refine XS.aload X273.here hx rfl (hb hby at_121) rfl rfl ?_
    show Steps p.tables e below (T273.setTop (mkF m 123 #[.val (.long i0), .second, .val (.long i1), .second, .val (.long i2), .second, .val (.long i3), .second, .val (.int i4), .val (.long (i0 &&& (9223372036854775807 : Int64))), .second, .val (.long (i1 &&& (9223372036854775807 : Int64))), .second, .val (.long (i2 &&& (9223372036854775807 : Int64))), .second, .val (.long (i3 &&& (9223372036854775807 : Int64))), .second, .val (.int (i4 &&& (3 : Int32))), .val (.int v5_s0), .val (.ref b7), .unset, .unset, .unset] [(.ref b7)])) t
    exact k)
  obtain ⟨cq278, kq278, q278a, q278b, q278c⟩ := isOf hZ rfl F274
  obtain ⟨_, _, ⟨T278, L278, k278, n278⟩, -, X278, ⟨Lc278, hQ278, l278, y278, z278⟩, st278⟩ := X273.virtualBack hx (y := (⟨"dev/quotefuse/engine/WideCount", "narrowValue", "()J"⟩ : MethodName)) (z := (⟨"dev/quotefuse/engine/WideCount", "narrowValue", "()J"⟩ : MethodName)) hown (mvT hZ (hw _ (List.mem_of_getElem? (i := 45) rfl))) (mvT hZ (hw _ (List.mem_of_getElem? (i := 46) rfl))) (notFace_of_selects (args := #[]) (mvT hZ (hw _ (List.mem_of_getElem? (i := 48) rfl)))) (mvT hZ (hw _ (List.mem_of_getElem? (i := 48) rfl))) (mvT hZ (hw _ (List.mem_of_getElem? (i := 47) rfl))) (by decide) (backOf (W := 0) (rm9z l Z a0 hw [] b7 z0_ZERO T273.heap n0 (Nat.le_trans Z0 K273.1) F273_0 F275 F276 F273_1 F273_2) hZ (hw _ (List.mem_of_getElem? (i := 49) rfl)) (hw _ (List.mem_of_getElem? (i := 3) rfl)) (by decide) (by decide)) q278a q278c (g := (mkF m 123 #[.val (.long i0), .second, .val (.long i1), .second, .val (.long i2), .second, .val (.long i3), .second, .val (.int i4), .val (.long (i0 &&& (9223372036854775807 : Int64))), .second, .val (.long (i1 &&& (9223372036854775807 : Int64))), .second, .val (.long (i2 &&& (9223372036854775807 : Int64))), .second, .val (.long (i3 &&& (9223372036854775807 : Int64))), .second, .val (.int (i4 &&& (3 : Int32))), .val (.int v5_s0), .val (.ref b7), .unset, .unset, .unset] [(.ref b7)])) rfl (by rw [hml]; rfl) (Steps.refl _) (argsL := []) (rest := []) (lenOf pd_7 rfl) rfl (by show 2 * 0 + _ ≤ _; exact Nat.le_of_eq rfl) (hb hby at_123) (fun _ _ => ⟨rfl, rfl, (by decide : 1 + 0 ≤ _), (by decide : 3 + 0 ≤ _)⟩)
  dsimp only [Pt.U, Pt.locs, Pt.cells, Pt.slots] at X278 l278 y278 z278 st278 hQ278
  subst l278 y278 z278
  obtain ⟨rfl, N278q, e278⟩ := hQ278
  have N278 := Fr.app N273 N278q
  have P278 : own_Go p e below S0 (T278.setTop (mkF m 126 #[.val (.long i0), .second, .val (.long i1), .second, .val (.long i2), .second, .val (.long i3), .second, .val (.int i4), .val (.long (i0 &&& (9223372036854775807 : Int64))), .second, .val (.long (i1 &&& (9223372036854775807 : Int64))), .second, .val (.long (i2 &&& (9223372036854775807 : Int64))), .second, .val (.long (i3 &&& (9223372036854775807 : Int64))), .second, .val (.int (i4 &&& (3 : Int32))), .val (.int v5_s0), .val (.ref b7), .unset, .unset, .unset] [(.long (0 : Int64))])) := fun t k => P277 t (st278.trans k)
  have P279 : own_Go p e below S0 (T278.setTop (mkF m 142 #[.val (.long i0), .second, .val (.long i1), .second, .val (.long i2), .second, .val (.long i3), .second, .val (.int i4), .val (.long (i0 &&& (9223372036854775807 : Int64))), .second, .val (.long (i1 &&& (9223372036854775807 : Int64))), .second, .val (.long (i2 &&& (9223372036854775807 : Int64))), .second, .val (.long (i3 &&& (9223372036854775807 : Int64))), .second, .val (.int (i4 &&& (3 : Int32))), .val (.int v5_s0), .val (.ref b7), .val (.int (1 : Int32)), .unset, .unset] [(.long (i3 &&& (9223372036854775807 : Int64))), (.ref b7)])) := fun t k => P278 t (by
    show Steps p.tables e below (T278.setTop (mkF m 126 #[.val (.long i0), .second, .val (.long i1), .second, .val (.long i2), .second, .val (.long i3), .second, .val (.int i4), .val (.long (i0 &&& (9223372036854775807 : Int64))), .second, .val (.long (i1 &&& (9223372036854775807 : Int64))), .second, .val (.long (i2 &&& (9223372036854775807 : Int64))), .second, .val (.long (i3 &&& (9223372036854775807 : Int64))), .second, .val (.int (i4 &&& (3 : Int32))), .val (.int v5_s0), .val (.ref b7), .unset, .unset, .unset] [(.long (0 : Int64))])) t
    refine XS.lconst X278.here hx rfl (hb hby at_126) ?_
    refine XS.lcmp X278.here hx rfl (hb hby at_127) rfl ?_
    refine XS.ifNo X278.here hx rfl (hb hby at_128) rfl ((if0 _ _).trans (teq ((lw_eq (0 : Int64) (0 : Int64)).mpr (by decide))).2) ?_
    refine XS.iconst X278.here hx rfl (hb hby at_131) ?_
    refine XS.goto X278.here hx rfl (pc0 := 132) (pc' := 136) rfl (hb hby at_132) (by decide) (by decide) ?_
    refine XS.istore X278.here hx rfl (hb hby at_136) rfl (l' := #[.val (.long i0), .second, .val (.long i1), .second, .val (.long i2), .second, .val (.long i3), .second, .val (.int i4), .val (.long (i0 &&& (9223372036854775807 : Int64))), .second, .val (.long (i1 &&& (9223372036854775807 : Int64))), .second, .val (.long (i2 &&& (9223372036854775807 : Int64))), .second, .val (.long (i3 &&& (9223372036854775807 : Int64))), .second, .val (.int (i4 &&& (3 : Int32))), .val (.int v5_s0), .val (.ref b7), .val (.int (1 : Int32)), .unset, .unset]) rfl ?_
    show Steps p.tables e below (T278.setTop (mkF m 138 #[.val (.long i0), .second, .val (.long i1), .second, .val (.long i2), .second, .val (.long i3), .second, .val (.int i4), .val (.long (i0 &&& (9223372036854775807 : Int64))), .second, .val (.long (i1 &&& (9223372036854775807 : Int64))), .second, .val (.long (i2 &&& (9223372036854775807 : Int64))), .second, .val (.long (i3 &&& (9223372036854775807 : Int64))), .second, .val (.int (i4 &&& (3 : Int32))), .val (.int v5_s0), .val (.ref b7), .val (.int (1 : Int32)), .unset, .unset] [])) t
    refine XS.aload X278.here hx rfl (hb hby at_138) rfl rfl ?_
    refine XS.lload X278.here hx rfl (hb hby at_140) rfl ?_
    show Steps p.tables e below (T278.setTop (mkF m 142 #[.val (.long i0), .second, .val (.long i1), .second, .val (.long i2), .second, .val (.long i3), .second, .val (.int i4), .val (.long (i0 &&& (9223372036854775807 : Int64))), .second, .val (.long (i1 &&& (9223372036854775807 : Int64))), .second, .val (.long (i2 &&& (9223372036854775807 : Int64))), .second, .val (.long (i3 &&& (9223372036854775807 : Int64))), .second, .val (.int (i4 &&& (3 : Int32))), .val (.int v5_s0), .val (.ref b7), .val (.int (1 : Int32)), .unset, .unset] [(.long (i3 &&& (9223372036854775807 : Int64))), (.ref b7)])) t
    exact k)
  obtain ⟨cq280, kq280, q280a, q280b, q280c⟩ := isOf hZ e278 F274
  obtain ⟨_, _, ⟨T280, L280, k280, n280⟩, -, X280, ⟨Lc280, hQ280, l280, y280, z280⟩, st280⟩ := X278.virtualBack hx (y := (⟨"dev/quotefuse/engine/WideCount", "atLeast", "(J)Z"⟩ : MethodName)) (z := (⟨"dev/quotefuse/engine/WideCount", "atLeast", "(J)Z"⟩ : MethodName)) hown (mvT hZ (hw _ (List.mem_of_getElem? (i := 57) rfl))) (mvT hZ (hw _ (List.mem_of_getElem? (i := 58) rfl))) (notFace_of_selects (args := #[]) (mvT hZ (hw _ (List.mem_of_getElem? (i := 60) rfl)))) (mvT hZ (hw _ (List.mem_of_getElem? (i := 60) rfl))) (mvT hZ (hw _ (List.mem_of_getElem? (i := 59) rfl))) (by decide) (backOf (W := 0) (rm11 l Z a0 hw [] b7 (i3 &&& (9223372036854775807 : Int64)) z0_ZERO T273.heap n0 (Nat.le_trans Z0 K273.1) F273_0 F275 F276 F273_1 F273_2) hZ (hw _ (List.mem_of_getElem? (i := 61) rfl)) (hw _ (List.mem_of_getElem? (i := 3) rfl)) (by decide) (by decide)) q280a q280c (g := (mkF m 142 #[.val (.long i0), .second, .val (.long i1), .second, .val (.long i2), .second, .val (.long i3), .second, .val (.int i4), .val (.long (i0 &&& (9223372036854775807 : Int64))), .second, .val (.long (i1 &&& (9223372036854775807 : Int64))), .second, .val (.long (i2 &&& (9223372036854775807 : Int64))), .second, .val (.long (i3 &&& (9223372036854775807 : Int64))), .second, .val (.int (i4 &&& (3 : Int32))), .val (.int v5_s0), .val (.ref b7), .val (.int (1 : Int32)), .unset, .unset] [(.long (i3 &&& (9223372036854775807 : Int64))), (.ref b7)])) rfl (by rw [hml]; rfl) (Steps.refl _) (argsL := [(.long (i3 &&& (9223372036854775807 : Int64)))]) (rest := []) (lenOf pd_8 rfl) rfl (by show 2 * 0 + _ ≤ _; exact Nat.le_of_eq rfl) (hb hby at_142) (fun _ _ => ⟨rfl, e278, (by decide : 1 + 0 ≤ _), (by decide : 3 + 0 ≤ _)⟩)
  dsimp only [Pt.U, Pt.locs, Pt.cells, Pt.slots] at X280 l280 y280 z280 st280 hQ280
  subst l280 y280 z280
  obtain ⟨rfl, N280q, e280⟩ := hQ280
  have N280 := Fr.app N278 N280q
  have P280 : own_Go p e below S0 (T280.setTop (mkF m 145 #[.val (.long i0), .second, .val (.long i1), .second, .val (.long i2), .second, .val (.long i3), .second, .val (.int i4), .val (.long (i0 &&& (9223372036854775807 : Int64))), .second, .val (.long (i1 &&& (9223372036854775807 : Int64))), .second, .val (.long (i2 &&& (9223372036854775807 : Int64))), .second, .val (.long (i3 &&& (9223372036854775807 : Int64))), .second, .val (.int (i4 &&& (3 : Int32))), .val (.int v5_s0), .val (.ref b7), .val (.int (1 : Int32)), .unset, .unset] [(.int (r11 (i3 &&& (9223372036854775807 : Int64))))])) := fun t k => P279 t (st280.trans k)
  have P281 : own_Go p e below S0 (T280.setTop (mkF m 149 #[.val (.long i0), .second, .val (.long i1), .second, .val (.long i2), .second, .val (.long i3), .second, .val (.int i4), .val (.long (i0 &&& (9223372036854775807 : Int64))), .second, .val (.long (i1 &&& (9223372036854775807 : Int64))), .second, .val (.long (i2 &&& (9223372036854775807 : Int64))), .second, .val (.long (i3 &&& (9223372036854775807 : Int64))), .second, .val (.int (i4 &&& (3 : Int32))), .val (.int v5_s0), .val (.ref b7), .val (.int (1 : Int32)), .unset, .unset] [(.int (lcmpW (i3 &&& (9223372036854775807 : Int64)) (0 : Int64))), (.int (r11 (i3 &&& (9223372036854775807 : Int64))))])) := fun t k => P280 t (by
    show Steps p.tables e below (T280.setTop (mkF m 145 #[.val (.long i0), .second, .val (.long i1), .second, .val (.long i2), .second, .val (.long i3), .second, .val (.int i4), .val (.long (i0 &&& (9223372036854775807 : Int64))), .second, .val (.long (i1 &&& (9223372036854775807 : Int64))), .second, .val (.long (i2 &&& (9223372036854775807 : Int64))), .second, .val (.long (i3 &&& (9223372036854775807 : Int64))), .second, .val (.int (i4 &&& (3 : Int32))), .val (.int v5_s0), .val (.ref b7), .val (.int (1 : Int32)), .unset, .unset] [(.int (r11 (i3 &&& (9223372036854775807 : Int64))))])) t
    refine XS.lload X280.here hx rfl (hb hby at_145) rfl ?_
    refine XS.lconst X280.here hx rfl (hb hby at_147) ?_
    refine XS.lcmp X280.here hx rfl (hb hby at_148) rfl ?_
    show Steps p.tables e below (T280.setTop (mkF m 149 #[.val (.long i0), .second, .val (.long i1), .second, .val (.long i2), .second, .val (.long i3), .second, .val (.int i4), .val (.long (i0 &&& (9223372036854775807 : Int64))), .second, .val (.long (i1 &&& (9223372036854775807 : Int64))), .second, .val (.long (i2 &&& (9223372036854775807 : Int64))), .second, .val (.long (i3 &&& (9223372036854775807 : Int64))), .second, .val (.int (i4 &&& (3 : Int32))), .val (.int v5_s0), .val (.ref b7), .val (.int (1 : Int32)), .unset, .unset] [(.int (lcmpW (i3 &&& (9223372036854775807 : Int64)) (0 : Int64))), (.int (r11 (i3 &&& (9223372036854775807 : Int64))))])) t
    exact k)
  obtain ⟨v285_s0, hv285_s0, P285⟩ : ∃ (v285_s0 : Int32), (v285_s0 = (if (i3 &&& (9223372036854775807 : Int64)) = (0 : Int64) then (1 : Int32) else (0 : Int32))) ∧ (own_Go p e below S0 (T280.setTop (mkF m 157 #[.val (.long i0), .second, .val (.long i1), .second, .val (.long i2), .second, .val (.long i3), .second, .val (.int i4), .val (.long (i0 &&& (9223372036854775807 : Int64))), .second, .val (.long (i1 &&& (9223372036854775807 : Int64))), .second, .val (.long (i2 &&& (9223372036854775807 : Int64))), .second, .val (.long (i3 &&& (9223372036854775807 : Int64))), .second, .val (.int (i4 &&& (3 : Int32))), .val (.int v5_s0), .val (.ref b7), .val (.int (1 : Int32)), .unset, .unset] [(.int v285_s0), (.int (r11 (i3 &&& (9223372036854775807 : Int64))))]))) := by
    by_cases c282 : (i3 &&& (9223372036854775807 : Int64)) = (0 : Int64)
    · skip
      have P283 : own_Go p e below S0 (T280.setTop (mkF m 157 #[.val (.long i0), .second, .val (.long i1), .second, .val (.long i2), .second, .val (.long i3), .second, .val (.int i4), .val (.long (i0 &&& (9223372036854775807 : Int64))), .second, .val (.long (i1 &&& (9223372036854775807 : Int64))), .second, .val (.long (i2 &&& (9223372036854775807 : Int64))), .second, .val (.long (i3 &&& (9223372036854775807 : Int64))), .second, .val (.int (i4 &&& (3 : Int32))), .val (.int v5_s0), .val (.ref b7), .val (.int (1 : Int32)), .unset, .unset] [(.int (1 : Int32)), (.int (r11 (i3 &&& (9223372036854775807 : Int64))))])) := fun t k => P281 t (by
        show Steps p.tables e below (T280.setTop (mkF m 149 #[.val (.long i0), .second, .val (.long i1), .second, .val (.long i2), .second, .val (.long i3), .second, .val (.int i4), .val (.long (i0 &&& (9223372036854775807 : Int64))), .second, .val (.long (i1 &&& (9223372036854775807 : Int64))), .second, .val (.long (i2 &&& (9223372036854775807 : Int64))), .second, .val (.long (i3 &&& (9223372036854775807 : Int64))), .second, .val (.int (i4 &&& (3 : Int32))), .val (.int v5_s0), .val (.ref b7), .val (.int (1 : Int32)), .unset, .unset] [(.int (lcmpW (i3 &&& (9223372036854775807 : Int64)) (0 : Int64))), (.int (r11 (i3 &&& (9223372036854775807 : Int64))))])) t
        refine XS.ifNo X280.here hx rfl (hb hby at_149) rfl ((if0 _ _).trans (teq ((lw_eq (i3 &&& (9223372036854775807 : Int64)) (0 : Int64)).mpr c282)).2) ?_
        refine XS.iconst X280.here hx rfl (hb hby at_152) ?_
        refine XS.goto X280.here hx rfl (pc0 := 153) (pc' := 157) rfl (hb hby at_153) (by decide) (by decide) ?_
        show Steps p.tables e below (T280.setTop (mkF m 157 #[.val (.long i0), .second, .val (.long i1), .second, .val (.long i2), .second, .val (.long i3), .second, .val (.int i4), .val (.long (i0 &&& (9223372036854775807 : Int64))), .second, .val (.long (i1 &&& (9223372036854775807 : Int64))), .second, .val (.long (i2 &&& (9223372036854775807 : Int64))), .second, .val (.long (i3 &&& (9223372036854775807 : Int64))), .second, .val (.int (i4 &&& (3 : Int32))), .val (.int v5_s0), .val (.ref b7), .val (.int (1 : Int32)), .unset, .unset] [(.int (1 : Int32)), (.int (r11 (i3 &&& (9223372036854775807 : Int64))))])) t
        exact k)
      exact ⟨(1 : Int32), (Eq.symm (if_pos c282)), P283⟩
    · skip
      have P284 : own_Go p e below S0 (T280.setTop (mkF m 157 #[.val (.long i0), .second, .val (.long i1), .second, .val (.long i2), .second, .val (.long i3), .second, .val (.int i4), .val (.long (i0 &&& (9223372036854775807 : Int64))), .second, .val (.long (i1 &&& (9223372036854775807 : Int64))), .second, .val (.long (i2 &&& (9223372036854775807 : Int64))), .second, .val (.long (i3 &&& (9223372036854775807 : Int64))), .second, .val (.int (i4 &&& (3 : Int32))), .val (.int v5_s0), .val (.ref b7), .val (.int (1 : Int32)), .unset, .unset] [(.int (0 : Int32)), (.int (r11 (i3 &&& (9223372036854775807 : Int64))))])) := fun t k => P281 t (by
        show Steps p.tables e below (T280.setTop (mkF m 149 #[.val (.long i0), .second, .val (.long i1), .second, .val (.long i2), .second, .val (.long i3), .second, .val (.int i4), .val (.long (i0 &&& (9223372036854775807 : Int64))), .second, .val (.long (i1 &&& (9223372036854775807 : Int64))), .second, .val (.long (i2 &&& (9223372036854775807 : Int64))), .second, .val (.long (i3 &&& (9223372036854775807 : Int64))), .second, .val (.int (i4 &&& (3 : Int32))), .val (.int v5_s0), .val (.ref b7), .val (.int (1 : Int32)), .unset, .unset] [(.int (lcmpW (i3 &&& (9223372036854775807 : Int64)) (0 : Int64))), (.int (r11 (i3 &&& (9223372036854775807 : Int64))))])) t
        refine XS.ifYes X280.here hx rfl (pc0 := 149) (pc' := 156) rfl (hb hby at_149) rfl ((if0 _ _).trans (feq (fun q => c282 ((lw_eq (i3 &&& (9223372036854775807 : Int64)) (0 : Int64)).mp q))).2) (by decide) (by decide) ?_
        refine XS.iconst X280.here hx rfl (hb hby at_156) ?_
        show Steps p.tables e below (T280.setTop (mkF m 157 #[.val (.long i0), .second, .val (.long i1), .second, .val (.long i2), .second, .val (.long i3), .second, .val (.int i4), .val (.long (i0 &&& (9223372036854775807 : Int64))), .second, .val (.long (i1 &&& (9223372036854775807 : Int64))), .second, .val (.long (i2 &&& (9223372036854775807 : Int64))), .second, .val (.long (i3 &&& (9223372036854775807 : Int64))), .second, .val (.int (i4 &&& (3 : Int32))), .val (.int v5_s0), .val (.ref b7), .val (.int (1 : Int32)), .unset, .unset] [(.int (0 : Int32)), (.int (r11 (i3 &&& (9223372036854775807 : Int64))))])) t
        exact k)
      exact ⟨(0 : Int32), (Eq.symm (if_neg c282)), P284⟩
  have c286 : (r11 (i3 &&& (9223372036854775807 : Int64))) = v285_s0 := (own_al _).trans (Eq.symm hv285_s0)
  have P287 : own_Go p e below S0 (T280.setTop (mkF m 171 #[.val (.long i0), .second, .val (.long i1), .second, .val (.long i2), .second, .val (.long i3), .second, .val (.int i4), .val (.long (i0 &&& (9223372036854775807 : Int64))), .second, .val (.long (i1 &&& (9223372036854775807 : Int64))), .second, .val (.long (i2 &&& (9223372036854775807 : Int64))), .second, .val (.long (i3 &&& (9223372036854775807 : Int64))), .second, .val (.int (i4 &&& (3 : Int32))), .val (.int v5_s0), .val (.ref b7), .val (.int (1 : Int32)), .val (.int (1 : Int32)), .unset] [(.long (i2 &&& (9223372036854775807 : Int64))), (.ref b7)])) := fun t k => P285 t (by
    show Steps p.tables e below (T280.setTop (mkF m 157 #[.val (.long i0), .second, .val (.long i1), .second, .val (.long i2), .second, .val (.long i3), .second, .val (.int i4), .val (.long (i0 &&& (9223372036854775807 : Int64))), .second, .val (.long (i1 &&& (9223372036854775807 : Int64))), .second, .val (.long (i2 &&& (9223372036854775807 : Int64))), .second, .val (.long (i3 &&& (9223372036854775807 : Int64))), .second, .val (.int (i4 &&& (3 : Int32))), .val (.int v5_s0), .val (.ref b7), .val (.int (1 : Int32)), .unset, .unset] [(.int v285_s0), (.int (r11 (i3 &&& (9223372036854775807 : Int64))))])) t
    refine XS.icmpNo X280.here hx rfl (hb hby at_157) rfl (teq c286).2 ?_
    refine XS.iconst X280.here hx rfl (hb hby at_160) ?_
    refine XS.goto X280.here hx rfl (pc0 := 161) (pc' := 165) rfl (hb hby at_161) (by decide) (by decide) ?_
    refine XS.istore X280.here hx rfl (hb hby at_165) rfl (l' := #[.val (.long i0), .second, .val (.long i1), .second, .val (.long i2), .second, .val (.long i3), .second, .val (.int i4), .val (.long (i0 &&& (9223372036854775807 : Int64))), .second, .val (.long (i1 &&& (9223372036854775807 : Int64))), .second, .val (.long (i2 &&& (9223372036854775807 : Int64))), .second, .val (.long (i3 &&& (9223372036854775807 : Int64))), .second, .val (.int (i4 &&& (3 : Int32))), .val (.int v5_s0), .val (.ref b7), .val (.int (1 : Int32)), .val (.int (1 : Int32)), .unset]) rfl ?_
    refine XS.aload X280.here hx rfl (hb hby at_167) rfl rfl ?_
    refine XS.lload X280.here hx rfl (hb hby at_169) rfl ?_
    show Steps p.tables e below (T280.setTop (mkF m 171 #[.val (.long i0), .second, .val (.long i1), .second, .val (.long i2), .second, .val (.long i3), .second, .val (.int i4), .val (.long (i0 &&& (9223372036854775807 : Int64))), .second, .val (.long (i1 &&& (9223372036854775807 : Int64))), .second, .val (.long (i2 &&& (9223372036854775807 : Int64))), .second, .val (.long (i3 &&& (9223372036854775807 : Int64))), .second, .val (.int (i4 &&& (3 : Int32))), .val (.int v5_s0), .val (.ref b7), .val (.int (1 : Int32)), .val (.int (1 : Int32)), .unset] [(.long (i2 &&& (9223372036854775807 : Int64))), (.ref b7)])) t
    exact k)
  obtain ⟨cq288, kq288, q288a, q288b, q288c⟩ := isOf hZ e280 F274
  obtain ⟨_, _, ⟨T288, L288, k288, n288⟩, -, X288, ⟨Lc288, hQ288, l288, y288, z288⟩, st288⟩ := X280.virtualBack hx (y := (⟨"dev/quotefuse/engine/WideCount", "add", "(J)V"⟩ : MethodName)) (z := (⟨"dev/quotefuse/engine/WideCount", "add", "(J)V"⟩ : MethodName)) hown (mvT hZ (hw _ (List.mem_of_getElem? (i := 62) rfl))) (mvT hZ (hw _ (List.mem_of_getElem? (i := 63) rfl))) (notFace_of_selects (args := #[]) (mvT hZ (hw _ (List.mem_of_getElem? (i := 65) rfl)))) (mvT hZ (hw _ (List.mem_of_getElem? (i := 65) rfl))) (mvT hZ (hw _ (List.mem_of_getElem? (i := 64) rfl))) (by decide) (backOf (W := 0) (rm12a l Z a0 hw [] b7 (i2 &&& (9223372036854775807 : Int64)) z0_ZERO T273.heap n0 (Nat.le_trans Z0 K273.1) F273_2 F273_1 (by decide) F273_0 F274 g_b7) hZ (hw _ (List.mem_of_getElem? (i := 66) rfl)) (hw _ (List.mem_of_getElem? (i := 3) rfl)) (by decide) (by decide)) q288a q288c (g := (mkF m 171 #[.val (.long i0), .second, .val (.long i1), .second, .val (.long i2), .second, .val (.long i3), .second, .val (.int i4), .val (.long (i0 &&& (9223372036854775807 : Int64))), .second, .val (.long (i1 &&& (9223372036854775807 : Int64))), .second, .val (.long (i2 &&& (9223372036854775807 : Int64))), .second, .val (.long (i3 &&& (9223372036854775807 : Int64))), .second, .val (.int (i4 &&& (3 : Int32))), .val (.int v5_s0), .val (.ref b7), .val (.int (1 : Int32)), .val (.int (1 : Int32)), .unset] [(.long (i2 &&& (9223372036854775807 : Int64))), (.ref b7)])) rfl (by rw [hml]; rfl) (Steps.refl _) (argsL := [(.long (i2 &&& (9223372036854775807 : Int64)))]) (rest := []) (lenOf pd_6 rfl) rfl (by show 2 * 0 + _ ≤ _; exact Nat.le_of_eq rfl) (hb hby at_171) (fun _ _ => ⟨rfl, e280, (by decide : 1 + 0 ≤ _), (by decide : 3 + 0 ≤ _)⟩)
  dsimp only [Pt.U, Pt.locs, Pt.cells, Pt.slots] at X288 l288 y288 z288 st288 hQ288
  subst l288 y288 z288
  obtain ⟨rfl, N288q, Kc288, F288_0, F288_1, F288_2⟩ := hQ288
  have N288 := Fr.app N280 N288q
  have K288 : Keep h0 T288.heap [] := Keep.trans K273 Kc288 (allS (Or.inr o_b7) all0)
  have P288 : own_Go p e below S0 (T288.setTop (mkF m 174 #[.val (.long i0), .second, .val (.long i1), .second, .val (.long i2), .second, .val (.long i3), .second, .val (.int i4), .val (.long (i0 &&& (9223372036854775807 : Int64))), .second, .val (.long (i1 &&& (9223372036854775807 : Int64))), .second, .val (.long (i2 &&& (9223372036854775807 : Int64))), .second, .val (.long (i3 &&& (9223372036854775807 : Int64))), .second, .val (.int (i4 &&& (3 : Int32))), .val (.int v5_s0), .val (.ref b7), .val (.int (1 : Int32)), .val (.int (1 : Int32)), .unset] [])) := fun t k => P287 t (st288.trans k)
  have F289 : Exa Z T288.heap b7 "dev/quotefuse/engine/WideCount" := F274.keep Kc288
  have F290 : Fld Z T288.heap z0_ZERO "java/math/BigInteger" "signum" "I" (.int (0 : Int32)) := F275.keep Kc288 (ninS ne_z0_ZERO_b7 nin0)
  have F291 : Exa Z T288.heap z0_ZERO "java/math/BigInteger" := F276.keep Kc288
  have P292 : own_Go p e below S0 (T288.setTop (mkF m 176 #[.val (.long i0), .second, .val (.long i1), .second, .val (.long i2), .second, .val (.long i3), .second, .val (.int i4), .val (.long (i0 &&& (9223372036854775807 : Int64))), .second, .val (.long (i1 &&& (9223372036854775807 : Int64))), .second, .val (.long (i2 &&& (9223372036854775807 : Int64))), .second, .val (.long (i3 &&& (9223372036854775807 : Int64))), .second, .val (.int (i4 &&& (3 : Int32))), .val (.int v5_s0), .val (.ref b7), .val (.int (1 : Int32)), .val (.int (1 : Int32)), .unset] [(.ref b7)])) := fun t k => P288 t (by
    show Steps p.tables e below (T288.setTop (mkF m 174 #[.val (.long i0), .second, .val (.long i1), .second, .val (.long i2), .second, .val (.long i3), .second, .val (.int i4), .val (.long (i0 &&& (9223372036854775807 : Int64))), .second, .val (.long (i1 &&& (9223372036854775807 : Int64))), .second, .val (.long (i2 &&& (9223372036854775807 : Int64))), .second, .val (.long (i3 &&& (9223372036854775807 : Int64))), .second, .val (.int (i4 &&& (3 : Int32))), .val (.int v5_s0), .val (.ref b7), .val (.int (1 : Int32)), .val (.int (1 : Int32)), .unset] [])) t
    refine XS.aload X288.here hx rfl (hb hby at_174) rfl rfl ?_
    show Steps p.tables e below (T288.setTop (mkF m 176 #[.val (.long i0), .second, .val (.long i1), .second, .val (.long i2), .second, .val (.long i3), .second, .val (.int i4), .val (.long (i0 &&& (9223372036854775807 : Int64))), .second, .val (.long (i1 &&& (9223372036854775807 : Int64))), .second, .val (.long (i2 &&& (9223372036854775807 : Int64))), .second, .val (.long (i3 &&& (9223372036854775807 : Int64))), .second, .val (.int (i4 &&& (3 : Int32))), .val (.int v5_s0), .val (.ref b7), .val (.int (1 : Int32)), .val (.int (1 : Int32)), .unset] [(.ref b7)])) t
    exact k)
  obtain ⟨cq293, kq293, q293a, q293b, q293c⟩ := isOf hZ rfl F289
  obtain ⟨_, _, ⟨T293, L293, k293, n293⟩, -, X293, ⟨Lc293, hQ293, l293, y293, z293⟩, st293⟩ := X288.virtualBack hx (y := (⟨"dev/quotefuse/engine/WideCount", "narrowValue", "()J"⟩ : MethodName)) (z := (⟨"dev/quotefuse/engine/WideCount", "narrowValue", "()J"⟩ : MethodName)) hown (mvT hZ (hw _ (List.mem_of_getElem? (i := 45) rfl))) (mvT hZ (hw _ (List.mem_of_getElem? (i := 46) rfl))) (notFace_of_selects (args := #[]) (mvT hZ (hw _ (List.mem_of_getElem? (i := 48) rfl)))) (mvT hZ (hw _ (List.mem_of_getElem? (i := 48) rfl))) (mvT hZ (hw _ (List.mem_of_getElem? (i := 47) rfl))) (by decide) (backOf (W := 0) (rm9d l Z a0 hw [] b7 z0_ZERO ((0 : Int64) + (i2 &&& (9223372036854775807 : Int64))) T288.heap n0 (Nat.le_trans Z0 K288.1) F288_2 F290 F291 F288_1 F288_0 (own_ge _)) hZ (hw _ (List.mem_of_getElem? (i := 49) rfl)) (hw _ (List.mem_of_getElem? (i := 3) rfl)) (by decide) (by decide)) q293a q293c (g := (mkF m 176 #[.val (.long i0), .second, .val (.long i1), .second, .val (.long i2), .second, .val (.long i3), .second, .val (.int i4), .val (.long (i0 &&& (9223372036854775807 : Int64))), .second, .val (.long (i1 &&& (9223372036854775807 : Int64))), .second, .val (.long (i2 &&& (9223372036854775807 : Int64))), .second, .val (.long (i3 &&& (9223372036854775807 : Int64))), .second, .val (.int (i4 &&& (3 : Int32))), .val (.int v5_s0), .val (.ref b7), .val (.int (1 : Int32)), .val (.int (1 : Int32)), .unset] [(.ref b7)])) rfl (by rw [hml]; rfl) (Steps.refl _) (argsL := []) (rest := []) (lenOf pd_7 rfl) rfl (by show 2 * 0 + _ ≤ _; exact Nat.le_of_eq rfl) (hb hby at_176) (fun _ _ => ⟨rfl, rfl, (by decide : 1 + 0 ≤ _), (by decide : 3 + 0 ≤ _)⟩)
  dsimp only [Pt.U, Pt.locs, Pt.cells, Pt.slots] at X293 l293 y293 z293 st293 hQ293
  subst l293 y293 z293
  obtain ⟨rfl, N293q, e293⟩ := hQ293
  have N293 := Fr.app N288 N293q
  have P293 : own_Go p e below S0 (T293.setTop (mkF m 179 #[.val (.long i0), .second, .val (.long i1), .second, .val (.long i2), .second, .val (.long i3), .second, .val (.int i4), .val (.long (i0 &&& (9223372036854775807 : Int64))), .second, .val (.long (i1 &&& (9223372036854775807 : Int64))), .second, .val (.long (i2 &&& (9223372036854775807 : Int64))), .second, .val (.long (i3 &&& (9223372036854775807 : Int64))), .second, .val (.int (i4 &&& (3 : Int32))), .val (.int v5_s0), .val (.ref b7), .val (.int (1 : Int32)), .val (.int (1 : Int32)), .unset] [(.long ((0 : Int64) + (i2 &&& (9223372036854775807 : Int64))))])) := fun t k => P292 t (st293.trans k)
  have c294 : ((0 : Int64) + (i2 &&& (9223372036854775807 : Int64))) = (i2 &&& (9223372036854775807 : Int64)) := own_z1 _
  have P295 : own_Go p e below S0 (T293.setTop (mkF m 212 #[.val (.long i0), .second, .val (.long i1), .second, .val (.long i2), .second, .val (.long i3), .second, .val (.int i4), .val (.long (i0 &&& (9223372036854775807 : Int64))), .second, .val (.long (i1 &&& (9223372036854775807 : Int64))), .second, .val (.long (i2 &&& (9223372036854775807 : Int64))), .second, .val (.long (i3 &&& (9223372036854775807 : Int64))), .second, .val (.int (i4 &&& (3 : Int32))), .val (.int v5_s0), .val (.ref b7), .val (.int (1 : Int32)), .val (.int (1 : Int32)), .val (.int (1 : Int32))] [(.int (1 : Int32))])) := fun t k => P293 t (by
    show Steps p.tables e below (T293.setTop (mkF m 179 #[.val (.long i0), .second, .val (.long i1), .second, .val (.long i2), .second, .val (.long i3), .second, .val (.int i4), .val (.long (i0 &&& (9223372036854775807 : Int64))), .second, .val (.long (i1 &&& (9223372036854775807 : Int64))), .second, .val (.long (i2 &&& (9223372036854775807 : Int64))), .second, .val (.long (i3 &&& (9223372036854775807 : Int64))), .second, .val (.int (i4 &&& (3 : Int32))), .val (.int v5_s0), .val (.ref b7), .val (.int (1 : Int32)), .val (.int (1 : Int32)), .unset] [(.long ((0 : Int64) + (i2 &&& (9223372036854775807 : Int64))))])) t
    refine XS.lload X293.here hx rfl (hb hby at_179) rfl ?_
    refine XS.lcmp X293.here hx rfl (hb hby at_181) rfl ?_
    refine XS.ifNo X293.here hx rfl (hb hby at_182) rfl ((if0 _ _).trans (teq ((lw_eq ((0 : Int64) + (i2 &&& (9223372036854775807 : Int64))) (i2 &&& (9223372036854775807 : Int64))).mpr c294)).2) ?_
    refine XS.iconst X293.here hx rfl (hb hby at_185) ?_
    refine XS.goto X293.here hx rfl (pc0 := 186) (pc' := 190) rfl (hb hby at_186) (by decide) (by decide) ?_
    refine XS.istore X293.here hx rfl (hb hby at_190) rfl (l' := #[.val (.long i0), .second, .val (.long i1), .second, .val (.long i2), .second, .val (.long i3), .second, .val (.int i4), .val (.long (i0 &&& (9223372036854775807 : Int64))), .second, .val (.long (i1 &&& (9223372036854775807 : Int64))), .second, .val (.long (i2 &&& (9223372036854775807 : Int64))), .second, .val (.long (i3 &&& (9223372036854775807 : Int64))), .second, .val (.int (i4 &&& (3 : Int32))), .val (.int v5_s0), .val (.ref b7), .val (.int (1 : Int32)), .val (.int (1 : Int32)), .val (.int (1 : Int32))]) rfl ?_
    show Steps p.tables e below (T293.setTop (mkF m 192 #[.val (.long i0), .second, .val (.long i1), .second, .val (.long i2), .second, .val (.long i3), .second, .val (.int i4), .val (.long (i0 &&& (9223372036854775807 : Int64))), .second, .val (.long (i1 &&& (9223372036854775807 : Int64))), .second, .val (.long (i2 &&& (9223372036854775807 : Int64))), .second, .val (.long (i3 &&& (9223372036854775807 : Int64))), .second, .val (.int (i4 &&& (3 : Int32))), .val (.int v5_s0), .val (.ref b7), .val (.int (1 : Int32)), .val (.int (1 : Int32)), .val (.int (1 : Int32))] [])) t
    refine XS.iload X293.here hx rfl (hb hby at_192) rfl ?_
    refine XS.ifNo X293.here hx rfl (hb hby at_194) rfl ((if0 _ _).trans (feq (by decide)).1) ?_
    refine XS.iload X293.here hx rfl (hb hby at_197) rfl ?_
    refine XS.ifNo X293.here hx rfl (hb hby at_199) rfl ((if0 _ _).trans (feq (by decide)).1) ?_
    refine XS.iload X293.here hx rfl (hb hby at_202) rfl ?_
    refine XS.ifNo X293.here hx rfl (hb hby at_204) rfl ((if0 _ _).trans (feq (by decide)).1) ?_
    show Steps p.tables e below (T293.setTop (mkF m 207 #[.val (.long i0), .second, .val (.long i1), .second, .val (.long i2), .second, .val (.long i3), .second, .val (.int i4), .val (.long (i0 &&& (9223372036854775807 : Int64))), .second, .val (.long (i1 &&& (9223372036854775807 : Int64))), .second, .val (.long (i2 &&& (9223372036854775807 : Int64))), .second, .val (.long (i3 &&& (9223372036854775807 : Int64))), .second, .val (.int (i4 &&& (3 : Int32))), .val (.int v5_s0), .val (.ref b7), .val (.int (1 : Int32)), .val (.int (1 : Int32)), .val (.int (1 : Int32))] [])) t
    refine XS.iconst X293.here hx rfl (hb hby at_207) ?_
    refine XS.goto X293.here hx rfl (pc0 := 208) (pc' := 212) rfl (hb hby at_208) (by decide) (by decide) ?_
    show Steps p.tables e below (T293.setTop (mkF m 212 #[.val (.long i0), .second, .val (.long i1), .second, .val (.long i2), .second, .val (.long i3), .second, .val (.int i4), .val (.long (i0 &&& (9223372036854775807 : Int64))), .second, .val (.long (i1 &&& (9223372036854775807 : Int64))), .second, .val (.long (i2 &&& (9223372036854775807 : Int64))), .second, .val (.long (i3 &&& (9223372036854775807 : Int64))), .second, .val (.int (i4 &&& (3 : Int32))), .val (.int v5_s0), .val (.ref b7), .val (.int (1 : Int32)), .val (.int (1 : Int32)), .val (.int (1 : Int32))] [(.int (1 : Int32))])) t
    exact k)
  obtain ⟨fs, hr, hrun, hended, hW, hsame⟩ := X293.leave (v := some (.int (1 : Int32))) (fun h => by rw [Bd.returns] at h; cases h) (BodyLoose.notSynchronized Bd)
  refine ⟨_, _, own_from hE0 (P295 _ ?_), hrun, hended, _, _, rfl, ?_, ⟨_, rfl⟩, hW, hsame.mono (by decide) (by decide)⟩
  · show Steps p.tables e below (T293.setTop (mkF m 212 #[.val (.long i0), .second, .val (.long i1), .second, .val (.long i2), .second, .val (.long i3), .second, .val (.int i4), .val (.long (i0 &&& (9223372036854775807 : Int64))), .second, .val (.long (i1 &&& (9223372036854775807 : Int64))), .second, .val (.long (i2 &&& (9223372036854775807 : Int64))), .second, .val (.long (i3 &&& (9223372036854775807 : Int64))), .second, .val (.int (i4 &&& (3 : Int32))), .val (.int v5_s0), .val (.ref b7), .val (.int (1 : Int32)), .val (.int (1 : Int32)), .val (.int (1 : Int32))] [(.int (1 : Int32))])) _
    exact retN X293 hx (t := .boolean) Bd.returns (by simp) (hb hby at_212) hr
  · show Q0 Z i0 i1 i2 i3 i4 z0_ZERO z0_ONE h0 n0 _ T293.heap _
    rw [e293]
    exact ⟨rfl, N293⟩
set_option maxRecDepth 65536 in
set_option maxHeartbeats 40000000 in
theorem comes_1 {Post : Tables → Env → Array Value → State → Outcome → State → Prop} (hpost : ∀ tb e args s v u, (limb_1_1.after args s (.returned v) u = true ∧ limb_1_2.after args s (.returned v) u = true ∧ True) → FrameEnd s (.returned v) u (Jvm.fieldLocs frame_1_writes args s ++ Jvm.arrayLocs frame_1_arrays args s ++ Jvm.staticLocs frame_1_statics s) 16 128 → Post tb e args s (.returned v) u) :
    ArmFor flags0 classFile x code maxLocals ret World_1 tables_1 room_1 Calls_1 rest_1 Pre_1 Post := by
  intro l hfl _ _ p e ha hc hk s m args below hf hA hF happ hP
  obtain ⟨hcalls, hrest, hpre⟩ := hP
  obtain ⟨-, -, -, hnamed, -, -, -, hat⟩ := (Spec.applies_iff hf).mp happ
  obtain ⟨hg, hn⟩ := and_e (Cond.before_iff.mp (show (Jvm.Cond.and given_1 narrow_1).before args s = true from hpre))
  obtain ⟨ga1, gb1⟩ := and_e hg
  obtain ⟨ga2, gb2⟩ := and_e gb1
  obtain ⟨ga3, gb3⟩ := and_e gb2
  obtain ⟨ga4, gb4⟩ := and_e gb3
  obtain ⟨ga5, gb5⟩ := and_e gb4
  obtain ⟨w0, w1, w2, w3, w4, rfl⟩ : ∃ w0 w1 w2 w3 w4 : Value, args = #[w0, w1, w2, w3, w4] := by
    have hs : args.size = 5 := by simpa [Cond.value, given_1] using ga1
    obtain ⟨L⟩ := args
    match L, hs with
    | [w0, w1, w2, w3, w4], _ => exact ⟨w0, w1, w2, w3, w4, rfl⟩
  have hw := fun d (hd : d ∈ tables_1) => atoms_spec (ws := Jvm.Cond.code x code maxLocals ret :: tables_1) hat d (List.mem_cons_of_mem _ hd)
  have hfit : Fit s := fun {y c} hc i hi => by
    obtain ⟨ha, rfl⟩ := Array.getElem?_eq_some_iff.mp hc
    have q := List.all_eq_true.mp ((Array.all_eq_true_iff_forall_mem.mp hF) _ (Array.getElem_mem ha)) i (List.mem_range.mpr hi)
    simpa [Array.getElem?_eq_getElem hi] using q
  obtain ⟨hsets, hown0⟩ := atoms_of _ (rest_1_c_eq ▸ (show rest_1_c.before _ s = true from hrest))
  obtain ⟨i0, ei0⟩ := isL_v ga2
  obtain rfl : w0 = (.long i0) := Option.some.inj ei0
  obtain ⟨i1, ei1⟩ := isL_v ga3
  obtain rfl : w1 = (.long i1) := Option.some.inj ei1
  obtain ⟨i2, ei2⟩ := isL_v ga4
  obtain rfl : w2 = (.long i2) := Option.some.inj ei2
  obtain ⟨i3, ei3⟩ := isL_v ga5
  obtain rfl : w3 = (.long i3) := Option.some.inj ei3
  obtain ⟨i4, ei4⟩ := is_v gb5
  obtain rfl : w4 = (.int i4) := Option.some.inj ei4
  obtain ⟨z0_ZERO, ev1⟩ := exa_v (Cond.before_iff.mp (hsets _ (List.mem_of_getElem? (i := 2) rfl)))
  have S_ZERO : Sta s s.heap "java/math/BigInteger" "ZERO" "Ljava/math/BigInteger;" (.ref z0_ZERO) := Sta.start ev1 (Or.inl (hsets _ (List.mem_of_getElem? (i := 1) rfl)))
  have Ex_z0_ZERO : Exa s s.heap z0_ZERO "java/math/BigInteger" := Exa.start ev1 (Cond.before_iff.mp (hsets _ (List.mem_of_getElem? (i := 2) rfl)))
  obtain ⟨z0_ONE, ev2⟩ := exa_v (Cond.before_iff.mp (hsets _ (List.mem_of_getElem? (i := 9) rfl)))
  have S_ONE : Sta s s.heap "java/math/BigInteger" "ONE" "Ljava/math/BigInteger;" (.ref z0_ONE) := Sta.start ev2 (Or.inl (hsets _ (List.mem_of_getElem? (i := 8) rfl)))
  have Ex_z0_ONE : Exa s s.heap z0_ONE "java/math/BigInteger" := Exa.start ev2 (Cond.before_iff.mp (hsets _ (List.mem_of_getElem? (i := 9) rfl)))
  have F_z : Fld s s.heap z0_ZERO "java/math/BigInteger" "signum" "I" (.int (0 : Int32)) := Fld.start ((fld_at ev1).symm.trans (Cond.eq_int (Cond.before_iff.mpr (Cond.before_iff.mp (hsets _ (List.mem_of_getElem? (i := 3) rfl)))) rfl))
  have F_o : Fld s s.heap z0_ONE "java/math/BigInteger" "signum" "I" (.int (1 : Int32)) := Fld.start ((fld_at ev2).symm.trans (Cond.eq_int (Cond.before_iff.mpr (Cond.before_iff.mp (hsets _ (List.mem_of_getElem? (i := 10) rfl)))) rfl))
  obtain ⟨n, o, h1, h2, h3, _, L, rfl, ⟨rfl, N⟩, hq⟩ := rm0 l s _ hw tables_1 i0 i1 i2 i3 i4 z0_ZERO z0_ONE s.heap s.heap.size (Nat.le_refl _) S_ZERO Ex_z0_ZERO F_z S_ONE Ex_z0_ONE F_o p e ha hc hk s m _ below hf ((Spec.applies_iff_loose hf).mp happ).1 ⟨rfl, State.Warmed39.refl s, rfl⟩ trivial
  refine ⟨n, _, h1, h2, h3, hpost _ _ _ _ _ _ ⟨Cond.after_iff.mpr rfl, Cond.after_iff.mpr (eq_i res_at (Term.int_eval (1)) rfl), trivial⟩ ⟨hq.1, hq.2.1, (hq.2.2.sift fun y hy => Or.inr (N y hy)).mono (by decide) (by decide)⟩⟩
theorem main_1_1 : Claimed_1_1 := comes_1 fun _ _ _ _ _ _ h hF => ⟨h.1, hF⟩
theorem main_1_2 : Claimed_1_2 := comes_1 fun _ _ _ _ _ _ h hF => ⟨h.2.1, hF⟩
end Jvm.Pilot.@@N@@
namespace Jvm.Pilot.@@N@@
open Jvm Jvm.ClassFile Sem Op Lib Jvm.Free Jvm.Stand Jvm.Pilot.@@N@@.Jvm.D
/-! MADE BY PROGRAM (witnessworld.py) out of the Statement's table words and the real class files: 16 classes; the members and pool entries that the words name. The judged class is class 1, her method 1. -/
namespace start1
open Jvm.ClassFile
def u (s : String) : CpInfo := .utf8 (stringToUtf16 s)
/-- a pool by its gaps: so many unusable entries, then the entry; so many at the end -/
def gap : Nat → List CpInfo → List CpInfo
  | 0, r => r
  | n + 1, r => .unusable :: gap n r
def poolList (es : List (Nat × CpInfo)) (last : Nat) : List CpInfo := es.foldr (fun e r => gap e.1 (e.2 :: r)) (gap last [])
def pool (es : List (Nat × CpInfo)) (last : Nat) : Array CpInfo := ⟨poolList es last⟩
def fileOf (pool : Array CpInfo) (this : Nat) (attrs : Array Attribute := #[]) (ms : Array MethodInfo := #[]) (fl : Nat := 33) (sup : Nat := 0) (ifs : Array Nat := #[]) (fds : Array FieldInfo := #[]) : ClassFile where
  minorVersion := 0
  majorVersion := 65
  constantPool := pool
  accessFlags := fl
  thisClass := this
  superClass := sup
  interfaces := ifs
  fields := fds
  methods := ms
  attributes := attrs
def plain (name : String) (sup : Option ClassId) : Class where
  name := name
  kind := .ordinary
  loader := none
  accessFlags := 33
  super := sup
  interfaces := #[]
  cf := none
  fields := #[]
  methods := #[]
  instanceTypes := #[]
  staticTypes := #[]
  resolved := #[]
  callSites := []
  init := .initialized
  statics := none
  mirror := none

def pool0 : Array CpInfo := pool [(5, u "<init>"), (0, u "()V"), (1, .class_ 10), (1, u "java/lang/Object")] 113

def k0c0 : Code := { maxStack := 0, maxLocals := 1, code := object_method_1_code, exceptionTable := #[], attributes := #[] }
def k0m0 : Method := { name := "<init>", desc := "()V", sig := { parameters := [], returnType := none }, accessFlags := 1, code := some k0c0 }
/-- java/lang/Object -/
def k0 : Class := { plain "java/lang/Object" none with
  accessFlags := 33
  interfaces := #[]
  cf := some (fileOf pool0 8 #[] #[{ accessFlags := 1, nameIndex := 5, descriptorIndex := 6, attributes := #[] }] 33 0 #[] #[])
  fields := #[]
  methods := #[k0m0]
  instanceTypes := #[]
  staticTypes := #[]
  resolved := Array.replicate 124 none
  statics := none }

def pool1 : Array CpInfo := pool [(2, .class_ 4), (0, .nameAndType 5 6), (0, u "java/lang/Object"), (0, u "<init>"), (0, u "()V"), (2, .long 9223372036854775807), (1, .class_ 12), (0, u "dev/quotefuse/engine/WideCount"), (0, .methodref 11 3), (0, .methodref 11 15), (0, .nameAndType 16 17), (0, u "addProduct"), (0, u "(JJ)V"), (0, .methodref 11 19), (0, .nameAndType 20 21), (0, u "add"), (0, u "(J)V"), (0, .methodref 11 23), (0, .nameAndType 24 6), (0, u "clear"), (0, .methodref 11 26), (0, .nameAndType 27 28), (0, u "narrowValue"), (0, u "()J"), (0, .methodref 11 30), (0, .nameAndType 31 32), (0, u "atLeast"), (0, u "(J)Z"), (0, .class_ 34), (0, u "dev/quotefuse/engine/WideCountClearPinLaw"), (2, u "law"), (0, u "(JJJJI)Z")] 3

def k1m0 : Method := { name := "<init>", desc := "()V", sig := { parameters := [], returnType := none }, accessFlags := 1, code := none }
def k1c1 : Code := { maxStack := 5, maxLocals := 23, code := code, exceptionTable := #[], attributes := #[] }
def k1m1 : Method := { name := "law", desc := "(JJJJI)Z", sig := { parameters := [.long, .long, .long, .long, .int], returnType := some .boolean }, accessFlags := 9, code := some k1c1 }
/-- dev/quotefuse/engine/WideCountClearPinLaw -/
def k1 : Class := { plain "dev/quotefuse/engine/WideCountClearPinLaw" (some 0) with
  accessFlags := 49
  interfaces := #[]
  cf := some (fileOf pool1 33 #[] #[{ accessFlags := 1, nameIndex := 5, descriptorIndex := 6, attributes := #[] }, { accessFlags := 9, nameIndex := 37, descriptorIndex := 38, attributes := #[] }] 49 2 #[] #[])
  fields := #[]
  methods := #[k1m0, k1m1]
  instanceTypes := #[]
  staticTypes := #[]
  resolved := Array.replicate 42 none
  statics := none }

def pool2 : Array CpInfo := pool [(1, .methodref 2 3), (0, .class_ 4), (0, .nameAndType 5 6), (0, u "java/lang/Object"), (0, u "<init>"), (0, u "()V"), (0, .fieldref 8 9), (0, .class_ 10), (0, .nameAndType 11 12), (0, u "java/math/BigInteger"), (0, u "ZERO"), (0, u "Ljava/math/BigInteger;"), (0, .fieldref 14 15), (0, .class_ 16), (0, .nameAndType 17 12), (0, u "dev/quotefuse/engine/WideCount"), (0, u "beyond"), (0, .methodref 14 19), (0, .nameAndType 20 21), (0, u "plus"), (0, u "(JJ)V"), (0, .methodref 23 24), (0, .class_ 25), (0, .nameAndType 26 27), (0, u "java/lang/Math"), (0, u "multiplyHigh"), (0, u "(JJ)J"), (0, .fieldref 14 29), (0, .nameAndType 30 31), (0, u "low"), (0, u "J"), (0, .methodref 33 34), (0, .class_ 35), (0, .nameAndType 36 37), (0, u "java/lang/Long"), (0, u "compareUnsigned"), (0, u "(JJ)I"), (0, .fieldref 14 39), (0, .nameAndType 40 31), (0, u "high"), (0, .long 9223372036854775807), (1, .fieldref 8 44), (0, .nameAndType 45 12), (0, u "ONE"), (3, u "(Ljava/math/BigInteger;)Ljava/math/BigInteger;"), (0, .methodref 8 51), (0, .nameAndType 52 53), (0, u "signum"), (0, u "()I"), (0, .long 18446744073709551615), (9, .methodref 8 65), (0, .nameAndType 66 49), (0, u "add"), (2, u "LOW_BITS"), (5, u "(J)V"), (0, u "addProduct"), (1, u "clear"), (0, u "atLeast"), (0, u "(J)Z"), (0, u "narrowValue"), (0, u "()J")] 5

def k2c0 : Code := { maxStack := 2, maxLocals := 1, code := prog_40_method_1_code, exceptionTable := #[], attributes := #[] }
def k2m0 : Method := { name := "<init>", desc := "()V", sig := { parameters := [], returnType := none }, accessFlags := 0, code := some k2c0 }
def k2c1 : Code := { maxStack := 5, maxLocals := 3, code := prog_40_method_2_code, exceptionTable := #[], attributes := #[] }
def k2m1 : Method := { name := "add", desc := "(J)V", sig := { parameters := [.long], returnType := none }, accessFlags := 0, code := some k2c1 }
def k2c2 : Code := { maxStack := 7, maxLocals := 5, code := prog_40_method_3_code, exceptionTable := #[], attributes := #[] }
def k2m2 : Method := { name := "addProduct", desc := "(JJ)V", sig := { parameters := [.long, .long], returnType := none }, accessFlags := 0, code := some k2c2 }
def k2c3 : Code := { maxStack := 3, maxLocals := 1, code := prog_40_method_5_code, exceptionTable := #[], attributes := #[] }
def k2m3 : Method := { name := "clear", desc := "()V", sig := { parameters := [], returnType := none }, accessFlags := 0, code := some k2c3 }
def k2c4 : Code := { maxStack := 4, maxLocals := 3, code := prog_40_method_6_code, exceptionTable := #[], attributes := #[] }
def k2m4 : Method := { name := "atLeast", desc := "(J)Z", sig := { parameters := [.long], returnType := some .boolean }, accessFlags := 0, code := some k2c4 }
def k2c5 : Code := { maxStack := 4, maxLocals := 1, code := prog_40_method_7_code, exceptionTable := #[], attributes := #[] }
def k2m5 : Method := { name := "narrowValue", desc := "()J", sig := { parameters := [], returnType := some .long }, accessFlags := 0, code := some k2c5 }
def k2c6 : Code := { maxStack := 7, maxLocals := 9, code := prog_40_method_9_code, exceptionTable := #[], attributes := #[] }
def k2m6 : Method := { name := "plus", desc := "(JJ)V", sig := { parameters := [.long, .long], returnType := none }, accessFlags := 2, code := some k2c6 }
/-- dev/quotefuse/engine/WideCount -/
def k2 : Class := { plain "dev/quotefuse/engine/WideCount" (some 0) with
  accessFlags := 48
  interfaces := #[]
  cf := some (fileOf pool2 14 #[] #[{ accessFlags := 0, nameIndex := 5, descriptorIndex := 6, attributes := #[] }, { accessFlags := 0, nameIndex := 66, descriptorIndex := 75, attributes := #[] }, { accessFlags := 0, nameIndex := 76, descriptorIndex := 21, attributes := #[] }, { accessFlags := 0, nameIndex := 78, descriptorIndex := 6, attributes := #[] }, { accessFlags := 0, nameIndex := 79, descriptorIndex := 80, attributes := #[] }, { accessFlags := 0, nameIndex := 81, descriptorIndex := 82, attributes := #[] }, { accessFlags := 2, nameIndex := 20, descriptorIndex := 21, attributes := #[] }] 48 2 #[] #[{ accessFlags := 26, nameIndex := 69, descriptorIndex := 12, attributes := #[] }, { accessFlags := 2, nameIndex := 17, descriptorIndex := 12, attributes := #[] }, { accessFlags := 2, nameIndex := 40, descriptorIndex := 31, attributes := #[] }, { accessFlags := 2, nameIndex := 30, descriptorIndex := 31, attributes := #[] }])
  fields := #[{ name := "LOW_BITS", type := (.object "java/math/BigInteger"), accessFlags := 26, slot := 0, constantValue := 0 }, { name := "beyond", type := (.object "java/math/BigInteger"), accessFlags := 2, slot := 0, constantValue := 0 }, { name := "high", type := .long, accessFlags := 2, slot := 1, constantValue := 0 }, { name := "low", type := .long, accessFlags := 2, slot := 2, constantValue := 0 }]
  methods := #[k2m0, k2m1, k2m2, k2m3, k2m4, k2m5, k2m6]
  instanceTypes := #[(.object "java/math/BigInteger"), .long, .long]
  staticTypes := #[(.object "java/math/BigInteger")]
  resolved := Array.replicate 88 none
  statics := none }

def pool3 : Array CpInfo := pool [(1, .class_ 2), (0, u "java/io/Serializable"), (0, .class_ 4), (0, u "java/lang/Object")] 2

/-- java/io/Serializable -/
def k3 : Class := { plain "java/io/Serializable" (some 0) with
  accessFlags := 1537
  interfaces := #[]
  cf := some (fileOf pool3 1 #[] #[] 1537 3 #[] #[])
  fields := #[]
  methods := #[]
  instanceTypes := #[]
  staticTypes := #[]
  resolved := Array.replicate 7 none
  statics := none }

def pool4 : Array CpInfo := pool [(2, .class_ 4), (1, u "java/lang/Object"), (0, u "<init>"), (0, u "()V"), (1, .class_ 10), (1, u "java/lang/Number"), (2, .class_ 14), (0, u "java/io/Serializable"), (0, u "serialVersionUID"), (0, u "J")] 20

def k4m0 : Method := { name := "<init>", desc := "()V", sig := { parameters := [], returnType := none }, accessFlags := 1, code := none }
/-- java/lang/Number -/
def k4 : Class := { plain "java/lang/Number" (some 0) with
  accessFlags := 1057
  interfaces := #[3]
  cf := some (fileOf pool4 8 #[] #[{ accessFlags := 1, nameIndex := 5, descriptorIndex := 6, attributes := #[] }] 1057 2 #[13] #[{ accessFlags := 26, nameIndex := 15, descriptorIndex := 16, attributes := #[] }])
  fields := #[{ name := "serialVersionUID", type := .long, accessFlags := 26, slot := 0, constantValue := 0 }]
  methods := #[k4m0]
  instanceTypes := #[]
  staticTypes := #[.long]
  resolved := Array.replicate 37 none
  statics := none }

def pool5 : Array CpInfo := pool [(1, .class_ 2), (0, u "java/lang/Comparable"), (0, .class_ 4), (0, u "java/lang/Object")] 7

/-- java/lang/Comparable -/
def k5 : Class := { plain "java/lang/Comparable" (some 0) with
  accessFlags := 1537
  interfaces := #[]
  cf := some (fileOf pool5 1 #[] #[] 1537 3 #[] #[])
  fields := #[]
  methods := #[]
  instanceTypes := #[]
  staticTypes := #[]
  resolved := Array.replicate 12 none
  statics := none }

def pool6 : Array CpInfo := pool [(4, .class_ 6), (1, u "java/lang/Number"), (16, .class_ 25), (1, u "java/math/BigInteger"), (0, u "ZERO"), (0, u "Ljava/math/BigInteger;"), (2, u "mag"), (0, u "[I"), (0, .fieldref 23 33), (0, .nameAndType 34 35), (0, u "signum"), (0, u "I"), (38, u "()I"), (20, u "bitsPerDigit"), (0, u "[J"), (9, u "digitsPerInt"), (12, u "intRadix"), (60, u "SMALL_PRIME_PRODUCT"), (3, u "(Ljava/math/BigInteger;)Ljava/math/BigInteger;"), (56, u "add"), (18, u "ONE"), (6, u "TWO"), (43, u "$assertionsDisabled"), (0, u "Z"), (36, u "posConst"), (0, u "[Ljava/math/BigInteger;"), (4, u "negConst"), (116, .class_ 474), (1, u "java/math/BigInteger$RecursiveOp"), (106, u "NEGATIVE_ONE"), (91, u "bnExpModThreshTable"), (72, u "lowestSetBitPlusTwo"), (2, u "bitLengthPlusOne"), (2, u "bitCountPlusOne"), (6, u "LOG_TWO"), (0, u "D"), (2, u "logCache"), (0, u "[D"), (13, u "NUM_ZEROS"), (2, u "ZEROS"), (0, u "Ljava/lang/String;"), (9, u "longRadix"), (5, u "digitsPerLong"), (22, u "powerCache"), (0, u "[[Ljava/math/BigInteger;"), (45, u "firstNonzeroIntNumPlusTwo"), (38, .class_ 909), (1, u "java/math/BigInteger$UnsafeHolder"), (141, u "TEN"), (106, u "serialPersistentFields"), (0, u "[Ljava/io/ObjectStreamField;"), (0, .class_ 1161), (0, u "java/lang/Comparable"), (0, u "LONG_MASK"), (0, u "J"), (1, u "MAX_MAG_LENGTH"), (0, u "PRIME_SEARCH_BIT_LENGTH_LIMIT"), (1, u "KARATSUBA_THRESHOLD"), (1, u "TOOM_COOK_THRESHOLD"), (1, u "KARATSUBA_SQUARE_THRESHOLD"), (1, u "TOOM_COOK_SQUARE_THRESHOLD"), (1, u "BURNIKEL_ZIEGLER_THRESHOLD"), (0, u "BURNIKEL_ZIEGLER_OFFSET"), (1, u "SCHOENHAGE_BASE_CONVERSION_THRESHOLD"), (1, u "MULTIPLY_SQUARE_THRESHOLD"), (0, u "MONTGOMERY_INTRINSIC_THRESHOLD"), (1, u "SMALL_PRIME_THRESHOLD"), (1, u "DEFAULT_PRIME_CERTAINTY"), (1, u "MAX_CONSTANT"), (3, u "serialVersionUID"), (338, .class_ 1532), (0, u "java/math/BigInteger$RecursiveOp$RecursiveSquare"), (0, .class_ 1534), (0, u "java/math/BigInteger$RecursiveOp$RecursiveMultiply")] 7

def k6c0 : Code := { maxStack := 5, maxLocals := 4, code := jdk_2097_method_32_code, exceptionTable := #[], attributes := #[] }
def k6m0 : Method := { name := "add", desc := "(Ljava/math/BigInteger;)Ljava/math/BigInteger;", sig := { parameters := [(.object "java/math/BigInteger")], returnType := some (.object "java/math/BigInteger") }, accessFlags := 1, code := some k6c0 }
def k6c1 : Code := { maxStack := 1, maxLocals := 1, code := jdk_2097_method_81_code, exceptionTable := #[], attributes := #[] }
def k6m1 : Method := { name := "signum", desc := "()I", sig := { parameters := [], returnType := some .int }, accessFlags := 1, code := some k6c1 }
/-- java/math/BigInteger -/
def k6 : Class := { plain "java/math/BigInteger" (some 4) with
  accessFlags := 33
  interfaces := #[5]
  cf := some (fileOf pool6 23 #[.nestMembers #[907, 472, 1531, 1533]] #[{ accessFlags := 1, nameIndex := 241, descriptorIndex := 184, attributes := #[] }, { accessFlags := 1, nameIndex := 34, descriptorIndex := 74, attributes := #[] }] 33 4 #[1160] #[{ accessFlags := 16, nameIndex := 34, descriptorIndex := 35, attributes := #[] }, { accessFlags := 16, nameIndex := 30, descriptorIndex := 31, attributes := #[] }, { accessFlags := 2, nameIndex := 752, descriptorIndex := 35, attributes := #[] }, { accessFlags := 2, nameIndex := 749, descriptorIndex := 35, attributes := #[] }, { accessFlags := 2, nameIndex := 746, descriptorIndex := 35, attributes := #[] }, { accessFlags := 2, nameIndex := 868, descriptorIndex := 35, attributes := #[] }, { accessFlags := 24, nameIndex := 1162, descriptorIndex := 1163, attributes := #[] }, { accessFlags := 26, nameIndex := 1165, descriptorIndex := 35, attributes := #[] }, { accessFlags := 26, nameIndex := 1166, descriptorIndex := 35, attributes := #[] }, { accessFlags := 26, nameIndex := 1168, descriptorIndex := 35, attributes := #[] }, { accessFlags := 26, nameIndex := 1170, descriptorIndex := 35, attributes := #[] }, { accessFlags := 26, nameIndex := 1172, descriptorIndex := 35, attributes := #[] }, { accessFlags := 26, nameIndex := 1174, descriptorIndex := 35, attributes := #[] }, { accessFlags := 24, nameIndex := 1176, descriptorIndex := 35, attributes := #[] }, { accessFlags := 24, nameIndex := 1177, descriptorIndex := 35, attributes := #[] }, { accessFlags := 26, nameIndex := 1179, descriptorIndex := 35, attributes := #[] }, { accessFlags := 26, nameIndex := 1181, descriptorIndex := 35, attributes := #[] }, { accessFlags := 26, nameIndex := 1182, descriptorIndex := 35, attributes := #[] }, { accessFlags := 10, nameIndex := 95, descriptorIndex := 96, attributes := #[] }, { accessFlags := 26, nameIndex := 1184, descriptorIndex := 35, attributes := #[] }, { accessFlags := 26, nameIndex := 1186, descriptorIndex := 35, attributes := #[] }, { accessFlags := 26, nameIndex := 180, descriptorIndex := 27, attributes := #[] }, { accessFlags := 26, nameIndex := 1188, descriptorIndex := 35, attributes := #[] }, { accessFlags := 26, nameIndex := 349, descriptorIndex := 350, attributes := #[] }, { accessFlags := 26, nameIndex := 355, descriptorIndex := 350, attributes := #[] }, { accessFlags := 74, nameIndex := 821, descriptorIndex := 822, attributes := #[] }, { accessFlags := 26, nameIndex := 763, descriptorIndex := 764, attributes := #[] }, { accessFlags := 26, nameIndex := 759, descriptorIndex := 760, attributes := #[] }, { accessFlags := 25, nameIndex := 26, descriptorIndex := 27, attributes := #[] }, { accessFlags := 25, nameIndex := 260, descriptorIndex := 27, attributes := #[] }, { accessFlags := 25, nameIndex := 267, descriptorIndex := 27, attributes := #[] }, { accessFlags := 26, nameIndex := 581, descriptorIndex := 27, attributes := #[] }, { accessFlags := 25, nameIndex := 1051, descriptorIndex := 27, attributes := #[] }, { accessFlags := 8, nameIndex := 673, descriptorIndex := 31, attributes := #[] }, { accessFlags := 10, nameIndex := 778, descriptorIndex := 35, attributes := #[] }, { accessFlags := 26, nameIndex := 781, descriptorIndex := 782, attributes := #[] }, { accessFlags := 10, nameIndex := 798, descriptorIndex := 31, attributes := #[] }, { accessFlags := 10, nameIndex := 792, descriptorIndex := 350, attributes := #[] }, { accessFlags := 10, nameIndex := 106, descriptorIndex := 31, attributes := #[] }, { accessFlags := 10, nameIndex := 119, descriptorIndex := 31, attributes := #[] }, { accessFlags := 26, nameIndex := 1192, descriptorIndex := 1163, attributes := #[] }, { accessFlags := 26, nameIndex := 1158, descriptorIndex := 1159, attributes := #[] }, { accessFlags := 4120, nameIndex := 311, descriptorIndex := 312, attributes := #[] }])
  fields := #[{ name := "signum", type := .int, accessFlags := 16, slot := 0, constantValue := 0 }, { name := "mag", type := (.array .int), accessFlags := 16, slot := 1, constantValue := 0 }, { name := "bitCountPlusOne", type := .int, accessFlags := 2, slot := 2, constantValue := 0 }, { name := "bitLengthPlusOne", type := .int, accessFlags := 2, slot := 3, constantValue := 0 }, { name := "lowestSetBitPlusTwo", type := .int, accessFlags := 2, slot := 4, constantValue := 0 }, { name := "firstNonzeroIntNumPlusTwo", type := .int, accessFlags := 2, slot := 5, constantValue := 0 }, { name := "LONG_MASK", type := .long, accessFlags := 24, slot := 0, constantValue := 0 }, { name := "MAX_MAG_LENGTH", type := .int, accessFlags := 26, slot := 1, constantValue := 0 }, { name := "PRIME_SEARCH_BIT_LENGTH_LIMIT", type := .int, accessFlags := 26, slot := 2, constantValue := 0 }, { name := "KARATSUBA_THRESHOLD", type := .int, accessFlags := 26, slot := 3, constantValue := 0 }, { name := "TOOM_COOK_THRESHOLD", type := .int, accessFlags := 26, slot := 4, constantValue := 0 }, { name := "KARATSUBA_SQUARE_THRESHOLD", type := .int, accessFlags := 26, slot := 5, constantValue := 0 }, { name := "TOOM_COOK_SQUARE_THRESHOLD", type := .int, accessFlags := 26, slot := 6, constantValue := 0 }, { name := "BURNIKEL_ZIEGLER_THRESHOLD", type := .int, accessFlags := 24, slot := 7, constantValue := 0 }, { name := "BURNIKEL_ZIEGLER_OFFSET", type := .int, accessFlags := 24, slot := 8, constantValue := 0 }, { name := "SCHOENHAGE_BASE_CONVERSION_THRESHOLD", type := .int, accessFlags := 26, slot := 9, constantValue := 0 }, { name := "MULTIPLY_SQUARE_THRESHOLD", type := .int, accessFlags := 26, slot := 10, constantValue := 0 }, { name := "MONTGOMERY_INTRINSIC_THRESHOLD", type := .int, accessFlags := 26, slot := 11, constantValue := 0 }, { name := "bitsPerDigit", type := (.array .long), accessFlags := 10, slot := 12, constantValue := 0 }, { name := "SMALL_PRIME_THRESHOLD", type := .int, accessFlags := 26, slot := 13, constantValue := 0 }, { name := "DEFAULT_PRIME_CERTAINTY", type := .int, accessFlags := 26, slot := 14, constantValue := 0 }, { name := "SMALL_PRIME_PRODUCT", type := (.object "java/math/BigInteger"), accessFlags := 26, slot := 15, constantValue := 0 }, { name := "MAX_CONSTANT", type := .int, accessFlags := 26, slot := 16, constantValue := 0 }, { name := "posConst", type := (.array (.object "java/math/BigInteger")), accessFlags := 26, slot := 17, constantValue := 0 }, { name := "negConst", type := (.array (.object "java/math/BigInteger")), accessFlags := 26, slot := 18, constantValue := 0 }, { name := "powerCache", type := (.array (.array (.object "java/math/BigInteger"))), accessFlags := 74, slot := 19, constantValue := 0 }, { name := "logCache", type := (.array .double), accessFlags := 26, slot := 20, constantValue := 0 }, { name := "LOG_TWO", type := .double, accessFlags := 26, slot := 21, constantValue := 0 }, { name := "ZERO", type := (.object "java/math/BigInteger"), accessFlags := 25, slot := 22, constantValue := 0 }, { name := "ONE", type := (.object "java/math/BigInteger"), accessFlags := 25, slot := 23, constantValue := 0 }, { name := "TWO", type := (.object "java/math/BigInteger"), accessFlags := 25, slot := 24, constantValue := 0 }, { name := "NEGATIVE_ONE", type := (.object "java/math/BigInteger"), accessFlags := 26, slot := 25, constantValue := 0 }, { name := "TEN", type := (.object "java/math/BigInteger"), accessFlags := 25, slot := 26, constantValue := 0 }, { name := "bnExpModThreshTable", type := (.array .int), accessFlags := 8, slot := 27, constantValue := 0 }, { name := "NUM_ZEROS", type := .int, accessFlags := 10, slot := 28, constantValue := 0 }, { name := "ZEROS", type := (.object "java/lang/String"), accessFlags := 26, slot := 29, constantValue := 0 }, { name := "digitsPerLong", type := (.array .int), accessFlags := 10, slot := 30, constantValue := 0 }, { name := "longRadix", type := (.array (.object "java/math/BigInteger")), accessFlags := 10, slot := 31, constantValue := 0 }, { name := "digitsPerInt", type := (.array .int), accessFlags := 10, slot := 32, constantValue := 0 }, { name := "intRadix", type := (.array .int), accessFlags := 10, slot := 33, constantValue := 0 }, { name := "serialVersionUID", type := .long, accessFlags := 26, slot := 34, constantValue := 0 }, { name := "serialPersistentFields", type := (.array (.object "java/io/ObjectStreamField")), accessFlags := 26, slot := 35, constantValue := 0 }, { name := "$assertionsDisabled", type := .boolean, accessFlags := 4120, slot := 36, constantValue := 0 }]
  methods := #[k6m0, k6m1]
  instanceTypes := #[.int, (.array .int), .int, .int, .int, .int]
  staticTypes := #[.long, .int, .int, .int, .int, .int, .int, .int, .int, .int, .int, .int, (.array .long), .int, .int, (.object "java/math/BigInteger"), .int, (.array (.object "java/math/BigInteger")), (.array (.object "java/math/BigInteger")), (.array (.array (.object "java/math/BigInteger"))), (.array .double), .double, (.object "java/math/BigInteger"), (.object "java/math/BigInteger"), (.object "java/math/BigInteger"), (.object "java/math/BigInteger"), (.object "java/math/BigInteger"), (.array .int), .int, (.object "java/lang/String"), (.array .int), (.array (.object "java/math/BigInteger")), (.array .int), (.array .int), .long, (.array (.object "java/io/ObjectStreamField")), .boolean]
  resolved := Array.replicate 1542 none
  statics := some 0 }

def pool7 : Array CpInfo := pool [(1, .class_ 2), (0, u "java/lang/Math"), (1, .class_ 6), (1, u "java/lang/Object"), (0, u "<init>"), (0, u "()V"), (89, .class_ 100), (1, u "java/lang/Math$RandomNumberGeneratorHolder"), (20, u "(JJ)J"), (16, .long 4294967295), (3, u "multiplyHigh"), (29, u "negativeZeroFloatBits"), (0, u "J"), (2, u "negativeZeroDoubleBits"), (68, u "$assertionsDisabled"), (0, u "Z"), (91, u "twoToTheDoubleScaleDown"), (0, u "D"), (4, u "twoToTheDoubleScaleUp"), (9, u "E"), (3, u "PI"), (2, u "TAU"), (2, u "DEGREES_TO_RADIANS"), (0, u "RADIANS_TO_DEGREES")] 94

def k7m0 : Method := { name := "<init>", desc := "()V", sig := { parameters := [], returnType := none }, accessFlags := 2, code := none }
def k7c1 : Code := { maxStack := 6, maxLocals := 20, code := jdk_29_method_45_code, exceptionTable := #[], attributes := #[] }
def k7m1 : Method := { name := "multiplyHigh", desc := "(JJ)J", sig := { parameters := [.long, .long], returnType := some .long }, accessFlags := 9, code := some k7c1 }
/-- java/lang/Math -/
def k7 : Class := { plain "java/lang/Math" (some 0) with
  accessFlags := 49
  interfaces := #[]
  cf := some (fileOf pool7 1 #[.nestMembers #[98]] #[{ accessFlags := 2, nameIndex := 7, descriptorIndex := 8, attributes := #[] }, { accessFlags := 9, nameIndex := 142, descriptorIndex := 121, attributes := #[] }] 49 4 #[] #[{ accessFlags := 25, nameIndex := 354, descriptorIndex := 339, attributes := #[] }, { accessFlags := 25, nameIndex := 358, descriptorIndex := 339, attributes := #[] }, { accessFlags := 25, nameIndex := 361, descriptorIndex := 339, attributes := #[] }, { accessFlags := 26, nameIndex := 364, descriptorIndex := 339, attributes := #[] }, { accessFlags := 26, nameIndex := 365, descriptorIndex := 339, attributes := #[] }, { accessFlags := 26, nameIndex := 172, descriptorIndex := 173, attributes := #[] }, { accessFlags := 26, nameIndex := 176, descriptorIndex := 173, attributes := #[] }, { accessFlags := 8, nameIndex := 344, descriptorIndex := 339, attributes := #[] }, { accessFlags := 8, nameIndex := 338, descriptorIndex := 339, attributes := #[] }, { accessFlags := 4120, nameIndex := 245, descriptorIndex := 246, attributes := #[] }])
  fields := #[{ name := "E", type := .double, accessFlags := 25, slot := 0, constantValue := 0 }, { name := "PI", type := .double, accessFlags := 25, slot := 1, constantValue := 0 }, { name := "TAU", type := .double, accessFlags := 25, slot := 2, constantValue := 0 }, { name := "DEGREES_TO_RADIANS", type := .double, accessFlags := 26, slot := 3, constantValue := 0 }, { name := "RADIANS_TO_DEGREES", type := .double, accessFlags := 26, slot := 4, constantValue := 0 }, { name := "negativeZeroFloatBits", type := .long, accessFlags := 26, slot := 5, constantValue := 0 }, { name := "negativeZeroDoubleBits", type := .long, accessFlags := 26, slot := 6, constantValue := 0 }, { name := "twoToTheDoubleScaleUp", type := .double, accessFlags := 8, slot := 7, constantValue := 0 }, { name := "twoToTheDoubleScaleDown", type := .double, accessFlags := 8, slot := 8, constantValue := 0 }, { name := "$assertionsDisabled", type := .boolean, accessFlags := 4120, slot := 9, constantValue := 0 }]
  methods := #[k7m0, k7m1]
  instanceTypes := #[]
  staticTypes := #[.double, .double, .double, .double, .double, .long, .long, .double, .double, .boolean]
  resolved := Array.replicate 460 none
  statics := none }

def pool8 : Array CpInfo := pool [(1, .class_ 2), (0, u "java/lang/constant/Constable"), (0, .class_ 4), (0, u "java/lang/Object")] 6

/-- java/lang/constant/Constable -/
def k8 : Class := { plain "java/lang/constant/Constable" (some 0) with
  accessFlags := 1537
  interfaces := #[]
  cf := some (fileOf pool8 1 #[] #[] 1537 3 #[] #[])
  fields := #[]
  methods := #[]
  instanceTypes := #[]
  staticTypes := #[]
  resolved := Array.replicate 11 none
  statics := none }

def pool9 : Array CpInfo := pool [(1, .class_ 2), (0, u "java/lang/constant/ConstantDesc"), (0, .class_ 4), (0, u "java/lang/Object")] 32

/-- java/lang/constant/ConstantDesc -/
def k9 : Class := { plain "java/lang/constant/ConstantDesc" (some 0) with
  accessFlags := 1537
  interfaces := #[]
  cf := some (fileOf pool9 1 #[] #[] 1537 3 #[] #[])
  fields := #[]
  methods := #[]
  instanceTypes := #[]
  staticTypes := #[]
  resolved := Array.replicate 37 none
  statics := none }

def pool10 : Array CpInfo := pool [(1, .class_ 2), (0, u "java/lang/Long"), (165, .long 9223372036854775808), (66, .class_ 237), (1, u "java/lang/Long$LongCache"), (33, .class_ 272), (0, u "java/lang/Number"), (2, u "value"), (0, u "J"), (25, .methodref 1 303), (0, .nameAndType 304 305), (0, u "compare"), (0, u "(JJ)I"), (55, u "TYPE"), (0, u "Ljava/lang/Class;"), (0, .class_ 364), (0, u "java/lang/Comparable"), (0, .class_ 366), (0, u "java/lang/constant/Constable"), (0, .class_ 368), (0, u "java/lang/constant/ConstantDesc"), (0, u "MIN_VALUE"), (1, u "MAX_VALUE"), (4, u "SIZE"), (0, u "I"), (1, u "BYTES"), (1, u "serialVersionUID"), (87, u "compareUnsigned")] 54

def k10c0 : Code := { maxStack := 4, maxLocals := 4, code := jdk_35_method_42_code, exceptionTable := #[], attributes := #[] }
def k10m0 : Method := { name := "compare", desc := "(JJ)I", sig := { parameters := [.long, .long], returnType := some .int }, accessFlags := 9, code := some k10c0 }
def k10c1 : Code := { maxStack := 6, maxLocals := 4, code := jdk_35_method_43_code, exceptionTable := #[], attributes := #[] }
def k10m1 : Method := { name := "compareUnsigned", desc := "(JJ)I", sig := { parameters := [.long, .long], returnType := some .int }, accessFlags := 9, code := some k10c1 }
/-- java/lang/Long -/
def k10 : Class := { plain "java/lang/Long" (some 4) with
  accessFlags := 49
  interfaces := #[5, 8, 9]
  cf := some (fileOf pool10 1 #[.nestMembers #[235]] #[{ accessFlags := 9, nameIndex := 304, descriptorIndex := 305, attributes := #[] }, { accessFlags := 9, nameIndex := 469, descriptorIndex := 305, attributes := #[] }] 49 271 #[363, 365, 367] #[{ accessFlags := 25, nameIndex := 369, descriptorIndex := 276, attributes := #[] }, { accessFlags := 25, nameIndex := 371, descriptorIndex := 276, attributes := #[] }, { accessFlags := 25, nameIndex := 361, descriptorIndex := 362, attributes := #[] }, { accessFlags := 18, nameIndex := 275, descriptorIndex := 276, attributes := #[] }, { accessFlags := 25, nameIndex := 376, descriptorIndex := 377, attributes := #[] }, { accessFlags := 25, nameIndex := 379, descriptorIndex := 377, attributes := #[] }, { accessFlags := 26, nameIndex := 381, descriptorIndex := 276, attributes := #[] }])
  fields := #[{ name := "MIN_VALUE", type := .long, accessFlags := 25, slot := 0, constantValue := 0 }, { name := "MAX_VALUE", type := .long, accessFlags := 25, slot := 1, constantValue := 0 }, { name := "TYPE", type := (.object "java/lang/Class"), accessFlags := 25, slot := 2, constantValue := 0 }, { name := "value", type := .long, accessFlags := 18, slot := 0, constantValue := 0 }, { name := "SIZE", type := .int, accessFlags := 25, slot := 3, constantValue := 0 }, { name := "BYTES", type := .int, accessFlags := 25, slot := 4, constantValue := 0 }, { name := "serialVersionUID", type := .long, accessFlags := 26, slot := 5, constantValue := 0 }]
  methods := #[k10m0, k10m1]
  instanceTypes := #[.long]
  staticTypes := #[.long, .long, (.object "java/lang/Class"), .int, .int, .long]
  resolved := Array.replicate 524 none
  statics := none }

def pool11 : Array CpInfo := pool [(1, u "java/lang/Cloneable"), (0, .class_ 1), (0, u "java/lang/Object"), (0, .class_ 3)] 3

/-- java/lang/Cloneable -/
def k11 : Class := { plain "java/lang/Cloneable" (some 0) with
  accessFlags := 1537
  interfaces := #[]
  cf := some (fileOf pool11 2 #[] #[] 1537 4 #[] #[])
  fields := #[]
  methods := #[]
  instanceTypes := #[]
  staticTypes := #[]
  resolved := Array.replicate 8 none
  statics := none }

/-- the primitive byte -/
def k12 : Class := { plain "byte" none with kind := .primitive 'B', accessFlags := 0x411 }
/-- [B -/
def k13 : Class := { plain "[B" (some 0) with kind := .array 12 .byte, interfaces := #[11, 3], accessFlags := 1041 }

/-- the primitive int -/
def k14 : Class := { plain "int" none with kind := .primitive 'I', accessFlags := 0x411 }
/-- [I -/
def k15 : Class := { plain "[I" (some 0) with kind := .array 14 .int, interfaces := #[11, 3], accessFlags := 1041 }

def heap : Heap := #[{ cls := 6, slots := #[.long 0, .int 0, .int 0, .int 0, .int 0, .int 0, .int 0, .int 0, .int 0, .int 0, .int 0, .int 0, .null, .int 0, .int 0, .null, .int 0, .null, .null, .null, .null, .double 0, .ref 3, .ref 4, .null, .null, .null, .null, .int 0, .null, .null, .null, .null, .null, .long 0, .null, .int 0], vm := .statics 6 },
  { cls := 15, slots := #[], vm := .none },
  { cls := 15, slots := #[.int 1], vm := .none },
  { cls := 6, slots := #[.int 0, .ref 1, .int 0, .int 0, .int 0, .int 0], vm := .none },
  { cls := 6, slots := #[.int 1, .ref 2, .int 0, .int 0, .int 0, .int 0], vm := .none }]
def classes : Array Class := #[k0, k1, k2, k3, k4, k5, k6, k7, k8, k9, k10, k11, k12, k13, k14, k15]
def interned : List (Array UInt16 × Addr) := []
def slotsUsed : Nat := 50
def theMethod : MethodId := ⟨1, 1⟩
def args0 : Array Value := #[.long 5, .long 3, .long 6, .long 6, .int 7]
def aboutOver (below : List Frame) : State where
  vm := { classes := classes, interned := interned.toArray }
  heap := heap
  slotsUsed := slotsUsed
  threads := #[{ frames := .invoking theMethod args0 :: below }]
def below0 : List Frame := [.native { method := ⟨0, 0⟩, args := #[] }]
def about1 : State := aboutOver below0
def p0 : Program := .bare "" "" ""
def e0 : Env := launch0.env 0 0 0
theorem w_frames : about1.frames = Frame.invoking theMethod args0 :: below0 := rfl
set_option maxRecDepth 65536 in
theorem w_args : argsFit about1.vm theMethod args0 = true := by decide +kernel
set_option maxRecDepth 65536 in
theorem w_heap : heapFits about1 = true := by decide +kernel
set_option maxRecDepth 65536 in
theorem w_runnable : about1.curStatus? = some .runnable := by decide +kernel
set_option maxRecDepth 65536 in
theorem w_alone : about1.alone = true := by decide +kernel
set_option maxRecDepth 65536 in
theorem w_named : about1.methodNamed? x = some theMethod := by decide +kernel
set_option maxRecDepth 65536 in
theorem w_hears : about1.hears theMethod below0 = true := by decide +kernel
set_option maxRecDepth 65536 in
theorem w_ripe : about1.ripe theMethod args0 below0 = true := by decide +kernel
theorem w_running : about1.status = .running := rfl
set_option maxRecDepth 65536 in
theorem w_room : about1.hasRoom e0.platform room_1 = true :=
  launch0.hasRoom_least _ room_1 (by decide +kernel) (by decide +kernel) (by decide +kernel) (by decide +kernel) (by decide +kernel) (by decide +kernel)
theorem allAtoms_all (ts : List Jvm.Cond) (a : Array Jvm.Value) (st : Jvm.State) : (allAtoms ts).before a st = ts.all (fun c => c.before a st) := by
  induction ts with
  | nil => rfl
  | cons c t ih =>
    show (Jvm.Cond.and c (allAtoms t)).before a st = _
    rw [Jvm.Cond.before_and, ih, List.all_cons]
def words1 : List Jvm.Cond := Jvm.Cond.code x code maxLocals ret :: tables_1
/-- a 'code' word, met by the world's own term for the bytes: nothing is compared byte by byte -/
theorem code_word {y : MethodName} {bytes : ByteArray} {mx : Nat} {rt : Option FieldType} {a : Array Value} {s : State} {m : MethodId} {meth : Method} {c : Code} (h1 : s.methodNamed? y = some m) (h2 : s.vm.method? m = some meth) (h3 : meth.code = some c) (h4 : c.code = bytes)
    (h5 : (c.maxLocals == mx && c.exceptionTable.isEmpty && decide (c.maxStack ≤ mostOperands) && decide (meth.sig.returnType = rt) && !meth.locks && decide (parseMethodDescriptor y.desc = some meth.sig)) = true) : (Jvm.Cond.code y bytes mx rt).before a s = true := by
  simp only [Bool.and_eq_true, beq_iff_eq, Bool.not_eq_true', decide_eq_true_eq] at h5
  obtain ⟨⟨⟨⟨⟨g1, g2⟩, g3⟩, g4⟩, g5⟩, g6⟩ := h5
  simp [Cond.before, Cond.holds, Cond.value, h1, h2, h3, h4, g1, g2, g3, g4, g5, g6]
def isCode : Jvm.Cond → Bool
  | .code _ _ _ _ => true
  | _ => false
theorem all_split {L : List Jvm.Cond} {P : Jvm.Cond → Bool} (h1 : L.all (fun c => isCode c || P c) = true) (h2 : ∀ c ∈ L.filter isCode, P c = true) : L.all P = true := by
  refine List.all_eq_true.mpr fun c hc => ?_
  have h := List.all_eq_true.mp h1 c hc
  rcases Bool.eq_false_or_eq_true (isCode c) with hi | hi
  · exact h2 c (List.mem_filter.mpr ⟨hc, hi⟩)
  · simpa [hi] using h
set_option maxRecDepth 65536 in
theorem w_c0 : (Jvm.Cond.code x code maxLocals ret).before args0 about1 = true := code_word (m := ⟨1, 1⟩) (meth := k1m1) (c := k1c1) (by decide +kernel) rfl rfl rfl (by decide +kernel)
set_option maxRecDepth 65536 in
theorem w_c1 : (Jvm.Cond.code ({ cls := "dev/quotefuse/engine/WideCount", name := "<init>", desc := "()V" } : Jvm.MethodName) prog_40_method_1_code (1 : Nat) (Option.none : Option Jvm.ClassFile.FieldType)).before args0 about1 = true := code_word (m := ⟨2, 0⟩) (meth := k2m0) (c := k2c0) (by decide +kernel) rfl rfl rfl (by decide +kernel)
set_option maxRecDepth 65536 in
theorem w_c2 : (Jvm.Cond.code ({ cls := "java/lang/Object", name := "<init>", desc := "()V" } : Jvm.MethodName) object_method_1_code (1 : Nat) (Option.none : Option Jvm.ClassFile.FieldType)).before args0 about1 = true := code_word (m := ⟨0, 0⟩) (meth := k0m0) (c := k0c0) (by decide +kernel) rfl rfl rfl (by decide +kernel)
set_option maxRecDepth 65536 in
theorem w_c3 : (Jvm.Cond.code ({ cls := "dev/quotefuse/engine/WideCount", name := "addProduct", desc := "(JJ)V" } : Jvm.MethodName) prog_40_method_3_code (5 : Nat) (Option.none : Option Jvm.ClassFile.FieldType)).before args0 about1 = true := code_word (m := ⟨2, 2⟩) (meth := k2m2) (c := k2c2) (by decide +kernel) rfl rfl rfl (by decide +kernel)
set_option maxRecDepth 65536 in
theorem w_c4 : (Jvm.Cond.code ({ cls := "java/lang/Math", name := "multiplyHigh", desc := "(JJ)J" } : Jvm.MethodName) jdk_29_method_45_code (20 : Nat) (Option.some Jvm.ClassFile.FieldType.long)).before args0 about1 = true := code_word (m := ⟨7, 1⟩) (meth := k7m1) (c := k7c1) (by decide +kernel) rfl rfl rfl (by decide +kernel)
set_option maxRecDepth 65536 in
theorem w_c5 : (Jvm.Cond.code ({ cls := "dev/quotefuse/engine/WideCount", name := "plus", desc := "(JJ)V" } : Jvm.MethodName) prog_40_method_9_code (9 : Nat) (Option.none : Option Jvm.ClassFile.FieldType)).before args0 about1 = true := code_word (m := ⟨2, 6⟩) (meth := k2m6) (c := k2c6) (by decide +kernel) rfl rfl rfl (by decide +kernel)
set_option maxRecDepth 65536 in
theorem w_c6 : (Jvm.Cond.code ({ cls := "java/lang/Long", name := "compareUnsigned", desc := "(JJ)I" } : Jvm.MethodName) jdk_35_method_43_code (4 : Nat) (Option.some Jvm.ClassFile.FieldType.int)).before args0 about1 = true := code_word (m := ⟨10, 1⟩) (meth := k10m1) (c := k10c1) (by decide +kernel) rfl rfl rfl (by decide +kernel)
set_option maxRecDepth 65536 in
theorem w_c7 : (Jvm.Cond.code ({ cls := "java/lang/Long", name := "compare", desc := "(JJ)I" } : Jvm.MethodName) jdk_35_method_42_code (4 : Nat) (Option.some Jvm.ClassFile.FieldType.int)).before args0 about1 = true := code_word (m := ⟨10, 0⟩) (meth := k10m0) (c := k10c0) (by decide +kernel) rfl rfl rfl (by decide +kernel)
set_option maxRecDepth 65536 in
theorem w_c8 : (Jvm.Cond.code ({ cls := "dev/quotefuse/engine/WideCount", name := "clear", desc := "()V" } : Jvm.MethodName) prog_40_method_5_code (1 : Nat) (Option.none : Option Jvm.ClassFile.FieldType)).before args0 about1 = true := code_word (m := ⟨2, 3⟩) (meth := k2m3) (c := k2c3) (by decide +kernel) rfl rfl rfl (by decide +kernel)
set_option maxRecDepth 65536 in
theorem w_c9 : (Jvm.Cond.code ({ cls := "dev/quotefuse/engine/WideCount", name := "narrowValue", desc := "()J" } : Jvm.MethodName) prog_40_method_7_code (1 : Nat) (Option.some Jvm.ClassFile.FieldType.long)).before args0 about1 = true := code_word (m := ⟨2, 5⟩) (meth := k2m5) (c := k2c5) (by decide +kernel) rfl rfl rfl (by decide +kernel)
set_option maxRecDepth 65536 in
theorem w_c10 : (Jvm.Cond.code ({ cls := "java/math/BigInteger", name := "signum", desc := "()I" } : Jvm.MethodName) jdk_2097_method_81_code (1 : Nat) (Option.some Jvm.ClassFile.FieldType.int)).before args0 about1 = true := code_word (m := ⟨6, 1⟩) (meth := k6m1) (c := k6c1) (by decide +kernel) rfl rfl rfl (by decide +kernel)
set_option maxRecDepth 65536 in
theorem w_c11 : (Jvm.Cond.code ({ cls := "dev/quotefuse/engine/WideCount", name := "atLeast", desc := "(J)Z" } : Jvm.MethodName) prog_40_method_6_code (3 : Nat) (Option.some Jvm.ClassFile.FieldType.boolean)).before args0 about1 = true := code_word (m := ⟨2, 4⟩) (meth := k2m4) (c := k2c4) (by decide +kernel) rfl rfl rfl (by decide +kernel)
set_option maxRecDepth 65536 in
theorem w_c12 : (Jvm.Cond.code ({ cls := "dev/quotefuse/engine/WideCount", name := "add", desc := "(J)V" } : Jvm.MethodName) prog_40_method_2_code (3 : Nat) (Option.none : Option Jvm.ClassFile.FieldType)).before args0 about1 = true := code_word (m := ⟨2, 1⟩) (meth := k2m1) (c := k2c1) (by decide +kernel) rfl rfl rfl (by decide +kernel)
set_option maxRecDepth 65536 in
theorem w_c13 : (Jvm.Cond.code ({ cls := "java/math/BigInteger", name := "add", desc := "(Ljava/math/BigInteger;)Ljava/math/BigInteger;" } : Jvm.MethodName) jdk_2097_method_32_code (4 : Nat) (Option.some (Jvm.ClassFile.FieldType.object "java/math/BigInteger"))).before args0 about1 = true := code_word (m := ⟨6, 0⟩) (meth := k6m0) (c := k6c0) (by decide +kernel) rfl rfl rfl (by decide +kernel)
def codes1 : List Jvm.Cond := [Jvm.Cond.code x code maxLocals ret, Jvm.Cond.code ({ cls := "dev/quotefuse/engine/WideCount", name := "<init>", desc := "()V" } : Jvm.MethodName) prog_40_method_1_code (1 : Nat) (Option.none : Option Jvm.ClassFile.FieldType), Jvm.Cond.code ({ cls := "java/lang/Object", name := "<init>", desc := "()V" } : Jvm.MethodName) object_method_1_code (1 : Nat) (Option.none : Option Jvm.ClassFile.FieldType), Jvm.Cond.code ({ cls := "dev/quotefuse/engine/WideCount", name := "addProduct", desc := "(JJ)V" } : Jvm.MethodName) prog_40_method_3_code (5 : Nat) (Option.none : Option Jvm.ClassFile.FieldType), Jvm.Cond.code ({ cls := "java/lang/Math", name := "multiplyHigh", desc := "(JJ)J" } : Jvm.MethodName) jdk_29_method_45_code (20 : Nat) (Option.some Jvm.ClassFile.FieldType.long), Jvm.Cond.code ({ cls := "dev/quotefuse/engine/WideCount", name := "plus", desc := "(JJ)V" } : Jvm.MethodName) prog_40_method_9_code (9 : Nat) (Option.none : Option Jvm.ClassFile.FieldType), Jvm.Cond.code ({ cls := "java/lang/Long", name := "compareUnsigned", desc := "(JJ)I" } : Jvm.MethodName) jdk_35_method_43_code (4 : Nat) (Option.some Jvm.ClassFile.FieldType.int), Jvm.Cond.code ({ cls := "java/lang/Long", name := "compare", desc := "(JJ)I" } : Jvm.MethodName) jdk_35_method_42_code (4 : Nat) (Option.some Jvm.ClassFile.FieldType.int), Jvm.Cond.code ({ cls := "dev/quotefuse/engine/WideCount", name := "clear", desc := "()V" } : Jvm.MethodName) prog_40_method_5_code (1 : Nat) (Option.none : Option Jvm.ClassFile.FieldType), Jvm.Cond.code ({ cls := "dev/quotefuse/engine/WideCount", name := "narrowValue", desc := "()J" } : Jvm.MethodName) prog_40_method_7_code (1 : Nat) (Option.some Jvm.ClassFile.FieldType.long), Jvm.Cond.code ({ cls := "java/math/BigInteger", name := "signum", desc := "()I" } : Jvm.MethodName) jdk_2097_method_81_code (1 : Nat) (Option.some Jvm.ClassFile.FieldType.int), Jvm.Cond.code ({ cls := "dev/quotefuse/engine/WideCount", name := "atLeast", desc := "(J)Z" } : Jvm.MethodName) prog_40_method_6_code (3 : Nat) (Option.some Jvm.ClassFile.FieldType.boolean), Jvm.Cond.code ({ cls := "dev/quotefuse/engine/WideCount", name := "add", desc := "(J)V" } : Jvm.MethodName) prog_40_method_2_code (3 : Nat) (Option.none : Option Jvm.ClassFile.FieldType), Jvm.Cond.code ({ cls := "java/math/BigInteger", name := "add", desc := "(Ljava/math/BigInteger;)Ljava/math/BigInteger;" } : Jvm.MethodName) jdk_2097_method_32_code (4 : Nat) (Option.some (Jvm.ClassFile.FieldType.object "java/math/BigInteger"))]
set_option maxRecDepth 65536 in
theorem codes_eq : words1.filter isCode = codes1 := rfl
theorem w_codes : ∀ c ∈ words1.filter isCode, c.before args0 about1 = true := by
  rw [codes_eq]
  intro c hc
  simp only [codes1, List.mem_cons, List.not_mem_nil, or_false] at hc
  rcases hc with rfl | rfl | rfl | rfl | rfl | rfl | rfl | rfl | rfl | rfl | rfl | rfl | rfl | rfl
  · exact w_c0
  · exact w_c1
  · exact w_c2
  · exact w_c3
  · exact w_c4
  · exact w_c5
  · exact w_c6
  · exact w_c7
  · exact w_c8
  · exact w_c9
  · exact w_c10
  · exact w_c11
  · exact w_c12
  · exact w_c13
set_option maxRecDepth 65536 in
theorem w_t1 : (words1.take 24).all (fun c => isCode c || c.before args0 about1) = true := by decide +kernel
set_option maxRecDepth 65536 in
theorem w_t2 : ((words1.drop 24).take 24).all (fun c => isCode c || c.before args0 about1) = true := by decide +kernel
set_option maxRecDepth 65536 in
theorem w_t3 : (((words1.drop 24).drop 24).take 24).all (fun c => isCode c || c.before args0 about1) = true := by decide +kernel
set_option maxRecDepth 65536 in
theorem w_t4 : (((words1.drop 24).drop 24).drop 24).all (fun c => isCode c || c.before args0 about1) = true := by decide +kernel
theorem w_tables : (allAtoms (Jvm.Cond.code x code maxLocals ret :: tables_1)).before args0 about1 = true := by
  rw [allAtoms_all]
  show words1.all (fun c => c.before args0 about1) = true
  refine all_split ?_ w_codes
  rw [← List.take_append_drop 24 words1, List.all_append, w_t1, ← List.take_append_drop 24 (words1.drop 24), List.all_append, w_t2, ← List.take_append_drop 24 ((words1.drop 24).drop 24), List.all_append, w_t3, w_t4]
  rfl
set_option maxRecDepth 65536 in
theorem w_rest : rest_1_c.before args0 about1 = true := by decide +kernel
set_option maxRecDepth 65536 in
theorem w_case : (Jvm.Cond.and given_1 narrow_1).before args0 about1 = true := by decide +kernel
theorem w_applies : (headSpec (Jvm.Cond.code x code maxLocals ret :: tables_1) room_1).applies x e0.platform about1 = true :=
  (Spec.applies_iff w_frames).mpr ⟨w_running, w_runnable, w_alone, w_named, w_hears, w_ripe, w_room, w_tables⟩
theorem atStart : AtStart classFile x code maxLocals ret World_1 tables_1 room_1 Calls_1 rest_1 Pre_1 launch0 p0 e0 about1 theMethod args0 below0 :=
  ⟨lists_1, trivial, launch0.admits_env _ _ _, launch0.least_env, fairChoices_fair.cas, fairChoices_fair.clock, w_frames, w_args, w_heap, w_applies, trivial, w_rest, w_case⟩
end start1
theorem witness_1 : WitnessClaimed_1 := ⟨start1.p0, start1.e0, start1.about1, start1.theMethod, start1.args0, start1.below0, start1.atStart⟩
end Jvm.Pilot.@@N@@
