import JvmDerived
import JvmDerived.Pilot.@@N@@Statement
import JvmDerived.Pilot.@@N@@Code
set_option linter.unusedVariables false
set_option linter.unusedSimpArgs false
namespace Jvm.RoadKit
open Sem ClassFile Op Lib Jvm.Stand Jvm.Free Jvm.LawKit
section New
variable {p : Program} {l : Launch} {e : Env} {R : Room} {s : State} {m : MethodId} {args : Array Value} {below : List Frame} {meth : Method} {c : Code} {T : State} {locs : List Loc} {cells slots : Nat}
theorem retI (X : Stand p l e R s m args below meth c T locs cells slots) (hx : p.tables.exec = Jvm.exec) {pc : Nat} {Ls : Array Slot} {z : Int32} {rest : List Value} (hret : meth.sig.returnType = some .int) (hd : decode c.code pc = .ok (.ireturn, 1)) {fs : List Frame}
    (hl : ∀ (f : JFrame) (acts : List Action), f.method = m → f.locked = none → f.entered = [] → (doReturn e (T.setTop f) acts (some (.int z))).1 = T.setFrames fs) : Steps p.tables e below (T.setTop (mkF m pc Ls (.int z :: rest))) (T.setFrames fs) := by
  have hm' : T.vm.method? m = some meth := X.method'
  have hn : narrow .int (.int z) = .int z := rfl
  show Steps p.tables e below (T.setTop { method := m, pc := pc, locals := Ls, stack := _ :: rest, locked := none }) _
  jvm_step X.here [X.here.top, hx, hd, hm', hret, hn]
  first | (intro acts; rw [hl _ acts rfl rfl rfl]) | rw [hl _ _ rfl rfl rfl]
  exact Steps.refl _
end New
end Jvm.RoadKit
namespace Jvm.Pilot.@@N@@
open Jvm Jvm.ClassFile Sem Op Lib Jvm.Free Jvm.Stand Jvm.LawKit Jvm.RoadKit Bundle Jvm.Pilot.@@N@@.Jvm.D
abbrev own_Go (p : Program) (e : Env) (below : List Frame) (A B : State) : Prop := ∀ t, Steps p.tables e below B t → Steps p.tables e below A t
theorem own_from {p : Program} {e : Env} {below : List Frame} {A B t : State} (h : A = B) (k : Steps p.tables e below A t) : Steps p.tables e below B t := h ▸ k
theorem own_ite1 {P : Prop} [Decidable P] (h : P) : ¬ ((if P then (1 : Int32) else (0 : Int32)) = (0 : Int32)) := by rw [if_pos h]; decide
theorem own_ite0 {P : Prop} [Decidable P] (h : ¬ P) : (if P then (1 : Int32) else (0 : Int32)) = (0 : Int32) := if_neg h
def own_Pl (h : Heap) (a : Addr) : Prop := ∃ c : Cell, h[a]? = some c ∧ c.vm.isStatics = false
theorem own_plE {Z : State} {h : Heap} {a : Addr} {C : String} (F : Exa Z h a C) : own_Pl h a := by obtain ⟨cell, k, h1, _, _, h4, _⟩ := F; exact ⟨cell, h1, h4⟩
theorem own_plF {Z : State} {h : Heap} {a : Addr} {C n d : String} {v : Value} (F : Fld Z h a C n d v) : own_Pl h a := by obtain ⟨cell, cf, k, i, f, h1, _, _, _, h5, _⟩ := F; exact ⟨cell, h1, h5⟩
theorem own_plA {Z : State} {h : Heap} {a : Addr} {k : ClassId} {ty : FieldType} {n : Int32} {vs : List Value} {d : Value} (F : Arv Z h a k ty n vs d) : own_Pl h a := by obtain ⟨c, A, _⟩ := F; exact ⟨c, A.1, A.plain⟩
theorem own_staK {Z : State} {h h' : Heap} {C n d : String} {v : Value} {ws : List Addr} (F : Sta Z h C n d v) (K : Keep h h' ws) (q : ∀ x ∈ ws, own_Pl h x) : Sta Z h' C n d v := by
  obtain ⟨cf, i, k, f, st, cell, h1, h2, h3, h4, h5, h6, h7⟩ := F
  refine ⟨cf, i, k, f, st, cell, h1, h2, h3, h4, K.2.1 st cell h5 fun z => ?_, h6, h7⟩
  obtain ⟨c, q1, q2⟩ := q st z
  cases h5.symm.trans q1
  rw [h6] at q2; cases q2
theorem own_insK {Z : State} {h h' : Heap} {a : Addr} {C : String} {bo : Bool} {ws : List Addr} (F : Ins Z h a C bo) (K : Keep h h' ws) : Ins Z h' a C bo := by
  obtain ⟨cell, cT, h1, h2, h3⟩ := F
  obtain ⟨c', q1, q2, q3, q4⟩ := K.2.2 a cell h1
  exact ⟨c', cT, q1, h2, by rw [q2, q3]; exact h3⟩
theorem own_atI {c : Cell} {vs : List Value} {d : Value} {ty : FieldType} {j : Int32} (H : Has c vs d) (G : ∀ i, i < c.slots.size → fits ty (vs.getD i d) = true) (q : ¬ (j < 0 ∨ c.slots.size ≤ j.toNatClampNeg)) (ht : ty = .int ∨ ty = .boolean ∨ ty = .byte ∨ ty = .char ∨ ty = .short) : ∃ z, c.slots[j.toNatClampNeg]? = some (.int z) := by
  have hlt := Nat.lt_of_not_le fun y => q (Or.inr y)
  obtain ⟨z, hz⟩ := fit_I (G _ hlt) ht
  exact ⟨z, by rw [H _ hlt, hz]⟩
theorem own_cat {v : Value} (h : v.isRef = true) : v.category = 1 := by cases v <;> simp [Value.isRef, Value.category] at h ⊢
theorem own_and7 (x : Int32) : ¬ (x &&& (7 : Int32)) < 0 ∧ (x &&& (7 : Int32)) < (8 : Int32) := by
  have h := c_mask x 7 3 (by decide) (by decide)
  have e8 : (8 : Int32).toInt = 8 := by decide
  have e0 : (0 : Int32).toInt = 0 := by decide
  rw [Int32.lt_iff_toInt_lt, Int32.lt_iff_toInt_lt, h, e8, e0]
  omega
theorem pn_1 : plainName "com/example/splice/splice/XmlVersionAllowsPinLaw" = true := by first | (simp [plainName, overriddenIn]; done) | decide +kernel
theorem d1_0 : decode method_2_code 0 = .ok (.bipush 8, 2) := by decide +kernel
theorem d1_2 : decode method_2_code 2 = .ok (.newarray .int, 2) := by decide +kernel
theorem d1_4 : decode method_2_code 4 = .ok (.dup, 1) := by decide +kernel
theorem d1_5 : decode method_2_code 5 = .ok (.iconst 0, 1) := by decide +kernel
theorem d1_6 : decode method_2_code 6 = .ok (.iconst 0, 1) := by decide +kernel
theorem d1_7 : decode method_2_code 7 = .ok (.iastore, 1) := by decide +kernel
theorem d1_8 : decode method_2_code 8 = .ok (.dup, 1) := by decide +kernel
theorem d1_9 : decode method_2_code 9 = .ok (.iconst 1, 1) := by decide +kernel
theorem d1_10 : decode method_2_code 10 = .ok (.bipush 10, 2) := by decide +kernel
theorem d1_12 : decode method_2_code 12 = .ok (.iastore, 1) := by decide +kernel
theorem d1_13 : decode method_2_code 13 = .ok (.dup, 1) := by decide +kernel
theorem d1_14 : decode method_2_code 14 = .ok (.iconst 2, 1) := by decide +kernel
theorem d1_15 : decode method_2_code 15 = .ok (.bipush 13, 2) := by decide +kernel
theorem d1_17 : decode method_2_code 17 = .ok (.iastore, 1) := by decide +kernel
theorem d1_18 : decode method_2_code 18 = .ok (.dup, 1) := by decide +kernel
theorem d1_19 : decode method_2_code 19 = .ok (.iconst 3, 1) := by decide +kernel
theorem d1_20 : decode method_2_code 20 = .ok (.bipush 31, 2) := by decide +kernel
theorem d1_22 : decode method_2_code 22 = .ok (.iastore, 1) := by decide +kernel
theorem d1_23 : decode method_2_code 23 = .ok (.dup, 1) := by decide +kernel
theorem d1_24 : decode method_2_code 24 = .ok (.iconst 4, 1) := by decide +kernel
theorem d1_25 : decode method_2_code 25 = .ok (.ldc 7, 2) := by decide +kernel
theorem d1_27 : decode method_2_code 27 = .ok (.iastore, 1) := by decide +kernel
theorem d1_28 : decode method_2_code 28 = .ok (.dup, 1) := by decide +kernel
theorem d1_29 : decode method_2_code 29 = .ok (.iconst 5, 1) := by decide +kernel
theorem d1_30 : decode method_2_code 30 = .ok (.ldc 8, 2) := by decide +kernel
theorem d1_32 : decode method_2_code 32 = .ok (.iastore, 1) := by decide +kernel
theorem d1_33 : decode method_2_code 33 = .ok (.dup, 1) := by decide +kernel
theorem d1_34 : decode method_2_code 34 = .ok (.bipush 6, 2) := by decide +kernel
theorem d1_36 : decode method_2_code 36 = .ok (.ldc 9, 2) := by decide +kernel
theorem d1_38 : decode method_2_code 38 = .ok (.iastore, 1) := by decide +kernel
theorem d1_39 : decode method_2_code 39 = .ok (.dup, 1) := by decide +kernel
theorem d1_40 : decode method_2_code 40 = .ok (.bipush 7, 2) := by decide +kernel
theorem d1_42 : decode method_2_code 42 = .ok (.ldc 10, 2) := by decide +kernel
theorem d1_44 : decode method_2_code 44 = .ok (.iastore, 1) := by decide +kernel
theorem d1_45 : decode method_2_code 45 = .ok (.astore_n 1, 1) := by decide +kernel
theorem d1_46 : decode method_2_code 46 = .ok (.aload_n 1, 1) := by decide +kernel
theorem d1_47 : decode method_2_code 47 = .ok (.iload_n 0, 1) := by decide +kernel
theorem d1_48 : decode method_2_code 48 = .ok (.bipush 7, 2) := by decide +kernel
theorem d1_50 : decode method_2_code 50 = .ok (.iand, 1) := by decide +kernel
theorem d1_51 : decode method_2_code 51 = .ok (.iaload, 1) := by decide +kernel
theorem d1_52 : decode method_2_code 52 = .ok (.ireturn, 1) := by decide +kernel
theorem ef_1 (m : MethodId) (q1_0 : Int32) : entryFrame m #[(.int q1_0)] 2 = mkF m 0 #[.val (.int q1_0), .unset] [] := by first | (simp [entryFrame, mkF, argsToLocals, Value.category]; done) | rfl
def Q1 (Z : State) (q1_0 : Int32) (h0 : Heap) (n0 : Nat) (v : Option Value) (h : Heap) (L : List Loc) : Prop := ∃ (z27 : Int32), v = some (.int z27) ∧ Fr n0 L ∧ Keep h0 h []
set_option maxRecDepth 65536 in
set_option maxHeartbeats 40000000 in
theorem rm1 (l : Launch) (Z : State) (a0 : Array Value) (hw : ∀ d ∈ tables_1, d.before a0 Z = true) (ws : List Jvm.Cond) (q1_0 : Int32) (h0 : Heap) (n0 : Nat) (Z0 : n0 ≤ h0.size) :
    MetFree l (⟨"com/example/splice/splice/XmlVersionAllowsPinLaw", "pivot", "(I)I"⟩ : MethodName) (head1 (Jvm.Cond.code (⟨"com/example/splice/splice/XmlVersionAllowsPinLaw", "pivot", "(I)I"⟩ : MethodName) method_2_code 2 (some .int) :: ws) ({ frames := 0, cells := 1, slots := 8, locals := 0 } : Room)) (fun a U => a = #[(.int q1_0)] ∧ Z.Warmed39 U.vm ∧ U.heap = h0) (fun _ _ _ _ _ => True) (fun _ U o U' => ∃ v L, o = .returned v ∧ Q1 Z q1_0 h0 n0 v U'.heap L ∧ FrameEnd U o U' L ({ frames := 0, cells := 1, slots := 8, locals := 0 } : Room).cells ({ frames := 0, cells := 1, slots := 8, locals := 0 } : Room).slots) := by
  refine MetFree.of_bodySF (plainFor_of_name pn_1) hisR ?_
  intro p e s m args below meth c s₁ Bd hml0 hP hK
  obtain ⟨rfl, hZ, hh⟩ := hP
  have hx := Bd.exec
  have hby := Bd.bytes
  have hml : c.maxLocals = 2 := hml0
  have hown : s.vm.findClass "com/example/splice/splice/XmlVersionAllowsPinLaw" = some m.cls := findClass_of_methodNamed Bd.named
  have hnm := (name_of_methodNamed Bd.named Bd.method).1
  have X0 : Stand p l e ({ frames := 0, cells := 1, slots := 8, locals := 0 } : Room) s m #[(.int q1_0)] below meth c s₁ [] 0 0 := Stand.of_body Bd
  have e0 : s₁.heap = h0 := by rw [← hh, Bd.state]; rfl
  have N0 := Fr.nil n0
  obtain ⟨S0, hS0⟩ : ∃ z, z = s₁.setTop (entryFrame m #[(.int q1_0)] 2) := ⟨_, rfl⟩
  have P0 : own_Go p e below S0 (s₁.setTop (mkF m 0 #[.val (.int q1_0), .unset] [])) := fun t k => by rw [hS0]; exact castTop (ef_1 m q1_0) k
  have P1 : own_Go p e below S0 (s₁.setTop (mkF m 2 #[.val (.int q1_0), .unset] [(.int (8 : Int32))])) := fun t k => P0 t (by
    show Steps p.tables e below (s₁.setTop (mkF m 0 #[.val (.int q1_0), .unset] [])) t
    refine XS.bipush X0.here hx rfl (hb hby d1_0) ?_
    show Steps p.tables e below (s₁.setTop (mkF m 2 #[.val (.int q1_0), .unset] [(.int (8 : Int32))])) t
    exact k)
  obtain ⟨T2, h2, k2, X2, e2, E2, A2, st2⟩ := newP X0 hx hZ (hw _ (List.mem_of_getElem? (i := 4) rfl)) e0 (g := (mkF m 2 #[.val (.int q1_0), .unset] [(.int (8 : Int32))])) rfl (hb hby d1_2) rfl (by decide) (cap := 8) (by decide) (by decide) (by decide) (by decide)
  obtain ⟨b2, g2⟩ : ∃ z, z = h0.size := ⟨_, rfl⟩
  rw [← g2] at A2 st2
  have sz_b2 : h0.size ≤ b2 := Nat.le_of_eq g2.symm
  have g_b2 : n0 ≤ b2 := Nat.le_trans Z0 sz_b2
  have o_b2 : h0.size ≤ b2 := sz_b2
  have K2 : Keep h0 h2 [] := (Keep.refl h0 []).ext E2
  have V2 : Arv Z h2 b2 k2 .int (8 : Int32) [(.int (0 : Int32)), (.int (0 : Int32)), (.int (0 : Int32)), (.int (0 : Int32)), (.int (0 : Int32)), (.int (0 : Int32)), (.int (0 : Int32)), (.int (0 : Int32))] (.int (0 : Int32)) := (Arv.new A2 (by decide)).pad (pad_rep [] (.int (0 : Int32)) 8)
  have P2 : own_Go p e below S0 (T2.setTop (mkF m 4 #[.val (.int q1_0), .unset] [(.ref b2)])) := fun t k => P1 t (st2 _ k)
  have P3 : own_Go p e below S0 (T2.setTop (mkF m 7 #[.val (.int q1_0), .unset] [(.int (0 : Int32)), (.int (0 : Int32)), (.ref b2), (.ref b2)])) := fun t k => P2 t (by
    show Steps p.tables e below (T2.setTop (mkF m 4 #[.val (.int q1_0), .unset] [(.ref b2)])) t
    refine XS.dup X2.here hx rfl (hb hby d1_4) rfl rfl ?_
    refine XS.iconst X2.here hx rfl (hb hby d1_5) ?_
    refine XS.iconst X2.here hx rfl (hb hby d1_6) ?_
    show Steps p.tables e below (T2.setTop (mkF m 7 #[.val (.int q1_0), .unset] [(.int (0 : Int32)), (.int (0 : Int32)), (.ref b2), (.ref b2)])) t
    exact k)
  obtain ⟨cl5, Ar5, q5, Sz5, Nn5, Hh5, Gg5⟩ := id V2
  have hin5 : ¬ ((0 : Int32) < 0 ∨ cl5.slots.size ≤ ((0 : Int32)).toNatClampNeg) := inb_of Sz5 ⟨by decide, by decide⟩
  obtain ⟨T4, h4, X4, e4, W4, st4⟩ := stI X2 hx hZ e2 Ar5 (j := (0 : Int32)) hin5 (g := (mkF m 7 #[.val (.int q1_0), .unset] [(.int (0 : Int32)), (.int (0 : Int32)), (.ref b2), (.ref b2)])) rfl rfl (hb hby d1_7)
  have K4 : Keep h0 h4 [] := K2.wr W4 (Or.inr o_b2)
  have N4 := Fr.snoc X4 N0 g_b2
  have V4 : Arv Z h4 b2 k2 .int (8 : Int32) [(.int (0 : Int32)), (.int (0 : Int32)), (.int (0 : Int32)), (.int (0 : Int32)), (.int (0 : Int32)), (.int (0 : Int32)), (.int (0 : Int32)), (.int (0 : Int32))] (.int (0 : Int32)) := Arv.set Ar5 q5 Sz5 Nn5 Hh5 Gg5 rfl W4 0 rfl (Nat.le_of_ble_eq_true rfl)
  have P4 : own_Go p e below S0 (T4.setTop (mkF m 8 #[.val (.int q1_0), .unset] [(.ref b2)])) := fun t k => P3 t (st4 _ k)
  have P6 : own_Go p e below S0 (T4.setTop (mkF m 12 #[.val (.int q1_0), .unset] [(.int (10 : Int32)), (.int (1 : Int32)), (.ref b2), (.ref b2)])) := fun t k => P4 t (by
    show Steps p.tables e below (T4.setTop (mkF m 8 #[.val (.int q1_0), .unset] [(.ref b2)])) t
    refine XS.dup X4.here hx rfl (hb hby d1_8) rfl rfl ?_
    refine XS.iconst X4.here hx rfl (hb hby d1_9) ?_
    refine XS.bipush X4.here hx rfl (hb hby d1_10) ?_
    show Steps p.tables e below (T4.setTop (mkF m 12 #[.val (.int q1_0), .unset] [(.int (10 : Int32)), (.int (1 : Int32)), (.ref b2), (.ref b2)])) t
    exact k)
  obtain ⟨cl8, Ar8, q8, Sz8, Nn8, Hh8, Gg8⟩ := id V4
  have hin8 : ¬ ((1 : Int32) < 0 ∨ cl8.slots.size ≤ ((1 : Int32)).toNatClampNeg) := inb_of Sz8 ⟨by decide, by decide⟩
  obtain ⟨T7, h7, X7, e7, W7, st7⟩ := stI X4 hx hZ e4 Ar8 (j := (1 : Int32)) hin8 (g := (mkF m 12 #[.val (.int q1_0), .unset] [(.int (10 : Int32)), (.int (1 : Int32)), (.ref b2), (.ref b2)])) rfl rfl (hb hby d1_12)
  have K7 : Keep h0 h7 [] := K4.wr W7 (Or.inr o_b2)
  have N7 := Fr.snoc X7 N4 g_b2
  have V7 : Arv Z h7 b2 k2 .int (8 : Int32) [(.int (0 : Int32)), (.int (10 : Int32)), (.int (0 : Int32)), (.int (0 : Int32)), (.int (0 : Int32)), (.int (0 : Int32)), (.int (0 : Int32)), (.int (0 : Int32))] (.int (0 : Int32)) := Arv.set Ar8 q8 Sz8 Nn8 Hh8 Gg8 rfl W7 1 rfl (Nat.le_of_ble_eq_true rfl)
  have P7 : own_Go p e below S0 (T7.setTop (mkF m 13 #[.val (.int q1_0), .unset] [(.ref b2)])) := fun t k => P6 t (st7 _ k)
  have P9 : own_Go p e below S0 (T7.setTop (mkF m 17 #[.val (.int q1_0), .unset] [(.int (13 : Int32)), (.int (2 : Int32)), (.ref b2), (.ref b2)])) := fun t k => P7 t (by
    show Steps p.tables e below (T7.setTop (mkF m 13 #[.val (.int q1_0), .unset] [(.ref b2)])) t
    refine XS.dup X7.here hx rfl (hb hby d1_13) rfl rfl ?_
    refine XS.iconst X7.here hx rfl (hb hby d1_14) ?_
    refine XS.bipush X7.here hx rfl (hb hby d1_15) ?_
    show Steps p.tables e below (T7.setTop (mkF m 17 #[.val (.int q1_0), .unset] [(.int (13 : Int32)), (.int (2 : Int32)), (.ref b2), (.ref b2)])) t
    exact k)
  obtain ⟨cl11, Ar11, q11, Sz11, Nn11, Hh11, Gg11⟩ := id V7
  have hin11 : ¬ ((2 : Int32) < 0 ∨ cl11.slots.size ≤ ((2 : Int32)).toNatClampNeg) := inb_of Sz11 ⟨by decide, by decide⟩
  obtain ⟨T10, h10, X10, e10, W10, st10⟩ := stI X7 hx hZ e7 Ar11 (j := (2 : Int32)) hin11 (g := (mkF m 17 #[.val (.int q1_0), .unset] [(.int (13 : Int32)), (.int (2 : Int32)), (.ref b2), (.ref b2)])) rfl rfl (hb hby d1_17)
  have K10 : Keep h0 h10 [] := K7.wr W10 (Or.inr o_b2)
  have N10 := Fr.snoc X10 N7 g_b2
  have V10 : Arv Z h10 b2 k2 .int (8 : Int32) [(.int (0 : Int32)), (.int (10 : Int32)), (.int (13 : Int32)), (.int (0 : Int32)), (.int (0 : Int32)), (.int (0 : Int32)), (.int (0 : Int32)), (.int (0 : Int32))] (.int (0 : Int32)) := Arv.set Ar11 q11 Sz11 Nn11 Hh11 Gg11 rfl W10 2 rfl (Nat.le_of_ble_eq_true rfl)
  have P10 : own_Go p e below S0 (T10.setTop (mkF m 18 #[.val (.int q1_0), .unset] [(.ref b2)])) := fun t k => P9 t (st10 _ k)
  have P12 : own_Go p e below S0 (T10.setTop (mkF m 22 #[.val (.int q1_0), .unset] [(.int (31 : Int32)), (.int (3 : Int32)), (.ref b2), (.ref b2)])) := fun t k => P10 t (by
    show Steps p.tables e below (T10.setTop (mkF m 18 #[.val (.int q1_0), .unset] [(.ref b2)])) t
    refine XS.dup X10.here hx rfl (hb hby d1_18) rfl rfl ?_
    refine XS.iconst X10.here hx rfl (hb hby d1_19) ?_
    refine XS.bipush X10.here hx rfl (hb hby d1_20) ?_
    show Steps p.tables e below (T10.setTop (mkF m 22 #[.val (.int q1_0), .unset] [(.int (31 : Int32)), (.int (3 : Int32)), (.ref b2), (.ref b2)])) t
    exact k)
  obtain ⟨cl14, Ar14, q14, Sz14, Nn14, Hh14, Gg14⟩ := id V10
  have hin14 : ¬ ((3 : Int32) < 0 ∨ cl14.slots.size ≤ ((3 : Int32)).toNatClampNeg) := inb_of Sz14 ⟨by decide, by decide⟩
  obtain ⟨T13, h13, X13, e13, W13, st13⟩ := stI X10 hx hZ e10 Ar14 (j := (3 : Int32)) hin14 (g := (mkF m 22 #[.val (.int q1_0), .unset] [(.int (31 : Int32)), (.int (3 : Int32)), (.ref b2), (.ref b2)])) rfl rfl (hb hby d1_22)
  have K13 : Keep h0 h13 [] := K10.wr W13 (Or.inr o_b2)
  have N13 := Fr.snoc X13 N10 g_b2
  have V13 : Arv Z h13 b2 k2 .int (8 : Int32) [(.int (0 : Int32)), (.int (10 : Int32)), (.int (13 : Int32)), (.int (31 : Int32)), (.int (0 : Int32)), (.int (0 : Int32)), (.int (0 : Int32)), (.int (0 : Int32))] (.int (0 : Int32)) := Arv.set Ar14 q14 Sz14 Nn14 Hh14 Gg14 rfl W13 3 rfl (Nat.le_of_ble_eq_true rfl)
  have P13 : own_Go p e below S0 (T13.setTop (mkF m 23 #[.val (.int q1_0), .unset] [(.ref b2)])) := fun t k => P12 t (st13 _ k)
  have P15 : own_Go p e below S0 (T13.setTop (mkF m 27 #[.val (.int q1_0), .unset] [(.int (55295 : Int32)), (.int (4 : Int32)), (.ref b2), (.ref b2)])) := fun t k => P13 t (by
    show Steps p.tables e below (T13.setTop (mkF m 23 #[.val (.int q1_0), .unset] [(.ref b2)])) t
    refine XS.dup X13.here hx rfl (hb hby d1_23) rfl rfl ?_
    refine XS.iconst X13.here hx rfl (hb hby d1_24) ?_
    show Steps p.tables e below (T13.setTop (mkF m 25 #[.val (.int q1_0), .unset] [(.int (4 : Int32)), (.ref b2), (.ref b2)])) t
    refine X13.ldcInt hx hown (mvT hZ (hw _ (List.mem_of_getElem? (i := 5) rfl))) (g := (mkF m 25 #[.val (.int q1_0), .unset] [(.int (4 : Int32)), (.ref b2), (.ref b2)])) rfl (hb hby d1_25) _ ?_
    show Steps p.tables e below (T13.setTop (mkF m 27 #[.val (.int q1_0), .unset] [(.int (55295 : Int32)), (.int (4 : Int32)), (.ref b2), (.ref b2)])) t
    exact k)
  obtain ⟨cl17, Ar17, q17, Sz17, Nn17, Hh17, Gg17⟩ := id V13
  have hin17 : ¬ ((4 : Int32) < 0 ∨ cl17.slots.size ≤ ((4 : Int32)).toNatClampNeg) := inb_of Sz17 ⟨by decide, by decide⟩
  obtain ⟨T16, h16, X16, e16, W16, st16⟩ := stI X13 hx hZ e13 Ar17 (j := (4 : Int32)) hin17 (g := (mkF m 27 #[.val (.int q1_0), .unset] [(.int (55295 : Int32)), (.int (4 : Int32)), (.ref b2), (.ref b2)])) rfl rfl (hb hby d1_27)
  have K16 : Keep h0 h16 [] := K13.wr W16 (Or.inr o_b2)
  have N16 := Fr.snoc X16 N13 g_b2
  have V16 : Arv Z h16 b2 k2 .int (8 : Int32) [(.int (0 : Int32)), (.int (10 : Int32)), (.int (13 : Int32)), (.int (31 : Int32)), (.int (55295 : Int32)), (.int (0 : Int32)), (.int (0 : Int32)), (.int (0 : Int32))] (.int (0 : Int32)) := Arv.set Ar17 q17 Sz17 Nn17 Hh17 Gg17 rfl W16 4 rfl (Nat.le_of_ble_eq_true rfl)
  have P16 : own_Go p e below S0 (T16.setTop (mkF m 28 #[.val (.int q1_0), .unset] [(.ref b2)])) := fun t k => P15 t (st16 _ k)
  have P18 : own_Go p e below S0 (T16.setTop (mkF m 32 #[.val (.int q1_0), .unset] [(.int (57343 : Int32)), (.int (5 : Int32)), (.ref b2), (.ref b2)])) := fun t k => P16 t (by
    show Steps p.tables e below (T16.setTop (mkF m 28 #[.val (.int q1_0), .unset] [(.ref b2)])) t
    refine XS.dup X16.here hx rfl (hb hby d1_28) rfl rfl ?_
    refine XS.iconst X16.here hx rfl (hb hby d1_29) ?_
    show Steps p.tables e below (T16.setTop (mkF m 30 #[.val (.int q1_0), .unset] [(.int (5 : Int32)), (.ref b2), (.ref b2)])) t
    refine X16.ldcInt hx hown (mvT hZ (hw _ (List.mem_of_getElem? (i := 6) rfl))) (g := (mkF m 30 #[.val (.int q1_0), .unset] [(.int (5 : Int32)), (.ref b2), (.ref b2)])) rfl (hb hby d1_30) _ ?_
    show Steps p.tables e below (T16.setTop (mkF m 32 #[.val (.int q1_0), .unset] [(.int (57343 : Int32)), (.int (5 : Int32)), (.ref b2), (.ref b2)])) t
    exact k)
  obtain ⟨cl20, Ar20, q20, Sz20, Nn20, Hh20, Gg20⟩ := id V16
  have hin20 : ¬ ((5 : Int32) < 0 ∨ cl20.slots.size ≤ ((5 : Int32)).toNatClampNeg) := inb_of Sz20 ⟨by decide, by decide⟩
  obtain ⟨T19, h19, X19, e19, W19, st19⟩ := stI X16 hx hZ e16 Ar20 (j := (5 : Int32)) hin20 (g := (mkF m 32 #[.val (.int q1_0), .unset] [(.int (57343 : Int32)), (.int (5 : Int32)), (.ref b2), (.ref b2)])) rfl rfl (hb hby d1_32)
  have K19 : Keep h0 h19 [] := K16.wr W19 (Or.inr o_b2)
  have N19 := Fr.snoc X19 N16 g_b2
  have V19 : Arv Z h19 b2 k2 .int (8 : Int32) [(.int (0 : Int32)), (.int (10 : Int32)), (.int (13 : Int32)), (.int (31 : Int32)), (.int (55295 : Int32)), (.int (57343 : Int32)), (.int (0 : Int32)), (.int (0 : Int32))] (.int (0 : Int32)) := Arv.set Ar20 q20 Sz20 Nn20 Hh20 Gg20 rfl W19 5 rfl (Nat.le_of_ble_eq_true rfl)
  have P19 : own_Go p e below S0 (T19.setTop (mkF m 33 #[.val (.int q1_0), .unset] [(.ref b2)])) := fun t k => P18 t (st19 _ k)
  have P21 : own_Go p e below S0 (T19.setTop (mkF m 38 #[.val (.int q1_0), .unset] [(.int (65534 : Int32)), (.int (6 : Int32)), (.ref b2), (.ref b2)])) := fun t k => P19 t (by
    show Steps p.tables e below (T19.setTop (mkF m 33 #[.val (.int q1_0), .unset] [(.ref b2)])) t
    refine XS.dup X19.here hx rfl (hb hby d1_33) rfl rfl ?_
    refine XS.bipush X19.here hx rfl (hb hby d1_34) ?_
    show Steps p.tables e below (T19.setTop (mkF m 36 #[.val (.int q1_0), .unset] [(.int (6 : Int32)), (.ref b2), (.ref b2)])) t
    refine X19.ldcInt hx hown (mvT hZ (hw _ (List.mem_of_getElem? (i := 7) rfl))) (g := (mkF m 36 #[.val (.int q1_0), .unset] [(.int (6 : Int32)), (.ref b2), (.ref b2)])) rfl (hb hby d1_36) _ ?_
    show Steps p.tables e below (T19.setTop (mkF m 38 #[.val (.int q1_0), .unset] [(.int (65534 : Int32)), (.int (6 : Int32)), (.ref b2), (.ref b2)])) t
    exact k)
  obtain ⟨cl23, Ar23, q23, Sz23, Nn23, Hh23, Gg23⟩ := id V19
  have hin23 : ¬ ((6 : Int32) < 0 ∨ cl23.slots.size ≤ ((6 : Int32)).toNatClampNeg) := inb_of Sz23 ⟨by decide, by decide⟩
  obtain ⟨T22, h22, X22, e22, W22, st22⟩ := stI X19 hx hZ e19 Ar23 (j := (6 : Int32)) hin23 (g := (mkF m 38 #[.val (.int q1_0), .unset] [(.int (65534 : Int32)), (.int (6 : Int32)), (.ref b2), (.ref b2)])) rfl rfl (hb hby d1_38)
  have K22 : Keep h0 h22 [] := K19.wr W22 (Or.inr o_b2)
  have N22 := Fr.snoc X22 N19 g_b2
  have V22 : Arv Z h22 b2 k2 .int (8 : Int32) [(.int (0 : Int32)), (.int (10 : Int32)), (.int (13 : Int32)), (.int (31 : Int32)), (.int (55295 : Int32)), (.int (57343 : Int32)), (.int (65534 : Int32)), (.int (0 : Int32))] (.int (0 : Int32)) := Arv.set Ar23 q23 Sz23 Nn23 Hh23 Gg23 rfl W22 6 rfl (Nat.le_of_ble_eq_true rfl)
  have P22 : own_Go p e below S0 (T22.setTop (mkF m 39 #[.val (.int q1_0), .unset] [(.ref b2)])) := fun t k => P21 t (st22 _ k)
  have P24 : own_Go p e below S0 (T22.setTop (mkF m 44 #[.val (.int q1_0), .unset] [(.int (1114111 : Int32)), (.int (7 : Int32)), (.ref b2), (.ref b2)])) := fun t k => P22 t (by
    show Steps p.tables e below (T22.setTop (mkF m 39 #[.val (.int q1_0), .unset] [(.ref b2)])) t
    refine XS.dup X22.here hx rfl (hb hby d1_39) rfl rfl ?_
    refine XS.bipush X22.here hx rfl (hb hby d1_40) ?_
    show Steps p.tables e below (T22.setTop (mkF m 42 #[.val (.int q1_0), .unset] [(.int (7 : Int32)), (.ref b2), (.ref b2)])) t
    refine X22.ldcInt hx hown (mvT hZ (hw _ (List.mem_of_getElem? (i := 8) rfl))) (g := (mkF m 42 #[.val (.int q1_0), .unset] [(.int (7 : Int32)), (.ref b2), (.ref b2)])) rfl (hb hby d1_42) _ ?_
    show Steps p.tables e below (T22.setTop (mkF m 44 #[.val (.int q1_0), .unset] [(.int (1114111 : Int32)), (.int (7 : Int32)), (.ref b2), (.ref b2)])) t
    exact k)
  obtain ⟨cl26, Ar26, q26, Sz26, Nn26, Hh26, Gg26⟩ := id V22
  have hin26 : ¬ ((7 : Int32) < 0 ∨ cl26.slots.size ≤ ((7 : Int32)).toNatClampNeg) := inb_of Sz26 ⟨by decide, by decide⟩
  obtain ⟨T25, h25, X25, e25, W25, st25⟩ := stI X22 hx hZ e22 Ar26 (j := (7 : Int32)) hin26 (g := (mkF m 44 #[.val (.int q1_0), .unset] [(.int (1114111 : Int32)), (.int (7 : Int32)), (.ref b2), (.ref b2)])) rfl rfl (hb hby d1_44)
  have K25 : Keep h0 h25 [] := K22.wr W25 (Or.inr o_b2)
  have N25 := Fr.snoc X25 N22 g_b2
  have V25 : Arv Z h25 b2 k2 .int (8 : Int32) [(.int (0 : Int32)), (.int (10 : Int32)), (.int (13 : Int32)), (.int (31 : Int32)), (.int (55295 : Int32)), (.int (57343 : Int32)), (.int (65534 : Int32)), (.int (1114111 : Int32))] (.int (0 : Int32)) := Arv.set Ar26 q26 Sz26 Nn26 Hh26 Gg26 rfl W25 7 rfl (Nat.le_of_ble_eq_true rfl)
  have P25 : own_Go p e below S0 (T25.setTop (mkF m 45 #[.val (.int q1_0), .unset] [(.ref b2)])) := fun t k => P24 t (st25 _ k)
  obtain ⟨cl27, Ar27, q27, Sz27, Nn27, Hh27, Gg27⟩ := id V25
  have hin27 : ¬ ((q1_0 &&& (7 : Int32)) < 0 ∨ cl27.slots.size ≤ ((q1_0 &&& (7 : Int32))).toNatClampNeg) := inb_of Sz27 (own_and7 _)
  obtain ⟨z27, hat27⟩ := own_atI Hh27 Gg27 hin27 (by simp)
  have P28 : own_Go p e below S0 (T25.setTop (mkF m 52 #[.val (.int q1_0), .val (.ref b2)] [(.int z27)])) := fun t k => P25 t (by
    show Steps p.tables e below (T25.setTop (mkF m 45 #[.val (.int q1_0), .unset] [(.ref b2)])) t
    refine XS.astoreN X25.here hx rfl (hb hby d1_45) rfl rfl (l' := #[.val (.int q1_0), .val (.ref b2)]) rfl ?_
    refine XS.aloadN X25.here hx rfl (hb hby d1_46) rfl rfl ?_
    refine XS.iloadN X25.here hx rfl (hb hby d1_47) rfl ?_
    refine XS.bipush X25.here hx rfl (hb hby d1_48) ?_
    refine XS.iand X25.here hx rfl (hb hby d1_50) rfl ?_
    show Steps p.tables e below (T25.setTop (mkF m 51 #[.val (.int q1_0), .val (.ref b2)] [(.int (q1_0 &&& (7 : Int32))), (.ref b2)])) t
    refine X25.iaload hx (j := (q1_0 &&& (7 : Int32))) (v := (.int z27)) (by rw [e25]; exact Ar27.1) (State.isArrayOf_alike hZ.alike Ar27.2.1) Ar27.2.2 hin27 hat27 (g := (mkF m 51 #[.val (.int q1_0), .val (.ref b2)] [(.int (q1_0 &&& (7 : Int32))), (.ref b2)])) rfl rfl (hb hby d1_51) _ ?_
    show Steps p.tables e below (T25.setTop (mkF m 52 #[.val (.int q1_0), .val (.ref b2)] [(.int z27)])) t
    exact k)
  obtain ⟨fs, hr, hrun, hended, hW, hsame⟩ := X25.leave (v := some (.int z27)) (fun h => by rw [Bd.returns] at h; cases h)
  refine ⟨_, _, own_from hS0 (P28 _ ?_), hrun, hended, _, _, rfl, ?_, ⟨_, rfl⟩, hW, hsame.mono (by decide) (by decide)⟩
  · show Steps p.tables e below (T25.setTop (mkF m 52 #[.val (.int q1_0), .val (.ref b2)] [(.int z27)])) _
    exact retI X25 hx Bd.returns (hb hby d1_52) hr
  · show Q1 Z q1_0 h0 n0 _ T25.heap _
    rw [e25]
    exact ⟨z27, rfl, N25, K25⟩
theorem pn_2 : plainName "com/example/splice/splice/XmlVersion" = true := by first | (simp [plainName, overriddenIn]; done) | decide +kernel
theorem d2_0 : decode prog_177_method_7_code 0 = .ok (.iload_n 1, 1) := by decide +kernel
theorem d2_1 : decode prog_177_method_7_code 1 = .ok (.bipush 32, 2) := by decide +kernel
theorem d2_3 : decode prog_177_method_7_code 3 = .ok (.if_icmp .ge 49, 3) := by decide +kernel
theorem d2_6 : decode prog_177_method_7_code 6 = .ok (.aload_n 0, 1) := by decide +kernel
theorem d2_7 : decode prog_177_method_7_code 7 = .ok (.getstatic 7, 3) := by decide +kernel
theorem d2_10 : decode prog_177_method_7_code 10 = .ok (.if_acmp .ne 15, 3) := by decide +kernel
theorem d2_13 : decode prog_177_method_7_code 13 = .ok (.iload_n 1, 1) := by decide +kernel
theorem d2_14 : decode prog_177_method_7_code 14 = .ok (.ifCond .le 7, 3) := by decide +kernel
theorem d2_17 : decode prog_177_method_7_code 17 = .ok (.iconst 1, 1) := by decide +kernel
theorem d2_18 : decode prog_177_method_7_code 18 = .ok (.goto 30, 3) := by decide +kernel
theorem d2_21 : decode prog_177_method_7_code 21 = .ok (.iconst 0, 1) := by decide +kernel
theorem d2_22 : decode prog_177_method_7_code 22 = .ok (.goto 26, 3) := by decide +kernel
theorem d2_48 : decode prog_177_method_7_code 48 = .ok (.istore_n 2, 1) := by decide +kernel
theorem d2_49 : decode prog_177_method_7_code 49 = .ok (.goto 39, 3) := by decide +kernel
theorem d2_52 : decode prog_177_method_7_code 52 = .ok (.iload_n 1, 1) := by decide +kernel
theorem d2_53 : decode prog_177_method_7_code 53 = .ok (.ldc 43, 2) := by decide +kernel
theorem d2_55 : decode prog_177_method_7_code 55 = .ok (.if_icmp .le 27, 3) := by decide +kernel
theorem d2_58 : decode prog_177_method_7_code 58 = .ok (.iload_n 1, 1) := by decide +kernel
theorem d2_59 : decode prog_177_method_7_code 59 = .ok (.ldc 44, 2) := by decide +kernel
theorem d2_61 : decode prog_177_method_7_code 61 = .ok (.if_icmp .lt 9, 3) := by decide +kernel
theorem d2_64 : decode prog_177_method_7_code 64 = .ok (.iload_n 1, 1) := by decide +kernel
theorem d2_65 : decode prog_177_method_7_code 65 = .ok (.ldc 45, 2) := by decide +kernel
theorem d2_67 : decode prog_177_method_7_code 67 = .ok (.if_icmp .le 15, 3) := by decide +kernel
theorem d2_70 : decode prog_177_method_7_code 70 = .ok (.iload_n 1, 1) := by decide +kernel
theorem d2_71 : decode prog_177_method_7_code 71 = .ok (.ldc 46, 2) := by decide +kernel
theorem d2_73 : decode prog_177_method_7_code 73 = .ok (.if_icmp .lt 13, 3) := by decide +kernel
theorem d2_76 : decode prog_177_method_7_code 76 = .ok (.iload_n 1, 1) := by decide +kernel
theorem d2_77 : decode prog_177_method_7_code 77 = .ok (.ldc 47, 2) := by decide +kernel
theorem d2_79 : decode prog_177_method_7_code 79 = .ok (.if_icmp .gt 7, 3) := by decide +kernel
theorem d2_82 : decode prog_177_method_7_code 82 = .ok (.iconst 1, 1) := by decide +kernel
theorem d2_83 : decode prog_177_method_7_code 83 = .ok (.goto 4, 3) := by decide +kernel
theorem d2_86 : decode prog_177_method_7_code 86 = .ok (.iconst 0, 1) := by decide +kernel
theorem d2_87 : decode prog_177_method_7_code 87 = .ok (.istore_n 2, 1) := by decide +kernel
theorem d2_88 : decode prog_177_method_7_code 88 = .ok (.iload_n 2, 1) := by decide +kernel
theorem d2_89 : decode prog_177_method_7_code 89 = .ok (.ireturn, 1) := by decide +kernel
theorem ef_2a (m : MethodId) (z2a_V1_1 : Addr) (q2a_1 : Int32) : entryFrame m #[(.ref z2a_V1_1), (.int q2a_1)] 3 = mkF m 0 #[.val (.ref z2a_V1_1), .val (.int q2a_1), .unset] [] := by first | (simp [entryFrame, mkF, argsToLocals, Value.category]; done) | rfl
def r2a (q2a_1 : Int32) : Int32 := (if q2a_1 < (32 : Int32) then (if (0 : Int32) < q2a_1 then (1 : Int32) else (0 : Int32)) else (if (55295 : Int32) < q2a_1 then (if q2a_1 < (57344 : Int32) then (if q2a_1 < (65536 : Int32) then (0 : Int32) else (if (1114111 : Int32) < q2a_1 then (0 : Int32) else (1 : Int32))) else (if (65533 : Int32) < q2a_1 then (if q2a_1 < (65536 : Int32) then (0 : Int32) else (if (1114111 : Int32) < q2a_1 then (0 : Int32) else (1 : Int32))) else (1 : Int32))) else (1 : Int32)))
def Q2a (Z : State) (z2a_V1_1 : Addr) (q2a_1 : Int32) (h0 : Heap) (n0 : Nat) (v : Option Value) (h : Heap) (L : List Loc) : Prop := v = some (.int (r2a q2a_1)) ∧ Fr n0 L ∧ h = h0
set_option maxRecDepth 65536 in
set_option maxHeartbeats 40000000 in
theorem rm2a (l : Launch) (Z : State) (a0 : Array Value) (hw : ∀ d ∈ tables_1, d.before a0 Z = true) (ws : List Jvm.Cond) (z2a_V1_1 : Addr) (q2a_1 : Int32) (h0 : Heap) (n0 : Nat) (Z0 : n0 ≤ h0.size) (S_V1_1 : Sta Z h0 "com/example/splice/splice/XmlVersion" "V1_1" "Lcom/example/splice/splice/XmlVersion;" (.ref z2a_V1_1)) :
    MetFree l (⟨"com/example/splice/splice/XmlVersion", "allows", "(I)Z"⟩ : MethodName) (head1 (Jvm.Cond.code (⟨"com/example/splice/splice/XmlVersion", "allows", "(I)Z"⟩ : MethodName) prog_177_method_7_code 3 (some .boolean) :: ws) ({ frames := 0, cells := 0, slots := 0, locals := 0 } : Room)) (fun a U => a = #[(.ref z2a_V1_1), (.int q2a_1)] ∧ Z.Warmed39 U.vm ∧ U.heap = h0) (fun _ _ _ _ _ => True) (fun _ U o U' => ∃ v L, o = .returned v ∧ Q2a Z z2a_V1_1 q2a_1 h0 n0 v U'.heap L ∧ FrameEnd U o U' L ({ frames := 0, cells := 0, slots := 0, locals := 0 } : Room).cells ({ frames := 0, cells := 0, slots := 0, locals := 0 } : Room).slots) := by
  refine MetFree.of_bodySF (plainFor_of_name pn_2) hisR ?_
  intro p e s m args below meth c s₁ Bd hml0 hP hK
  obtain ⟨rfl, hZ, hh⟩ := hP
  have hx := Bd.exec
  have hby := Bd.bytes
  have hml : c.maxLocals = 3 := hml0
  have hown : s.vm.findClass "com/example/splice/splice/XmlVersion" = some m.cls := findClass_of_methodNamed Bd.named
  have hnm := (name_of_methodNamed Bd.named Bd.method).1
  have X0 : Stand p l e ({ frames := 0, cells := 0, slots := 0, locals := 0 } : Room) s m #[(.ref z2a_V1_1), (.int q2a_1)] below meth c s₁ [] 0 0 := Stand.of_body Bd
  have e0 : s₁.heap = h0 := by rw [← hh, Bd.state]; rfl
  have N0 := Fr.nil n0
  obtain ⟨S0, hS0⟩ : ∃ z, z = s₁.setTop (entryFrame m #[(.ref z2a_V1_1), (.int q2a_1)] 3) := ⟨_, rfl⟩
  have P0 : own_Go p e below S0 (s₁.setTop (mkF m 0 #[.val (.ref z2a_V1_1), .val (.int q2a_1), .unset] [])) := fun t k => by rw [hS0]; exact castTop (ef_2a m z2a_V1_1 q2a_1) k
  have P1 : own_Go p e below S0 (s₁.setTop (mkF m 3 #[.val (.ref z2a_V1_1), .val (.int q2a_1), .unset] [(.int (32 : Int32)), (.int q2a_1)])) := fun t k => P0 t (by
    show Steps p.tables e below (s₁.setTop (mkF m 0 #[.val (.ref z2a_V1_1), .val (.int q2a_1), .unset] [])) t
    refine XS.iloadN X0.here hx rfl (hb hby d2_0) rfl ?_
    refine XS.bipush X0.here hx rfl (hb hby d2_1) ?_
    show Steps p.tables e below (s₁.setTop (mkF m 3 #[.val (.ref z2a_V1_1), .val (.int q2a_1), .unset] [(.int (32 : Int32)), (.int q2a_1)])) t
    exact k)
  by_cases c2 : q2a_1 < (32 : Int32)
  · skip
    have P3 : own_Go p e below S0 (s₁.setTop (mkF m 7 #[.val (.ref z2a_V1_1), .val (.int q2a_1), .unset] [(.ref z2a_V1_1)])) := fun t k => P1 t (by
      show Steps p.tables e below (s₁.setTop (mkF m 3 #[.val (.ref z2a_V1_1), .val (.int q2a_1), .unset] [(.int (32 : Int32)), (.int q2a_1)])) t
      refine XS.icmpNo X0.here hx rfl (hb hby d2_3) rfl (tlt c2).2.1 ?_
      refine XS.aloadN X0.here hx rfl (hb hby d2_6) rfl rfl ?_
      show Steps p.tables e below (s₁.setTop (mkF m 7 #[.val (.ref z2a_V1_1), .val (.int q2a_1), .unset] [(.ref z2a_V1_1)])) t
      exact k)
    obtain ⟨T4, X4, e4, st4⟩ := getS2 X0 hx hZ hown (host := "") (Or.inl (hw _ (List.mem_of_getElem? (i := 17) rfl))) Via.refl e0 S_V1_1 (g := (mkF m 7 #[.val (.ref z2a_V1_1), .val (.int q2a_1), .unset] [(.ref z2a_V1_1)])) rfl (hb hby d2_7)
    have P4 : own_Go p e below S0 (T4.setTop (mkF m 10 #[.val (.ref z2a_V1_1), .val (.int q2a_1), .unset] [(.ref z2a_V1_1), (.ref z2a_V1_1)])) := fun t k => P3 t (st4 _ k)
    have P5 : own_Go p e below S0 (T4.setTop (mkF m 14 #[.val (.ref z2a_V1_1), .val (.int q2a_1), .unset] [(.int q2a_1)])) := fun t k => P4 t (by
      show Steps p.tables e below (T4.setTop (mkF m 10 #[.val (.ref z2a_V1_1), .val (.int q2a_1), .unset] [(.ref z2a_V1_1), (.ref z2a_V1_1)])) t
      refine Jvm.RoadKit.acmp (g := (mkF m 10 #[.val (.ref z2a_V1_1), .val (.int q2a_1), .unset] [(.ref z2a_V1_1), (.ref z2a_V1_1)])) X4 hx rfl rfl rfl (pc0 := 10) (pc' := 13) (same := true) rfl (hb hby d2_10) rfl (decide_eq_true rfl) (by decide) (by decide) ?_
      refine XS.iloadN X4.here hx rfl (hb hby d2_13) rfl ?_
      show Steps p.tables e below (T4.setTop (mkF m 14 #[.val (.ref z2a_V1_1), .val (.int q2a_1), .unset] [(.int q2a_1)])) t
      exact k)
    by_cases c6 : (0 : Int32) < q2a_1
    · skip
      have P7 : own_Go p e below S0 (T4.setTop (mkF m 89 #[.val (.ref z2a_V1_1), .val (.int q2a_1), .val (.int (1 : Int32))] [(.int (1 : Int32))])) := fun t k => P5 t (by
        show Steps p.tables e below (T4.setTop (mkF m 14 #[.val (.ref z2a_V1_1), .val (.int q2a_1), .unset] [(.int q2a_1)])) t
        refine XS.ifNo X4.here hx rfl (hb hby d2_14) rfl ((if0 _ _).trans (tlt c6).2.2.2) ?_
        refine XS.iconst X4.here hx rfl (hb hby d2_17) ?_
        refine XS.goto X4.here hx rfl (pc0 := 18) (pc' := 48) rfl (hb hby d2_18) (by decide) (by decide) ?_
        refine XS.istoreN X4.here hx rfl (hb hby d2_48) rfl (l' := #[.val (.ref z2a_V1_1), .val (.int q2a_1), .val (.int (1 : Int32))]) rfl ?_
        refine XS.goto X4.here hx rfl (pc0 := 49) (pc' := 88) rfl (hb hby d2_49) (by decide) (by decide) ?_
        refine XS.iloadN X4.here hx rfl (hb hby d2_88) rfl ?_
        show Steps p.tables e below (T4.setTop (mkF m 89 #[.val (.ref z2a_V1_1), .val (.int q2a_1), .val (.int (1 : Int32))] [(.int (1 : Int32))])) t
        exact k)
      obtain ⟨fs, hr, hrun, hended, hW, hsame⟩ := X4.leave (v := some (.int (1 : Int32))) (fun h => by rw [Bd.returns] at h; cases h)
      refine ⟨_, _, own_from hS0 (P7 _ ?_), hrun, hended, _, _, rfl, ?_, ⟨_, rfl⟩, hW, hsame.mono (by decide) (by decide)⟩
      · show Steps p.tables e below (T4.setTop (mkF m 89 #[.val (.ref z2a_V1_1), .val (.int q2a_1), .val (.int (1 : Int32))] [(.int (1 : Int32))])) _
        exact retN X4 hx (t := .boolean) Bd.returns (by simp) (hb hby d2_89) hr
      · show Q2a Z z2a_V1_1 q2a_1 h0 n0 _ T4.heap _
        rw [e4]
        exact ⟨(congrArg (fun z => some (Value.int z)) (Eq.symm (Eq.trans (if_pos c2) (if_pos c6)))), N0, rfl⟩
    · skip
      have P8 : own_Go p e below S0 (T4.setTop (mkF m 89 #[.val (.ref z2a_V1_1), .val (.int q2a_1), .val (.int (0 : Int32))] [(.int (0 : Int32))])) := fun t k => P5 t (by
        show Steps p.tables e below (T4.setTop (mkF m 14 #[.val (.ref z2a_V1_1), .val (.int q2a_1), .unset] [(.int q2a_1)])) t
        refine XS.ifYes X4.here hx rfl (pc0 := 14) (pc' := 21) rfl (hb hby d2_14) rfl ((if0 _ _).trans (flt c6).2.2.2) (by decide) (by decide) ?_
        refine XS.iconst X4.here hx rfl (hb hby d2_21) ?_
        refine XS.goto X4.here hx rfl (pc0 := 22) (pc' := 48) rfl (hb hby d2_22) (by decide) (by decide) ?_
        refine XS.istoreN X4.here hx rfl (hb hby d2_48) rfl (l' := #[.val (.ref z2a_V1_1), .val (.int q2a_1), .val (.int (0 : Int32))]) rfl ?_
        refine XS.goto X4.here hx rfl (pc0 := 49) (pc' := 88) rfl (hb hby d2_49) (by decide) (by decide) ?_
        refine XS.iloadN X4.here hx rfl (hb hby d2_88) rfl ?_
        show Steps p.tables e below (T4.setTop (mkF m 89 #[.val (.ref z2a_V1_1), .val (.int q2a_1), .val (.int (0 : Int32))] [(.int (0 : Int32))])) t
        exact k)
      obtain ⟨fs, hr, hrun, hended, hW, hsame⟩ := X4.leave (v := some (.int (0 : Int32))) (fun h => by rw [Bd.returns] at h; cases h)
      refine ⟨_, _, own_from hS0 (P8 _ ?_), hrun, hended, _, _, rfl, ?_, ⟨_, rfl⟩, hW, hsame.mono (by decide) (by decide)⟩
      · show Steps p.tables e below (T4.setTop (mkF m 89 #[.val (.ref z2a_V1_1), .val (.int q2a_1), .val (.int (0 : Int32))] [(.int (0 : Int32))])) _
        exact retN X4 hx (t := .boolean) Bd.returns (by simp) (hb hby d2_89) hr
      · show Q2a Z z2a_V1_1 q2a_1 h0 n0 _ T4.heap _
        rw [e4]
        exact ⟨(congrArg (fun z => some (Value.int z)) (Eq.symm (Eq.trans (if_pos c2) (if_neg c6)))), N0, rfl⟩
  · skip
    have P9 : own_Go p e below S0 (s₁.setTop (mkF m 55 #[.val (.ref z2a_V1_1), .val (.int q2a_1), .unset] [(.int (55295 : Int32)), (.int q2a_1)])) := fun t k => P1 t (by
      show Steps p.tables e below (s₁.setTop (mkF m 3 #[.val (.ref z2a_V1_1), .val (.int q2a_1), .unset] [(.int (32 : Int32)), (.int q2a_1)])) t
      refine XS.icmpYes X0.here hx rfl (pc0 := 3) (pc' := 52) rfl (hb hby d2_3) rfl (flt c2).2.1 (by decide) (by decide) ?_
      refine XS.iloadN X0.here hx rfl (hb hby d2_52) rfl ?_
      show Steps p.tables e below (s₁.setTop (mkF m 53 #[.val (.ref z2a_V1_1), .val (.int q2a_1), .unset] [(.int q2a_1)])) t
      refine X0.ldcInt hx hown (mvT hZ (hw _ (List.mem_of_getElem? (i := 25) rfl))) (g := (mkF m 53 #[.val (.ref z2a_V1_1), .val (.int q2a_1), .unset] [(.int q2a_1)])) rfl (hb hby d2_53) _ ?_
      show Steps p.tables e below (s₁.setTop (mkF m 55 #[.val (.ref z2a_V1_1), .val (.int q2a_1), .unset] [(.int (55295 : Int32)), (.int q2a_1)])) t
      exact k)
    by_cases c10 : (55295 : Int32) < q2a_1
    · skip
      have P11 : own_Go p e below S0 (s₁.setTop (mkF m 61 #[.val (.ref z2a_V1_1), .val (.int q2a_1), .unset] [(.int (57344 : Int32)), (.int q2a_1)])) := fun t k => P9 t (by
        show Steps p.tables e below (s₁.setTop (mkF m 55 #[.val (.ref z2a_V1_1), .val (.int q2a_1), .unset] [(.int (55295 : Int32)), (.int q2a_1)])) t
        refine XS.icmpNo X0.here hx rfl (hb hby d2_55) rfl (tlt c10).2.2.2 ?_
        refine XS.iloadN X0.here hx rfl (hb hby d2_58) rfl ?_
        show Steps p.tables e below (s₁.setTop (mkF m 59 #[.val (.ref z2a_V1_1), .val (.int q2a_1), .unset] [(.int q2a_1)])) t
        refine X0.ldcInt hx hown (mvT hZ (hw _ (List.mem_of_getElem? (i := 26) rfl))) (g := (mkF m 59 #[.val (.ref z2a_V1_1), .val (.int q2a_1), .unset] [(.int q2a_1)])) rfl (hb hby d2_59) _ ?_
        show Steps p.tables e below (s₁.setTop (mkF m 61 #[.val (.ref z2a_V1_1), .val (.int q2a_1), .unset] [(.int (57344 : Int32)), (.int q2a_1)])) t
        exact k)
      by_cases c12 : q2a_1 < (57344 : Int32)
      · skip
        have P13 : own_Go p e below S0 (s₁.setTop (mkF m 73 #[.val (.ref z2a_V1_1), .val (.int q2a_1), .unset] [(.int (65536 : Int32)), (.int q2a_1)])) := fun t k => P11 t (by
          show Steps p.tables e below (s₁.setTop (mkF m 61 #[.val (.ref z2a_V1_1), .val (.int q2a_1), .unset] [(.int (57344 : Int32)), (.int q2a_1)])) t
          refine XS.icmpYes X0.here hx rfl (pc0 := 61) (pc' := 70) rfl (hb hby d2_61) rfl (tlt c12).1 (by decide) (by decide) ?_
          refine XS.iloadN X0.here hx rfl (hb hby d2_70) rfl ?_
          show Steps p.tables e below (s₁.setTop (mkF m 71 #[.val (.ref z2a_V1_1), .val (.int q2a_1), .unset] [(.int q2a_1)])) t
          refine X0.ldcInt hx hown (mvT hZ (hw _ (List.mem_of_getElem? (i := 27) rfl))) (g := (mkF m 71 #[.val (.ref z2a_V1_1), .val (.int q2a_1), .unset] [(.int q2a_1)])) rfl (hb hby d2_71) _ ?_
          show Steps p.tables e below (s₁.setTop (mkF m 73 #[.val (.ref z2a_V1_1), .val (.int q2a_1), .unset] [(.int (65536 : Int32)), (.int q2a_1)])) t
          exact k)
        by_cases c14 : q2a_1 < (65536 : Int32)
        · skip
          have P15 : own_Go p e below S0 (s₁.setTop (mkF m 89 #[.val (.ref z2a_V1_1), .val (.int q2a_1), .val (.int (0 : Int32))] [(.int (0 : Int32))])) := fun t k => P13 t (by
            show Steps p.tables e below (s₁.setTop (mkF m 73 #[.val (.ref z2a_V1_1), .val (.int q2a_1), .unset] [(.int (65536 : Int32)), (.int q2a_1)])) t
            refine XS.icmpYes X0.here hx rfl (pc0 := 73) (pc' := 86) rfl (hb hby d2_73) rfl (tlt c14).1 (by decide) (by decide) ?_
            refine XS.iconst X0.here hx rfl (hb hby d2_86) ?_
            refine XS.istoreN X0.here hx rfl (hb hby d2_87) rfl (l' := #[.val (.ref z2a_V1_1), .val (.int q2a_1), .val (.int (0 : Int32))]) rfl ?_
            refine XS.iloadN X0.here hx rfl (hb hby d2_88) rfl ?_
            show Steps p.tables e below (s₁.setTop (mkF m 89 #[.val (.ref z2a_V1_1), .val (.int q2a_1), .val (.int (0 : Int32))] [(.int (0 : Int32))])) t
            exact k)
          obtain ⟨fs, hr, hrun, hended, hW, hsame⟩ := X0.leave (v := some (.int (0 : Int32))) (fun h => by rw [Bd.returns] at h; cases h)
          refine ⟨_, _, own_from hS0 (P15 _ ?_), hrun, hended, _, _, rfl, ?_, ⟨_, rfl⟩, hW, hsame.mono (by decide) (by decide)⟩
          · show Steps p.tables e below (s₁.setTop (mkF m 89 #[.val (.ref z2a_V1_1), .val (.int q2a_1), .val (.int (0 : Int32))] [(.int (0 : Int32))])) _
            exact retN X0 hx (t := .boolean) Bd.returns (by simp) (hb hby d2_89) hr
          · show Q2a Z z2a_V1_1 q2a_1 h0 n0 _ s₁.heap _
            rw [e0]
            exact ⟨(congrArg (fun z => some (Value.int z)) (Eq.symm (Eq.trans (if_neg c2) (Eq.trans (if_pos c10) (Eq.trans (if_pos c12) (if_pos c14)))))), N0, rfl⟩
        · skip
          have P16 : own_Go p e below S0 (s₁.setTop (mkF m 79 #[.val (.ref z2a_V1_1), .val (.int q2a_1), .unset] [(.int (1114111 : Int32)), (.int q2a_1)])) := fun t k => P13 t (by
            show Steps p.tables e below (s₁.setTop (mkF m 73 #[.val (.ref z2a_V1_1), .val (.int q2a_1), .unset] [(.int (65536 : Int32)), (.int q2a_1)])) t
            refine XS.icmpNo X0.here hx rfl (hb hby d2_73) rfl (flt c14).1 ?_
            refine XS.iloadN X0.here hx rfl (hb hby d2_76) rfl ?_
            show Steps p.tables e below (s₁.setTop (mkF m 77 #[.val (.ref z2a_V1_1), .val (.int q2a_1), .unset] [(.int q2a_1)])) t
            refine X0.ldcInt hx hown (mvT hZ (hw _ (List.mem_of_getElem? (i := 29) rfl))) (g := (mkF m 77 #[.val (.ref z2a_V1_1), .val (.int q2a_1), .unset] [(.int q2a_1)])) rfl (hb hby d2_77) _ ?_
            show Steps p.tables e below (s₁.setTop (mkF m 79 #[.val (.ref z2a_V1_1), .val (.int q2a_1), .unset] [(.int (1114111 : Int32)), (.int q2a_1)])) t
            exact k)
          by_cases c17 : (1114111 : Int32) < q2a_1
          · skip
            have P18 : own_Go p e below S0 (s₁.setTop (mkF m 89 #[.val (.ref z2a_V1_1), .val (.int q2a_1), .val (.int (0 : Int32))] [(.int (0 : Int32))])) := fun t k => P16 t (by
              show Steps p.tables e below (s₁.setTop (mkF m 79 #[.val (.ref z2a_V1_1), .val (.int q2a_1), .unset] [(.int (1114111 : Int32)), (.int q2a_1)])) t
              refine XS.icmpYes X0.here hx rfl (pc0 := 79) (pc' := 86) rfl (hb hby d2_79) rfl (tlt c17).2.2.1 (by decide) (by decide) ?_
              refine XS.iconst X0.here hx rfl (hb hby d2_86) ?_
              refine XS.istoreN X0.here hx rfl (hb hby d2_87) rfl (l' := #[.val (.ref z2a_V1_1), .val (.int q2a_1), .val (.int (0 : Int32))]) rfl ?_
              refine XS.iloadN X0.here hx rfl (hb hby d2_88) rfl ?_
              show Steps p.tables e below (s₁.setTop (mkF m 89 #[.val (.ref z2a_V1_1), .val (.int q2a_1), .val (.int (0 : Int32))] [(.int (0 : Int32))])) t
              exact k)
            obtain ⟨fs, hr, hrun, hended, hW, hsame⟩ := X0.leave (v := some (.int (0 : Int32))) (fun h => by rw [Bd.returns] at h; cases h)
            refine ⟨_, _, own_from hS0 (P18 _ ?_), hrun, hended, _, _, rfl, ?_, ⟨_, rfl⟩, hW, hsame.mono (by decide) (by decide)⟩
            · show Steps p.tables e below (s₁.setTop (mkF m 89 #[.val (.ref z2a_V1_1), .val (.int q2a_1), .val (.int (0 : Int32))] [(.int (0 : Int32))])) _
              exact retN X0 hx (t := .boolean) Bd.returns (by simp) (hb hby d2_89) hr
            · show Q2a Z z2a_V1_1 q2a_1 h0 n0 _ s₁.heap _
              rw [e0]
              exact ⟨(congrArg (fun z => some (Value.int z)) (Eq.symm (Eq.trans (if_neg c2) (Eq.trans (if_pos c10) (Eq.trans (if_pos c12) (Eq.trans (if_neg c14) (if_pos c17))))))), N0, rfl⟩
          · skip
            have P19 : own_Go p e below S0 (s₁.setTop (mkF m 89 #[.val (.ref z2a_V1_1), .val (.int q2a_1), .val (.int (1 : Int32))] [(.int (1 : Int32))])) := fun t k => P16 t (by
              show Steps p.tables e below (s₁.setTop (mkF m 79 #[.val (.ref z2a_V1_1), .val (.int q2a_1), .unset] [(.int (1114111 : Int32)), (.int q2a_1)])) t
              refine XS.icmpNo X0.here hx rfl (hb hby d2_79) rfl (flt c17).2.2.1 ?_
              refine XS.iconst X0.here hx rfl (hb hby d2_82) ?_
              refine XS.goto X0.here hx rfl (pc0 := 83) (pc' := 87) rfl (hb hby d2_83) (by decide) (by decide) ?_
              refine XS.istoreN X0.here hx rfl (hb hby d2_87) rfl (l' := #[.val (.ref z2a_V1_1), .val (.int q2a_1), .val (.int (1 : Int32))]) rfl ?_
              refine XS.iloadN X0.here hx rfl (hb hby d2_88) rfl ?_
              show Steps p.tables e below (s₁.setTop (mkF m 89 #[.val (.ref z2a_V1_1), .val (.int q2a_1), .val (.int (1 : Int32))] [(.int (1 : Int32))])) t
              exact k)
            obtain ⟨fs, hr, hrun, hended, hW, hsame⟩ := X0.leave (v := some (.int (1 : Int32))) (fun h => by rw [Bd.returns] at h; cases h)
            refine ⟨_, _, own_from hS0 (P19 _ ?_), hrun, hended, _, _, rfl, ?_, ⟨_, rfl⟩, hW, hsame.mono (by decide) (by decide)⟩
            · show Steps p.tables e below (s₁.setTop (mkF m 89 #[.val (.ref z2a_V1_1), .val (.int q2a_1), .val (.int (1 : Int32))] [(.int (1 : Int32))])) _
              exact retN X0 hx (t := .boolean) Bd.returns (by simp) (hb hby d2_89) hr
            · show Q2a Z z2a_V1_1 q2a_1 h0 n0 _ s₁.heap _
              rw [e0]
              exact ⟨(congrArg (fun z => some (Value.int z)) (Eq.symm (Eq.trans (if_neg c2) (Eq.trans (if_pos c10) (Eq.trans (if_pos c12) (Eq.trans (if_neg c14) (if_neg c17))))))), N0, rfl⟩
      · skip
        have P20 : own_Go p e below S0 (s₁.setTop (mkF m 67 #[.val (.ref z2a_V1_1), .val (.int q2a_1), .unset] [(.int (65533 : Int32)), (.int q2a_1)])) := fun t k => P11 t (by
          show Steps p.tables e below (s₁.setTop (mkF m 61 #[.val (.ref z2a_V1_1), .val (.int q2a_1), .unset] [(.int (57344 : Int32)), (.int q2a_1)])) t
          refine XS.icmpNo X0.here hx rfl (hb hby d2_61) rfl (flt c12).1 ?_
          refine XS.iloadN X0.here hx rfl (hb hby d2_64) rfl ?_
          show Steps p.tables e below (s₁.setTop (mkF m 65 #[.val (.ref z2a_V1_1), .val (.int q2a_1), .unset] [(.int q2a_1)])) t
          refine X0.ldcInt hx hown (mvT hZ (hw _ (List.mem_of_getElem? (i := 28) rfl))) (g := (mkF m 65 #[.val (.ref z2a_V1_1), .val (.int q2a_1), .unset] [(.int q2a_1)])) rfl (hb hby d2_65) _ ?_
          show Steps p.tables e below (s₁.setTop (mkF m 67 #[.val (.ref z2a_V1_1), .val (.int q2a_1), .unset] [(.int (65533 : Int32)), (.int q2a_1)])) t
          exact k)
        by_cases c21 : (65533 : Int32) < q2a_1
        · skip
          have P22 : own_Go p e below S0 (s₁.setTop (mkF m 73 #[.val (.ref z2a_V1_1), .val (.int q2a_1), .unset] [(.int (65536 : Int32)), (.int q2a_1)])) := fun t k => P20 t (by
            show Steps p.tables e below (s₁.setTop (mkF m 67 #[.val (.ref z2a_V1_1), .val (.int q2a_1), .unset] [(.int (65533 : Int32)), (.int q2a_1)])) t
            refine XS.icmpNo X0.here hx rfl (hb hby d2_67) rfl (tlt c21).2.2.2 ?_
            refine XS.iloadN X0.here hx rfl (hb hby d2_70) rfl ?_
            show Steps p.tables e below (s₁.setTop (mkF m 71 #[.val (.ref z2a_V1_1), .val (.int q2a_1), .unset] [(.int q2a_1)])) t
            refine X0.ldcInt hx hown (mvT hZ (hw _ (List.mem_of_getElem? (i := 27) rfl))) (g := (mkF m 71 #[.val (.ref z2a_V1_1), .val (.int q2a_1), .unset] [(.int q2a_1)])) rfl (hb hby d2_71) _ ?_
            show Steps p.tables e below (s₁.setTop (mkF m 73 #[.val (.ref z2a_V1_1), .val (.int q2a_1), .unset] [(.int (65536 : Int32)), (.int q2a_1)])) t
            exact k)
          by_cases c23 : q2a_1 < (65536 : Int32)
          · skip
            have P24 : own_Go p e below S0 (s₁.setTop (mkF m 89 #[.val (.ref z2a_V1_1), .val (.int q2a_1), .val (.int (0 : Int32))] [(.int (0 : Int32))])) := fun t k => P22 t (by
              show Steps p.tables e below (s₁.setTop (mkF m 73 #[.val (.ref z2a_V1_1), .val (.int q2a_1), .unset] [(.int (65536 : Int32)), (.int q2a_1)])) t
              refine XS.icmpYes X0.here hx rfl (pc0 := 73) (pc' := 86) rfl (hb hby d2_73) rfl (tlt c23).1 (by decide) (by decide) ?_
              refine XS.iconst X0.here hx rfl (hb hby d2_86) ?_
              refine XS.istoreN X0.here hx rfl (hb hby d2_87) rfl (l' := #[.val (.ref z2a_V1_1), .val (.int q2a_1), .val (.int (0 : Int32))]) rfl ?_
              refine XS.iloadN X0.here hx rfl (hb hby d2_88) rfl ?_
              show Steps p.tables e below (s₁.setTop (mkF m 89 #[.val (.ref z2a_V1_1), .val (.int q2a_1), .val (.int (0 : Int32))] [(.int (0 : Int32))])) t
              exact k)
            obtain ⟨fs, hr, hrun, hended, hW, hsame⟩ := X0.leave (v := some (.int (0 : Int32))) (fun h => by rw [Bd.returns] at h; cases h)
            refine ⟨_, _, own_from hS0 (P24 _ ?_), hrun, hended, _, _, rfl, ?_, ⟨_, rfl⟩, hW, hsame.mono (by decide) (by decide)⟩
            · show Steps p.tables e below (s₁.setTop (mkF m 89 #[.val (.ref z2a_V1_1), .val (.int q2a_1), .val (.int (0 : Int32))] [(.int (0 : Int32))])) _
              exact retN X0 hx (t := .boolean) Bd.returns (by simp) (hb hby d2_89) hr
            · show Q2a Z z2a_V1_1 q2a_1 h0 n0 _ s₁.heap _
              rw [e0]
              exact ⟨(congrArg (fun z => some (Value.int z)) (Eq.symm (Eq.trans (if_neg c2) (Eq.trans (if_pos c10) (Eq.trans (if_neg c12) (Eq.trans (if_pos c21) (if_pos c23))))))), N0, rfl⟩
          · skip
            have P25 : own_Go p e below S0 (s₁.setTop (mkF m 79 #[.val (.ref z2a_V1_1), .val (.int q2a_1), .unset] [(.int (1114111 : Int32)), (.int q2a_1)])) := fun t k => P22 t (by
              show Steps p.tables e below (s₁.setTop (mkF m 73 #[.val (.ref z2a_V1_1), .val (.int q2a_1), .unset] [(.int (65536 : Int32)), (.int q2a_1)])) t
              refine XS.icmpNo X0.here hx rfl (hb hby d2_73) rfl (flt c23).1 ?_
              refine XS.iloadN X0.here hx rfl (hb hby d2_76) rfl ?_
              show Steps p.tables e below (s₁.setTop (mkF m 77 #[.val (.ref z2a_V1_1), .val (.int q2a_1), .unset] [(.int q2a_1)])) t
              refine X0.ldcInt hx hown (mvT hZ (hw _ (List.mem_of_getElem? (i := 29) rfl))) (g := (mkF m 77 #[.val (.ref z2a_V1_1), .val (.int q2a_1), .unset] [(.int q2a_1)])) rfl (hb hby d2_77) _ ?_
              show Steps p.tables e below (s₁.setTop (mkF m 79 #[.val (.ref z2a_V1_1), .val (.int q2a_1), .unset] [(.int (1114111 : Int32)), (.int q2a_1)])) t
              exact k)
            by_cases c26 : (1114111 : Int32) < q2a_1
            · skip
              have P27 : own_Go p e below S0 (s₁.setTop (mkF m 89 #[.val (.ref z2a_V1_1), .val (.int q2a_1), .val (.int (0 : Int32))] [(.int (0 : Int32))])) := fun t k => P25 t (by
                show Steps p.tables e below (s₁.setTop (mkF m 79 #[.val (.ref z2a_V1_1), .val (.int q2a_1), .unset] [(.int (1114111 : Int32)), (.int q2a_1)])) t
                refine XS.icmpYes X0.here hx rfl (pc0 := 79) (pc' := 86) rfl (hb hby d2_79) rfl (tlt c26).2.2.1 (by decide) (by decide) ?_
                refine XS.iconst X0.here hx rfl (hb hby d2_86) ?_
                refine XS.istoreN X0.here hx rfl (hb hby d2_87) rfl (l' := #[.val (.ref z2a_V1_1), .val (.int q2a_1), .val (.int (0 : Int32))]) rfl ?_
                refine XS.iloadN X0.here hx rfl (hb hby d2_88) rfl ?_
                show Steps p.tables e below (s₁.setTop (mkF m 89 #[.val (.ref z2a_V1_1), .val (.int q2a_1), .val (.int (0 : Int32))] [(.int (0 : Int32))])) t
                exact k)
              obtain ⟨fs, hr, hrun, hended, hW, hsame⟩ := X0.leave (v := some (.int (0 : Int32))) (fun h => by rw [Bd.returns] at h; cases h)
              refine ⟨_, _, own_from hS0 (P27 _ ?_), hrun, hended, _, _, rfl, ?_, ⟨_, rfl⟩, hW, hsame.mono (by decide) (by decide)⟩
              · show Steps p.tables e below (s₁.setTop (mkF m 89 #[.val (.ref z2a_V1_1), .val (.int q2a_1), .val (.int (0 : Int32))] [(.int (0 : Int32))])) _
                exact retN X0 hx (t := .boolean) Bd.returns (by simp) (hb hby d2_89) hr
              · show Q2a Z z2a_V1_1 q2a_1 h0 n0 _ s₁.heap _
                rw [e0]
                exact ⟨(congrArg (fun z => some (Value.int z)) (Eq.symm (Eq.trans (if_neg c2) (Eq.trans (if_pos c10) (Eq.trans (if_neg c12) (Eq.trans (if_pos c21) (Eq.trans (if_neg c23) (if_pos c26)))))))), N0, rfl⟩
            · skip
              have P28 : own_Go p e below S0 (s₁.setTop (mkF m 89 #[.val (.ref z2a_V1_1), .val (.int q2a_1), .val (.int (1 : Int32))] [(.int (1 : Int32))])) := fun t k => P25 t (by
                show Steps p.tables e below (s₁.setTop (mkF m 79 #[.val (.ref z2a_V1_1), .val (.int q2a_1), .unset] [(.int (1114111 : Int32)), (.int q2a_1)])) t
                refine XS.icmpNo X0.here hx rfl (hb hby d2_79) rfl (flt c26).2.2.1 ?_
                refine XS.iconst X0.here hx rfl (hb hby d2_82) ?_
                refine XS.goto X0.here hx rfl (pc0 := 83) (pc' := 87) rfl (hb hby d2_83) (by decide) (by decide) ?_
                refine XS.istoreN X0.here hx rfl (hb hby d2_87) rfl (l' := #[.val (.ref z2a_V1_1), .val (.int q2a_1), .val (.int (1 : Int32))]) rfl ?_
                refine XS.iloadN X0.here hx rfl (hb hby d2_88) rfl ?_
                show Steps p.tables e below (s₁.setTop (mkF m 89 #[.val (.ref z2a_V1_1), .val (.int q2a_1), .val (.int (1 : Int32))] [(.int (1 : Int32))])) t
                exact k)
              obtain ⟨fs, hr, hrun, hended, hW, hsame⟩ := X0.leave (v := some (.int (1 : Int32))) (fun h => by rw [Bd.returns] at h; cases h)
              refine ⟨_, _, own_from hS0 (P28 _ ?_), hrun, hended, _, _, rfl, ?_, ⟨_, rfl⟩, hW, hsame.mono (by decide) (by decide)⟩
              · show Steps p.tables e below (s₁.setTop (mkF m 89 #[.val (.ref z2a_V1_1), .val (.int q2a_1), .val (.int (1 : Int32))] [(.int (1 : Int32))])) _
                exact retN X0 hx (t := .boolean) Bd.returns (by simp) (hb hby d2_89) hr
              · show Q2a Z z2a_V1_1 q2a_1 h0 n0 _ s₁.heap _
                rw [e0]
                exact ⟨(congrArg (fun z => some (Value.int z)) (Eq.symm (Eq.trans (if_neg c2) (Eq.trans (if_pos c10) (Eq.trans (if_neg c12) (Eq.trans (if_pos c21) (Eq.trans (if_neg c23) (if_neg c26)))))))), N0, rfl⟩
        · skip
          have P29 : own_Go p e below S0 (s₁.setTop (mkF m 89 #[.val (.ref z2a_V1_1), .val (.int q2a_1), .val (.int (1 : Int32))] [(.int (1 : Int32))])) := fun t k => P20 t (by
            show Steps p.tables e below (s₁.setTop (mkF m 67 #[.val (.ref z2a_V1_1), .val (.int q2a_1), .unset] [(.int (65533 : Int32)), (.int q2a_1)])) t
            refine XS.icmpYes X0.here hx rfl (pc0 := 67) (pc' := 82) rfl (hb hby d2_67) rfl (flt c21).2.2.2 (by decide) (by decide) ?_
            refine XS.iconst X0.here hx rfl (hb hby d2_82) ?_
            refine XS.goto X0.here hx rfl (pc0 := 83) (pc' := 87) rfl (hb hby d2_83) (by decide) (by decide) ?_
            refine XS.istoreN X0.here hx rfl (hb hby d2_87) rfl (l' := #[.val (.ref z2a_V1_1), .val (.int q2a_1), .val (.int (1 : Int32))]) rfl ?_
            refine XS.iloadN X0.here hx rfl (hb hby d2_88) rfl ?_
            show Steps p.tables e below (s₁.setTop (mkF m 89 #[.val (.ref z2a_V1_1), .val (.int q2a_1), .val (.int (1 : Int32))] [(.int (1 : Int32))])) t
            exact k)
          obtain ⟨fs, hr, hrun, hended, hW, hsame⟩ := X0.leave (v := some (.int (1 : Int32))) (fun h => by rw [Bd.returns] at h; cases h)
          refine ⟨_, _, own_from hS0 (P29 _ ?_), hrun, hended, _, _, rfl, ?_, ⟨_, rfl⟩, hW, hsame.mono (by decide) (by decide)⟩
          · show Steps p.tables e below (s₁.setTop (mkF m 89 #[.val (.ref z2a_V1_1), .val (.int q2a_1), .val (.int (1 : Int32))] [(.int (1 : Int32))])) _
            exact retN X0 hx (t := .boolean) Bd.returns (by simp) (hb hby d2_89) hr
          · show Q2a Z z2a_V1_1 q2a_1 h0 n0 _ s₁.heap _
            rw [e0]
            exact ⟨(congrArg (fun z => some (Value.int z)) (Eq.symm (Eq.trans (if_neg c2) (Eq.trans (if_pos c10) (Eq.trans (if_neg c12) (if_neg c21)))))), N0, rfl⟩
    · skip
      have P30 : own_Go p e below S0 (s₁.setTop (mkF m 89 #[.val (.ref z2a_V1_1), .val (.int q2a_1), .val (.int (1 : Int32))] [(.int (1 : Int32))])) := fun t k => P9 t (by
        show Steps p.tables e below (s₁.setTop (mkF m 55 #[.val (.ref z2a_V1_1), .val (.int q2a_1), .unset] [(.int (55295 : Int32)), (.int q2a_1)])) t
        refine XS.icmpYes X0.here hx rfl (pc0 := 55) (pc' := 82) rfl (hb hby d2_55) rfl (flt c10).2.2.2 (by decide) (by decide) ?_
        refine XS.iconst X0.here hx rfl (hb hby d2_82) ?_
        refine XS.goto X0.here hx rfl (pc0 := 83) (pc' := 87) rfl (hb hby d2_83) (by decide) (by decide) ?_
        refine XS.istoreN X0.here hx rfl (hb hby d2_87) rfl (l' := #[.val (.ref z2a_V1_1), .val (.int q2a_1), .val (.int (1 : Int32))]) rfl ?_
        refine XS.iloadN X0.here hx rfl (hb hby d2_88) rfl ?_
        show Steps p.tables e below (s₁.setTop (mkF m 89 #[.val (.ref z2a_V1_1), .val (.int q2a_1), .val (.int (1 : Int32))] [(.int (1 : Int32))])) t
        exact k)
      obtain ⟨fs, hr, hrun, hended, hW, hsame⟩ := X0.leave (v := some (.int (1 : Int32))) (fun h => by rw [Bd.returns] at h; cases h)
      refine ⟨_, _, own_from hS0 (P30 _ ?_), hrun, hended, _, _, rfl, ?_, ⟨_, rfl⟩, hW, hsame.mono (by decide) (by decide)⟩
      · show Steps p.tables e below (s₁.setTop (mkF m 89 #[.val (.ref z2a_V1_1), .val (.int q2a_1), .val (.int (1 : Int32))] [(.int (1 : Int32))])) _
        exact retN X0 hx (t := .boolean) Bd.returns (by simp) (hb hby d2_89) hr
      · show Q2a Z z2a_V1_1 q2a_1 h0 n0 _ s₁.heap _
        rw [e0]
        exact ⟨(congrArg (fun z => some (Value.int z)) (Eq.symm (Eq.trans (if_neg c2) (if_neg c10)))), N0, rfl⟩
theorem d2_25 : decode prog_177_method_7_code 25 = .ok (.iload_n 1, 1) := by decide +kernel
theorem d2_26 : decode prog_177_method_7_code 26 = .ok (.bipush 9, 2) := by decide +kernel
theorem d2_28 : decode prog_177_method_7_code 28 = .ok (.if_icmp .eq 15, 3) := by decide +kernel
theorem d2_31 : decode prog_177_method_7_code 31 = .ok (.iload_n 1, 1) := by decide +kernel
theorem d2_32 : decode prog_177_method_7_code 32 = .ok (.bipush 10, 2) := by decide +kernel
theorem d2_34 : decode prog_177_method_7_code 34 = .ok (.if_icmp .eq 9, 3) := by decide +kernel
theorem d2_37 : decode prog_177_method_7_code 37 = .ok (.iload_n 1, 1) := by decide +kernel
theorem d2_38 : decode prog_177_method_7_code 38 = .ok (.bipush 13, 2) := by decide +kernel
theorem d2_40 : decode prog_177_method_7_code 40 = .ok (.if_icmp .ne 7, 3) := by decide +kernel
theorem d2_43 : decode prog_177_method_7_code 43 = .ok (.iconst 1, 1) := by decide +kernel
theorem d2_44 : decode prog_177_method_7_code 44 = .ok (.goto 4, 3) := by decide +kernel
theorem d2_47 : decode prog_177_method_7_code 47 = .ok (.iconst 0, 1) := by decide +kernel
theorem ef_2b (m : MethodId) (z2b_V1_0 : Addr) (q2b_1 : Int32) : entryFrame m #[(.ref z2b_V1_0), (.int q2b_1)] 3 = mkF m 0 #[.val (.ref z2b_V1_0), .val (.int q2b_1), .unset] [] := by first | (simp [entryFrame, mkF, argsToLocals, Value.category]; done) | rfl
def r2b (q2b_1 : Int32) : Int32 := (if q2b_1 < (32 : Int32) then (if q2b_1 = (9 : Int32) then (1 : Int32) else (if q2b_1 = (10 : Int32) then (1 : Int32) else (if q2b_1 = (13 : Int32) then (1 : Int32) else (0 : Int32)))) else (if (55295 : Int32) < q2b_1 then (if q2b_1 < (57344 : Int32) then (if q2b_1 < (65536 : Int32) then (0 : Int32) else (if (1114111 : Int32) < q2b_1 then (0 : Int32) else (1 : Int32))) else (if (65533 : Int32) < q2b_1 then (if q2b_1 < (65536 : Int32) then (0 : Int32) else (if (1114111 : Int32) < q2b_1 then (0 : Int32) else (1 : Int32))) else (1 : Int32))) else (1 : Int32)))
def Q2b (Z : State) (z2b_V1_0 : Addr) (q2b_1 : Int32) (z2b_V1_1 : Addr) (h0 : Heap) (n0 : Nat) (v : Option Value) (h : Heap) (L : List Loc) : Prop := v = some (.int (r2b q2b_1)) ∧ Fr n0 L ∧ h = h0
set_option maxRecDepth 65536 in
set_option maxHeartbeats 40000000 in
theorem rm2b (l : Launch) (Z : State) (a0 : Array Value) (hw : ∀ d ∈ tables_1, d.before a0 Z = true) (ws : List Jvm.Cond) (z2b_V1_0 : Addr) (q2b_1 : Int32) (z2b_V1_1 : Addr) (h0 : Heap) (n0 : Nat) (Z0 : n0 ≤ h0.size) (S_V1_1 : Sta Z h0 "com/example/splice/splice/XmlVersion" "V1_1" "Lcom/example/splice/splice/XmlVersion;" (.ref z2b_V1_1)) (hne_z2b_V1_0_z2b_V1_1 : z2b_V1_0 ≠ z2b_V1_1) :
    MetFree l (⟨"com/example/splice/splice/XmlVersion", "allows", "(I)Z"⟩ : MethodName) (head1 (Jvm.Cond.code (⟨"com/example/splice/splice/XmlVersion", "allows", "(I)Z"⟩ : MethodName) prog_177_method_7_code 3 (some .boolean) :: ws) ({ frames := 0, cells := 0, slots := 0, locals := 0 } : Room)) (fun a U => a = #[(.ref z2b_V1_0), (.int q2b_1)] ∧ Z.Warmed39 U.vm ∧ U.heap = h0) (fun _ _ _ _ _ => True) (fun _ U o U' => ∃ v L, o = .returned v ∧ Q2b Z z2b_V1_0 q2b_1 z2b_V1_1 h0 n0 v U'.heap L ∧ FrameEnd U o U' L ({ frames := 0, cells := 0, slots := 0, locals := 0 } : Room).cells ({ frames := 0, cells := 0, slots := 0, locals := 0 } : Room).slots) := by
  refine MetFree.of_bodySF (plainFor_of_name pn_2) hisR ?_
  intro p e s m args below meth c s₁ Bd hml0 hP hK
  obtain ⟨rfl, hZ, hh⟩ := hP
  have hx := Bd.exec
  have hby := Bd.bytes
  have hml : c.maxLocals = 3 := hml0
  have hown : s.vm.findClass "com/example/splice/splice/XmlVersion" = some m.cls := findClass_of_methodNamed Bd.named
  have hnm := (name_of_methodNamed Bd.named Bd.method).1
  have X0 : Stand p l e ({ frames := 0, cells := 0, slots := 0, locals := 0 } : Room) s m #[(.ref z2b_V1_0), (.int q2b_1)] below meth c s₁ [] 0 0 := Stand.of_body Bd
  have e0 : s₁.heap = h0 := by rw [← hh, Bd.state]; rfl
  have N0 := Fr.nil n0
  obtain ⟨S0, hS0⟩ : ∃ z, z = s₁.setTop (entryFrame m #[(.ref z2b_V1_0), (.int q2b_1)] 3) := ⟨_, rfl⟩
  have P0 : own_Go p e below S0 (s₁.setTop (mkF m 0 #[.val (.ref z2b_V1_0), .val (.int q2b_1), .unset] [])) := fun t k => by rw [hS0]; exact castTop (ef_2b m z2b_V1_0 q2b_1) k
  have P1 : own_Go p e below S0 (s₁.setTop (mkF m 3 #[.val (.ref z2b_V1_0), .val (.int q2b_1), .unset] [(.int (32 : Int32)), (.int q2b_1)])) := fun t k => P0 t (by
    show Steps p.tables e below (s₁.setTop (mkF m 0 #[.val (.ref z2b_V1_0), .val (.int q2b_1), .unset] [])) t
    refine XS.iloadN X0.here hx rfl (hb hby d2_0) rfl ?_
    refine XS.bipush X0.here hx rfl (hb hby d2_1) ?_
    show Steps p.tables e below (s₁.setTop (mkF m 3 #[.val (.ref z2b_V1_0), .val (.int q2b_1), .unset] [(.int (32 : Int32)), (.int q2b_1)])) t
    exact k)
  by_cases c2 : q2b_1 < (32 : Int32)
  · skip
    have P3 : own_Go p e below S0 (s₁.setTop (mkF m 7 #[.val (.ref z2b_V1_0), .val (.int q2b_1), .unset] [(.ref z2b_V1_0)])) := fun t k => P1 t (by
      show Steps p.tables e below (s₁.setTop (mkF m 3 #[.val (.ref z2b_V1_0), .val (.int q2b_1), .unset] [(.int (32 : Int32)), (.int q2b_1)])) t
      refine XS.icmpNo X0.here hx rfl (hb hby d2_3) rfl (tlt c2).2.1 ?_
      refine XS.aloadN X0.here hx rfl (hb hby d2_6) rfl rfl ?_
      show Steps p.tables e below (s₁.setTop (mkF m 7 #[.val (.ref z2b_V1_0), .val (.int q2b_1), .unset] [(.ref z2b_V1_0)])) t
      exact k)
    obtain ⟨T4, X4, e4, st4⟩ := getS2 X0 hx hZ hown (host := "") (Or.inl (hw _ (List.mem_of_getElem? (i := 17) rfl))) Via.refl e0 S_V1_1 (g := (mkF m 7 #[.val (.ref z2b_V1_0), .val (.int q2b_1), .unset] [(.ref z2b_V1_0)])) rfl (hb hby d2_7)
    have P4 : own_Go p e below S0 (T4.setTop (mkF m 10 #[.val (.ref z2b_V1_0), .val (.int q2b_1), .unset] [(.ref z2b_V1_1), (.ref z2b_V1_0)])) := fun t k => P3 t (st4 _ k)
    have P5 : own_Go p e below S0 (T4.setTop (mkF m 28 #[.val (.ref z2b_V1_0), .val (.int q2b_1), .unset] [(.int (9 : Int32)), (.int q2b_1)])) := fun t k => P4 t (by
      show Steps p.tables e below (T4.setTop (mkF m 10 #[.val (.ref z2b_V1_0), .val (.int q2b_1), .unset] [(.ref z2b_V1_1), (.ref z2b_V1_0)])) t
      refine Jvm.RoadKit.acmp (g := (mkF m 10 #[.val (.ref z2b_V1_0), .val (.int q2b_1), .unset] [(.ref z2b_V1_1), (.ref z2b_V1_0)])) X4 hx rfl rfl rfl (pc0 := 10) (pc' := 25) (same := false) rfl (hb hby d2_10) rfl (decide_eq_false fun q => hne_z2b_V1_0_z2b_V1_1 (Value.ref.inj q)) (by decide) (by decide) ?_
      refine XS.iloadN X4.here hx rfl (hb hby d2_25) rfl ?_
      refine XS.bipush X4.here hx rfl (hb hby d2_26) ?_
      show Steps p.tables e below (T4.setTop (mkF m 28 #[.val (.ref z2b_V1_0), .val (.int q2b_1), .unset] [(.int (9 : Int32)), (.int q2b_1)])) t
      exact k)
    by_cases c6 : q2b_1 = (9 : Int32)
    · skip
      have P7 : own_Go p e below S0 (T4.setTop (mkF m 89 #[.val (.ref z2b_V1_0), .val (.int q2b_1), .val (.int (1 : Int32))] [(.int (1 : Int32))])) := fun t k => P5 t (by
        show Steps p.tables e below (T4.setTop (mkF m 28 #[.val (.ref z2b_V1_0), .val (.int q2b_1), .unset] [(.int (9 : Int32)), (.int q2b_1)])) t
        refine XS.icmpYes X4.here hx rfl (pc0 := 28) (pc' := 43) rfl (hb hby d2_28) rfl (teq c6).1 (by decide) (by decide) ?_
        refine XS.iconst X4.here hx rfl (hb hby d2_43) ?_
        refine XS.goto X4.here hx rfl (pc0 := 44) (pc' := 48) rfl (hb hby d2_44) (by decide) (by decide) ?_
        refine XS.istoreN X4.here hx rfl (hb hby d2_48) rfl (l' := #[.val (.ref z2b_V1_0), .val (.int q2b_1), .val (.int (1 : Int32))]) rfl ?_
        refine XS.goto X4.here hx rfl (pc0 := 49) (pc' := 88) rfl (hb hby d2_49) (by decide) (by decide) ?_
        refine XS.iloadN X4.here hx rfl (hb hby d2_88) rfl ?_
        show Steps p.tables e below (T4.setTop (mkF m 89 #[.val (.ref z2b_V1_0), .val (.int q2b_1), .val (.int (1 : Int32))] [(.int (1 : Int32))])) t
        exact k)
      obtain ⟨fs, hr, hrun, hended, hW, hsame⟩ := X4.leave (v := some (.int (1 : Int32))) (fun h => by rw [Bd.returns] at h; cases h)
      refine ⟨_, _, own_from hS0 (P7 _ ?_), hrun, hended, _, _, rfl, ?_, ⟨_, rfl⟩, hW, hsame.mono (by decide) (by decide)⟩
      · show Steps p.tables e below (T4.setTop (mkF m 89 #[.val (.ref z2b_V1_0), .val (.int q2b_1), .val (.int (1 : Int32))] [(.int (1 : Int32))])) _
        exact retN X4 hx (t := .boolean) Bd.returns (by simp) (hb hby d2_89) hr
      · show Q2b Z z2b_V1_0 q2b_1 z2b_V1_1 h0 n0 _ T4.heap _
        rw [e4]
        exact ⟨(congrArg (fun z => some (Value.int z)) (Eq.symm (Eq.trans (if_pos c2) (if_pos c6)))), N0, rfl⟩
    · skip
      have P8 : own_Go p e below S0 (T4.setTop (mkF m 34 #[.val (.ref z2b_V1_0), .val (.int q2b_1), .unset] [(.int (10 : Int32)), (.int q2b_1)])) := fun t k => P5 t (by
        show Steps p.tables e below (T4.setTop (mkF m 28 #[.val (.ref z2b_V1_0), .val (.int q2b_1), .unset] [(.int (9 : Int32)), (.int q2b_1)])) t
        refine XS.icmpNo X4.here hx rfl (hb hby d2_28) rfl (feq c6).1 ?_
        refine XS.iloadN X4.here hx rfl (hb hby d2_31) rfl ?_
        refine XS.bipush X4.here hx rfl (hb hby d2_32) ?_
        show Steps p.tables e below (T4.setTop (mkF m 34 #[.val (.ref z2b_V1_0), .val (.int q2b_1), .unset] [(.int (10 : Int32)), (.int q2b_1)])) t
        exact k)
      by_cases c9 : q2b_1 = (10 : Int32)
      · skip
        have P10 : own_Go p e below S0 (T4.setTop (mkF m 89 #[.val (.ref z2b_V1_0), .val (.int q2b_1), .val (.int (1 : Int32))] [(.int (1 : Int32))])) := fun t k => P8 t (by
          show Steps p.tables e below (T4.setTop (mkF m 34 #[.val (.ref z2b_V1_0), .val (.int q2b_1), .unset] [(.int (10 : Int32)), (.int q2b_1)])) t
          refine XS.icmpYes X4.here hx rfl (pc0 := 34) (pc' := 43) rfl (hb hby d2_34) rfl (teq c9).1 (by decide) (by decide) ?_
          refine XS.iconst X4.here hx rfl (hb hby d2_43) ?_
          refine XS.goto X4.here hx rfl (pc0 := 44) (pc' := 48) rfl (hb hby d2_44) (by decide) (by decide) ?_
          refine XS.istoreN X4.here hx rfl (hb hby d2_48) rfl (l' := #[.val (.ref z2b_V1_0), .val (.int q2b_1), .val (.int (1 : Int32))]) rfl ?_
          refine XS.goto X4.here hx rfl (pc0 := 49) (pc' := 88) rfl (hb hby d2_49) (by decide) (by decide) ?_
          refine XS.iloadN X4.here hx rfl (hb hby d2_88) rfl ?_
          show Steps p.tables e below (T4.setTop (mkF m 89 #[.val (.ref z2b_V1_0), .val (.int q2b_1), .val (.int (1 : Int32))] [(.int (1 : Int32))])) t
          exact k)
        obtain ⟨fs, hr, hrun, hended, hW, hsame⟩ := X4.leave (v := some (.int (1 : Int32))) (fun h => by rw [Bd.returns] at h; cases h)
        refine ⟨_, _, own_from hS0 (P10 _ ?_), hrun, hended, _, _, rfl, ?_, ⟨_, rfl⟩, hW, hsame.mono (by decide) (by decide)⟩
        · show Steps p.tables e below (T4.setTop (mkF m 89 #[.val (.ref z2b_V1_0), .val (.int q2b_1), .val (.int (1 : Int32))] [(.int (1 : Int32))])) _
          exact retN X4 hx (t := .boolean) Bd.returns (by simp) (hb hby d2_89) hr
        · show Q2b Z z2b_V1_0 q2b_1 z2b_V1_1 h0 n0 _ T4.heap _
          rw [e4]
          exact ⟨(congrArg (fun z => some (Value.int z)) (Eq.symm (Eq.trans (if_pos c2) (Eq.trans (if_neg c6) (if_pos c9))))), N0, rfl⟩
      · skip
        have P11 : own_Go p e below S0 (T4.setTop (mkF m 40 #[.val (.ref z2b_V1_0), .val (.int q2b_1), .unset] [(.int (13 : Int32)), (.int q2b_1)])) := fun t k => P8 t (by
          show Steps p.tables e below (T4.setTop (mkF m 34 #[.val (.ref z2b_V1_0), .val (.int q2b_1), .unset] [(.int (10 : Int32)), (.int q2b_1)])) t
          refine XS.icmpNo X4.here hx rfl (hb hby d2_34) rfl (feq c9).1 ?_
          refine XS.iloadN X4.here hx rfl (hb hby d2_37) rfl ?_
          refine XS.bipush X4.here hx rfl (hb hby d2_38) ?_
          show Steps p.tables e below (T4.setTop (mkF m 40 #[.val (.ref z2b_V1_0), .val (.int q2b_1), .unset] [(.int (13 : Int32)), (.int q2b_1)])) t
          exact k)
        by_cases c12 : q2b_1 = (13 : Int32)
        · skip
          have P13 : own_Go p e below S0 (T4.setTop (mkF m 89 #[.val (.ref z2b_V1_0), .val (.int q2b_1), .val (.int (1 : Int32))] [(.int (1 : Int32))])) := fun t k => P11 t (by
            show Steps p.tables e below (T4.setTop (mkF m 40 #[.val (.ref z2b_V1_0), .val (.int q2b_1), .unset] [(.int (13 : Int32)), (.int q2b_1)])) t
            refine XS.icmpNo X4.here hx rfl (hb hby d2_40) rfl (teq c12).2 ?_
            refine XS.iconst X4.here hx rfl (hb hby d2_43) ?_
            refine XS.goto X4.here hx rfl (pc0 := 44) (pc' := 48) rfl (hb hby d2_44) (by decide) (by decide) ?_
            refine XS.istoreN X4.here hx rfl (hb hby d2_48) rfl (l' := #[.val (.ref z2b_V1_0), .val (.int q2b_1), .val (.int (1 : Int32))]) rfl ?_
            refine XS.goto X4.here hx rfl (pc0 := 49) (pc' := 88) rfl (hb hby d2_49) (by decide) (by decide) ?_
            refine XS.iloadN X4.here hx rfl (hb hby d2_88) rfl ?_
            show Steps p.tables e below (T4.setTop (mkF m 89 #[.val (.ref z2b_V1_0), .val (.int q2b_1), .val (.int (1 : Int32))] [(.int (1 : Int32))])) t
            exact k)
          obtain ⟨fs, hr, hrun, hended, hW, hsame⟩ := X4.leave (v := some (.int (1 : Int32))) (fun h => by rw [Bd.returns] at h; cases h)
          refine ⟨_, _, own_from hS0 (P13 _ ?_), hrun, hended, _, _, rfl, ?_, ⟨_, rfl⟩, hW, hsame.mono (by decide) (by decide)⟩
          · show Steps p.tables e below (T4.setTop (mkF m 89 #[.val (.ref z2b_V1_0), .val (.int q2b_1), .val (.int (1 : Int32))] [(.int (1 : Int32))])) _
            exact retN X4 hx (t := .boolean) Bd.returns (by simp) (hb hby d2_89) hr
          · show Q2b Z z2b_V1_0 q2b_1 z2b_V1_1 h0 n0 _ T4.heap _
            rw [e4]
            exact ⟨(congrArg (fun z => some (Value.int z)) (Eq.symm (Eq.trans (if_pos c2) (Eq.trans (if_neg c6) (Eq.trans (if_neg c9) (if_pos c12)))))), N0, rfl⟩
        · skip
          have P14 : own_Go p e below S0 (T4.setTop (mkF m 89 #[.val (.ref z2b_V1_0), .val (.int q2b_1), .val (.int (0 : Int32))] [(.int (0 : Int32))])) := fun t k => P11 t (by
            show Steps p.tables e below (T4.setTop (mkF m 40 #[.val (.ref z2b_V1_0), .val (.int q2b_1), .unset] [(.int (13 : Int32)), (.int q2b_1)])) t
            refine XS.icmpYes X4.here hx rfl (pc0 := 40) (pc' := 47) rfl (hb hby d2_40) rfl (feq c12).2 (by decide) (by decide) ?_
            refine XS.iconst X4.here hx rfl (hb hby d2_47) ?_
            refine XS.istoreN X4.here hx rfl (hb hby d2_48) rfl (l' := #[.val (.ref z2b_V1_0), .val (.int q2b_1), .val (.int (0 : Int32))]) rfl ?_
            refine XS.goto X4.here hx rfl (pc0 := 49) (pc' := 88) rfl (hb hby d2_49) (by decide) (by decide) ?_
            refine XS.iloadN X4.here hx rfl (hb hby d2_88) rfl ?_
            show Steps p.tables e below (T4.setTop (mkF m 89 #[.val (.ref z2b_V1_0), .val (.int q2b_1), .val (.int (0 : Int32))] [(.int (0 : Int32))])) t
            exact k)
          obtain ⟨fs, hr, hrun, hended, hW, hsame⟩ := X4.leave (v := some (.int (0 : Int32))) (fun h => by rw [Bd.returns] at h; cases h)
          refine ⟨_, _, own_from hS0 (P14 _ ?_), hrun, hended, _, _, rfl, ?_, ⟨_, rfl⟩, hW, hsame.mono (by decide) (by decide)⟩
          · show Steps p.tables e below (T4.setTop (mkF m 89 #[.val (.ref z2b_V1_0), .val (.int q2b_1), .val (.int (0 : Int32))] [(.int (0 : Int32))])) _
            exact retN X4 hx (t := .boolean) Bd.returns (by simp) (hb hby d2_89) hr
          · show Q2b Z z2b_V1_0 q2b_1 z2b_V1_1 h0 n0 _ T4.heap _
            rw [e4]
            exact ⟨(congrArg (fun z => some (Value.int z)) (Eq.symm (Eq.trans (if_pos c2) (Eq.trans (if_neg c6) (Eq.trans (if_neg c9) (if_neg c12)))))), N0, rfl⟩
  · skip
    have P15 : own_Go p e below S0 (s₁.setTop (mkF m 55 #[.val (.ref z2b_V1_0), .val (.int q2b_1), .unset] [(.int (55295 : Int32)), (.int q2b_1)])) := fun t k => P1 t (by
      show Steps p.tables e below (s₁.setTop (mkF m 3 #[.val (.ref z2b_V1_0), .val (.int q2b_1), .unset] [(.int (32 : Int32)), (.int q2b_1)])) t
      refine XS.icmpYes X0.here hx rfl (pc0 := 3) (pc' := 52) rfl (hb hby d2_3) rfl (flt c2).2.1 (by decide) (by decide) ?_
      refine XS.iloadN X0.here hx rfl (hb hby d2_52) rfl ?_
      show Steps p.tables e below (s₁.setTop (mkF m 53 #[.val (.ref z2b_V1_0), .val (.int q2b_1), .unset] [(.int q2b_1)])) t
      refine X0.ldcInt hx hown (mvT hZ (hw _ (List.mem_of_getElem? (i := 25) rfl))) (g := (mkF m 53 #[.val (.ref z2b_V1_0), .val (.int q2b_1), .unset] [(.int q2b_1)])) rfl (hb hby d2_53) _ ?_
      show Steps p.tables e below (s₁.setTop (mkF m 55 #[.val (.ref z2b_V1_0), .val (.int q2b_1), .unset] [(.int (55295 : Int32)), (.int q2b_1)])) t
      exact k)
    by_cases c16 : (55295 : Int32) < q2b_1
    · skip
      have P17 : own_Go p e below S0 (s₁.setTop (mkF m 61 #[.val (.ref z2b_V1_0), .val (.int q2b_1), .unset] [(.int (57344 : Int32)), (.int q2b_1)])) := fun t k => P15 t (by
        show Steps p.tables e below (s₁.setTop (mkF m 55 #[.val (.ref z2b_V1_0), .val (.int q2b_1), .unset] [(.int (55295 : Int32)), (.int q2b_1)])) t
        refine XS.icmpNo X0.here hx rfl (hb hby d2_55) rfl (tlt c16).2.2.2 ?_
        refine XS.iloadN X0.here hx rfl (hb hby d2_58) rfl ?_
        show Steps p.tables e below (s₁.setTop (mkF m 59 #[.val (.ref z2b_V1_0), .val (.int q2b_1), .unset] [(.int q2b_1)])) t
        refine X0.ldcInt hx hown (mvT hZ (hw _ (List.mem_of_getElem? (i := 26) rfl))) (g := (mkF m 59 #[.val (.ref z2b_V1_0), .val (.int q2b_1), .unset] [(.int q2b_1)])) rfl (hb hby d2_59) _ ?_
        show Steps p.tables e below (s₁.setTop (mkF m 61 #[.val (.ref z2b_V1_0), .val (.int q2b_1), .unset] [(.int (57344 : Int32)), (.int q2b_1)])) t
        exact k)
      by_cases c18 : q2b_1 < (57344 : Int32)
      · skip
        have P19 : own_Go p e below S0 (s₁.setTop (mkF m 73 #[.val (.ref z2b_V1_0), .val (.int q2b_1), .unset] [(.int (65536 : Int32)), (.int q2b_1)])) := fun t k => P17 t (by
          show Steps p.tables e below (s₁.setTop (mkF m 61 #[.val (.ref z2b_V1_0), .val (.int q2b_1), .unset] [(.int (57344 : Int32)), (.int q2b_1)])) t
          refine XS.icmpYes X0.here hx rfl (pc0 := 61) (pc' := 70) rfl (hb hby d2_61) rfl (tlt c18).1 (by decide) (by decide) ?_
          refine XS.iloadN X0.here hx rfl (hb hby d2_70) rfl ?_
          show Steps p.tables e below (s₁.setTop (mkF m 71 #[.val (.ref z2b_V1_0), .val (.int q2b_1), .unset] [(.int q2b_1)])) t
          refine X0.ldcInt hx hown (mvT hZ (hw _ (List.mem_of_getElem? (i := 27) rfl))) (g := (mkF m 71 #[.val (.ref z2b_V1_0), .val (.int q2b_1), .unset] [(.int q2b_1)])) rfl (hb hby d2_71) _ ?_
          show Steps p.tables e below (s₁.setTop (mkF m 73 #[.val (.ref z2b_V1_0), .val (.int q2b_1), .unset] [(.int (65536 : Int32)), (.int q2b_1)])) t
          exact k)
        by_cases c20 : q2b_1 < (65536 : Int32)
        · skip
          have P21 : own_Go p e below S0 (s₁.setTop (mkF m 89 #[.val (.ref z2b_V1_0), .val (.int q2b_1), .val (.int (0 : Int32))] [(.int (0 : Int32))])) := fun t k => P19 t (by
            show Steps p.tables e below (s₁.setTop (mkF m 73 #[.val (.ref z2b_V1_0), .val (.int q2b_1), .unset] [(.int (65536 : Int32)), (.int q2b_1)])) t
            refine XS.icmpYes X0.here hx rfl (pc0 := 73) (pc' := 86) rfl (hb hby d2_73) rfl (tlt c20).1 (by decide) (by decide) ?_
            refine XS.iconst X0.here hx rfl (hb hby d2_86) ?_
            refine XS.istoreN X0.here hx rfl (hb hby d2_87) rfl (l' := #[.val (.ref z2b_V1_0), .val (.int q2b_1), .val (.int (0 : Int32))]) rfl ?_
            refine XS.iloadN X0.here hx rfl (hb hby d2_88) rfl ?_
            show Steps p.tables e below (s₁.setTop (mkF m 89 #[.val (.ref z2b_V1_0), .val (.int q2b_1), .val (.int (0 : Int32))] [(.int (0 : Int32))])) t
            exact k)
          obtain ⟨fs, hr, hrun, hended, hW, hsame⟩ := X0.leave (v := some (.int (0 : Int32))) (fun h => by rw [Bd.returns] at h; cases h)
          refine ⟨_, _, own_from hS0 (P21 _ ?_), hrun, hended, _, _, rfl, ?_, ⟨_, rfl⟩, hW, hsame.mono (by decide) (by decide)⟩
          · show Steps p.tables e below (s₁.setTop (mkF m 89 #[.val (.ref z2b_V1_0), .val (.int q2b_1), .val (.int (0 : Int32))] [(.int (0 : Int32))])) _
            exact retN X0 hx (t := .boolean) Bd.returns (by simp) (hb hby d2_89) hr
          · show Q2b Z z2b_V1_0 q2b_1 z2b_V1_1 h0 n0 _ s₁.heap _
            rw [e0]
            exact ⟨(congrArg (fun z => some (Value.int z)) (Eq.symm (Eq.trans (if_neg c2) (Eq.trans (if_pos c16) (Eq.trans (if_pos c18) (if_pos c20)))))), N0, rfl⟩
        · skip
          have P22 : own_Go p e below S0 (s₁.setTop (mkF m 79 #[.val (.ref z2b_V1_0), .val (.int q2b_1), .unset] [(.int (1114111 : Int32)), (.int q2b_1)])) := fun t k => P19 t (by
            show Steps p.tables e below (s₁.setTop (mkF m 73 #[.val (.ref z2b_V1_0), .val (.int q2b_1), .unset] [(.int (65536 : Int32)), (.int q2b_1)])) t
            refine XS.icmpNo X0.here hx rfl (hb hby d2_73) rfl (flt c20).1 ?_
            refine XS.iloadN X0.here hx rfl (hb hby d2_76) rfl ?_
            show Steps p.tables e below (s₁.setTop (mkF m 77 #[.val (.ref z2b_V1_0), .val (.int q2b_1), .unset] [(.int q2b_1)])) t
            refine X0.ldcInt hx hown (mvT hZ (hw _ (List.mem_of_getElem? (i := 29) rfl))) (g := (mkF m 77 #[.val (.ref z2b_V1_0), .val (.int q2b_1), .unset] [(.int q2b_1)])) rfl (hb hby d2_77) _ ?_
            show Steps p.tables e below (s₁.setTop (mkF m 79 #[.val (.ref z2b_V1_0), .val (.int q2b_1), .unset] [(.int (1114111 : Int32)), (.int q2b_1)])) t
            exact k)
          by_cases c23 : (1114111 : Int32) < q2b_1
          · skip
            have P24 : own_Go p e below S0 (s₁.setTop (mkF m 89 #[.val (.ref z2b_V1_0), .val (.int q2b_1), .val (.int (0 : Int32))] [(.int (0 : Int32))])) := fun t k => P22 t (by
              show Steps p.tables e below (s₁.setTop (mkF m 79 #[.val (.ref z2b_V1_0), .val (.int q2b_1), .unset] [(.int (1114111 : Int32)), (.int q2b_1)])) t
              refine XS.icmpYes X0.here hx rfl (pc0 := 79) (pc' := 86) rfl (hb hby d2_79) rfl (tlt c23).2.2.1 (by decide) (by decide) ?_
              refine XS.iconst X0.here hx rfl (hb hby d2_86) ?_
              refine XS.istoreN X0.here hx rfl (hb hby d2_87) rfl (l' := #[.val (.ref z2b_V1_0), .val (.int q2b_1), .val (.int (0 : Int32))]) rfl ?_
              refine XS.iloadN X0.here hx rfl (hb hby d2_88) rfl ?_
              show Steps p.tables e below (s₁.setTop (mkF m 89 #[.val (.ref z2b_V1_0), .val (.int q2b_1), .val (.int (0 : Int32))] [(.int (0 : Int32))])) t
              exact k)
            obtain ⟨fs, hr, hrun, hended, hW, hsame⟩ := X0.leave (v := some (.int (0 : Int32))) (fun h => by rw [Bd.returns] at h; cases h)
            refine ⟨_, _, own_from hS0 (P24 _ ?_), hrun, hended, _, _, rfl, ?_, ⟨_, rfl⟩, hW, hsame.mono (by decide) (by decide)⟩
            · show Steps p.tables e below (s₁.setTop (mkF m 89 #[.val (.ref z2b_V1_0), .val (.int q2b_1), .val (.int (0 : Int32))] [(.int (0 : Int32))])) _
              exact retN X0 hx (t := .boolean) Bd.returns (by simp) (hb hby d2_89) hr
            · show Q2b Z z2b_V1_0 q2b_1 z2b_V1_1 h0 n0 _ s₁.heap _
              rw [e0]
              exact ⟨(congrArg (fun z => some (Value.int z)) (Eq.symm (Eq.trans (if_neg c2) (Eq.trans (if_pos c16) (Eq.trans (if_pos c18) (Eq.trans (if_neg c20) (if_pos c23))))))), N0, rfl⟩
          · skip
            have P25 : own_Go p e below S0 (s₁.setTop (mkF m 89 #[.val (.ref z2b_V1_0), .val (.int q2b_1), .val (.int (1 : Int32))] [(.int (1 : Int32))])) := fun t k => P22 t (by
              show Steps p.tables e below (s₁.setTop (mkF m 79 #[.val (.ref z2b_V1_0), .val (.int q2b_1), .unset] [(.int (1114111 : Int32)), (.int q2b_1)])) t
              refine XS.icmpNo X0.here hx rfl (hb hby d2_79) rfl (flt c23).2.2.1 ?_
              refine XS.iconst X0.here hx rfl (hb hby d2_82) ?_
              refine XS.goto X0.here hx rfl (pc0 := 83) (pc' := 87) rfl (hb hby d2_83) (by decide) (by decide) ?_
              refine XS.istoreN X0.here hx rfl (hb hby d2_87) rfl (l' := #[.val (.ref z2b_V1_0), .val (.int q2b_1), .val (.int (1 : Int32))]) rfl ?_
              refine XS.iloadN X0.here hx rfl (hb hby d2_88) rfl ?_
              show Steps p.tables e below (s₁.setTop (mkF m 89 #[.val (.ref z2b_V1_0), .val (.int q2b_1), .val (.int (1 : Int32))] [(.int (1 : Int32))])) t
              exact k)
            obtain ⟨fs, hr, hrun, hended, hW, hsame⟩ := X0.leave (v := some (.int (1 : Int32))) (fun h => by rw [Bd.returns] at h; cases h)
            refine ⟨_, _, own_from hS0 (P25 _ ?_), hrun, hended, _, _, rfl, ?_, ⟨_, rfl⟩, hW, hsame.mono (by decide) (by decide)⟩
            · show Steps p.tables e below (s₁.setTop (mkF m 89 #[.val (.ref z2b_V1_0), .val (.int q2b_1), .val (.int (1 : Int32))] [(.int (1 : Int32))])) _
              exact retN X0 hx (t := .boolean) Bd.returns (by simp) (hb hby d2_89) hr
            · show Q2b Z z2b_V1_0 q2b_1 z2b_V1_1 h0 n0 _ s₁.heap _
              rw [e0]
              exact ⟨(congrArg (fun z => some (Value.int z)) (Eq.symm (Eq.trans (if_neg c2) (Eq.trans (if_pos c16) (Eq.trans (if_pos c18) (Eq.trans (if_neg c20) (if_neg c23))))))), N0, rfl⟩
      · skip
        have P26 : own_Go p e below S0 (s₁.setTop (mkF m 67 #[.val (.ref z2b_V1_0), .val (.int q2b_1), .unset] [(.int (65533 : Int32)), (.int q2b_1)])) := fun t k => P17 t (by
          show Steps p.tables e below (s₁.setTop (mkF m 61 #[.val (.ref z2b_V1_0), .val (.int q2b_1), .unset] [(.int (57344 : Int32)), (.int q2b_1)])) t
          refine XS.icmpNo X0.here hx rfl (hb hby d2_61) rfl (flt c18).1 ?_
          refine XS.iloadN X0.here hx rfl (hb hby d2_64) rfl ?_
          show Steps p.tables e below (s₁.setTop (mkF m 65 #[.val (.ref z2b_V1_0), .val (.int q2b_1), .unset] [(.int q2b_1)])) t
          refine X0.ldcInt hx hown (mvT hZ (hw _ (List.mem_of_getElem? (i := 28) rfl))) (g := (mkF m 65 #[.val (.ref z2b_V1_0), .val (.int q2b_1), .unset] [(.int q2b_1)])) rfl (hb hby d2_65) _ ?_
          show Steps p.tables e below (s₁.setTop (mkF m 67 #[.val (.ref z2b_V1_0), .val (.int q2b_1), .unset] [(.int (65533 : Int32)), (.int q2b_1)])) t
          exact k)
        by_cases c27 : (65533 : Int32) < q2b_1
        · skip
          have P28 : own_Go p e below S0 (s₁.setTop (mkF m 73 #[.val (.ref z2b_V1_0), .val (.int q2b_1), .unset] [(.int (65536 : Int32)), (.int q2b_1)])) := fun t k => P26 t (by
            show Steps p.tables e below (s₁.setTop (mkF m 67 #[.val (.ref z2b_V1_0), .val (.int q2b_1), .unset] [(.int (65533 : Int32)), (.int q2b_1)])) t
            refine XS.icmpNo X0.here hx rfl (hb hby d2_67) rfl (tlt c27).2.2.2 ?_
            refine XS.iloadN X0.here hx rfl (hb hby d2_70) rfl ?_
            show Steps p.tables e below (s₁.setTop (mkF m 71 #[.val (.ref z2b_V1_0), .val (.int q2b_1), .unset] [(.int q2b_1)])) t
            refine X0.ldcInt hx hown (mvT hZ (hw _ (List.mem_of_getElem? (i := 27) rfl))) (g := (mkF m 71 #[.val (.ref z2b_V1_0), .val (.int q2b_1), .unset] [(.int q2b_1)])) rfl (hb hby d2_71) _ ?_
            show Steps p.tables e below (s₁.setTop (mkF m 73 #[.val (.ref z2b_V1_0), .val (.int q2b_1), .unset] [(.int (65536 : Int32)), (.int q2b_1)])) t
            exact k)
          by_cases c29 : q2b_1 < (65536 : Int32)
          · skip
            have P30 : own_Go p e below S0 (s₁.setTop (mkF m 89 #[.val (.ref z2b_V1_0), .val (.int q2b_1), .val (.int (0 : Int32))] [(.int (0 : Int32))])) := fun t k => P28 t (by
              show Steps p.tables e below (s₁.setTop (mkF m 73 #[.val (.ref z2b_V1_0), .val (.int q2b_1), .unset] [(.int (65536 : Int32)), (.int q2b_1)])) t
              refine XS.icmpYes X0.here hx rfl (pc0 := 73) (pc' := 86) rfl (hb hby d2_73) rfl (tlt c29).1 (by decide) (by decide) ?_
              refine XS.iconst X0.here hx rfl (hb hby d2_86) ?_
              refine XS.istoreN X0.here hx rfl (hb hby d2_87) rfl (l' := #[.val (.ref z2b_V1_0), .val (.int q2b_1), .val (.int (0 : Int32))]) rfl ?_
              refine XS.iloadN X0.here hx rfl (hb hby d2_88) rfl ?_
              show Steps p.tables e below (s₁.setTop (mkF m 89 #[.val (.ref z2b_V1_0), .val (.int q2b_1), .val (.int (0 : Int32))] [(.int (0 : Int32))])) t
              exact k)
            obtain ⟨fs, hr, hrun, hended, hW, hsame⟩ := X0.leave (v := some (.int (0 : Int32))) (fun h => by rw [Bd.returns] at h; cases h)
            refine ⟨_, _, own_from hS0 (P30 _ ?_), hrun, hended, _, _, rfl, ?_, ⟨_, rfl⟩, hW, hsame.mono (by decide) (by decide)⟩
            · show Steps p.tables e below (s₁.setTop (mkF m 89 #[.val (.ref z2b_V1_0), .val (.int q2b_1), .val (.int (0 : Int32))] [(.int (0 : Int32))])) _
              exact retN X0 hx (t := .boolean) Bd.returns (by simp) (hb hby d2_89) hr
            · show Q2b Z z2b_V1_0 q2b_1 z2b_V1_1 h0 n0 _ s₁.heap _
              rw [e0]
              exact ⟨(congrArg (fun z => some (Value.int z)) (Eq.symm (Eq.trans (if_neg c2) (Eq.trans (if_pos c16) (Eq.trans (if_neg c18) (Eq.trans (if_pos c27) (if_pos c29))))))), N0, rfl⟩
          · skip
            have P31 : own_Go p e below S0 (s₁.setTop (mkF m 79 #[.val (.ref z2b_V1_0), .val (.int q2b_1), .unset] [(.int (1114111 : Int32)), (.int q2b_1)])) := fun t k => P28 t (by
              show Steps p.tables e below (s₁.setTop (mkF m 73 #[.val (.ref z2b_V1_0), .val (.int q2b_1), .unset] [(.int (65536 : Int32)), (.int q2b_1)])) t
              refine XS.icmpNo X0.here hx rfl (hb hby d2_73) rfl (flt c29).1 ?_
              refine XS.iloadN X0.here hx rfl (hb hby d2_76) rfl ?_
              show Steps p.tables e below (s₁.setTop (mkF m 77 #[.val (.ref z2b_V1_0), .val (.int q2b_1), .unset] [(.int q2b_1)])) t
              refine X0.ldcInt hx hown (mvT hZ (hw _ (List.mem_of_getElem? (i := 29) rfl))) (g := (mkF m 77 #[.val (.ref z2b_V1_0), .val (.int q2b_1), .unset] [(.int q2b_1)])) rfl (hb hby d2_77) _ ?_
              show Steps p.tables e below (s₁.setTop (mkF m 79 #[.val (.ref z2b_V1_0), .val (.int q2b_1), .unset] [(.int (1114111 : Int32)), (.int q2b_1)])) t
              exact k)
            by_cases c32 : (1114111 : Int32) < q2b_1
            · skip
              have P33 : own_Go p e below S0 (s₁.setTop (mkF m 89 #[.val (.ref z2b_V1_0), .val (.int q2b_1), .val (.int (0 : Int32))] [(.int (0 : Int32))])) := fun t k => P31 t (by
                show Steps p.tables e below (s₁.setTop (mkF m 79 #[.val (.ref z2b_V1_0), .val (.int q2b_1), .unset] [(.int (1114111 : Int32)), (.int q2b_1)])) t
                refine XS.icmpYes X0.here hx rfl (pc0 := 79) (pc' := 86) rfl (hb hby d2_79) rfl (tlt c32).2.2.1 (by decide) (by decide) ?_
                refine XS.iconst X0.here hx rfl (hb hby d2_86) ?_
                refine XS.istoreN X0.here hx rfl (hb hby d2_87) rfl (l' := #[.val (.ref z2b_V1_0), .val (.int q2b_1), .val (.int (0 : Int32))]) rfl ?_
                refine XS.iloadN X0.here hx rfl (hb hby d2_88) rfl ?_
                show Steps p.tables e below (s₁.setTop (mkF m 89 #[.val (.ref z2b_V1_0), .val (.int q2b_1), .val (.int (0 : Int32))] [(.int (0 : Int32))])) t
                exact k)
              obtain ⟨fs, hr, hrun, hended, hW, hsame⟩ := X0.leave (v := some (.int (0 : Int32))) (fun h => by rw [Bd.returns] at h; cases h)
              refine ⟨_, _, own_from hS0 (P33 _ ?_), hrun, hended, _, _, rfl, ?_, ⟨_, rfl⟩, hW, hsame.mono (by decide) (by decide)⟩
              · show Steps p.tables e below (s₁.setTop (mkF m 89 #[.val (.ref z2b_V1_0), .val (.int q2b_1), .val (.int (0 : Int32))] [(.int (0 : Int32))])) _
                exact retN X0 hx (t := .boolean) Bd.returns (by simp) (hb hby d2_89) hr
              · show Q2b Z z2b_V1_0 q2b_1 z2b_V1_1 h0 n0 _ s₁.heap _
                rw [e0]
                exact ⟨(congrArg (fun z => some (Value.int z)) (Eq.symm (Eq.trans (if_neg c2) (Eq.trans (if_pos c16) (Eq.trans (if_neg c18) (Eq.trans (if_pos c27) (Eq.trans (if_neg c29) (if_pos c32)))))))), N0, rfl⟩
            · skip
              have P34 : own_Go p e below S0 (s₁.setTop (mkF m 89 #[.val (.ref z2b_V1_0), .val (.int q2b_1), .val (.int (1 : Int32))] [(.int (1 : Int32))])) := fun t k => P31 t (by
                show Steps p.tables e below (s₁.setTop (mkF m 79 #[.val (.ref z2b_V1_0), .val (.int q2b_1), .unset] [(.int (1114111 : Int32)), (.int q2b_1)])) t
                refine XS.icmpNo X0.here hx rfl (hb hby d2_79) rfl (flt c32).2.2.1 ?_
                refine XS.iconst X0.here hx rfl (hb hby d2_82) ?_
                refine XS.goto X0.here hx rfl (pc0 := 83) (pc' := 87) rfl (hb hby d2_83) (by decide) (by decide) ?_
                refine XS.istoreN X0.here hx rfl (hb hby d2_87) rfl (l' := #[.val (.ref z2b_V1_0), .val (.int q2b_1), .val (.int (1 : Int32))]) rfl ?_
                refine XS.iloadN X0.here hx rfl (hb hby d2_88) rfl ?_
                show Steps p.tables e below (s₁.setTop (mkF m 89 #[.val (.ref z2b_V1_0), .val (.int q2b_1), .val (.int (1 : Int32))] [(.int (1 : Int32))])) t
                exact k)
              obtain ⟨fs, hr, hrun, hended, hW, hsame⟩ := X0.leave (v := some (.int (1 : Int32))) (fun h => by rw [Bd.returns] at h; cases h)
              refine ⟨_, _, own_from hS0 (P34 _ ?_), hrun, hended, _, _, rfl, ?_, ⟨_, rfl⟩, hW, hsame.mono (by decide) (by decide)⟩
              · show Steps p.tables e below (s₁.setTop (mkF m 89 #[.val (.ref z2b_V1_0), .val (.int q2b_1), .val (.int (1 : Int32))] [(.int (1 : Int32))])) _
                exact retN X0 hx (t := .boolean) Bd.returns (by simp) (hb hby d2_89) hr
              · show Q2b Z z2b_V1_0 q2b_1 z2b_V1_1 h0 n0 _ s₁.heap _
                rw [e0]
                exact ⟨(congrArg (fun z => some (Value.int z)) (Eq.symm (Eq.trans (if_neg c2) (Eq.trans (if_pos c16) (Eq.trans (if_neg c18) (Eq.trans (if_pos c27) (Eq.trans (if_neg c29) (if_neg c32)))))))), N0, rfl⟩
        · skip
          have P35 : own_Go p e below S0 (s₁.setTop (mkF m 89 #[.val (.ref z2b_V1_0), .val (.int q2b_1), .val (.int (1 : Int32))] [(.int (1 : Int32))])) := fun t k => P26 t (by
            show Steps p.tables e below (s₁.setTop (mkF m 67 #[.val (.ref z2b_V1_0), .val (.int q2b_1), .unset] [(.int (65533 : Int32)), (.int q2b_1)])) t
            refine XS.icmpYes X0.here hx rfl (pc0 := 67) (pc' := 82) rfl (hb hby d2_67) rfl (flt c27).2.2.2 (by decide) (by decide) ?_
            refine XS.iconst X0.here hx rfl (hb hby d2_82) ?_
            refine XS.goto X0.here hx rfl (pc0 := 83) (pc' := 87) rfl (hb hby d2_83) (by decide) (by decide) ?_
            refine XS.istoreN X0.here hx rfl (hb hby d2_87) rfl (l' := #[.val (.ref z2b_V1_0), .val (.int q2b_1), .val (.int (1 : Int32))]) rfl ?_
            refine XS.iloadN X0.here hx rfl (hb hby d2_88) rfl ?_
            show Steps p.tables e below (s₁.setTop (mkF m 89 #[.val (.ref z2b_V1_0), .val (.int q2b_1), .val (.int (1 : Int32))] [(.int (1 : Int32))])) t
            exact k)
          obtain ⟨fs, hr, hrun, hended, hW, hsame⟩ := X0.leave (v := some (.int (1 : Int32))) (fun h => by rw [Bd.returns] at h; cases h)
          refine ⟨_, _, own_from hS0 (P35 _ ?_), hrun, hended, _, _, rfl, ?_, ⟨_, rfl⟩, hW, hsame.mono (by decide) (by decide)⟩
          · show Steps p.tables e below (s₁.setTop (mkF m 89 #[.val (.ref z2b_V1_0), .val (.int q2b_1), .val (.int (1 : Int32))] [(.int (1 : Int32))])) _
            exact retN X0 hx (t := .boolean) Bd.returns (by simp) (hb hby d2_89) hr
          · show Q2b Z z2b_V1_0 q2b_1 z2b_V1_1 h0 n0 _ s₁.heap _
            rw [e0]
            exact ⟨(congrArg (fun z => some (Value.int z)) (Eq.symm (Eq.trans (if_neg c2) (Eq.trans (if_pos c16) (Eq.trans (if_neg c18) (if_neg c27)))))), N0, rfl⟩
    · skip
      have P36 : own_Go p e below S0 (s₁.setTop (mkF m 89 #[.val (.ref z2b_V1_0), .val (.int q2b_1), .val (.int (1 : Int32))] [(.int (1 : Int32))])) := fun t k => P15 t (by
        show Steps p.tables e below (s₁.setTop (mkF m 55 #[.val (.ref z2b_V1_0), .val (.int q2b_1), .unset] [(.int (55295 : Int32)), (.int q2b_1)])) t
        refine XS.icmpYes X0.here hx rfl (pc0 := 55) (pc' := 82) rfl (hb hby d2_55) rfl (flt c16).2.2.2 (by decide) (by decide) ?_
        refine XS.iconst X0.here hx rfl (hb hby d2_82) ?_
        refine XS.goto X0.here hx rfl (pc0 := 83) (pc' := 87) rfl (hb hby d2_83) (by decide) (by decide) ?_
        refine XS.istoreN X0.here hx rfl (hb hby d2_87) rfl (l' := #[.val (.ref z2b_V1_0), .val (.int q2b_1), .val (.int (1 : Int32))]) rfl ?_
        refine XS.iloadN X0.here hx rfl (hb hby d2_88) rfl ?_
        show Steps p.tables e below (s₁.setTop (mkF m 89 #[.val (.ref z2b_V1_0), .val (.int q2b_1), .val (.int (1 : Int32))] [(.int (1 : Int32))])) t
        exact k)
      obtain ⟨fs, hr, hrun, hended, hW, hsame⟩ := X0.leave (v := some (.int (1 : Int32))) (fun h => by rw [Bd.returns] at h; cases h)
      refine ⟨_, _, own_from hS0 (P36 _ ?_), hrun, hended, _, _, rfl, ?_, ⟨_, rfl⟩, hW, hsame.mono (by decide) (by decide)⟩
      · show Steps p.tables e below (s₁.setTop (mkF m 89 #[.val (.ref z2b_V1_0), .val (.int q2b_1), .val (.int (1 : Int32))] [(.int (1 : Int32))])) _
        exact retN X0 hx (t := .boolean) Bd.returns (by simp) (hb hby d2_89) hr
      · show Q2b Z z2b_V1_0 q2b_1 z2b_V1_1 h0 n0 _ s₁.heap _
        rw [e0]
        exact ⟨(congrArg (fun z => some (Value.int z)) (Eq.symm (Eq.trans (if_neg c2) (if_neg c16)))), N0, rfl⟩
theorem d3_0 : decode method_3_code 0 = .ok (.iload_n 1, 1) := by decide +kernel
theorem d3_1 : decode method_3_code 1 = .ok (.iconst 1, 1) := by decide +kernel
theorem d3_2 : decode method_3_code 2 = .ok (.if_icmp .lt 9, 3) := by decide +kernel
theorem d3_5 : decode method_3_code 5 = .ok (.iload_n 1, 1) := by decide +kernel
theorem d3_6 : decode method_3_code 6 = .ok (.ldc 10, 2) := by decide +kernel
theorem d3_8 : decode method_3_code 8 = .ok (.if_icmp .le 5, 3) := by decide +kernel
theorem d3_11 : decode method_3_code 11 = .ok (.iconst 0, 1) := by decide +kernel
theorem d3_12 : decode method_3_code 12 = .ok (.ireturn, 1) := by decide +kernel
theorem d3_13 : decode method_3_code 13 = .ok (.iload_n 1, 1) := by decide +kernel
theorem d3_14 : decode method_3_code 14 = .ok (.ldc 11, 2) := by decide +kernel
theorem d3_16 : decode method_3_code 16 = .ok (.if_icmp .lt 11, 3) := by decide +kernel
theorem d3_19 : decode method_3_code 19 = .ok (.iload_n 1, 1) := by decide +kernel
theorem d3_20 : decode method_3_code 20 = .ok (.ldc 8, 2) := by decide +kernel
theorem d3_22 : decode method_3_code 22 = .ok (.if_icmp .gt 5, 3) := by decide +kernel
theorem d3_25 : decode method_3_code 25 = .ok (.iconst 0, 1) := by decide +kernel
theorem d3_26 : decode method_3_code 26 = .ok (.ireturn, 1) := by decide +kernel
theorem d3_27 : decode method_3_code 27 = .ok (.iload_n 1, 1) := by decide +kernel
theorem d3_28 : decode method_3_code 28 = .ok (.ldc 9, 2) := by decide +kernel
theorem d3_30 : decode method_3_code 30 = .ok (.if_icmp .eq 9, 3) := by decide +kernel
theorem d3_33 : decode method_3_code 33 = .ok (.iload_n 1, 1) := by decide +kernel
theorem d3_34 : decode method_3_code 34 = .ok (.ldc 12, 2) := by decide +kernel
theorem d3_36 : decode method_3_code 36 = .ok (.if_icmp .ne 5, 3) := by decide +kernel
theorem d3_39 : decode method_3_code 39 = .ok (.iconst 0, 1) := by decide +kernel
theorem d3_40 : decode method_3_code 40 = .ok (.ireturn, 1) := by decide +kernel
theorem d3_41 : decode method_3_code 41 = .ok (.iload_n 1, 1) := by decide +kernel
theorem d3_42 : decode method_3_code 42 = .ok (.bipush 32, 2) := by decide +kernel
theorem d3_44 : decode method_3_code 44 = .ok (.if_icmp .ge 31, 3) := by decide +kernel
theorem d3_47 : decode method_3_code 47 = .ok (.iload_n 0, 1) := by decide +kernel
theorem d3_48 : decode method_3_code 48 = .ok (.ifCond .ne 27, 3) := by decide +kernel
theorem d3_75 : decode method_3_code 75 = .ok (.iconst 1, 1) := by decide +kernel
theorem d3_76 : decode method_3_code 76 = .ok (.ireturn, 1) := by decide +kernel
theorem ef_3t (m : MethodId) (q3t_1 : Int32) : entryFrame m #[(.int (1 : Int32)), (.int q3t_1)] 2 = mkF m 0 #[.val (.int (1 : Int32)), .val (.int q3t_1)] [] := by first | (simp [entryFrame, mkF, argsToLocals, Value.category]; done) | rfl
def r3t (q3t_1 : Int32) : Int32 := (if q3t_1 < (1 : Int32) then (0 : Int32) else (if (1114111 : Int32) < q3t_1 then (0 : Int32) else (if q3t_1 < (55296 : Int32) then (if q3t_1 = (65534 : Int32) then (0 : Int32) else (if q3t_1 = (65535 : Int32) then (0 : Int32) else (1 : Int32))) else (if (57343 : Int32) < q3t_1 then (if q3t_1 = (65534 : Int32) then (0 : Int32) else (if q3t_1 = (65535 : Int32) then (0 : Int32) else (1 : Int32))) else (0 : Int32)))))
def Q3t (Z : State) (q3t_1 : Int32) (h0 : Heap) (n0 : Nat) (v : Option Value) (h : Heap) (L : List Loc) : Prop := v = some (.int (r3t q3t_1)) ∧ Fr n0 L ∧ h = h0
set_option maxRecDepth 65536 in
set_option maxHeartbeats 40000000 in
theorem rm3t (l : Launch) (Z : State) (a0 : Array Value) (hw : ∀ d ∈ tables_1, d.before a0 Z = true) (ws : List Jvm.Cond) (q3t_1 : Int32) (h0 : Heap) (n0 : Nat) (Z0 : n0 ≤ h0.size) :
    MetFree l (⟨"com/example/splice/splice/XmlVersionAllowsPinLaw", "expected", "(ZI)Z"⟩ : MethodName) (head1 (Jvm.Cond.code (⟨"com/example/splice/splice/XmlVersionAllowsPinLaw", "expected", "(ZI)Z"⟩ : MethodName) method_3_code 2 (some .boolean) :: ws) ({ frames := 0, cells := 0, slots := 0, locals := 0 } : Room)) (fun a U => a = #[(.int (1 : Int32)), (.int q3t_1)] ∧ Z.Warmed39 U.vm ∧ U.heap = h0) (fun _ _ _ _ _ => True) (fun _ U o U' => ∃ v L, o = .returned v ∧ Q3t Z q3t_1 h0 n0 v U'.heap L ∧ FrameEnd U o U' L ({ frames := 0, cells := 0, slots := 0, locals := 0 } : Room).cells ({ frames := 0, cells := 0, slots := 0, locals := 0 } : Room).slots) := by
  refine MetFree.of_bodySF (plainFor_of_name pn_1) hisR ?_
  intro p e s m args below meth c s₁ Bd hml0 hP hK
  obtain ⟨rfl, hZ, hh⟩ := hP
  have hx := Bd.exec
  have hby := Bd.bytes
  have hml : c.maxLocals = 2 := hml0
  have hown : s.vm.findClass "com/example/splice/splice/XmlVersionAllowsPinLaw" = some m.cls := findClass_of_methodNamed Bd.named
  have hnm := (name_of_methodNamed Bd.named Bd.method).1
  have X0 : Stand p l e ({ frames := 0, cells := 0, slots := 0, locals := 0 } : Room) s m #[(.int (1 : Int32)), (.int q3t_1)] below meth c s₁ [] 0 0 := Stand.of_body Bd
  have e0 : s₁.heap = h0 := by rw [← hh, Bd.state]; rfl
  have N0 := Fr.nil n0
  obtain ⟨S0, hS0⟩ : ∃ z, z = s₁.setTop (entryFrame m #[(.int (1 : Int32)), (.int q3t_1)] 2) := ⟨_, rfl⟩
  have P0 : own_Go p e below S0 (s₁.setTop (mkF m 0 #[.val (.int (1 : Int32)), .val (.int q3t_1)] [])) := fun t k => by rw [hS0]; exact castTop (ef_3t m q3t_1) k
  have P1 : own_Go p e below S0 (s₁.setTop (mkF m 2 #[.val (.int (1 : Int32)), .val (.int q3t_1)] [(.int (1 : Int32)), (.int q3t_1)])) := fun t k => P0 t (by
    show Steps p.tables e below (s₁.setTop (mkF m 0 #[.val (.int (1 : Int32)), .val (.int q3t_1)] [])) t
    refine XS.iloadN X0.here hx rfl (hb hby d3_0) rfl ?_
    refine XS.iconst X0.here hx rfl (hb hby d3_1) ?_
    show Steps p.tables e below (s₁.setTop (mkF m 2 #[.val (.int (1 : Int32)), .val (.int q3t_1)] [(.int (1 : Int32)), (.int q3t_1)])) t
    exact k)
  by_cases c2 : q3t_1 < (1 : Int32)
  · skip
    have P3 : own_Go p e below S0 (s₁.setTop (mkF m 12 #[.val (.int (1 : Int32)), .val (.int q3t_1)] [(.int (0 : Int32))])) := fun t k => P1 t (by
      show Steps p.tables e below (s₁.setTop (mkF m 2 #[.val (.int (1 : Int32)), .val (.int q3t_1)] [(.int (1 : Int32)), (.int q3t_1)])) t
      refine XS.icmpYes X0.here hx rfl (pc0 := 2) (pc' := 11) rfl (hb hby d3_2) rfl (tlt c2).1 (by decide) (by decide) ?_
      refine XS.iconst X0.here hx rfl (hb hby d3_11) ?_
      show Steps p.tables e below (s₁.setTop (mkF m 12 #[.val (.int (1 : Int32)), .val (.int q3t_1)] [(.int (0 : Int32))])) t
      exact k)
    obtain ⟨fs, hr, hrun, hended, hW, hsame⟩ := X0.leave (v := some (.int (0 : Int32))) (fun h => by rw [Bd.returns] at h; cases h)
    refine ⟨_, _, own_from hS0 (P3 _ ?_), hrun, hended, _, _, rfl, ?_, ⟨_, rfl⟩, hW, hsame.mono (by decide) (by decide)⟩
    · show Steps p.tables e below (s₁.setTop (mkF m 12 #[.val (.int (1 : Int32)), .val (.int q3t_1)] [(.int (0 : Int32))])) _
      exact retN X0 hx (t := .boolean) Bd.returns (by simp) (hb hby d3_12) hr
    · show Q3t Z q3t_1 h0 n0 _ s₁.heap _
      rw [e0]
      exact ⟨(congrArg (fun z => some (Value.int z)) (Eq.symm (if_pos c2))), N0, rfl⟩
  · skip
    have P4 : own_Go p e below S0 (s₁.setTop (mkF m 8 #[.val (.int (1 : Int32)), .val (.int q3t_1)] [(.int (1114111 : Int32)), (.int q3t_1)])) := fun t k => P1 t (by
      show Steps p.tables e below (s₁.setTop (mkF m 2 #[.val (.int (1 : Int32)), .val (.int q3t_1)] [(.int (1 : Int32)), (.int q3t_1)])) t
      refine XS.icmpNo X0.here hx rfl (hb hby d3_2) rfl (flt c2).1 ?_
      refine XS.iloadN X0.here hx rfl (hb hby d3_5) rfl ?_
      show Steps p.tables e below (s₁.setTop (mkF m 6 #[.val (.int (1 : Int32)), .val (.int q3t_1)] [(.int q3t_1)])) t
      refine X0.ldcInt hx hown (mvT hZ (hw _ (List.mem_of_getElem? (i := 8) rfl))) (g := (mkF m 6 #[.val (.int (1 : Int32)), .val (.int q3t_1)] [(.int q3t_1)])) rfl (hb hby d3_6) _ ?_
      show Steps p.tables e below (s₁.setTop (mkF m 8 #[.val (.int (1 : Int32)), .val (.int q3t_1)] [(.int (1114111 : Int32)), (.int q3t_1)])) t
      exact k)
    by_cases c5 : (1114111 : Int32) < q3t_1
    · skip
      have P6 : own_Go p e below S0 (s₁.setTop (mkF m 12 #[.val (.int (1 : Int32)), .val (.int q3t_1)] [(.int (0 : Int32))])) := fun t k => P4 t (by
        show Steps p.tables e below (s₁.setTop (mkF m 8 #[.val (.int (1 : Int32)), .val (.int q3t_1)] [(.int (1114111 : Int32)), (.int q3t_1)])) t
        refine XS.icmpNo X0.here hx rfl (hb hby d3_8) rfl (tlt c5).2.2.2 ?_
        refine XS.iconst X0.here hx rfl (hb hby d3_11) ?_
        show Steps p.tables e below (s₁.setTop (mkF m 12 #[.val (.int (1 : Int32)), .val (.int q3t_1)] [(.int (0 : Int32))])) t
        exact k)
      obtain ⟨fs, hr, hrun, hended, hW, hsame⟩ := X0.leave (v := some (.int (0 : Int32))) (fun h => by rw [Bd.returns] at h; cases h)
      refine ⟨_, _, own_from hS0 (P6 _ ?_), hrun, hended, _, _, rfl, ?_, ⟨_, rfl⟩, hW, hsame.mono (by decide) (by decide)⟩
      · show Steps p.tables e below (s₁.setTop (mkF m 12 #[.val (.int (1 : Int32)), .val (.int q3t_1)] [(.int (0 : Int32))])) _
        exact retN X0 hx (t := .boolean) Bd.returns (by simp) (hb hby d3_12) hr
      · show Q3t Z q3t_1 h0 n0 _ s₁.heap _
        rw [e0]
        exact ⟨(congrArg (fun z => some (Value.int z)) (Eq.symm (Eq.trans (if_neg c2) (if_pos c5)))), N0, rfl⟩
    · skip
      have P7 : own_Go p e below S0 (s₁.setTop (mkF m 16 #[.val (.int (1 : Int32)), .val (.int q3t_1)] [(.int (55296 : Int32)), (.int q3t_1)])) := fun t k => P4 t (by
        show Steps p.tables e below (s₁.setTop (mkF m 8 #[.val (.int (1 : Int32)), .val (.int q3t_1)] [(.int (1114111 : Int32)), (.int q3t_1)])) t
        refine XS.icmpYes X0.here hx rfl (pc0 := 8) (pc' := 13) rfl (hb hby d3_8) rfl (flt c5).2.2.2 (by decide) (by decide) ?_
        refine XS.iloadN X0.here hx rfl (hb hby d3_13) rfl ?_
        show Steps p.tables e below (s₁.setTop (mkF m 14 #[.val (.int (1 : Int32)), .val (.int q3t_1)] [(.int q3t_1)])) t
        refine X0.ldcInt hx hown (mvT hZ (hw _ (List.mem_of_getElem? (i := 22) rfl))) (g := (mkF m 14 #[.val (.int (1 : Int32)), .val (.int q3t_1)] [(.int q3t_1)])) rfl (hb hby d3_14) _ ?_
        show Steps p.tables e below (s₁.setTop (mkF m 16 #[.val (.int (1 : Int32)), .val (.int q3t_1)] [(.int (55296 : Int32)), (.int q3t_1)])) t
        exact k)
      by_cases c8 : q3t_1 < (55296 : Int32)
      · skip
        have P9 : own_Go p e below S0 (s₁.setTop (mkF m 30 #[.val (.int (1 : Int32)), .val (.int q3t_1)] [(.int (65534 : Int32)), (.int q3t_1)])) := fun t k => P7 t (by
          show Steps p.tables e below (s₁.setTop (mkF m 16 #[.val (.int (1 : Int32)), .val (.int q3t_1)] [(.int (55296 : Int32)), (.int q3t_1)])) t
          refine XS.icmpYes X0.here hx rfl (pc0 := 16) (pc' := 27) rfl (hb hby d3_16) rfl (tlt c8).1 (by decide) (by decide) ?_
          refine XS.iloadN X0.here hx rfl (hb hby d3_27) rfl ?_
          show Steps p.tables e below (s₁.setTop (mkF m 28 #[.val (.int (1 : Int32)), .val (.int q3t_1)] [(.int q3t_1)])) t
          refine X0.ldcInt hx hown (mvT hZ (hw _ (List.mem_of_getElem? (i := 7) rfl))) (g := (mkF m 28 #[.val (.int (1 : Int32)), .val (.int q3t_1)] [(.int q3t_1)])) rfl (hb hby d3_28) _ ?_
          show Steps p.tables e below (s₁.setTop (mkF m 30 #[.val (.int (1 : Int32)), .val (.int q3t_1)] [(.int (65534 : Int32)), (.int q3t_1)])) t
          exact k)
        by_cases c10 : q3t_1 = (65534 : Int32)
        · skip
          have P11 : own_Go p e below S0 (s₁.setTop (mkF m 40 #[.val (.int (1 : Int32)), .val (.int q3t_1)] [(.int (0 : Int32))])) := fun t k => P9 t (by
            show Steps p.tables e below (s₁.setTop (mkF m 30 #[.val (.int (1 : Int32)), .val (.int q3t_1)] [(.int (65534 : Int32)), (.int q3t_1)])) t
            refine XS.icmpYes X0.here hx rfl (pc0 := 30) (pc' := 39) rfl (hb hby d3_30) rfl (teq c10).1 (by decide) (by decide) ?_
            refine XS.iconst X0.here hx rfl (hb hby d3_39) ?_
            show Steps p.tables e below (s₁.setTop (mkF m 40 #[.val (.int (1 : Int32)), .val (.int q3t_1)] [(.int (0 : Int32))])) t
            exact k)
          obtain ⟨fs, hr, hrun, hended, hW, hsame⟩ := X0.leave (v := some (.int (0 : Int32))) (fun h => by rw [Bd.returns] at h; cases h)
          refine ⟨_, _, own_from hS0 (P11 _ ?_), hrun, hended, _, _, rfl, ?_, ⟨_, rfl⟩, hW, hsame.mono (by decide) (by decide)⟩
          · show Steps p.tables e below (s₁.setTop (mkF m 40 #[.val (.int (1 : Int32)), .val (.int q3t_1)] [(.int (0 : Int32))])) _
            exact retN X0 hx (t := .boolean) Bd.returns (by simp) (hb hby d3_40) hr
          · show Q3t Z q3t_1 h0 n0 _ s₁.heap _
            rw [e0]
            exact ⟨(congrArg (fun z => some (Value.int z)) (Eq.symm (Eq.trans (if_neg c2) (Eq.trans (if_neg c5) (Eq.trans (if_pos c8) (if_pos c10)))))), N0, rfl⟩
        · skip
          have P12 : own_Go p e below S0 (s₁.setTop (mkF m 36 #[.val (.int (1 : Int32)), .val (.int q3t_1)] [(.int (65535 : Int32)), (.int q3t_1)])) := fun t k => P9 t (by
            show Steps p.tables e below (s₁.setTop (mkF m 30 #[.val (.int (1 : Int32)), .val (.int q3t_1)] [(.int (65534 : Int32)), (.int q3t_1)])) t
            refine XS.icmpNo X0.here hx rfl (hb hby d3_30) rfl (feq c10).1 ?_
            refine XS.iloadN X0.here hx rfl (hb hby d3_33) rfl ?_
            show Steps p.tables e below (s₁.setTop (mkF m 34 #[.val (.int (1 : Int32)), .val (.int q3t_1)] [(.int q3t_1)])) t
            refine X0.ldcInt hx hown (mvT hZ (hw _ (List.mem_of_getElem? (i := 23) rfl))) (g := (mkF m 34 #[.val (.int (1 : Int32)), .val (.int q3t_1)] [(.int q3t_1)])) rfl (hb hby d3_34) _ ?_
            show Steps p.tables e below (s₁.setTop (mkF m 36 #[.val (.int (1 : Int32)), .val (.int q3t_1)] [(.int (65535 : Int32)), (.int q3t_1)])) t
            exact k)
          by_cases c13 : q3t_1 = (65535 : Int32)
          · skip
            have P14 : own_Go p e below S0 (s₁.setTop (mkF m 40 #[.val (.int (1 : Int32)), .val (.int q3t_1)] [(.int (0 : Int32))])) := fun t k => P12 t (by
              show Steps p.tables e below (s₁.setTop (mkF m 36 #[.val (.int (1 : Int32)), .val (.int q3t_1)] [(.int (65535 : Int32)), (.int q3t_1)])) t
              refine XS.icmpNo X0.here hx rfl (hb hby d3_36) rfl (teq c13).2 ?_
              refine XS.iconst X0.here hx rfl (hb hby d3_39) ?_
              show Steps p.tables e below (s₁.setTop (mkF m 40 #[.val (.int (1 : Int32)), .val (.int q3t_1)] [(.int (0 : Int32))])) t
              exact k)
            obtain ⟨fs, hr, hrun, hended, hW, hsame⟩ := X0.leave (v := some (.int (0 : Int32))) (fun h => by rw [Bd.returns] at h; cases h)
            refine ⟨_, _, own_from hS0 (P14 _ ?_), hrun, hended, _, _, rfl, ?_, ⟨_, rfl⟩, hW, hsame.mono (by decide) (by decide)⟩
            · show Steps p.tables e below (s₁.setTop (mkF m 40 #[.val (.int (1 : Int32)), .val (.int q3t_1)] [(.int (0 : Int32))])) _
              exact retN X0 hx (t := .boolean) Bd.returns (by simp) (hb hby d3_40) hr
            · show Q3t Z q3t_1 h0 n0 _ s₁.heap _
              rw [e0]
              exact ⟨(congrArg (fun z => some (Value.int z)) (Eq.symm (Eq.trans (if_neg c2) (Eq.trans (if_neg c5) (Eq.trans (if_pos c8) (Eq.trans (if_neg c10) (if_pos c13))))))), N0, rfl⟩
          · skip
            have P15 : own_Go p e below S0 (s₁.setTop (mkF m 44 #[.val (.int (1 : Int32)), .val (.int q3t_1)] [(.int (32 : Int32)), (.int q3t_1)])) := fun t k => P12 t (by
              show Steps p.tables e below (s₁.setTop (mkF m 36 #[.val (.int (1 : Int32)), .val (.int q3t_1)] [(.int (65535 : Int32)), (.int q3t_1)])) t
              refine XS.icmpYes X0.here hx rfl (pc0 := 36) (pc' := 41) rfl (hb hby d3_36) rfl (feq c13).2 (by decide) (by decide) ?_
              refine XS.iloadN X0.here hx rfl (hb hby d3_41) rfl ?_
              refine XS.bipush X0.here hx rfl (hb hby d3_42) ?_
              show Steps p.tables e below (s₁.setTop (mkF m 44 #[.val (.int (1 : Int32)), .val (.int q3t_1)] [(.int (32 : Int32)), (.int q3t_1)])) t
              exact k)
            by_cases c16 : q3t_1 < (32 : Int32)
            · skip
              have P17 : own_Go p e below S0 (s₁.setTop (mkF m 76 #[.val (.int (1 : Int32)), .val (.int q3t_1)] [(.int (1 : Int32))])) := fun t k => P15 t (by
                show Steps p.tables e below (s₁.setTop (mkF m 44 #[.val (.int (1 : Int32)), .val (.int q3t_1)] [(.int (32 : Int32)), (.int q3t_1)])) t
                refine XS.icmpNo X0.here hx rfl (hb hby d3_44) rfl (tlt c16).2.1 ?_
                refine XS.iloadN X0.here hx rfl (hb hby d3_47) rfl ?_
                refine XS.ifYes X0.here hx rfl (pc0 := 48) (pc' := 75) rfl (hb hby d3_48) rfl ((if0 _ _).trans (feq (by decide)).2) (by decide) (by decide) ?_
                refine XS.iconst X0.here hx rfl (hb hby d3_75) ?_
                show Steps p.tables e below (s₁.setTop (mkF m 76 #[.val (.int (1 : Int32)), .val (.int q3t_1)] [(.int (1 : Int32))])) t
                exact k)
              obtain ⟨fs, hr, hrun, hended, hW, hsame⟩ := X0.leave (v := some (.int (1 : Int32))) (fun h => by rw [Bd.returns] at h; cases h)
              refine ⟨_, _, own_from hS0 (P17 _ ?_), hrun, hended, _, _, rfl, ?_, ⟨_, rfl⟩, hW, hsame.mono (by decide) (by decide)⟩
              · show Steps p.tables e below (s₁.setTop (mkF m 76 #[.val (.int (1 : Int32)), .val (.int q3t_1)] [(.int (1 : Int32))])) _
                exact retN X0 hx (t := .boolean) Bd.returns (by simp) (hb hby d3_76) hr
              · show Q3t Z q3t_1 h0 n0 _ s₁.heap _
                rw [e0]
                exact ⟨(congrArg (fun z => some (Value.int z)) (Eq.symm (Eq.trans (if_neg c2) (Eq.trans (if_neg c5) (Eq.trans (if_pos c8) (Eq.trans (if_neg c10) (if_neg c13))))))), N0, rfl⟩
            · skip
              have P18 : own_Go p e below S0 (s₁.setTop (mkF m 76 #[.val (.int (1 : Int32)), .val (.int q3t_1)] [(.int (1 : Int32))])) := fun t k => P15 t (by
                show Steps p.tables e below (s₁.setTop (mkF m 44 #[.val (.int (1 : Int32)), .val (.int q3t_1)] [(.int (32 : Int32)), (.int q3t_1)])) t
                refine XS.icmpYes X0.here hx rfl (pc0 := 44) (pc' := 75) rfl (hb hby d3_44) rfl (flt c16).2.1 (by decide) (by decide) ?_
                refine XS.iconst X0.here hx rfl (hb hby d3_75) ?_
                show Steps p.tables e below (s₁.setTop (mkF m 76 #[.val (.int (1 : Int32)), .val (.int q3t_1)] [(.int (1 : Int32))])) t
                exact k)
              obtain ⟨fs, hr, hrun, hended, hW, hsame⟩ := X0.leave (v := some (.int (1 : Int32))) (fun h => by rw [Bd.returns] at h; cases h)
              refine ⟨_, _, own_from hS0 (P18 _ ?_), hrun, hended, _, _, rfl, ?_, ⟨_, rfl⟩, hW, hsame.mono (by decide) (by decide)⟩
              · show Steps p.tables e below (s₁.setTop (mkF m 76 #[.val (.int (1 : Int32)), .val (.int q3t_1)] [(.int (1 : Int32))])) _
                exact retN X0 hx (t := .boolean) Bd.returns (by simp) (hb hby d3_76) hr
              · show Q3t Z q3t_1 h0 n0 _ s₁.heap _
                rw [e0]
                exact ⟨(congrArg (fun z => some (Value.int z)) (Eq.symm (Eq.trans (if_neg c2) (Eq.trans (if_neg c5) (Eq.trans (if_pos c8) (Eq.trans (if_neg c10) (if_neg c13))))))), N0, rfl⟩
      · skip
        have P19 : own_Go p e below S0 (s₁.setTop (mkF m 22 #[.val (.int (1 : Int32)), .val (.int q3t_1)] [(.int (57343 : Int32)), (.int q3t_1)])) := fun t k => P7 t (by
          show Steps p.tables e below (s₁.setTop (mkF m 16 #[.val (.int (1 : Int32)), .val (.int q3t_1)] [(.int (55296 : Int32)), (.int q3t_1)])) t
          refine XS.icmpNo X0.here hx rfl (hb hby d3_16) rfl (flt c8).1 ?_
          refine XS.iloadN X0.here hx rfl (hb hby d3_19) rfl ?_
          show Steps p.tables e below (s₁.setTop (mkF m 20 #[.val (.int (1 : Int32)), .val (.int q3t_1)] [(.int q3t_1)])) t
          refine X0.ldcInt hx hown (mvT hZ (hw _ (List.mem_of_getElem? (i := 6) rfl))) (g := (mkF m 20 #[.val (.int (1 : Int32)), .val (.int q3t_1)] [(.int q3t_1)])) rfl (hb hby d3_20) _ ?_
          show Steps p.tables e below (s₁.setTop (mkF m 22 #[.val (.int (1 : Int32)), .val (.int q3t_1)] [(.int (57343 : Int32)), (.int q3t_1)])) t
          exact k)
        by_cases c20 : (57343 : Int32) < q3t_1
        · skip
          have P21 : own_Go p e below S0 (s₁.setTop (mkF m 30 #[.val (.int (1 : Int32)), .val (.int q3t_1)] [(.int (65534 : Int32)), (.int q3t_1)])) := fun t k => P19 t (by
            show Steps p.tables e below (s₁.setTop (mkF m 22 #[.val (.int (1 : Int32)), .val (.int q3t_1)] [(.int (57343 : Int32)), (.int q3t_1)])) t
            refine XS.icmpYes X0.here hx rfl (pc0 := 22) (pc' := 27) rfl (hb hby d3_22) rfl (tlt c20).2.2.1 (by decide) (by decide) ?_
            refine XS.iloadN X0.here hx rfl (hb hby d3_27) rfl ?_
            show Steps p.tables e below (s₁.setTop (mkF m 28 #[.val (.int (1 : Int32)), .val (.int q3t_1)] [(.int q3t_1)])) t
            refine X0.ldcInt hx hown (mvT hZ (hw _ (List.mem_of_getElem? (i := 7) rfl))) (g := (mkF m 28 #[.val (.int (1 : Int32)), .val (.int q3t_1)] [(.int q3t_1)])) rfl (hb hby d3_28) _ ?_
            show Steps p.tables e below (s₁.setTop (mkF m 30 #[.val (.int (1 : Int32)), .val (.int q3t_1)] [(.int (65534 : Int32)), (.int q3t_1)])) t
            exact k)
          by_cases c22 : q3t_1 = (65534 : Int32)
          · skip
            have P23 : own_Go p e below S0 (s₁.setTop (mkF m 40 #[.val (.int (1 : Int32)), .val (.int q3t_1)] [(.int (0 : Int32))])) := fun t k => P21 t (by
              show Steps p.tables e below (s₁.setTop (mkF m 30 #[.val (.int (1 : Int32)), .val (.int q3t_1)] [(.int (65534 : Int32)), (.int q3t_1)])) t
              refine XS.icmpYes X0.here hx rfl (pc0 := 30) (pc' := 39) rfl (hb hby d3_30) rfl (teq c22).1 (by decide) (by decide) ?_
              refine XS.iconst X0.here hx rfl (hb hby d3_39) ?_
              show Steps p.tables e below (s₁.setTop (mkF m 40 #[.val (.int (1 : Int32)), .val (.int q3t_1)] [(.int (0 : Int32))])) t
              exact k)
            obtain ⟨fs, hr, hrun, hended, hW, hsame⟩ := X0.leave (v := some (.int (0 : Int32))) (fun h => by rw [Bd.returns] at h; cases h)
            refine ⟨_, _, own_from hS0 (P23 _ ?_), hrun, hended, _, _, rfl, ?_, ⟨_, rfl⟩, hW, hsame.mono (by decide) (by decide)⟩
            · show Steps p.tables e below (s₁.setTop (mkF m 40 #[.val (.int (1 : Int32)), .val (.int q3t_1)] [(.int (0 : Int32))])) _
              exact retN X0 hx (t := .boolean) Bd.returns (by simp) (hb hby d3_40) hr
            · show Q3t Z q3t_1 h0 n0 _ s₁.heap _
              rw [e0]
              exact ⟨(congrArg (fun z => some (Value.int z)) (Eq.symm (Eq.trans (if_neg c2) (Eq.trans (if_neg c5) (Eq.trans (if_neg c8) (Eq.trans (if_pos c20) (if_pos c22))))))), N0, rfl⟩
          · skip
            have P24 : own_Go p e below S0 (s₁.setTop (mkF m 36 #[.val (.int (1 : Int32)), .val (.int q3t_1)] [(.int (65535 : Int32)), (.int q3t_1)])) := fun t k => P21 t (by
              show Steps p.tables e below (s₁.setTop (mkF m 30 #[.val (.int (1 : Int32)), .val (.int q3t_1)] [(.int (65534 : Int32)), (.int q3t_1)])) t
              refine XS.icmpNo X0.here hx rfl (hb hby d3_30) rfl (feq c22).1 ?_
              refine XS.iloadN X0.here hx rfl (hb hby d3_33) rfl ?_
              show Steps p.tables e below (s₁.setTop (mkF m 34 #[.val (.int (1 : Int32)), .val (.int q3t_1)] [(.int q3t_1)])) t
              refine X0.ldcInt hx hown (mvT hZ (hw _ (List.mem_of_getElem? (i := 23) rfl))) (g := (mkF m 34 #[.val (.int (1 : Int32)), .val (.int q3t_1)] [(.int q3t_1)])) rfl (hb hby d3_34) _ ?_
              show Steps p.tables e below (s₁.setTop (mkF m 36 #[.val (.int (1 : Int32)), .val (.int q3t_1)] [(.int (65535 : Int32)), (.int q3t_1)])) t
              exact k)
            by_cases c25 : q3t_1 = (65535 : Int32)
            · skip
              have P26 : own_Go p e below S0 (s₁.setTop (mkF m 40 #[.val (.int (1 : Int32)), .val (.int q3t_1)] [(.int (0 : Int32))])) := fun t k => P24 t (by
                show Steps p.tables e below (s₁.setTop (mkF m 36 #[.val (.int (1 : Int32)), .val (.int q3t_1)] [(.int (65535 : Int32)), (.int q3t_1)])) t
                refine XS.icmpNo X0.here hx rfl (hb hby d3_36) rfl (teq c25).2 ?_
                refine XS.iconst X0.here hx rfl (hb hby d3_39) ?_
                show Steps p.tables e below (s₁.setTop (mkF m 40 #[.val (.int (1 : Int32)), .val (.int q3t_1)] [(.int (0 : Int32))])) t
                exact k)
              obtain ⟨fs, hr, hrun, hended, hW, hsame⟩ := X0.leave (v := some (.int (0 : Int32))) (fun h => by rw [Bd.returns] at h; cases h)
              refine ⟨_, _, own_from hS0 (P26 _ ?_), hrun, hended, _, _, rfl, ?_, ⟨_, rfl⟩, hW, hsame.mono (by decide) (by decide)⟩
              · show Steps p.tables e below (s₁.setTop (mkF m 40 #[.val (.int (1 : Int32)), .val (.int q3t_1)] [(.int (0 : Int32))])) _
                exact retN X0 hx (t := .boolean) Bd.returns (by simp) (hb hby d3_40) hr
              · show Q3t Z q3t_1 h0 n0 _ s₁.heap _
                rw [e0]
                exact ⟨(congrArg (fun z => some (Value.int z)) (Eq.symm (Eq.trans (if_neg c2) (Eq.trans (if_neg c5) (Eq.trans (if_neg c8) (Eq.trans (if_pos c20) (Eq.trans (if_neg c22) (if_pos c25)))))))), N0, rfl⟩
            · skip
              have P27 : own_Go p e below S0 (s₁.setTop (mkF m 44 #[.val (.int (1 : Int32)), .val (.int q3t_1)] [(.int (32 : Int32)), (.int q3t_1)])) := fun t k => P24 t (by
                show Steps p.tables e below (s₁.setTop (mkF m 36 #[.val (.int (1 : Int32)), .val (.int q3t_1)] [(.int (65535 : Int32)), (.int q3t_1)])) t
                refine XS.icmpYes X0.here hx rfl (pc0 := 36) (pc' := 41) rfl (hb hby d3_36) rfl (feq c25).2 (by decide) (by decide) ?_
                refine XS.iloadN X0.here hx rfl (hb hby d3_41) rfl ?_
                refine XS.bipush X0.here hx rfl (hb hby d3_42) ?_
                show Steps p.tables e below (s₁.setTop (mkF m 44 #[.val (.int (1 : Int32)), .val (.int q3t_1)] [(.int (32 : Int32)), (.int q3t_1)])) t
                exact k)
              by_cases c28 : q3t_1 < (32 : Int32)
              · skip
                have P29 : own_Go p e below S0 (s₁.setTop (mkF m 76 #[.val (.int (1 : Int32)), .val (.int q3t_1)] [(.int (1 : Int32))])) := fun t k => P27 t (by
                  show Steps p.tables e below (s₁.setTop (mkF m 44 #[.val (.int (1 : Int32)), .val (.int q3t_1)] [(.int (32 : Int32)), (.int q3t_1)])) t
                  refine XS.icmpNo X0.here hx rfl (hb hby d3_44) rfl (tlt c28).2.1 ?_
                  refine XS.iloadN X0.here hx rfl (hb hby d3_47) rfl ?_
                  refine XS.ifYes X0.here hx rfl (pc0 := 48) (pc' := 75) rfl (hb hby d3_48) rfl ((if0 _ _).trans (feq (by decide)).2) (by decide) (by decide) ?_
                  refine XS.iconst X0.here hx rfl (hb hby d3_75) ?_
                  show Steps p.tables e below (s₁.setTop (mkF m 76 #[.val (.int (1 : Int32)), .val (.int q3t_1)] [(.int (1 : Int32))])) t
                  exact k)
                obtain ⟨fs, hr, hrun, hended, hW, hsame⟩ := X0.leave (v := some (.int (1 : Int32))) (fun h => by rw [Bd.returns] at h; cases h)
                refine ⟨_, _, own_from hS0 (P29 _ ?_), hrun, hended, _, _, rfl, ?_, ⟨_, rfl⟩, hW, hsame.mono (by decide) (by decide)⟩
                · show Steps p.tables e below (s₁.setTop (mkF m 76 #[.val (.int (1 : Int32)), .val (.int q3t_1)] [(.int (1 : Int32))])) _
                  exact retN X0 hx (t := .boolean) Bd.returns (by simp) (hb hby d3_76) hr
                · show Q3t Z q3t_1 h0 n0 _ s₁.heap _
                  rw [e0]
                  exact ⟨(congrArg (fun z => some (Value.int z)) (Eq.symm (Eq.trans (if_neg c2) (Eq.trans (if_neg c5) (Eq.trans (if_neg c8) (Eq.trans (if_pos c20) (Eq.trans (if_neg c22) (if_neg c25)))))))), N0, rfl⟩
              · skip
                have P30 : own_Go p e below S0 (s₁.setTop (mkF m 76 #[.val (.int (1 : Int32)), .val (.int q3t_1)] [(.int (1 : Int32))])) := fun t k => P27 t (by
                  show Steps p.tables e below (s₁.setTop (mkF m 44 #[.val (.int (1 : Int32)), .val (.int q3t_1)] [(.int (32 : Int32)), (.int q3t_1)])) t
                  refine XS.icmpYes X0.here hx rfl (pc0 := 44) (pc' := 75) rfl (hb hby d3_44) rfl (flt c28).2.1 (by decide) (by decide) ?_
                  refine XS.iconst X0.here hx rfl (hb hby d3_75) ?_
                  show Steps p.tables e below (s₁.setTop (mkF m 76 #[.val (.int (1 : Int32)), .val (.int q3t_1)] [(.int (1 : Int32))])) t
                  exact k)
                obtain ⟨fs, hr, hrun, hended, hW, hsame⟩ := X0.leave (v := some (.int (1 : Int32))) (fun h => by rw [Bd.returns] at h; cases h)
                refine ⟨_, _, own_from hS0 (P30 _ ?_), hrun, hended, _, _, rfl, ?_, ⟨_, rfl⟩, hW, hsame.mono (by decide) (by decide)⟩
                · show Steps p.tables e below (s₁.setTop (mkF m 76 #[.val (.int (1 : Int32)), .val (.int q3t_1)] [(.int (1 : Int32))])) _
                  exact retN X0 hx (t := .boolean) Bd.returns (by simp) (hb hby d3_76) hr
                · show Q3t Z q3t_1 h0 n0 _ s₁.heap _
                  rw [e0]
                  exact ⟨(congrArg (fun z => some (Value.int z)) (Eq.symm (Eq.trans (if_neg c2) (Eq.trans (if_neg c5) (Eq.trans (if_neg c8) (Eq.trans (if_pos c20) (Eq.trans (if_neg c22) (if_neg c25)))))))), N0, rfl⟩
        · skip
          have P31 : own_Go p e below S0 (s₁.setTop (mkF m 26 #[.val (.int (1 : Int32)), .val (.int q3t_1)] [(.int (0 : Int32))])) := fun t k => P19 t (by
            show Steps p.tables e below (s₁.setTop (mkF m 22 #[.val (.int (1 : Int32)), .val (.int q3t_1)] [(.int (57343 : Int32)), (.int q3t_1)])) t
            refine XS.icmpNo X0.here hx rfl (hb hby d3_22) rfl (flt c20).2.2.1 ?_
            refine XS.iconst X0.here hx rfl (hb hby d3_25) ?_
            show Steps p.tables e below (s₁.setTop (mkF m 26 #[.val (.int (1 : Int32)), .val (.int q3t_1)] [(.int (0 : Int32))])) t
            exact k)
          obtain ⟨fs, hr, hrun, hended, hW, hsame⟩ := X0.leave (v := some (.int (0 : Int32))) (fun h => by rw [Bd.returns] at h; cases h)
          refine ⟨_, _, own_from hS0 (P31 _ ?_), hrun, hended, _, _, rfl, ?_, ⟨_, rfl⟩, hW, hsame.mono (by decide) (by decide)⟩
          · show Steps p.tables e below (s₁.setTop (mkF m 26 #[.val (.int (1 : Int32)), .val (.int q3t_1)] [(.int (0 : Int32))])) _
            exact retN X0 hx (t := .boolean) Bd.returns (by simp) (hb hby d3_26) hr
          · show Q3t Z q3t_1 h0 n0 _ s₁.heap _
            rw [e0]
            exact ⟨(congrArg (fun z => some (Value.int z)) (Eq.symm (Eq.trans (if_neg c2) (Eq.trans (if_neg c5) (Eq.trans (if_neg c8) (if_neg c20)))))), N0, rfl⟩
theorem d3_51 : decode method_3_code 51 = .ok (.iload_n 1, 1) := by decide +kernel
theorem d3_52 : decode method_3_code 52 = .ok (.bipush 9, 2) := by decide +kernel
theorem d3_54 : decode method_3_code 54 = .ok (.if_icmp .eq 15, 3) := by decide +kernel
theorem d3_57 : decode method_3_code 57 = .ok (.iload_n 1, 1) := by decide +kernel
theorem d3_58 : decode method_3_code 58 = .ok (.bipush 10, 2) := by decide +kernel
theorem d3_60 : decode method_3_code 60 = .ok (.if_icmp .eq 9, 3) := by decide +kernel
theorem d3_63 : decode method_3_code 63 = .ok (.iload_n 1, 1) := by decide +kernel
theorem d3_64 : decode method_3_code 64 = .ok (.bipush 13, 2) := by decide +kernel
theorem d3_66 : decode method_3_code 66 = .ok (.if_icmp .ne 7, 3) := by decide +kernel
theorem d3_69 : decode method_3_code 69 = .ok (.iconst 1, 1) := by decide +kernel
theorem d3_70 : decode method_3_code 70 = .ok (.goto 4, 3) := by decide +kernel
theorem d3_73 : decode method_3_code 73 = .ok (.iconst 0, 1) := by decide +kernel
theorem d3_74 : decode method_3_code 74 = .ok (.ireturn, 1) := by decide +kernel
theorem ef_3f (m : MethodId) (q3f_1 : Int32) : entryFrame m #[(.int (0 : Int32)), (.int q3f_1)] 2 = mkF m 0 #[.val (.int (0 : Int32)), .val (.int q3f_1)] [] := by first | (simp [entryFrame, mkF, argsToLocals, Value.category]; done) | rfl
def r3f (q3f_1 : Int32) : Int32 := (if q3f_1 < (1 : Int32) then (0 : Int32) else (if (1114111 : Int32) < q3f_1 then (0 : Int32) else (if q3f_1 < (55296 : Int32) then (if q3f_1 = (65534 : Int32) then (0 : Int32) else (if q3f_1 = (65535 : Int32) then (0 : Int32) else (if q3f_1 < (32 : Int32) then (if q3f_1 = (9 : Int32) then (1 : Int32) else (if q3f_1 = (10 : Int32) then (1 : Int32) else (if q3f_1 = (13 : Int32) then (1 : Int32) else (0 : Int32)))) else (1 : Int32)))) else (if (57343 : Int32) < q3f_1 then (if q3f_1 = (65534 : Int32) then (0 : Int32) else (if q3f_1 = (65535 : Int32) then (0 : Int32) else (if q3f_1 < (32 : Int32) then (if q3f_1 = (9 : Int32) then (1 : Int32) else (if q3f_1 = (10 : Int32) then (1 : Int32) else (if q3f_1 = (13 : Int32) then (1 : Int32) else (0 : Int32)))) else (1 : Int32)))) else (0 : Int32)))))
def Q3f (Z : State) (q3f_1 : Int32) (h0 : Heap) (n0 : Nat) (v : Option Value) (h : Heap) (L : List Loc) : Prop := v = some (.int (r3f q3f_1)) ∧ Fr n0 L ∧ h = h0
set_option maxRecDepth 65536 in
set_option maxHeartbeats 40000000 in
theorem rm3f (l : Launch) (Z : State) (a0 : Array Value) (hw : ∀ d ∈ tables_1, d.before a0 Z = true) (ws : List Jvm.Cond) (q3f_1 : Int32) (h0 : Heap) (n0 : Nat) (Z0 : n0 ≤ h0.size) :
    MetFree l (⟨"com/example/splice/splice/XmlVersionAllowsPinLaw", "expected", "(ZI)Z"⟩ : MethodName) (head1 (Jvm.Cond.code (⟨"com/example/splice/splice/XmlVersionAllowsPinLaw", "expected", "(ZI)Z"⟩ : MethodName) method_3_code 2 (some .boolean) :: ws) ({ frames := 0, cells := 0, slots := 0, locals := 0 } : Room)) (fun a U => a = #[(.int (0 : Int32)), (.int q3f_1)] ∧ Z.Warmed39 U.vm ∧ U.heap = h0) (fun _ _ _ _ _ => True) (fun _ U o U' => ∃ v L, o = .returned v ∧ Q3f Z q3f_1 h0 n0 v U'.heap L ∧ FrameEnd U o U' L ({ frames := 0, cells := 0, slots := 0, locals := 0 } : Room).cells ({ frames := 0, cells := 0, slots := 0, locals := 0 } : Room).slots) := by
  refine MetFree.of_bodySF (plainFor_of_name pn_1) hisR ?_
  intro p e s m args below meth c s₁ Bd hml0 hP hK
  obtain ⟨rfl, hZ, hh⟩ := hP
  have hx := Bd.exec
  have hby := Bd.bytes
  have hml : c.maxLocals = 2 := hml0
  have hown : s.vm.findClass "com/example/splice/splice/XmlVersionAllowsPinLaw" = some m.cls := findClass_of_methodNamed Bd.named
  have hnm := (name_of_methodNamed Bd.named Bd.method).1
  have X0 : Stand p l e ({ frames := 0, cells := 0, slots := 0, locals := 0 } : Room) s m #[(.int (0 : Int32)), (.int q3f_1)] below meth c s₁ [] 0 0 := Stand.of_body Bd
  have e0 : s₁.heap = h0 := by rw [← hh, Bd.state]; rfl
  have N0 := Fr.nil n0
  obtain ⟨S0, hS0⟩ : ∃ z, z = s₁.setTop (entryFrame m #[(.int (0 : Int32)), (.int q3f_1)] 2) := ⟨_, rfl⟩
  have P0 : own_Go p e below S0 (s₁.setTop (mkF m 0 #[.val (.int (0 : Int32)), .val (.int q3f_1)] [])) := fun t k => by rw [hS0]; exact castTop (ef_3f m q3f_1) k
  have P1 : own_Go p e below S0 (s₁.setTop (mkF m 2 #[.val (.int (0 : Int32)), .val (.int q3f_1)] [(.int (1 : Int32)), (.int q3f_1)])) := fun t k => P0 t (by
    show Steps p.tables e below (s₁.setTop (mkF m 0 #[.val (.int (0 : Int32)), .val (.int q3f_1)] [])) t
    refine XS.iloadN X0.here hx rfl (hb hby d3_0) rfl ?_
    refine XS.iconst X0.here hx rfl (hb hby d3_1) ?_
    show Steps p.tables e below (s₁.setTop (mkF m 2 #[.val (.int (0 : Int32)), .val (.int q3f_1)] [(.int (1 : Int32)), (.int q3f_1)])) t
    exact k)
  by_cases c2 : q3f_1 < (1 : Int32)
  · skip
    have P3 : own_Go p e below S0 (s₁.setTop (mkF m 12 #[.val (.int (0 : Int32)), .val (.int q3f_1)] [(.int (0 : Int32))])) := fun t k => P1 t (by
      show Steps p.tables e below (s₁.setTop (mkF m 2 #[.val (.int (0 : Int32)), .val (.int q3f_1)] [(.int (1 : Int32)), (.int q3f_1)])) t
      refine XS.icmpYes X0.here hx rfl (pc0 := 2) (pc' := 11) rfl (hb hby d3_2) rfl (tlt c2).1 (by decide) (by decide) ?_
      refine XS.iconst X0.here hx rfl (hb hby d3_11) ?_
      show Steps p.tables e below (s₁.setTop (mkF m 12 #[.val (.int (0 : Int32)), .val (.int q3f_1)] [(.int (0 : Int32))])) t
      exact k)
    obtain ⟨fs, hr, hrun, hended, hW, hsame⟩ := X0.leave (v := some (.int (0 : Int32))) (fun h => by rw [Bd.returns] at h; cases h)
    refine ⟨_, _, own_from hS0 (P3 _ ?_), hrun, hended, _, _, rfl, ?_, ⟨_, rfl⟩, hW, hsame.mono (by decide) (by decide)⟩
    · show Steps p.tables e below (s₁.setTop (mkF m 12 #[.val (.int (0 : Int32)), .val (.int q3f_1)] [(.int (0 : Int32))])) _
      exact retN X0 hx (t := .boolean) Bd.returns (by simp) (hb hby d3_12) hr
    · show Q3f Z q3f_1 h0 n0 _ s₁.heap _
      rw [e0]
      exact ⟨(congrArg (fun z => some (Value.int z)) (Eq.symm (if_pos c2))), N0, rfl⟩
  · skip
    have P4 : own_Go p e below S0 (s₁.setTop (mkF m 8 #[.val (.int (0 : Int32)), .val (.int q3f_1)] [(.int (1114111 : Int32)), (.int q3f_1)])) := fun t k => P1 t (by
      show Steps p.tables e below (s₁.setTop (mkF m 2 #[.val (.int (0 : Int32)), .val (.int q3f_1)] [(.int (1 : Int32)), (.int q3f_1)])) t
      refine XS.icmpNo X0.here hx rfl (hb hby d3_2) rfl (flt c2).1 ?_
      refine XS.iloadN X0.here hx rfl (hb hby d3_5) rfl ?_
      show Steps p.tables e below (s₁.setTop (mkF m 6 #[.val (.int (0 : Int32)), .val (.int q3f_1)] [(.int q3f_1)])) t
      refine X0.ldcInt hx hown (mvT hZ (hw _ (List.mem_of_getElem? (i := 8) rfl))) (g := (mkF m 6 #[.val (.int (0 : Int32)), .val (.int q3f_1)] [(.int q3f_1)])) rfl (hb hby d3_6) _ ?_
      show Steps p.tables e below (s₁.setTop (mkF m 8 #[.val (.int (0 : Int32)), .val (.int q3f_1)] [(.int (1114111 : Int32)), (.int q3f_1)])) t
      exact k)
    by_cases c5 : (1114111 : Int32) < q3f_1
    · skip
      have P6 : own_Go p e below S0 (s₁.setTop (mkF m 12 #[.val (.int (0 : Int32)), .val (.int q3f_1)] [(.int (0 : Int32))])) := fun t k => P4 t (by
        show Steps p.tables e below (s₁.setTop (mkF m 8 #[.val (.int (0 : Int32)), .val (.int q3f_1)] [(.int (1114111 : Int32)), (.int q3f_1)])) t
        refine XS.icmpNo X0.here hx rfl (hb hby d3_8) rfl (tlt c5).2.2.2 ?_
        refine XS.iconst X0.here hx rfl (hb hby d3_11) ?_
        show Steps p.tables e below (s₁.setTop (mkF m 12 #[.val (.int (0 : Int32)), .val (.int q3f_1)] [(.int (0 : Int32))])) t
        exact k)
      obtain ⟨fs, hr, hrun, hended, hW, hsame⟩ := X0.leave (v := some (.int (0 : Int32))) (fun h => by rw [Bd.returns] at h; cases h)
      refine ⟨_, _, own_from hS0 (P6 _ ?_), hrun, hended, _, _, rfl, ?_, ⟨_, rfl⟩, hW, hsame.mono (by decide) (by decide)⟩
      · show Steps p.tables e below (s₁.setTop (mkF m 12 #[.val (.int (0 : Int32)), .val (.int q3f_1)] [(.int (0 : Int32))])) _
        exact retN X0 hx (t := .boolean) Bd.returns (by simp) (hb hby d3_12) hr
      · show Q3f Z q3f_1 h0 n0 _ s₁.heap _
        rw [e0]
        exact ⟨(congrArg (fun z => some (Value.int z)) (Eq.symm (Eq.trans (if_neg c2) (if_pos c5)))), N0, rfl⟩
    · skip
      have P7 : own_Go p e below S0 (s₁.setTop (mkF m 16 #[.val (.int (0 : Int32)), .val (.int q3f_1)] [(.int (55296 : Int32)), (.int q3f_1)])) := fun t k => P4 t (by
        show Steps p.tables e below (s₁.setTop (mkF m 8 #[.val (.int (0 : Int32)), .val (.int q3f_1)] [(.int (1114111 : Int32)), (.int q3f_1)])) t
        refine XS.icmpYes X0.here hx rfl (pc0 := 8) (pc' := 13) rfl (hb hby d3_8) rfl (flt c5).2.2.2 (by decide) (by decide) ?_
        refine XS.iloadN X0.here hx rfl (hb hby d3_13) rfl ?_
        show Steps p.tables e below (s₁.setTop (mkF m 14 #[.val (.int (0 : Int32)), .val (.int q3f_1)] [(.int q3f_1)])) t
        refine X0.ldcInt hx hown (mvT hZ (hw _ (List.mem_of_getElem? (i := 22) rfl))) (g := (mkF m 14 #[.val (.int (0 : Int32)), .val (.int q3f_1)] [(.int q3f_1)])) rfl (hb hby d3_14) _ ?_
        show Steps p.tables e below (s₁.setTop (mkF m 16 #[.val (.int (0 : Int32)), .val (.int q3f_1)] [(.int (55296 : Int32)), (.int q3f_1)])) t
        exact k)
      by_cases c8 : q3f_1 < (55296 : Int32)
      · skip
        have P9 : own_Go p e below S0 (s₁.setTop (mkF m 30 #[.val (.int (0 : Int32)), .val (.int q3f_1)] [(.int (65534 : Int32)), (.int q3f_1)])) := fun t k => P7 t (by
          show Steps p.tables e below (s₁.setTop (mkF m 16 #[.val (.int (0 : Int32)), .val (.int q3f_1)] [(.int (55296 : Int32)), (.int q3f_1)])) t
          refine XS.icmpYes X0.here hx rfl (pc0 := 16) (pc' := 27) rfl (hb hby d3_16) rfl (tlt c8).1 (by decide) (by decide) ?_
          refine XS.iloadN X0.here hx rfl (hb hby d3_27) rfl ?_
          show Steps p.tables e below (s₁.setTop (mkF m 28 #[.val (.int (0 : Int32)), .val (.int q3f_1)] [(.int q3f_1)])) t
          refine X0.ldcInt hx hown (mvT hZ (hw _ (List.mem_of_getElem? (i := 7) rfl))) (g := (mkF m 28 #[.val (.int (0 : Int32)), .val (.int q3f_1)] [(.int q3f_1)])) rfl (hb hby d3_28) _ ?_
          show Steps p.tables e below (s₁.setTop (mkF m 30 #[.val (.int (0 : Int32)), .val (.int q3f_1)] [(.int (65534 : Int32)), (.int q3f_1)])) t
          exact k)
        by_cases c10 : q3f_1 = (65534 : Int32)
        · skip
          have P11 : own_Go p e below S0 (s₁.setTop (mkF m 40 #[.val (.int (0 : Int32)), .val (.int q3f_1)] [(.int (0 : Int32))])) := fun t k => P9 t (by
            show Steps p.tables e below (s₁.setTop (mkF m 30 #[.val (.int (0 : Int32)), .val (.int q3f_1)] [(.int (65534 : Int32)), (.int q3f_1)])) t
            refine XS.icmpYes X0.here hx rfl (pc0 := 30) (pc' := 39) rfl (hb hby d3_30) rfl (teq c10).1 (by decide) (by decide) ?_
            refine XS.iconst X0.here hx rfl (hb hby d3_39) ?_
            show Steps p.tables e below (s₁.setTop (mkF m 40 #[.val (.int (0 : Int32)), .val (.int q3f_1)] [(.int (0 : Int32))])) t
            exact k)
          obtain ⟨fs, hr, hrun, hended, hW, hsame⟩ := X0.leave (v := some (.int (0 : Int32))) (fun h => by rw [Bd.returns] at h; cases h)
          refine ⟨_, _, own_from hS0 (P11 _ ?_), hrun, hended, _, _, rfl, ?_, ⟨_, rfl⟩, hW, hsame.mono (by decide) (by decide)⟩
          · show Steps p.tables e below (s₁.setTop (mkF m 40 #[.val (.int (0 : Int32)), .val (.int q3f_1)] [(.int (0 : Int32))])) _
            exact retN X0 hx (t := .boolean) Bd.returns (by simp) (hb hby d3_40) hr
          · show Q3f Z q3f_1 h0 n0 _ s₁.heap _
            rw [e0]
            exact ⟨(congrArg (fun z => some (Value.int z)) (Eq.symm (Eq.trans (if_neg c2) (Eq.trans (if_neg c5) (Eq.trans (if_pos c8) (if_pos c10)))))), N0, rfl⟩
        · skip
          have P12 : own_Go p e below S0 (s₁.setTop (mkF m 36 #[.val (.int (0 : Int32)), .val (.int q3f_1)] [(.int (65535 : Int32)), (.int q3f_1)])) := fun t k => P9 t (by
            show Steps p.tables e below (s₁.setTop (mkF m 30 #[.val (.int (0 : Int32)), .val (.int q3f_1)] [(.int (65534 : Int32)), (.int q3f_1)])) t
            refine XS.icmpNo X0.here hx rfl (hb hby d3_30) rfl (feq c10).1 ?_
            refine XS.iloadN X0.here hx rfl (hb hby d3_33) rfl ?_
            show Steps p.tables e below (s₁.setTop (mkF m 34 #[.val (.int (0 : Int32)), .val (.int q3f_1)] [(.int q3f_1)])) t
            refine X0.ldcInt hx hown (mvT hZ (hw _ (List.mem_of_getElem? (i := 23) rfl))) (g := (mkF m 34 #[.val (.int (0 : Int32)), .val (.int q3f_1)] [(.int q3f_1)])) rfl (hb hby d3_34) _ ?_
            show Steps p.tables e below (s₁.setTop (mkF m 36 #[.val (.int (0 : Int32)), .val (.int q3f_1)] [(.int (65535 : Int32)), (.int q3f_1)])) t
            exact k)
          by_cases c13 : q3f_1 = (65535 : Int32)
          · skip
            have P14 : own_Go p e below S0 (s₁.setTop (mkF m 40 #[.val (.int (0 : Int32)), .val (.int q3f_1)] [(.int (0 : Int32))])) := fun t k => P12 t (by
              show Steps p.tables e below (s₁.setTop (mkF m 36 #[.val (.int (0 : Int32)), .val (.int q3f_1)] [(.int (65535 : Int32)), (.int q3f_1)])) t
              refine XS.icmpNo X0.here hx rfl (hb hby d3_36) rfl (teq c13).2 ?_
              refine XS.iconst X0.here hx rfl (hb hby d3_39) ?_
              show Steps p.tables e below (s₁.setTop (mkF m 40 #[.val (.int (0 : Int32)), .val (.int q3f_1)] [(.int (0 : Int32))])) t
              exact k)
            obtain ⟨fs, hr, hrun, hended, hW, hsame⟩ := X0.leave (v := some (.int (0 : Int32))) (fun h => by rw [Bd.returns] at h; cases h)
            refine ⟨_, _, own_from hS0 (P14 _ ?_), hrun, hended, _, _, rfl, ?_, ⟨_, rfl⟩, hW, hsame.mono (by decide) (by decide)⟩
            · show Steps p.tables e below (s₁.setTop (mkF m 40 #[.val (.int (0 : Int32)), .val (.int q3f_1)] [(.int (0 : Int32))])) _
              exact retN X0 hx (t := .boolean) Bd.returns (by simp) (hb hby d3_40) hr
            · show Q3f Z q3f_1 h0 n0 _ s₁.heap _
              rw [e0]
              exact ⟨(congrArg (fun z => some (Value.int z)) (Eq.symm (Eq.trans (if_neg c2) (Eq.trans (if_neg c5) (Eq.trans (if_pos c8) (Eq.trans (if_neg c10) (if_pos c13))))))), N0, rfl⟩
          · skip
            have P15 : own_Go p e below S0 (s₁.setTop (mkF m 44 #[.val (.int (0 : Int32)), .val (.int q3f_1)] [(.int (32 : Int32)), (.int q3f_1)])) := fun t k => P12 t (by
              show Steps p.tables e below (s₁.setTop (mkF m 36 #[.val (.int (0 : Int32)), .val (.int q3f_1)] [(.int (65535 : Int32)), (.int q3f_1)])) t
              refine XS.icmpYes X0.here hx rfl (pc0 := 36) (pc' := 41) rfl (hb hby d3_36) rfl (feq c13).2 (by decide) (by decide) ?_
              refine XS.iloadN X0.here hx rfl (hb hby d3_41) rfl ?_
              refine XS.bipush X0.here hx rfl (hb hby d3_42) ?_
              show Steps p.tables e below (s₁.setTop (mkF m 44 #[.val (.int (0 : Int32)), .val (.int q3f_1)] [(.int (32 : Int32)), (.int q3f_1)])) t
              exact k)
            by_cases c16 : q3f_1 < (32 : Int32)
            · skip
              have P17 : own_Go p e below S0 (s₁.setTop (mkF m 54 #[.val (.int (0 : Int32)), .val (.int q3f_1)] [(.int (9 : Int32)), (.int q3f_1)])) := fun t k => P15 t (by
                show Steps p.tables e below (s₁.setTop (mkF m 44 #[.val (.int (0 : Int32)), .val (.int q3f_1)] [(.int (32 : Int32)), (.int q3f_1)])) t
                refine XS.icmpNo X0.here hx rfl (hb hby d3_44) rfl (tlt c16).2.1 ?_
                refine XS.iloadN X0.here hx rfl (hb hby d3_47) rfl ?_
                refine XS.ifNo X0.here hx rfl (hb hby d3_48) rfl ((if0 _ _).trans (teq (by decide)).2) ?_
                refine XS.iloadN X0.here hx rfl (hb hby d3_51) rfl ?_
                refine XS.bipush X0.here hx rfl (hb hby d3_52) ?_
                show Steps p.tables e below (s₁.setTop (mkF m 54 #[.val (.int (0 : Int32)), .val (.int q3f_1)] [(.int (9 : Int32)), (.int q3f_1)])) t
                exact k)
              by_cases c18 : q3f_1 = (9 : Int32)
              · skip
                have P19 : own_Go p e below S0 (s₁.setTop (mkF m 74 #[.val (.int (0 : Int32)), .val (.int q3f_1)] [(.int (1 : Int32))])) := fun t k => P17 t (by
                  show Steps p.tables e below (s₁.setTop (mkF m 54 #[.val (.int (0 : Int32)), .val (.int q3f_1)] [(.int (9 : Int32)), (.int q3f_1)])) t
                  refine XS.icmpYes X0.here hx rfl (pc0 := 54) (pc' := 69) rfl (hb hby d3_54) rfl (teq c18).1 (by decide) (by decide) ?_
                  refine XS.iconst X0.here hx rfl (hb hby d3_69) ?_
                  refine XS.goto X0.here hx rfl (pc0 := 70) (pc' := 74) rfl (hb hby d3_70) (by decide) (by decide) ?_
                  show Steps p.tables e below (s₁.setTop (mkF m 74 #[.val (.int (0 : Int32)), .val (.int q3f_1)] [(.int (1 : Int32))])) t
                  exact k)
                obtain ⟨fs, hr, hrun, hended, hW, hsame⟩ := X0.leave (v := some (.int (1 : Int32))) (fun h => by rw [Bd.returns] at h; cases h)
                refine ⟨_, _, own_from hS0 (P19 _ ?_), hrun, hended, _, _, rfl, ?_, ⟨_, rfl⟩, hW, hsame.mono (by decide) (by decide)⟩
                · show Steps p.tables e below (s₁.setTop (mkF m 74 #[.val (.int (0 : Int32)), .val (.int q3f_1)] [(.int (1 : Int32))])) _
                  exact retN X0 hx (t := .boolean) Bd.returns (by simp) (hb hby d3_74) hr
                · show Q3f Z q3f_1 h0 n0 _ s₁.heap _
                  rw [e0]
                  exact ⟨(congrArg (fun z => some (Value.int z)) (Eq.symm (Eq.trans (if_neg c2) (Eq.trans (if_neg c5) (Eq.trans (if_pos c8) (Eq.trans (if_neg c10) (Eq.trans (if_neg c13) (Eq.trans (if_pos c16) (if_pos c18))))))))), N0, rfl⟩
              · skip
                have P20 : own_Go p e below S0 (s₁.setTop (mkF m 60 #[.val (.int (0 : Int32)), .val (.int q3f_1)] [(.int (10 : Int32)), (.int q3f_1)])) := fun t k => P17 t (by
                  show Steps p.tables e below (s₁.setTop (mkF m 54 #[.val (.int (0 : Int32)), .val (.int q3f_1)] [(.int (9 : Int32)), (.int q3f_1)])) t
                  refine XS.icmpNo X0.here hx rfl (hb hby d3_54) rfl (feq c18).1 ?_
                  refine XS.iloadN X0.here hx rfl (hb hby d3_57) rfl ?_
                  refine XS.bipush X0.here hx rfl (hb hby d3_58) ?_
                  show Steps p.tables e below (s₁.setTop (mkF m 60 #[.val (.int (0 : Int32)), .val (.int q3f_1)] [(.int (10 : Int32)), (.int q3f_1)])) t
                  exact k)
                by_cases c21 : q3f_1 = (10 : Int32)
                · skip
                  have P22 : own_Go p e below S0 (s₁.setTop (mkF m 74 #[.val (.int (0 : Int32)), .val (.int q3f_1)] [(.int (1 : Int32))])) := fun t k => P20 t (by
                    show Steps p.tables e below (s₁.setTop (mkF m 60 #[.val (.int (0 : Int32)), .val (.int q3f_1)] [(.int (10 : Int32)), (.int q3f_1)])) t
                    refine XS.icmpYes X0.here hx rfl (pc0 := 60) (pc' := 69) rfl (hb hby d3_60) rfl (teq c21).1 (by decide) (by decide) ?_
                    refine XS.iconst X0.here hx rfl (hb hby d3_69) ?_
                    refine XS.goto X0.here hx rfl (pc0 := 70) (pc' := 74) rfl (hb hby d3_70) (by decide) (by decide) ?_
                    show Steps p.tables e below (s₁.setTop (mkF m 74 #[.val (.int (0 : Int32)), .val (.int q3f_1)] [(.int (1 : Int32))])) t
                    exact k)
                  obtain ⟨fs, hr, hrun, hended, hW, hsame⟩ := X0.leave (v := some (.int (1 : Int32))) (fun h => by rw [Bd.returns] at h; cases h)
                  refine ⟨_, _, own_from hS0 (P22 _ ?_), hrun, hended, _, _, rfl, ?_, ⟨_, rfl⟩, hW, hsame.mono (by decide) (by decide)⟩
                  · show Steps p.tables e below (s₁.setTop (mkF m 74 #[.val (.int (0 : Int32)), .val (.int q3f_1)] [(.int (1 : Int32))])) _
                    exact retN X0 hx (t := .boolean) Bd.returns (by simp) (hb hby d3_74) hr
                  · show Q3f Z q3f_1 h0 n0 _ s₁.heap _
                    rw [e0]
                    exact ⟨(congrArg (fun z => some (Value.int z)) (Eq.symm (Eq.trans (if_neg c2) (Eq.trans (if_neg c5) (Eq.trans (if_pos c8) (Eq.trans (if_neg c10) (Eq.trans (if_neg c13) (Eq.trans (if_pos c16) (Eq.trans (if_neg c18) (if_pos c21)))))))))), N0, rfl⟩
                · skip
                  have P23 : own_Go p e below S0 (s₁.setTop (mkF m 66 #[.val (.int (0 : Int32)), .val (.int q3f_1)] [(.int (13 : Int32)), (.int q3f_1)])) := fun t k => P20 t (by
                    show Steps p.tables e below (s₁.setTop (mkF m 60 #[.val (.int (0 : Int32)), .val (.int q3f_1)] [(.int (10 : Int32)), (.int q3f_1)])) t
                    refine XS.icmpNo X0.here hx rfl (hb hby d3_60) rfl (feq c21).1 ?_
                    refine XS.iloadN X0.here hx rfl (hb hby d3_63) rfl ?_
                    refine XS.bipush X0.here hx rfl (hb hby d3_64) ?_
                    show Steps p.tables e below (s₁.setTop (mkF m 66 #[.val (.int (0 : Int32)), .val (.int q3f_1)] [(.int (13 : Int32)), (.int q3f_1)])) t
                    exact k)
                  by_cases c24 : q3f_1 = (13 : Int32)
                  · skip
                    have P25 : own_Go p e below S0 (s₁.setTop (mkF m 74 #[.val (.int (0 : Int32)), .val (.int q3f_1)] [(.int (1 : Int32))])) := fun t k => P23 t (by
                      show Steps p.tables e below (s₁.setTop (mkF m 66 #[.val (.int (0 : Int32)), .val (.int q3f_1)] [(.int (13 : Int32)), (.int q3f_1)])) t
                      refine XS.icmpNo X0.here hx rfl (hb hby d3_66) rfl (teq c24).2 ?_
                      refine XS.iconst X0.here hx rfl (hb hby d3_69) ?_
                      refine XS.goto X0.here hx rfl (pc0 := 70) (pc' := 74) rfl (hb hby d3_70) (by decide) (by decide) ?_
                      show Steps p.tables e below (s₁.setTop (mkF m 74 #[.val (.int (0 : Int32)), .val (.int q3f_1)] [(.int (1 : Int32))])) t
                      exact k)
                    obtain ⟨fs, hr, hrun, hended, hW, hsame⟩ := X0.leave (v := some (.int (1 : Int32))) (fun h => by rw [Bd.returns] at h; cases h)
                    refine ⟨_, _, own_from hS0 (P25 _ ?_), hrun, hended, _, _, rfl, ?_, ⟨_, rfl⟩, hW, hsame.mono (by decide) (by decide)⟩
                    · show Steps p.tables e below (s₁.setTop (mkF m 74 #[.val (.int (0 : Int32)), .val (.int q3f_1)] [(.int (1 : Int32))])) _
                      exact retN X0 hx (t := .boolean) Bd.returns (by simp) (hb hby d3_74) hr
                    · show Q3f Z q3f_1 h0 n0 _ s₁.heap _
                      rw [e0]
                      exact ⟨(congrArg (fun z => some (Value.int z)) (Eq.symm (Eq.trans (if_neg c2) (Eq.trans (if_neg c5) (Eq.trans (if_pos c8) (Eq.trans (if_neg c10) (Eq.trans (if_neg c13) (Eq.trans (if_pos c16) (Eq.trans (if_neg c18) (Eq.trans (if_neg c21) (if_pos c24))))))))))), N0, rfl⟩
                  · skip
                    have P26 : own_Go p e below S0 (s₁.setTop (mkF m 74 #[.val (.int (0 : Int32)), .val (.int q3f_1)] [(.int (0 : Int32))])) := fun t k => P23 t (by
                      show Steps p.tables e below (s₁.setTop (mkF m 66 #[.val (.int (0 : Int32)), .val (.int q3f_1)] [(.int (13 : Int32)), (.int q3f_1)])) t
                      refine XS.icmpYes X0.here hx rfl (pc0 := 66) (pc' := 73) rfl (hb hby d3_66) rfl (feq c24).2 (by decide) (by decide) ?_
                      refine XS.iconst X0.here hx rfl (hb hby d3_73) ?_
                      show Steps p.tables e below (s₁.setTop (mkF m 74 #[.val (.int (0 : Int32)), .val (.int q3f_1)] [(.int (0 : Int32))])) t
                      exact k)
                    obtain ⟨fs, hr, hrun, hended, hW, hsame⟩ := X0.leave (v := some (.int (0 : Int32))) (fun h => by rw [Bd.returns] at h; cases h)
                    refine ⟨_, _, own_from hS0 (P26 _ ?_), hrun, hended, _, _, rfl, ?_, ⟨_, rfl⟩, hW, hsame.mono (by decide) (by decide)⟩
                    · show Steps p.tables e below (s₁.setTop (mkF m 74 #[.val (.int (0 : Int32)), .val (.int q3f_1)] [(.int (0 : Int32))])) _
                      exact retN X0 hx (t := .boolean) Bd.returns (by simp) (hb hby d3_74) hr
                    · show Q3f Z q3f_1 h0 n0 _ s₁.heap _
                      rw [e0]
                      exact ⟨(congrArg (fun z => some (Value.int z)) (Eq.symm (Eq.trans (if_neg c2) (Eq.trans (if_neg c5) (Eq.trans (if_pos c8) (Eq.trans (if_neg c10) (Eq.trans (if_neg c13) (Eq.trans (if_pos c16) (Eq.trans (if_neg c18) (Eq.trans (if_neg c21) (if_neg c24))))))))))), N0, rfl⟩
            · skip
              have P27 : own_Go p e below S0 (s₁.setTop (mkF m 76 #[.val (.int (0 : Int32)), .val (.int q3f_1)] [(.int (1 : Int32))])) := fun t k => P15 t (by
                show Steps p.tables e below (s₁.setTop (mkF m 44 #[.val (.int (0 : Int32)), .val (.int q3f_1)] [(.int (32 : Int32)), (.int q3f_1)])) t
                refine XS.icmpYes X0.here hx rfl (pc0 := 44) (pc' := 75) rfl (hb hby d3_44) rfl (flt c16).2.1 (by decide) (by decide) ?_
                refine XS.iconst X0.here hx rfl (hb hby d3_75) ?_
                show Steps p.tables e below (s₁.setTop (mkF m 76 #[.val (.int (0 : Int32)), .val (.int q3f_1)] [(.int (1 : Int32))])) t
                exact k)
              obtain ⟨fs, hr, hrun, hended, hW, hsame⟩ := X0.leave (v := some (.int (1 : Int32))) (fun h => by rw [Bd.returns] at h; cases h)
              refine ⟨_, _, own_from hS0 (P27 _ ?_), hrun, hended, _, _, rfl, ?_, ⟨_, rfl⟩, hW, hsame.mono (by decide) (by decide)⟩
              · show Steps p.tables e below (s₁.setTop (mkF m 76 #[.val (.int (0 : Int32)), .val (.int q3f_1)] [(.int (1 : Int32))])) _
                exact retN X0 hx (t := .boolean) Bd.returns (by simp) (hb hby d3_76) hr
              · show Q3f Z q3f_1 h0 n0 _ s₁.heap _
                rw [e0]
                exact ⟨(congrArg (fun z => some (Value.int z)) (Eq.symm (Eq.trans (if_neg c2) (Eq.trans (if_neg c5) (Eq.trans (if_pos c8) (Eq.trans (if_neg c10) (Eq.trans (if_neg c13) (if_neg c16)))))))), N0, rfl⟩
      · skip
        have P28 : own_Go p e below S0 (s₁.setTop (mkF m 22 #[.val (.int (0 : Int32)), .val (.int q3f_1)] [(.int (57343 : Int32)), (.int q3f_1)])) := fun t k => P7 t (by
          show Steps p.tables e below (s₁.setTop (mkF m 16 #[.val (.int (0 : Int32)), .val (.int q3f_1)] [(.int (55296 : Int32)), (.int q3f_1)])) t
          refine XS.icmpNo X0.here hx rfl (hb hby d3_16) rfl (flt c8).1 ?_
          refine XS.iloadN X0.here hx rfl (hb hby d3_19) rfl ?_
          show Steps p.tables e below (s₁.setTop (mkF m 20 #[.val (.int (0 : Int32)), .val (.int q3f_1)] [(.int q3f_1)])) t
          refine X0.ldcInt hx hown (mvT hZ (hw _ (List.mem_of_getElem? (i := 6) rfl))) (g := (mkF m 20 #[.val (.int (0 : Int32)), .val (.int q3f_1)] [(.int q3f_1)])) rfl (hb hby d3_20) _ ?_
          show Steps p.tables e below (s₁.setTop (mkF m 22 #[.val (.int (0 : Int32)), .val (.int q3f_1)] [(.int (57343 : Int32)), (.int q3f_1)])) t
          exact k)
        by_cases c29 : (57343 : Int32) < q3f_1
        · skip
          have P30 : own_Go p e below S0 (s₁.setTop (mkF m 30 #[.val (.int (0 : Int32)), .val (.int q3f_1)] [(.int (65534 : Int32)), (.int q3f_1)])) := fun t k => P28 t (by
            show Steps p.tables e below (s₁.setTop (mkF m 22 #[.val (.int (0 : Int32)), .val (.int q3f_1)] [(.int (57343 : Int32)), (.int q3f_1)])) t
            refine XS.icmpYes X0.here hx rfl (pc0 := 22) (pc' := 27) rfl (hb hby d3_22) rfl (tlt c29).2.2.1 (by decide) (by decide) ?_
            refine XS.iloadN X0.here hx rfl (hb hby d3_27) rfl ?_
            show Steps p.tables e below (s₁.setTop (mkF m 28 #[.val (.int (0 : Int32)), .val (.int q3f_1)] [(.int q3f_1)])) t
            refine X0.ldcInt hx hown (mvT hZ (hw _ (List.mem_of_getElem? (i := 7) rfl))) (g := (mkF m 28 #[.val (.int (0 : Int32)), .val (.int q3f_1)] [(.int q3f_1)])) rfl (hb hby d3_28) _ ?_
            show Steps p.tables e below (s₁.setTop (mkF m 30 #[.val (.int (0 : Int32)), .val (.int q3f_1)] [(.int (65534 : Int32)), (.int q3f_1)])) t
            exact k)
          by_cases c31 : q3f_1 = (65534 : Int32)
          · skip
            have P32 : own_Go p e below S0 (s₁.setTop (mkF m 40 #[.val (.int (0 : Int32)), .val (.int q3f_1)] [(.int (0 : Int32))])) := fun t k => P30 t (by
              show Steps p.tables e below (s₁.setTop (mkF m 30 #[.val (.int (0 : Int32)), .val (.int q3f_1)] [(.int (65534 : Int32)), (.int q3f_1)])) t
              refine XS.icmpYes X0.here hx rfl (pc0 := 30) (pc' := 39) rfl (hb hby d3_30) rfl (teq c31).1 (by decide) (by decide) ?_
              refine XS.iconst X0.here hx rfl (hb hby d3_39) ?_
              show Steps p.tables e below (s₁.setTop (mkF m 40 #[.val (.int (0 : Int32)), .val (.int q3f_1)] [(.int (0 : Int32))])) t
              exact k)
            obtain ⟨fs, hr, hrun, hended, hW, hsame⟩ := X0.leave (v := some (.int (0 : Int32))) (fun h => by rw [Bd.returns] at h; cases h)
            refine ⟨_, _, own_from hS0 (P32 _ ?_), hrun, hended, _, _, rfl, ?_, ⟨_, rfl⟩, hW, hsame.mono (by decide) (by decide)⟩
            · show Steps p.tables e below (s₁.setTop (mkF m 40 #[.val (.int (0 : Int32)), .val (.int q3f_1)] [(.int (0 : Int32))])) _
              exact retN X0 hx (t := .boolean) Bd.returns (by simp) (hb hby d3_40) hr
            · show Q3f Z q3f_1 h0 n0 _ s₁.heap _
              rw [e0]
              exact ⟨(congrArg (fun z => some (Value.int z)) (Eq.symm (Eq.trans (if_neg c2) (Eq.trans (if_neg c5) (Eq.trans (if_neg c8) (Eq.trans (if_pos c29) (if_pos c31))))))), N0, rfl⟩
          · skip
            have P33 : own_Go p e below S0 (s₁.setTop (mkF m 36 #[.val (.int (0 : Int32)), .val (.int q3f_1)] [(.int (65535 : Int32)), (.int q3f_1)])) := fun t k => P30 t (by
              show Steps p.tables e below (s₁.setTop (mkF m 30 #[.val (.int (0 : Int32)), .val (.int q3f_1)] [(.int (65534 : Int32)), (.int q3f_1)])) t
              refine XS.icmpNo X0.here hx rfl (hb hby d3_30) rfl (feq c31).1 ?_
              refine XS.iloadN X0.here hx rfl (hb hby d3_33) rfl ?_
              show Steps p.tables e below (s₁.setTop (mkF m 34 #[.val (.int (0 : Int32)), .val (.int q3f_1)] [(.int q3f_1)])) t
              refine X0.ldcInt hx hown (mvT hZ (hw _ (List.mem_of_getElem? (i := 23) rfl))) (g := (mkF m 34 #[.val (.int (0 : Int32)), .val (.int q3f_1)] [(.int q3f_1)])) rfl (hb hby d3_34) _ ?_
              show Steps p.tables e below (s₁.setTop (mkF m 36 #[.val (.int (0 : Int32)), .val (.int q3f_1)] [(.int (65535 : Int32)), (.int q3f_1)])) t
              exact k)
            by_cases c34 : q3f_1 = (65535 : Int32)
            · skip
              have P35 : own_Go p e below S0 (s₁.setTop (mkF m 40 #[.val (.int (0 : Int32)), .val (.int q3f_1)] [(.int (0 : Int32))])) := fun t k => P33 t (by
                show Steps p.tables e below (s₁.setTop (mkF m 36 #[.val (.int (0 : Int32)), .val (.int q3f_1)] [(.int (65535 : Int32)), (.int q3f_1)])) t
                refine XS.icmpNo X0.here hx rfl (hb hby d3_36) rfl (teq c34).2 ?_
                refine XS.iconst X0.here hx rfl (hb hby d3_39) ?_
                show Steps p.tables e below (s₁.setTop (mkF m 40 #[.val (.int (0 : Int32)), .val (.int q3f_1)] [(.int (0 : Int32))])) t
                exact k)
              obtain ⟨fs, hr, hrun, hended, hW, hsame⟩ := X0.leave (v := some (.int (0 : Int32))) (fun h => by rw [Bd.returns] at h; cases h)
              refine ⟨_, _, own_from hS0 (P35 _ ?_), hrun, hended, _, _, rfl, ?_, ⟨_, rfl⟩, hW, hsame.mono (by decide) (by decide)⟩
              · show Steps p.tables e below (s₁.setTop (mkF m 40 #[.val (.int (0 : Int32)), .val (.int q3f_1)] [(.int (0 : Int32))])) _
                exact retN X0 hx (t := .boolean) Bd.returns (by simp) (hb hby d3_40) hr
              · show Q3f Z q3f_1 h0 n0 _ s₁.heap _
                rw [e0]
                exact ⟨(congrArg (fun z => some (Value.int z)) (Eq.symm (Eq.trans (if_neg c2) (Eq.trans (if_neg c5) (Eq.trans (if_neg c8) (Eq.trans (if_pos c29) (Eq.trans (if_neg c31) (if_pos c34)))))))), N0, rfl⟩
            · skip
              have P36 : own_Go p e below S0 (s₁.setTop (mkF m 44 #[.val (.int (0 : Int32)), .val (.int q3f_1)] [(.int (32 : Int32)), (.int q3f_1)])) := fun t k => P33 t (by
                show Steps p.tables e below (s₁.setTop (mkF m 36 #[.val (.int (0 : Int32)), .val (.int q3f_1)] [(.int (65535 : Int32)), (.int q3f_1)])) t
                refine XS.icmpYes X0.here hx rfl (pc0 := 36) (pc' := 41) rfl (hb hby d3_36) rfl (feq c34).2 (by decide) (by decide) ?_
                refine XS.iloadN X0.here hx rfl (hb hby d3_41) rfl ?_
                refine XS.bipush X0.here hx rfl (hb hby d3_42) ?_
                show Steps p.tables e below (s₁.setTop (mkF m 44 #[.val (.int (0 : Int32)), .val (.int q3f_1)] [(.int (32 : Int32)), (.int q3f_1)])) t
                exact k)
              by_cases c37 : q3f_1 < (32 : Int32)
              · skip
                have P38 : own_Go p e below S0 (s₁.setTop (mkF m 54 #[.val (.int (0 : Int32)), .val (.int q3f_1)] [(.int (9 : Int32)), (.int q3f_1)])) := fun t k => P36 t (by
                  show Steps p.tables e below (s₁.setTop (mkF m 44 #[.val (.int (0 : Int32)), .val (.int q3f_1)] [(.int (32 : Int32)), (.int q3f_1)])) t
                  refine XS.icmpNo X0.here hx rfl (hb hby d3_44) rfl (tlt c37).2.1 ?_
                  refine XS.iloadN X0.here hx rfl (hb hby d3_47) rfl ?_
                  refine XS.ifNo X0.here hx rfl (hb hby d3_48) rfl ((if0 _ _).trans (teq (by decide)).2) ?_
                  refine XS.iloadN X0.here hx rfl (hb hby d3_51) rfl ?_
                  refine XS.bipush X0.here hx rfl (hb hby d3_52) ?_
                  show Steps p.tables e below (s₁.setTop (mkF m 54 #[.val (.int (0 : Int32)), .val (.int q3f_1)] [(.int (9 : Int32)), (.int q3f_1)])) t
                  exact k)
                by_cases c39 : q3f_1 = (9 : Int32)
                · skip
                  have P40 : own_Go p e below S0 (s₁.setTop (mkF m 74 #[.val (.int (0 : Int32)), .val (.int q3f_1)] [(.int (1 : Int32))])) := fun t k => P38 t (by
                    show Steps p.tables e below (s₁.setTop (mkF m 54 #[.val (.int (0 : Int32)), .val (.int q3f_1)] [(.int (9 : Int32)), (.int q3f_1)])) t
                    refine XS.icmpYes X0.here hx rfl (pc0 := 54) (pc' := 69) rfl (hb hby d3_54) rfl (teq c39).1 (by decide) (by decide) ?_
                    refine XS.iconst X0.here hx rfl (hb hby d3_69) ?_
                    refine XS.goto X0.here hx rfl (pc0 := 70) (pc' := 74) rfl (hb hby d3_70) (by decide) (by decide) ?_
                    show Steps p.tables e below (s₁.setTop (mkF m 74 #[.val (.int (0 : Int32)), .val (.int q3f_1)] [(.int (1 : Int32))])) t
                    exact k)
                  obtain ⟨fs, hr, hrun, hended, hW, hsame⟩ := X0.leave (v := some (.int (1 : Int32))) (fun h => by rw [Bd.returns] at h; cases h)
                  refine ⟨_, _, own_from hS0 (P40 _ ?_), hrun, hended, _, _, rfl, ?_, ⟨_, rfl⟩, hW, hsame.mono (by decide) (by decide)⟩
                  · show Steps p.tables e below (s₁.setTop (mkF m 74 #[.val (.int (0 : Int32)), .val (.int q3f_1)] [(.int (1 : Int32))])) _
                    exact retN X0 hx (t := .boolean) Bd.returns (by simp) (hb hby d3_74) hr
                  · show Q3f Z q3f_1 h0 n0 _ s₁.heap _
                    rw [e0]
                    exact ⟨(congrArg (fun z => some (Value.int z)) (Eq.symm (Eq.trans (if_neg c2) (Eq.trans (if_neg c5) (Eq.trans (if_neg c8) (Eq.trans (if_pos c29) (Eq.trans (if_neg c31) (Eq.trans (if_neg c34) (Eq.trans (if_pos c37) (if_pos c39)))))))))), N0, rfl⟩
                · skip
                  have P41 : own_Go p e below S0 (s₁.setTop (mkF m 60 #[.val (.int (0 : Int32)), .val (.int q3f_1)] [(.int (10 : Int32)), (.int q3f_1)])) := fun t k => P38 t (by
                    show Steps p.tables e below (s₁.setTop (mkF m 54 #[.val (.int (0 : Int32)), .val (.int q3f_1)] [(.int (9 : Int32)), (.int q3f_1)])) t
                    refine XS.icmpNo X0.here hx rfl (hb hby d3_54) rfl (feq c39).1 ?_
                    refine XS.iloadN X0.here hx rfl (hb hby d3_57) rfl ?_
                    refine XS.bipush X0.here hx rfl (hb hby d3_58) ?_
                    show Steps p.tables e below (s₁.setTop (mkF m 60 #[.val (.int (0 : Int32)), .val (.int q3f_1)] [(.int (10 : Int32)), (.int q3f_1)])) t
                    exact k)
                  by_cases c42 : q3f_1 = (10 : Int32)
                  · skip
                    have P43 : own_Go p e below S0 (s₁.setTop (mkF m 74 #[.val (.int (0 : Int32)), .val (.int q3f_1)] [(.int (1 : Int32))])) := fun t k => P41 t (by
                      show Steps p.tables e below (s₁.setTop (mkF m 60 #[.val (.int (0 : Int32)), .val (.int q3f_1)] [(.int (10 : Int32)), (.int q3f_1)])) t
                      refine XS.icmpYes X0.here hx rfl (pc0 := 60) (pc' := 69) rfl (hb hby d3_60) rfl (teq c42).1 (by decide) (by decide) ?_
                      refine XS.iconst X0.here hx rfl (hb hby d3_69) ?_
                      refine XS.goto X0.here hx rfl (pc0 := 70) (pc' := 74) rfl (hb hby d3_70) (by decide) (by decide) ?_
                      show Steps p.tables e below (s₁.setTop (mkF m 74 #[.val (.int (0 : Int32)), .val (.int q3f_1)] [(.int (1 : Int32))])) t
                      exact k)
                    obtain ⟨fs, hr, hrun, hended, hW, hsame⟩ := X0.leave (v := some (.int (1 : Int32))) (fun h => by rw [Bd.returns] at h; cases h)
                    refine ⟨_, _, own_from hS0 (P43 _ ?_), hrun, hended, _, _, rfl, ?_, ⟨_, rfl⟩, hW, hsame.mono (by decide) (by decide)⟩
                    · show Steps p.tables e below (s₁.setTop (mkF m 74 #[.val (.int (0 : Int32)), .val (.int q3f_1)] [(.int (1 : Int32))])) _
                      exact retN X0 hx (t := .boolean) Bd.returns (by simp) (hb hby d3_74) hr
                    · show Q3f Z q3f_1 h0 n0 _ s₁.heap _
                      rw [e0]
                      exact ⟨(congrArg (fun z => some (Value.int z)) (Eq.symm (Eq.trans (if_neg c2) (Eq.trans (if_neg c5) (Eq.trans (if_neg c8) (Eq.trans (if_pos c29) (Eq.trans (if_neg c31) (Eq.trans (if_neg c34) (Eq.trans (if_pos c37) (Eq.trans (if_neg c39) (if_pos c42))))))))))), N0, rfl⟩
                  · skip
                    have P44 : own_Go p e below S0 (s₁.setTop (mkF m 66 #[.val (.int (0 : Int32)), .val (.int q3f_1)] [(.int (13 : Int32)), (.int q3f_1)])) := fun t k => P41 t (by
                      show Steps p.tables e below (s₁.setTop (mkF m 60 #[.val (.int (0 : Int32)), .val (.int q3f_1)] [(.int (10 : Int32)), (.int q3f_1)])) t
                      refine XS.icmpNo X0.here hx rfl (hb hby d3_60) rfl (feq c42).1 ?_
                      refine XS.iloadN X0.here hx rfl (hb hby d3_63) rfl ?_
                      refine XS.bipush X0.here hx rfl (hb hby d3_64) ?_
                      show Steps p.tables e below (s₁.setTop (mkF m 66 #[.val (.int (0 : Int32)), .val (.int q3f_1)] [(.int (13 : Int32)), (.int q3f_1)])) t
                      exact k)
                    by_cases c45 : q3f_1 = (13 : Int32)
                    · skip
                      have P46 : own_Go p e below S0 (s₁.setTop (mkF m 74 #[.val (.int (0 : Int32)), .val (.int q3f_1)] [(.int (1 : Int32))])) := fun t k => P44 t (by
                        show Steps p.tables e below (s₁.setTop (mkF m 66 #[.val (.int (0 : Int32)), .val (.int q3f_1)] [(.int (13 : Int32)), (.int q3f_1)])) t
                        refine XS.icmpNo X0.here hx rfl (hb hby d3_66) rfl (teq c45).2 ?_
                        refine XS.iconst X0.here hx rfl (hb hby d3_69) ?_
                        refine XS.goto X0.here hx rfl (pc0 := 70) (pc' := 74) rfl (hb hby d3_70) (by decide) (by decide) ?_
                        show Steps p.tables e below (s₁.setTop (mkF m 74 #[.val (.int (0 : Int32)), .val (.int q3f_1)] [(.int (1 : Int32))])) t
                        exact k)
                      obtain ⟨fs, hr, hrun, hended, hW, hsame⟩ := X0.leave (v := some (.int (1 : Int32))) (fun h => by rw [Bd.returns] at h; cases h)
                      refine ⟨_, _, own_from hS0 (P46 _ ?_), hrun, hended, _, _, rfl, ?_, ⟨_, rfl⟩, hW, hsame.mono (by decide) (by decide)⟩
                      · show Steps p.tables e below (s₁.setTop (mkF m 74 #[.val (.int (0 : Int32)), .val (.int q3f_1)] [(.int (1 : Int32))])) _
                        exact retN X0 hx (t := .boolean) Bd.returns (by simp) (hb hby d3_74) hr
                      · show Q3f Z q3f_1 h0 n0 _ s₁.heap _
                        rw [e0]
                        exact ⟨(congrArg (fun z => some (Value.int z)) (Eq.symm (Eq.trans (if_neg c2) (Eq.trans (if_neg c5) (Eq.trans (if_neg c8) (Eq.trans (if_pos c29) (Eq.trans (if_neg c31) (Eq.trans (if_neg c34) (Eq.trans (if_pos c37) (Eq.trans (if_neg c39) (Eq.trans (if_neg c42) (if_pos c45)))))))))))), N0, rfl⟩
                    · skip
                      have P47 : own_Go p e below S0 (s₁.setTop (mkF m 74 #[.val (.int (0 : Int32)), .val (.int q3f_1)] [(.int (0 : Int32))])) := fun t k => P44 t (by
                        show Steps p.tables e below (s₁.setTop (mkF m 66 #[.val (.int (0 : Int32)), .val (.int q3f_1)] [(.int (13 : Int32)), (.int q3f_1)])) t
                        refine XS.icmpYes X0.here hx rfl (pc0 := 66) (pc' := 73) rfl (hb hby d3_66) rfl (feq c45).2 (by decide) (by decide) ?_
                        refine XS.iconst X0.here hx rfl (hb hby d3_73) ?_
                        show Steps p.tables e below (s₁.setTop (mkF m 74 #[.val (.int (0 : Int32)), .val (.int q3f_1)] [(.int (0 : Int32))])) t
                        exact k)
                      obtain ⟨fs, hr, hrun, hended, hW, hsame⟩ := X0.leave (v := some (.int (0 : Int32))) (fun h => by rw [Bd.returns] at h; cases h)
                      refine ⟨_, _, own_from hS0 (P47 _ ?_), hrun, hended, _, _, rfl, ?_, ⟨_, rfl⟩, hW, hsame.mono (by decide) (by decide)⟩
                      · show Steps p.tables e below (s₁.setTop (mkF m 74 #[.val (.int (0 : Int32)), .val (.int q3f_1)] [(.int (0 : Int32))])) _
                        exact retN X0 hx (t := .boolean) Bd.returns (by simp) (hb hby d3_74) hr
                      · show Q3f Z q3f_1 h0 n0 _ s₁.heap _
                        rw [e0]
                        exact ⟨(congrArg (fun z => some (Value.int z)) (Eq.symm (Eq.trans (if_neg c2) (Eq.trans (if_neg c5) (Eq.trans (if_neg c8) (Eq.trans (if_pos c29) (Eq.trans (if_neg c31) (Eq.trans (if_neg c34) (Eq.trans (if_pos c37) (Eq.trans (if_neg c39) (Eq.trans (if_neg c42) (if_neg c45)))))))))))), N0, rfl⟩
              · skip
                have P48 : own_Go p e below S0 (s₁.setTop (mkF m 76 #[.val (.int (0 : Int32)), .val (.int q3f_1)] [(.int (1 : Int32))])) := fun t k => P36 t (by
                  show Steps p.tables e below (s₁.setTop (mkF m 44 #[.val (.int (0 : Int32)), .val (.int q3f_1)] [(.int (32 : Int32)), (.int q3f_1)])) t
                  refine XS.icmpYes X0.here hx rfl (pc0 := 44) (pc' := 75) rfl (hb hby d3_44) rfl (flt c37).2.1 (by decide) (by decide) ?_
                  refine XS.iconst X0.here hx rfl (hb hby d3_75) ?_
                  show Steps p.tables e below (s₁.setTop (mkF m 76 #[.val (.int (0 : Int32)), .val (.int q3f_1)] [(.int (1 : Int32))])) t
                  exact k)
                obtain ⟨fs, hr, hrun, hended, hW, hsame⟩ := X0.leave (v := some (.int (1 : Int32))) (fun h => by rw [Bd.returns] at h; cases h)
                refine ⟨_, _, own_from hS0 (P48 _ ?_), hrun, hended, _, _, rfl, ?_, ⟨_, rfl⟩, hW, hsame.mono (by decide) (by decide)⟩
                · show Steps p.tables e below (s₁.setTop (mkF m 76 #[.val (.int (0 : Int32)), .val (.int q3f_1)] [(.int (1 : Int32))])) _
                  exact retN X0 hx (t := .boolean) Bd.returns (by simp) (hb hby d3_76) hr
                · show Q3f Z q3f_1 h0 n0 _ s₁.heap _
                  rw [e0]
                  exact ⟨(congrArg (fun z => some (Value.int z)) (Eq.symm (Eq.trans (if_neg c2) (Eq.trans (if_neg c5) (Eq.trans (if_neg c8) (Eq.trans (if_pos c29) (Eq.trans (if_neg c31) (Eq.trans (if_neg c34) (if_neg c37))))))))), N0, rfl⟩
        · skip
          have P49 : own_Go p e below S0 (s₁.setTop (mkF m 26 #[.val (.int (0 : Int32)), .val (.int q3f_1)] [(.int (0 : Int32))])) := fun t k => P28 t (by
            show Steps p.tables e below (s₁.setTop (mkF m 22 #[.val (.int (0 : Int32)), .val (.int q3f_1)] [(.int (57343 : Int32)), (.int q3f_1)])) t
            refine XS.icmpNo X0.here hx rfl (hb hby d3_22) rfl (flt c29).2.2.1 ?_
            refine XS.iconst X0.here hx rfl (hb hby d3_25) ?_
            show Steps p.tables e below (s₁.setTop (mkF m 26 #[.val (.int (0 : Int32)), .val (.int q3f_1)] [(.int (0 : Int32))])) t
            exact k)
          obtain ⟨fs, hr, hrun, hended, hW, hsame⟩ := X0.leave (v := some (.int (0 : Int32))) (fun h => by rw [Bd.returns] at h; cases h)
          refine ⟨_, _, own_from hS0 (P49 _ ?_), hrun, hended, _, _, rfl, ?_, ⟨_, rfl⟩, hW, hsame.mono (by decide) (by decide)⟩
          · show Steps p.tables e below (s₁.setTop (mkF m 26 #[.val (.int (0 : Int32)), .val (.int q3f_1)] [(.int (0 : Int32))])) _
            exact retN X0 hx (t := .boolean) Bd.returns (by simp) (hb hby d3_26) hr
          · show Q3f Z q3f_1 h0 n0 _ s₁.heap _
            rw [e0]
            exact ⟨(congrArg (fun z => some (Value.int z)) (Eq.symm (Eq.trans (if_neg c2) (Eq.trans (if_neg c5) (Eq.trans (if_neg c8) (if_neg c29)))))), N0, rfl⟩
set_option maxHeartbeats 4000000 in
theorem own_r2a (c : Int32) : r2a c = r3t c := by
  have e0 : (0 : Int32).toInt = 0 := by decide
  have e1 : (1 : Int32).toInt = 1 := by decide
  have e9 : (9 : Int32).toInt = 9 := by decide
  have e10 : (10 : Int32).toInt = 10 := by decide
  have e13 : (13 : Int32).toInt = 13 := by decide
  have e32 : (32 : Int32).toInt = 32 := by decide
  have e55295 : (55295 : Int32).toInt = 55295 := by decide
  have e55296 : (55296 : Int32).toInt = 55296 := by decide
  have e57343 : (57343 : Int32).toInt = 57343 := by decide
  have e57344 : (57344 : Int32).toInt = 57344 := by decide
  have e65533 : (65533 : Int32).toInt = 65533 := by decide
  have e65534 : (65534 : Int32).toInt = 65534 := by decide
  have e65535 : (65535 : Int32).toInt = 65535 := by decide
  have e65536 : (65536 : Int32).toInt = 65536 := by decide
  have e1114111 : (1114111 : Int32).toInt = 1114111 := by decide
  unfold r2a r3t
  simp only [Int32.lt_iff_toInt_lt, ← Int32.toInt_inj, e0, e1, e9, e10, e13, e32, e55295, e55296, e57343, e57344, e65533, e65534, e65535, e65536, e1114111]
  generalize c.toInt = z
  repeat' split
  all_goals first | rfl | (exfalso; omega)
set_option maxHeartbeats 4000000 in
theorem own_r2b (c : Int32) : r2b c = r3f c := by
  have e0 : (0 : Int32).toInt = 0 := by decide
  have e1 : (1 : Int32).toInt = 1 := by decide
  have e9 : (9 : Int32).toInt = 9 := by decide
  have e10 : (10 : Int32).toInt = 10 := by decide
  have e13 : (13 : Int32).toInt = 13 := by decide
  have e32 : (32 : Int32).toInt = 32 := by decide
  have e55295 : (55295 : Int32).toInt = 55295 := by decide
  have e55296 : (55296 : Int32).toInt = 55296 := by decide
  have e57343 : (57343 : Int32).toInt = 57343 := by decide
  have e57344 : (57344 : Int32).toInt = 57344 := by decide
  have e65533 : (65533 : Int32).toInt = 65533 := by decide
  have e65534 : (65534 : Int32).toInt = 65534 := by decide
  have e65535 : (65535 : Int32).toInt = 65535 := by decide
  have e65536 : (65536 : Int32).toInt = 65536 := by decide
  have e1114111 : (1114111 : Int32).toInt = 1114111 := by decide
  unfold r2b r3f
  simp only [Int32.lt_iff_toInt_lt, ← Int32.toInt_inj, e0, e1, e9, e10, e13, e32, e55295, e55296, e57343, e57344, e65533, e65534, e65535, e65536, e1114111]
  generalize c.toInt = z
  repeat' split
  all_goals first | rfl | (exfalso; omega)
theorem pd_0 : parseMethodDescriptor "(I)I" = some ⟨[.int], some .int⟩ := by decide +kernel
theorem pd_1 : parseMethodDescriptor "(I)Z" = some ⟨[.int], some .boolean⟩ := by decide +kernel
theorem pd_2 : parseMethodDescriptor "(ZI)Z" = some ⟨[.boolean, .int], some .boolean⟩ := by decide +kernel
theorem ef_0 (m : MethodId) (i0 : Int32) (i1 : Int32) : entryFrame m #[(.int i0), (.int i1)] maxLocals = mkF m 0 #[.val (.int i0), .val (.int i1), .unset, .unset, .unset] [] := by first | (simp [entryFrame, mkF, argsToLocals, Value.category, maxLocals]; done) | rfl
def Q0 (Z : State) (i0 : Int32) (i1 : Int32) (z0_V1_0 : Addr) (z0_V1_1 : Addr) (h0 : Heap) (n0 : Nat) (v : Option Value) (h : Heap) (L : List Loc) : Prop := v = some (.int 1) ∧ Fr n0 L
set_option maxRecDepth 65536 in
set_option maxHeartbeats 40000000 in
theorem rm0 (l : Launch) (Z : State) (a0 : Array Value) (hw : ∀ d ∈ tables_1, d.before a0 Z = true) (ws : List Jvm.Cond) (i0 : Int32) (i1 : Int32) (z0_V1_0 : Addr) (z0_V1_1 : Addr) (h0 : Heap) (n0 : Nat) (Z0 : n0 ≤ h0.size) (S_V1_0 : Sta Z h0 "com/example/splice/splice/XmlVersion" "V1_0" "Lcom/example/splice/splice/XmlVersion;" (.ref z0_V1_0)) (E_z0_V1_0 : Exa Z h0 z0_V1_0 "com/example/splice/splice/XmlVersion") (S_V1_1 : Sta Z h0 "com/example/splice/splice/XmlVersion" "V1_1" "Lcom/example/splice/splice/XmlVersion;" (.ref z0_V1_1)) (hne_z0_V1_0_z0_V1_1 : z0_V1_0 ≠ z0_V1_1) (E_z0_V1_1 : Exa Z h0 z0_V1_1 "com/example/splice/splice/XmlVersion") :
    MetFree l x (head1 (Jvm.Cond.code x code maxLocals ret :: ws) room_1) (fun a U => a = #[(.int i0), (.int i1)] ∧ Z.Warmed39 U.vm ∧ U.heap = h0) (fun _ _ _ _ _ => True) (fun _ U o U' => ∃ v L, o = .returned v ∧ Q0 Z i0 i1 z0_V1_0 z0_V1_1 h0 n0 v U'.heap L ∧ FrameEnd U o U' L room_1.cells room_1.slots) := by
  refine MetFree.of_bodySF (plainFor_of_name pn_1) hisR ?_
  intro p e s m args below meth c s₁ Bd hml0 hP hK
  obtain ⟨rfl, hZ, hh⟩ := hP
  have hx := Bd.exec
  have hby := Bd.bytes
  have hml : c.maxLocals = 5 := hml0
  have hown : s.vm.findClass "com/example/splice/splice/XmlVersionAllowsPinLaw" = some m.cls := findClass_of_methodNamed Bd.named
  have hnm := (name_of_methodNamed Bd.named Bd.method).1
  have X0 : Stand p l e room_1 s m #[(.int i0), (.int i1)] below meth c s₁ [] 0 0 := Stand.of_body Bd
  have e0 : s₁.heap = h0 := by rw [← hh, Bd.state]; rfl
  have N0 := Fr.nil n0
  obtain ⟨S0, hS0⟩ : ∃ z, z = s₁.setTop (entryFrame m #[(.int i0), (.int i1)] maxLocals) := ⟨_, rfl⟩
  have P0 : own_Go p e below S0 (s₁.setTop (mkF m 0 #[.val (.int i0), .val (.int i1), .unset, .unset, .unset] [])) := fun t k => by rw [hS0]; exact castTop (ef_0 m i0 i1) k
  have P1 : own_Go p e below S0 (s₁.setTop (mkF m 4 #[.val (.int i0), .val (.int i1), .unset, .unset, .unset] [(.int (i1 &&& (16 : Int32)))])) := fun t k => P0 t (by
    show Steps p.tables e below (s₁.setTop (mkF m 0 #[.val (.int i0), .val (.int i1), .unset, .unset, .unset] [])) t
    refine XS.iloadN X0.here hx rfl (hb hby at_0) rfl ?_
    refine XS.bipush X0.here hx rfl (hb hby at_1) ?_
    refine XS.iand X0.here hx rfl (hb hby at_3) rfl ?_
    show Steps p.tables e below (s₁.setTop (mkF m 4 #[.val (.int i0), .val (.int i1), .unset, .unset, .unset] [(.int (i1 &&& (16 : Int32)))])) t
    exact k)
  by_cases c2 : (i1 &&& (16 : Int32)) = (0 : Int32)
  · skip
    have P3 : own_Go p e below S0 (s₁.setTop (mkF m 17 #[.val (.int i0), .val (.int i1), .val (.int (0 : Int32)), .unset, .unset] [(.int (i1 &&& (8 : Int32)))])) := fun t k => P1 t (by
      show Steps p.tables e below (s₁.setTop (mkF m 4 #[.val (.int i0), .val (.int i1), .unset, .unset, .unset] [(.int (i1 &&& (16 : Int32)))])) t
      refine XS.ifYes X0.here hx rfl (pc0 := 4) (pc' := 11) rfl (hb hby at_4) rfl ((if0 _ _).trans (teq c2).1) (by decide) (by decide) ?_
      refine XS.iconst X0.here hx rfl (hb hby at_11) ?_
      refine XS.istoreN X0.here hx rfl (hb hby at_12) rfl (l' := #[.val (.int i0), .val (.int i1), .val (.int (0 : Int32)), .unset, .unset]) rfl ?_
      refine XS.iloadN X0.here hx rfl (hb hby at_13) rfl ?_
      refine XS.bipush X0.here hx rfl (hb hby at_14) ?_
      refine XS.iand X0.here hx rfl (hb hby at_16) rfl ?_
      show Steps p.tables e below (s₁.setTop (mkF m 17 #[.val (.int i0), .val (.int i1), .val (.int (0 : Int32)), .unset, .unset] [(.int (i1 &&& (8 : Int32)))])) t
      exact k)
    by_cases c4 : (i1 &&& (8 : Int32)) = (0 : Int32)
    · skip
      have P5 : own_Go p e below S0 (s₁.setTop (mkF m 25 #[.val (.int i0), .val (.int i1), .val (.int (0 : Int32)), .unset, .unset] [(.int i1)])) := fun t k => P3 t (by
        show Steps p.tables e below (s₁.setTop (mkF m 17 #[.val (.int i0), .val (.int i1), .val (.int (0 : Int32)), .unset, .unset] [(.int (i1 &&& (8 : Int32)))])) t
        refine XS.ifYes X0.here hx rfl (pc0 := 17) (pc' := 24) rfl (hb hby at_17) rfl ((if0 _ _).trans (teq c4).1) (by decide) (by decide) ?_
        refine XS.iloadN X0.here hx rfl (hb hby at_24) rfl ?_
        show Steps p.tables e below (s₁.setTop (mkF m 25 #[.val (.int i0), .val (.int i1), .val (.int (0 : Int32)), .unset, .unset] [(.int i1)])) t
        exact k)
      obtain ⟨_, _, ⟨T6, L6, k6, n6⟩, -, X6, ⟨Lc6, hQ6, l6, y6, z6⟩, st6⟩ := Jvm.LawKit.callS X0 hx (y := (⟨"com/example/splice/splice/XmlVersionAllowsPinLaw", "pivot", "(I)I"⟩ : MethodName)) hown (mvT hZ (hw _ (List.mem_of_getElem? (i := 0) rfl))) (mvT hZ (hw _ (List.mem_of_getElem? (i := 1) rfl))) (mvT hZ (hw _ (List.mem_of_getElem? (i := 2) rfl))) (mvT hZ (hw _ (List.mem_of_getElem? (i := 3) rfl))) (by decide) (backOf (W := 0) (rm1 l Z a0 hw [] i1 h0 n0 Z0) hZ (hw _ (List.mem_of_getElem? (i := 3) rfl)) (hw _ (List.mem_of_getElem? (i := 2) rfl)) (by decide) (by decide)) (g := (mkF m 25 #[.val (.int i0), .val (.int i1), .val (.int (0 : Int32)), .unset, .unset] [(.int i1)])) rfl (by rw [hml]; rfl) (argsL := [(.int i1)]) (rest := []) (lenOf pd_0 rfl) rfl (by show 2 * 0 + _ ≤ _; exact Nat.le_of_eq rfl) (hb hby at_25) (fun _ _ => ⟨rfl, e0, (by decide : 0 + 1 ≤ _), (by decide : 0 + 8 ≤ _)⟩)
      dsimp only [Pt.U, Pt.locs, Pt.cells, Pt.slots] at X6 l6 y6 z6 st6 hQ6
      subst l6 y6 z6
      obtain ⟨z27_6, rfl, N6q, Kc6⟩ := hQ6
      have N6 := Fr.app N0 N6q
      have K6 : Keep h0 T6.heap [] := Keep.trans (Keep.refl h0 []) Kc6 all0
      have P6 : own_Go p e below S0 (T6.setTop (mkF m 28 #[.val (.int i0), .val (.int i1), .val (.int (0 : Int32)), .unset, .unset] [(.int z27_6)])) := fun t k => P5 t (st6 _ k)
      have F7 : Sta Z T6.heap "com/example/splice/splice/XmlVersion" "V1_0" "Lcom/example/splice/splice/XmlVersion;" (.ref z0_V1_0) := own_staK S_V1_0 Kc6 all0
      have P8 : own_Go p e below S0 (T6.setTop (mkF m 43 #[.val (.int i0), .val (.int i1), .val (.int (0 : Int32)), .val (.int (z27_6 + (i0 % (3 : Int32)))), .unset] [])) := fun t k => P6 t (by
        show Steps p.tables e below (T6.setTop (mkF m 28 #[.val (.int i0), .val (.int i1), .val (.int (0 : Int32)), .unset, .unset] [(.int z27_6)])) t
        refine XS.iloadN X6.here hx rfl (hb hby at_28) rfl ?_
        refine XS.iconst X6.here hx rfl (hb hby at_29) ?_
        refine iremM (g := (mkF m 30 #[.val (.int i0), .val (.int i1), .val (.int (0 : Int32)), .unset, .unset] [(.int (3 : Int32)), (.int i0), (.int z27_6)])) X6 hx rfl (hb hby at_30) rfl (by decide) ?_
        refine XS.iadd X6.here hx rfl (hb hby at_31) rfl ?_
        refine XS.istoreN X6.here hx rfl (hb hby at_32) rfl (l' := #[.val (.int i0), .val (.int i1), .val (.int (0 : Int32)), .val (.int (z27_6 + (i0 % (3 : Int32)))), .unset]) rfl ?_
        refine XS.iloadN X6.here hx rfl (hb hby at_33) rfl ?_
        show Steps p.tables e below (T6.setTop (mkF m 34 #[.val (.int i0), .val (.int i1), .val (.int (0 : Int32)), .val (.int (z27_6 + (i0 % (3 : Int32)))), .unset] [(.int (0 : Int32))])) t
        refine XS.ifYes X6.here hx rfl (pc0 := 34) (pc' := 43) rfl (hb hby at_34) rfl ((if0 _ _).trans (teq (by decide)).1) (by decide) (by decide) ?_
        show Steps p.tables e below (T6.setTop (mkF m 43 #[.val (.int i0), .val (.int i1), .val (.int (0 : Int32)), .val (.int (z27_6 + (i0 % (3 : Int32)))), .unset] [])) t
        exact k)
      obtain ⟨T9, X9, e9, st9⟩ := getS2 X6 hx hZ hown (host := "") (Or.inl (hw _ (List.mem_of_getElem? (i := 9) rfl))) Via.refl rfl F7 (g := (mkF m 43 #[.val (.int i0), .val (.int i1), .val (.int (0 : Int32)), .val (.int (z27_6 + (i0 % (3 : Int32)))), .unset] [])) rfl (hb hby at_43)
      have P9 : own_Go p e below S0 (T9.setTop (mkF m 46 #[.val (.int i0), .val (.int i1), .val (.int (0 : Int32)), .val (.int (z27_6 + (i0 % (3 : Int32)))), .unset] [(.ref z0_V1_0)])) := fun t k => P8 t (st9 _ k)
      have F10 : Exa Z T6.heap z0_V1_0 "com/example/splice/splice/XmlVersion" := E_z0_V1_0.keep Kc6
      have F11 : Sta Z T6.heap "com/example/splice/splice/XmlVersion" "V1_1" "Lcom/example/splice/splice/XmlVersion;" (.ref z0_V1_1) := own_staK S_V1_1 Kc6 all0
      have P12 : own_Go p e below S0 (T9.setTop (mkF m 51 #[.val (.int i0), .val (.int i1), .val (.int (0 : Int32)), .val (.int (z27_6 + (i0 % (3 : Int32)))), .val (.ref z0_V1_0)] [(.int (z27_6 + (i0 % (3 : Int32)))), (.ref z0_V1_0)])) := fun t k => P9 t (by
        show Steps p.tables e below (T9.setTop (mkF m 46 #[.val (.int i0), .val (.int i1), .val (.int (0 : Int32)), .val (.int (z27_6 + (i0 % (3 : Int32)))), .unset] [(.ref z0_V1_0)])) t
        refine XS.astore X9.here hx rfl (hb hby at_46) rfl rfl (l' := #[.val (.int i0), .val (.int i1), .val (.int (0 : Int32)), .val (.int (z27_6 + (i0 % (3 : Int32)))), .val (.ref z0_V1_0)]) rfl ?_
        refine XS.aload X9.here hx rfl (hb hby at_48) rfl rfl ?_
        refine XS.iloadN X9.here hx rfl (hb hby at_50) rfl ?_
        show Steps p.tables e below (T9.setTop (mkF m 51 #[.val (.int i0), .val (.int i1), .val (.int (0 : Int32)), .val (.int (z27_6 + (i0 % (3 : Int32)))), .val (.ref z0_V1_0)] [(.int (z27_6 + (i0 % (3 : Int32)))), (.ref z0_V1_0)])) t
        exact k)
      obtain ⟨cq13, kq13, q13a, q13b, q13c⟩ := isOf hZ e9 F10
      obtain ⟨_, _, ⟨T13, L13, k13, n13⟩, -, X13, ⟨Lc13, hQ13, l13, y13, z13⟩, st13⟩ := X9.virtualBack hx (y := (⟨"com/example/splice/splice/XmlVersion", "allows", "(I)Z"⟩ : MethodName)) (z := (⟨"com/example/splice/splice/XmlVersion", "allows", "(I)Z"⟩ : MethodName)) hown (mvT hZ (hw _ (List.mem_of_getElem? (i := 12) rfl))) (mvT hZ (hw _ (List.mem_of_getElem? (i := 13) rfl))) (notFace_of_selects (args := #[]) (mvT hZ (hw _ (List.mem_of_getElem? (i := 15) rfl)))) (mvT hZ (hw _ (List.mem_of_getElem? (i := 15) rfl))) (mvT hZ (hw _ (List.mem_of_getElem? (i := 14) rfl))) (by decide) (backOf (W := 0) (rm2b l Z a0 hw [] z0_V1_0 (z27_6 + (i0 % (3 : Int32))) z0_V1_1 T6.heap n0 (Nat.le_trans Z0 K6.1) F11 hne_z0_V1_0_z0_V1_1) hZ (hw _ (List.mem_of_getElem? (i := 16) rfl)) (hw _ (List.mem_of_getElem? (i := 10) rfl)) (by decide) (by decide)) q13a q13c (g := (mkF m 51 #[.val (.int i0), .val (.int i1), .val (.int (0 : Int32)), .val (.int (z27_6 + (i0 % (3 : Int32)))), .val (.ref z0_V1_0)] [(.int (z27_6 + (i0 % (3 : Int32)))), (.ref z0_V1_0)])) rfl (by rw [hml]; rfl) (Steps.refl _) (argsL := [(.int (z27_6 + (i0 % (3 : Int32))))]) (rest := []) (lenOf pd_1 rfl) rfl (by show 2 * 0 + _ ≤ _; exact Nat.le_of_eq rfl) (hb hby at_51) (fun _ _ => ⟨rfl, e9, (by decide : 1 + 0 ≤ _), (by decide : 8 + 0 ≤ _)⟩)
      dsimp only [Pt.U, Pt.locs, Pt.cells, Pt.slots] at X13 l13 y13 z13 st13 hQ13
      subst l13 y13 z13
      obtain ⟨rfl, N13q, e13⟩ := hQ13
      have N13 := Fr.app N6 N13q
      have P13 : own_Go p e below S0 (T13.setTop (mkF m 54 #[.val (.int i0), .val (.int i1), .val (.int (0 : Int32)), .val (.int (z27_6 + (i0 % (3 : Int32)))), .val (.ref z0_V1_0)] [(.int (r2b (z27_6 + (i0 % (3 : Int32)))))])) := fun t k => P12 t (st13.trans k)
      have P14 : own_Go p e below S0 (T13.setTop (mkF m 56 #[.val (.int i0), .val (.int i1), .val (.int (0 : Int32)), .val (.int (z27_6 + (i0 % (3 : Int32)))), .val (.ref z0_V1_0)] [(.int (z27_6 + (i0 % (3 : Int32)))), (.int (0 : Int32)), (.int (r2b (z27_6 + (i0 % (3 : Int32)))))])) := fun t k => P13 t (by
        show Steps p.tables e below (T13.setTop (mkF m 54 #[.val (.int i0), .val (.int i1), .val (.int (0 : Int32)), .val (.int (z27_6 + (i0 % (3 : Int32)))), .val (.ref z0_V1_0)] [(.int (r2b (z27_6 + (i0 % (3 : Int32)))))])) t
        refine XS.iloadN X13.here hx rfl (hb hby at_54) rfl ?_
        refine XS.iloadN X13.here hx rfl (hb hby at_55) rfl ?_
        show Steps p.tables e below (T13.setTop (mkF m 56 #[.val (.int i0), .val (.int i1), .val (.int (0 : Int32)), .val (.int (z27_6 + (i0 % (3 : Int32)))), .val (.ref z0_V1_0)] [(.int (z27_6 + (i0 % (3 : Int32)))), (.int (0 : Int32)), (.int (r2b (z27_6 + (i0 % (3 : Int32)))))])) t
        exact k)
      obtain ⟨_, _, ⟨T15, L15, k15, n15⟩, -, X15, ⟨Lc15, hQ15, l15, y15, z15⟩, st15⟩ := Jvm.LawKit.callS X13 hx (y := (⟨"com/example/splice/splice/XmlVersionAllowsPinLaw", "expected", "(ZI)Z"⟩ : MethodName)) hown (mvT hZ (hw _ (List.mem_of_getElem? (i := 19) rfl))) (mvT hZ (hw _ (List.mem_of_getElem? (i := 20) rfl))) (mvT hZ (hw _ (List.mem_of_getElem? (i := 2) rfl))) (mvT hZ (hw _ (List.mem_of_getElem? (i := 21) rfl))) (by decide) (backOf (W := 1) (rm3f l Z a0 hw [] (z27_6 + (i0 % (3 : Int32))) T6.heap n0 (Nat.le_trans Z0 K6.1)) hZ (hw _ (List.mem_of_getElem? (i := 21) rfl)) (hw _ (List.mem_of_getElem? (i := 2) rfl)) (by decide) (by decide)) (g := (mkF m 56 #[.val (.int i0), .val (.int i1), .val (.int (0 : Int32)), .val (.int (z27_6 + (i0 % (3 : Int32)))), .val (.ref z0_V1_0)] [(.int (z27_6 + (i0 % (3 : Int32)))), (.int (0 : Int32)), (.int (r2b (z27_6 + (i0 % (3 : Int32)))))])) rfl (by rw [hml]; rfl) (argsL := [(.int (0 : Int32)), (.int (z27_6 + (i0 % (3 : Int32))))]) (rest := [(.int (r2b (z27_6 + (i0 % (3 : Int32)))))]) (lenOf pd_2 rfl) rfl (by show 2 * 0 + _ ≤ _; exact Nat.le_of_eq rfl) (hb hby at_56) (fun _ _ => ⟨rfl, e13, (by decide : 1 + 0 ≤ _), (by decide : 8 + 0 ≤ _)⟩)
      dsimp only [Pt.U, Pt.locs, Pt.cells, Pt.slots] at X15 l15 y15 z15 st15 hQ15
      subst l15 y15 z15
      obtain ⟨rfl, N15q, e15⟩ := hQ15
      have N15 := Fr.app N13 N15q
      have P15 : own_Go p e below S0 (T15.setTop (mkF m 59 #[.val (.int i0), .val (.int i1), .val (.int (0 : Int32)), .val (.int (z27_6 + (i0 % (3 : Int32)))), .val (.ref z0_V1_0)] [(.int (r3f (z27_6 + (i0 % (3 : Int32))))), (.int (r2b (z27_6 + (i0 % (3 : Int32)))))])) := fun t k => P14 t (st15 _ k)
      have c16 : (r2b (z27_6 + (i0 % (3 : Int32)))) = (r3f (z27_6 + (i0 % (3 : Int32)))) := own_r2b _
      have P17 : own_Go p e below S0 (T15.setTop (mkF m 67 #[.val (.int i0), .val (.int i1), .val (.int (0 : Int32)), .val (.int (z27_6 + (i0 % (3 : Int32)))), .val (.ref z0_V1_0)] [(.int (1 : Int32))])) := fun t k => P15 t (by
        show Steps p.tables e below (T15.setTop (mkF m 59 #[.val (.int i0), .val (.int i1), .val (.int (0 : Int32)), .val (.int (z27_6 + (i0 % (3 : Int32)))), .val (.ref z0_V1_0)] [(.int (r3f (z27_6 + (i0 % (3 : Int32))))), (.int (r2b (z27_6 + (i0 % (3 : Int32)))))])) t
        refine XS.icmpNo X15.here hx rfl (hb hby at_59) rfl (teq c16).2 ?_
        refine XS.iconst X15.here hx rfl (hb hby at_62) ?_
        refine XS.goto X15.here hx rfl (pc0 := 63) (pc' := 67) rfl (hb hby at_63) (by decide) (by decide) ?_
        show Steps p.tables e below (T15.setTop (mkF m 67 #[.val (.int i0), .val (.int i1), .val (.int (0 : Int32)), .val (.int (z27_6 + (i0 % (3 : Int32)))), .val (.ref z0_V1_0)] [(.int (1 : Int32))])) t
        exact k)
      obtain ⟨fs, hr, hrun, hended, hW, hsame⟩ := X15.leave (v := some (.int (1 : Int32))) (fun h => by rw [Bd.returns] at h; cases h)
      refine ⟨_, _, own_from hS0 (P17 _ ?_), hrun, hended, _, _, rfl, ?_, ⟨_, rfl⟩, hW, hsame.mono (by decide) (by decide)⟩
      · show Steps p.tables e below (T15.setTop (mkF m 67 #[.val (.int i0), .val (.int i1), .val (.int (0 : Int32)), .val (.int (z27_6 + (i0 % (3 : Int32)))), .val (.ref z0_V1_0)] [(.int (1 : Int32))])) _
        exact retN X15 hx (t := .boolean) Bd.returns (by simp) (hb hby at_67) hr
      · show Q0 Z i0 i1 z0_V1_0 z0_V1_1 h0 n0 _ T15.heap _
        rw [e15]
        exact ⟨rfl, N15⟩
    · skip
      have P18 : own_Go p e below S0 (s₁.setTop (mkF m 43 #[.val (.int i0), .val (.int i1), .val (.int (0 : Int32)), .val (.int i0), .unset] [])) := fun t k => P3 t (by
        show Steps p.tables e below (s₁.setTop (mkF m 17 #[.val (.int i0), .val (.int i1), .val (.int (0 : Int32)), .unset, .unset] [(.int (i1 &&& (8 : Int32)))])) t
        refine XS.ifNo X0.here hx rfl (hb hby at_17) rfl ((if0 _ _).trans (feq c4).1) ?_
        refine XS.iloadN X0.here hx rfl (hb hby at_20) rfl ?_
        refine XS.goto X0.here hx rfl (pc0 := 21) (pc' := 32) rfl (hb hby at_21) (by decide) (by decide) ?_
        refine XS.istoreN X0.here hx rfl (hb hby at_32) rfl (l' := #[.val (.int i0), .val (.int i1), .val (.int (0 : Int32)), .val (.int i0), .unset]) rfl ?_
        refine XS.iloadN X0.here hx rfl (hb hby at_33) rfl ?_
        refine XS.ifYes X0.here hx rfl (pc0 := 34) (pc' := 43) rfl (hb hby at_34) rfl ((if0 _ _).trans (teq (by decide)).1) (by decide) (by decide) ?_
        show Steps p.tables e below (s₁.setTop (mkF m 43 #[.val (.int i0), .val (.int i1), .val (.int (0 : Int32)), .val (.int i0), .unset] [])) t
        exact k)
      obtain ⟨T19, X19, e19, st19⟩ := getS2 X0 hx hZ hown (host := "") (Or.inl (hw _ (List.mem_of_getElem? (i := 9) rfl))) Via.refl e0 S_V1_0 (g := (mkF m 43 #[.val (.int i0), .val (.int i1), .val (.int (0 : Int32)), .val (.int i0), .unset] [])) rfl (hb hby at_43)
      have P19 : own_Go p e below S0 (T19.setTop (mkF m 46 #[.val (.int i0), .val (.int i1), .val (.int (0 : Int32)), .val (.int i0), .unset] [(.ref z0_V1_0)])) := fun t k => P18 t (st19 _ k)
      have P20 : own_Go p e below S0 (T19.setTop (mkF m 51 #[.val (.int i0), .val (.int i1), .val (.int (0 : Int32)), .val (.int i0), .val (.ref z0_V1_0)] [(.int i0), (.ref z0_V1_0)])) := fun t k => P19 t (by
        show Steps p.tables e below (T19.setTop (mkF m 46 #[.val (.int i0), .val (.int i1), .val (.int (0 : Int32)), .val (.int i0), .unset] [(.ref z0_V1_0)])) t
        refine XS.astore X19.here hx rfl (hb hby at_46) rfl rfl (l' := #[.val (.int i0), .val (.int i1), .val (.int (0 : Int32)), .val (.int i0), .val (.ref z0_V1_0)]) rfl ?_
        refine XS.aload X19.here hx rfl (hb hby at_48) rfl rfl ?_
        refine XS.iloadN X19.here hx rfl (hb hby at_50) rfl ?_
        show Steps p.tables e below (T19.setTop (mkF m 51 #[.val (.int i0), .val (.int i1), .val (.int (0 : Int32)), .val (.int i0), .val (.ref z0_V1_0)] [(.int i0), (.ref z0_V1_0)])) t
        exact k)
      obtain ⟨cq21, kq21, q21a, q21b, q21c⟩ := isOf hZ e19 E_z0_V1_0
      obtain ⟨_, _, ⟨T21, L21, k21, n21⟩, -, X21, ⟨Lc21, hQ21, l21, y21, z21⟩, st21⟩ := X19.virtualBack hx (y := (⟨"com/example/splice/splice/XmlVersion", "allows", "(I)Z"⟩ : MethodName)) (z := (⟨"com/example/splice/splice/XmlVersion", "allows", "(I)Z"⟩ : MethodName)) hown (mvT hZ (hw _ (List.mem_of_getElem? (i := 12) rfl))) (mvT hZ (hw _ (List.mem_of_getElem? (i := 13) rfl))) (notFace_of_selects (args := #[]) (mvT hZ (hw _ (List.mem_of_getElem? (i := 15) rfl)))) (mvT hZ (hw _ (List.mem_of_getElem? (i := 15) rfl))) (mvT hZ (hw _ (List.mem_of_getElem? (i := 14) rfl))) (by decide) (backOf (W := 0) (rm2b l Z a0 hw [] z0_V1_0 i0 z0_V1_1 h0 n0 Z0 S_V1_1 hne_z0_V1_0_z0_V1_1) hZ (hw _ (List.mem_of_getElem? (i := 16) rfl)) (hw _ (List.mem_of_getElem? (i := 10) rfl)) (by decide) (by decide)) q21a q21c (g := (mkF m 51 #[.val (.int i0), .val (.int i1), .val (.int (0 : Int32)), .val (.int i0), .val (.ref z0_V1_0)] [(.int i0), (.ref z0_V1_0)])) rfl (by rw [hml]; rfl) (Steps.refl _) (argsL := [(.int i0)]) (rest := []) (lenOf pd_1 rfl) rfl (by show 2 * 0 + _ ≤ _; exact Nat.le_of_eq rfl) (hb hby at_51) (fun _ _ => ⟨rfl, e19, (by decide : 0 + 0 ≤ _), (by decide : 0 + 0 ≤ _)⟩)
      dsimp only [Pt.U, Pt.locs, Pt.cells, Pt.slots] at X21 l21 y21 z21 st21 hQ21
      subst l21 y21 z21
      obtain ⟨rfl, N21q, e21⟩ := hQ21
      have N21 := Fr.app N0 N21q
      have P21 : own_Go p e below S0 (T21.setTop (mkF m 54 #[.val (.int i0), .val (.int i1), .val (.int (0 : Int32)), .val (.int i0), .val (.ref z0_V1_0)] [(.int (r2b i0))])) := fun t k => P20 t (st21.trans k)
      have P22 : own_Go p e below S0 (T21.setTop (mkF m 56 #[.val (.int i0), .val (.int i1), .val (.int (0 : Int32)), .val (.int i0), .val (.ref z0_V1_0)] [(.int i0), (.int (0 : Int32)), (.int (r2b i0))])) := fun t k => P21 t (by
        show Steps p.tables e below (T21.setTop (mkF m 54 #[.val (.int i0), .val (.int i1), .val (.int (0 : Int32)), .val (.int i0), .val (.ref z0_V1_0)] [(.int (r2b i0))])) t
        refine XS.iloadN X21.here hx rfl (hb hby at_54) rfl ?_
        refine XS.iloadN X21.here hx rfl (hb hby at_55) rfl ?_
        show Steps p.tables e below (T21.setTop (mkF m 56 #[.val (.int i0), .val (.int i1), .val (.int (0 : Int32)), .val (.int i0), .val (.ref z0_V1_0)] [(.int i0), (.int (0 : Int32)), (.int (r2b i0))])) t
        exact k)
      obtain ⟨_, _, ⟨T23, L23, k23, n23⟩, -, X23, ⟨Lc23, hQ23, l23, y23, z23⟩, st23⟩ := Jvm.LawKit.callS X21 hx (y := (⟨"com/example/splice/splice/XmlVersionAllowsPinLaw", "expected", "(ZI)Z"⟩ : MethodName)) hown (mvT hZ (hw _ (List.mem_of_getElem? (i := 19) rfl))) (mvT hZ (hw _ (List.mem_of_getElem? (i := 20) rfl))) (mvT hZ (hw _ (List.mem_of_getElem? (i := 2) rfl))) (mvT hZ (hw _ (List.mem_of_getElem? (i := 21) rfl))) (by decide) (backOf (W := 1) (rm3f l Z a0 hw [] i0 h0 n0 Z0) hZ (hw _ (List.mem_of_getElem? (i := 21) rfl)) (hw _ (List.mem_of_getElem? (i := 2) rfl)) (by decide) (by decide)) (g := (mkF m 56 #[.val (.int i0), .val (.int i1), .val (.int (0 : Int32)), .val (.int i0), .val (.ref z0_V1_0)] [(.int i0), (.int (0 : Int32)), (.int (r2b i0))])) rfl (by rw [hml]; rfl) (argsL := [(.int (0 : Int32)), (.int i0)]) (rest := [(.int (r2b i0))]) (lenOf pd_2 rfl) rfl (by show 2 * 0 + _ ≤ _; exact Nat.le_of_eq rfl) (hb hby at_56) (fun _ _ => ⟨rfl, e21, (by decide : 0 + 0 ≤ _), (by decide : 0 + 0 ≤ _)⟩)
      dsimp only [Pt.U, Pt.locs, Pt.cells, Pt.slots] at X23 l23 y23 z23 st23 hQ23
      subst l23 y23 z23
      obtain ⟨rfl, N23q, e23⟩ := hQ23
      have N23 := Fr.app N21 N23q
      have P23 : own_Go p e below S0 (T23.setTop (mkF m 59 #[.val (.int i0), .val (.int i1), .val (.int (0 : Int32)), .val (.int i0), .val (.ref z0_V1_0)] [(.int (r3f i0)), (.int (r2b i0))])) := fun t k => P22 t (st23 _ k)
      have c24 : (r2b i0) = (r3f i0) := own_r2b _
      have P25 : own_Go p e below S0 (T23.setTop (mkF m 67 #[.val (.int i0), .val (.int i1), .val (.int (0 : Int32)), .val (.int i0), .val (.ref z0_V1_0)] [(.int (1 : Int32))])) := fun t k => P23 t (by
        show Steps p.tables e below (T23.setTop (mkF m 59 #[.val (.int i0), .val (.int i1), .val (.int (0 : Int32)), .val (.int i0), .val (.ref z0_V1_0)] [(.int (r3f i0)), (.int (r2b i0))])) t
        refine XS.icmpNo X23.here hx rfl (hb hby at_59) rfl (teq c24).2 ?_
        refine XS.iconst X23.here hx rfl (hb hby at_62) ?_
        refine XS.goto X23.here hx rfl (pc0 := 63) (pc' := 67) rfl (hb hby at_63) (by decide) (by decide) ?_
        show Steps p.tables e below (T23.setTop (mkF m 67 #[.val (.int i0), .val (.int i1), .val (.int (0 : Int32)), .val (.int i0), .val (.ref z0_V1_0)] [(.int (1 : Int32))])) t
        exact k)
      obtain ⟨fs, hr, hrun, hended, hW, hsame⟩ := X23.leave (v := some (.int (1 : Int32))) (fun h => by rw [Bd.returns] at h; cases h)
      refine ⟨_, _, own_from hS0 (P25 _ ?_), hrun, hended, _, _, rfl, ?_, ⟨_, rfl⟩, hW, hsame.mono (by decide) (by decide)⟩
      · show Steps p.tables e below (T23.setTop (mkF m 67 #[.val (.int i0), .val (.int i1), .val (.int (0 : Int32)), .val (.int i0), .val (.ref z0_V1_0)] [(.int (1 : Int32))])) _
        exact retN X23 hx (t := .boolean) Bd.returns (by simp) (hb hby at_67) hr
      · show Q0 Z i0 i1 z0_V1_0 z0_V1_1 h0 n0 _ T23.heap _
        rw [e23]
        exact ⟨rfl, N23⟩
  · skip
    have P26 : own_Go p e below S0 (s₁.setTop (mkF m 17 #[.val (.int i0), .val (.int i1), .val (.int (1 : Int32)), .unset, .unset] [(.int (i1 &&& (8 : Int32)))])) := fun t k => P1 t (by
      show Steps p.tables e below (s₁.setTop (mkF m 4 #[.val (.int i0), .val (.int i1), .unset, .unset, .unset] [(.int (i1 &&& (16 : Int32)))])) t
      refine XS.ifNo X0.here hx rfl (hb hby at_4) rfl ((if0 _ _).trans (feq c2).1) ?_
      refine XS.iconst X0.here hx rfl (hb hby at_7) ?_
      refine XS.goto X0.here hx rfl (pc0 := 8) (pc' := 12) rfl (hb hby at_8) (by decide) (by decide) ?_
      refine XS.istoreN X0.here hx rfl (hb hby at_12) rfl (l' := #[.val (.int i0), .val (.int i1), .val (.int (1 : Int32)), .unset, .unset]) rfl ?_
      refine XS.iloadN X0.here hx rfl (hb hby at_13) rfl ?_
      refine XS.bipush X0.here hx rfl (hb hby at_14) ?_
      show Steps p.tables e below (s₁.setTop (mkF m 16 #[.val (.int i0), .val (.int i1), .val (.int (1 : Int32)), .unset, .unset] [(.int (8 : Int32)), (.int i1)])) t
      refine XS.iand X0.here hx rfl (hb hby at_16) rfl ?_
      show Steps p.tables e below (s₁.setTop (mkF m 17 #[.val (.int i0), .val (.int i1), .val (.int (1 : Int32)), .unset, .unset] [(.int (i1 &&& (8 : Int32)))])) t
      exact k)
    by_cases c27 : (i1 &&& (8 : Int32)) = (0 : Int32)
    · skip
      have P28 : own_Go p e below S0 (s₁.setTop (mkF m 25 #[.val (.int i0), .val (.int i1), .val (.int (1 : Int32)), .unset, .unset] [(.int i1)])) := fun t k => P26 t (by
        show Steps p.tables e below (s₁.setTop (mkF m 17 #[.val (.int i0), .val (.int i1), .val (.int (1 : Int32)), .unset, .unset] [(.int (i1 &&& (8 : Int32)))])) t
        refine XS.ifYes X0.here hx rfl (pc0 := 17) (pc' := 24) rfl (hb hby at_17) rfl ((if0 _ _).trans (teq c27).1) (by decide) (by decide) ?_
        refine XS.iloadN X0.here hx rfl (hb hby at_24) rfl ?_
        show Steps p.tables e below (s₁.setTop (mkF m 25 #[.val (.int i0), .val (.int i1), .val (.int (1 : Int32)), .unset, .unset] [(.int i1)])) t
        exact k)
      obtain ⟨_, _, ⟨T29, L29, k29, n29⟩, -, X29, ⟨Lc29, hQ29, l29, y29, z29⟩, st29⟩ := Jvm.LawKit.callS X0 hx (y := (⟨"com/example/splice/splice/XmlVersionAllowsPinLaw", "pivot", "(I)I"⟩ : MethodName)) hown (mvT hZ (hw _ (List.mem_of_getElem? (i := 0) rfl))) (mvT hZ (hw _ (List.mem_of_getElem? (i := 1) rfl))) (mvT hZ (hw _ (List.mem_of_getElem? (i := 2) rfl))) (mvT hZ (hw _ (List.mem_of_getElem? (i := 3) rfl))) (by decide) (backOf (W := 0) (rm1 l Z a0 hw [] i1 h0 n0 Z0) hZ (hw _ (List.mem_of_getElem? (i := 3) rfl)) (hw _ (List.mem_of_getElem? (i := 2) rfl)) (by decide) (by decide)) (g := (mkF m 25 #[.val (.int i0), .val (.int i1), .val (.int (1 : Int32)), .unset, .unset] [(.int i1)])) rfl (by rw [hml]; rfl) (argsL := [(.int i1)]) (rest := []) (lenOf pd_0 rfl) rfl (by show 2 * 0 + _ ≤ _; exact Nat.le_of_eq rfl) (hb hby at_25) (fun _ _ => ⟨rfl, e0, (by decide : 0 + 1 ≤ _), (by decide : 0 + 8 ≤ _)⟩)
      dsimp only [Pt.U, Pt.locs, Pt.cells, Pt.slots] at X29 l29 y29 z29 st29 hQ29
      subst l29 y29 z29
      obtain ⟨z27_29, rfl, N29q, Kc29⟩ := hQ29
      have N29 := Fr.app N0 N29q
      have K29 : Keep h0 T29.heap [] := Keep.trans (Keep.refl h0 []) Kc29 all0
      have P29 : own_Go p e below S0 (T29.setTop (mkF m 28 #[.val (.int i0), .val (.int i1), .val (.int (1 : Int32)), .unset, .unset] [(.int z27_29)])) := fun t k => P28 t (st29 _ k)
      have F30 : Sta Z T29.heap "com/example/splice/splice/XmlVersion" "V1_1" "Lcom/example/splice/splice/XmlVersion;" (.ref z0_V1_1) := own_staK S_V1_1 Kc29 all0
      have P31 : own_Go p e below S0 (T29.setTop (mkF m 37 #[.val (.int i0), .val (.int i1), .val (.int (1 : Int32)), .val (.int (z27_29 + (i0 % (3 : Int32)))), .unset] [])) := fun t k => P29 t (by
        show Steps p.tables e below (T29.setTop (mkF m 28 #[.val (.int i0), .val (.int i1), .val (.int (1 : Int32)), .unset, .unset] [(.int z27_29)])) t
        refine XS.iloadN X29.here hx rfl (hb hby at_28) rfl ?_
        refine XS.iconst X29.here hx rfl (hb hby at_29) ?_
        refine iremM (g := (mkF m 30 #[.val (.int i0), .val (.int i1), .val (.int (1 : Int32)), .unset, .unset] [(.int (3 : Int32)), (.int i0), (.int z27_29)])) X29 hx rfl (hb hby at_30) rfl (by decide) ?_
        refine XS.iadd X29.here hx rfl (hb hby at_31) rfl ?_
        refine XS.istoreN X29.here hx rfl (hb hby at_32) rfl (l' := #[.val (.int i0), .val (.int i1), .val (.int (1 : Int32)), .val (.int (z27_29 + (i0 % (3 : Int32)))), .unset]) rfl ?_
        refine XS.iloadN X29.here hx rfl (hb hby at_33) rfl ?_
        show Steps p.tables e below (T29.setTop (mkF m 34 #[.val (.int i0), .val (.int i1), .val (.int (1 : Int32)), .val (.int (z27_29 + (i0 % (3 : Int32)))), .unset] [(.int (1 : Int32))])) t
        refine XS.ifNo X29.here hx rfl (hb hby at_34) rfl ((if0 _ _).trans (feq (by decide)).1) ?_
        show Steps p.tables e below (T29.setTop (mkF m 37 #[.val (.int i0), .val (.int i1), .val (.int (1 : Int32)), .val (.int (z27_29 + (i0 % (3 : Int32)))), .unset] [])) t
        exact k)
      obtain ⟨T32, X32, e32, st32⟩ := getS2 X29 hx hZ hown (host := "") (Or.inl (hw _ (List.mem_of_getElem? (i := 24) rfl))) Via.refl rfl F30 (g := (mkF m 37 #[.val (.int i0), .val (.int i1), .val (.int (1 : Int32)), .val (.int (z27_29 + (i0 % (3 : Int32)))), .unset] [])) rfl (hb hby at_37)
      have P32 : own_Go p e below S0 (T32.setTop (mkF m 40 #[.val (.int i0), .val (.int i1), .val (.int (1 : Int32)), .val (.int (z27_29 + (i0 % (3 : Int32)))), .unset] [(.ref z0_V1_1)])) := fun t k => P31 t (st32 _ k)
      have F33 : Exa Z T29.heap z0_V1_1 "com/example/splice/splice/XmlVersion" := E_z0_V1_1.keep Kc29
      have P34 : own_Go p e below S0 (T32.setTop (mkF m 51 #[.val (.int i0), .val (.int i1), .val (.int (1 : Int32)), .val (.int (z27_29 + (i0 % (3 : Int32)))), .val (.ref z0_V1_1)] [(.int (z27_29 + (i0 % (3 : Int32)))), (.ref z0_V1_1)])) := fun t k => P32 t (by
        show Steps p.tables e below (T32.setTop (mkF m 40 #[.val (.int i0), .val (.int i1), .val (.int (1 : Int32)), .val (.int (z27_29 + (i0 % (3 : Int32)))), .unset] [(.ref z0_V1_1)])) t
        refine XS.goto X32.here hx rfl (pc0 := 40) (pc' := 46) rfl (hb hby at_40) (by decide) (by decide) ?_
        refine XS.astore X32.here hx rfl (hb hby at_46) rfl rfl (l' := #[.val (.int i0), .val (.int i1), .val (.int (1 : Int32)), .val (.int (z27_29 + (i0 % (3 : Int32)))), .val (.ref z0_V1_1)]) rfl ?_
        refine XS.aload X32.here hx rfl (hb hby at_48) rfl rfl ?_
        refine XS.iloadN X32.here hx rfl (hb hby at_50) rfl ?_
        show Steps p.tables e below (T32.setTop (mkF m 51 #[.val (.int i0), .val (.int i1), .val (.int (1 : Int32)), .val (.int (z27_29 + (i0 % (3 : Int32)))), .val (.ref z0_V1_1)] [(.int (z27_29 + (i0 % (3 : Int32)))), (.ref z0_V1_1)])) t
        exact k)
      obtain ⟨cq35, kq35, q35a, q35b, q35c⟩ := isOf hZ e32 F33
      obtain ⟨_, _, ⟨T35, L35, k35, n35⟩, -, X35, ⟨Lc35, hQ35, l35, y35, z35⟩, st35⟩ := X32.virtualBack hx (y := (⟨"com/example/splice/splice/XmlVersion", "allows", "(I)Z"⟩ : MethodName)) (z := (⟨"com/example/splice/splice/XmlVersion", "allows", "(I)Z"⟩ : MethodName)) hown (mvT hZ (hw _ (List.mem_of_getElem? (i := 12) rfl))) (mvT hZ (hw _ (List.mem_of_getElem? (i := 13) rfl))) (notFace_of_selects (args := #[]) (mvT hZ (hw _ (List.mem_of_getElem? (i := 15) rfl)))) (mvT hZ (hw _ (List.mem_of_getElem? (i := 15) rfl))) (mvT hZ (hw _ (List.mem_of_getElem? (i := 14) rfl))) (by decide) (backOf (W := 0) (rm2a l Z a0 hw [] z0_V1_1 (z27_29 + (i0 % (3 : Int32))) T29.heap n0 (Nat.le_trans Z0 K29.1) F30) hZ (hw _ (List.mem_of_getElem? (i := 16) rfl)) (hw _ (List.mem_of_getElem? (i := 10) rfl)) (by decide) (by decide)) q35a q35c (g := (mkF m 51 #[.val (.int i0), .val (.int i1), .val (.int (1 : Int32)), .val (.int (z27_29 + (i0 % (3 : Int32)))), .val (.ref z0_V1_1)] [(.int (z27_29 + (i0 % (3 : Int32)))), (.ref z0_V1_1)])) rfl (by rw [hml]; rfl) (Steps.refl _) (argsL := [(.int (z27_29 + (i0 % (3 : Int32))))]) (rest := []) (lenOf pd_1 rfl) rfl (by show 2 * 0 + _ ≤ _; exact Nat.le_of_eq rfl) (hb hby at_51) (fun _ _ => ⟨rfl, e32, (by decide : 1 + 0 ≤ _), (by decide : 8 + 0 ≤ _)⟩)
      dsimp only [Pt.U, Pt.locs, Pt.cells, Pt.slots] at X35 l35 y35 z35 st35 hQ35
      subst l35 y35 z35
      obtain ⟨rfl, N35q, e35⟩ := hQ35
      have N35 := Fr.app N29 N35q
      have P35 : own_Go p e below S0 (T35.setTop (mkF m 54 #[.val (.int i0), .val (.int i1), .val (.int (1 : Int32)), .val (.int (z27_29 + (i0 % (3 : Int32)))), .val (.ref z0_V1_1)] [(.int (r2a (z27_29 + (i0 % (3 : Int32)))))])) := fun t k => P34 t (st35.trans k)
      have P36 : own_Go p e below S0 (T35.setTop (mkF m 56 #[.val (.int i0), .val (.int i1), .val (.int (1 : Int32)), .val (.int (z27_29 + (i0 % (3 : Int32)))), .val (.ref z0_V1_1)] [(.int (z27_29 + (i0 % (3 : Int32)))), (.int (1 : Int32)), (.int (r2a (z27_29 + (i0 % (3 : Int32)))))])) := fun t k => P35 t (by
        show Steps p.tables e below (T35.setTop (mkF m 54 #[.val (.int i0), .val (.int i1), .val (.int (1 : Int32)), .val (.int (z27_29 + (i0 % (3 : Int32)))), .val (.ref z0_V1_1)] [(.int (r2a (z27_29 + (i0 % (3 : Int32)))))])) t
        refine XS.iloadN X35.here hx rfl (hb hby at_54) rfl ?_
        refine XS.iloadN X35.here hx rfl (hb hby at_55) rfl ?_
        show Steps p.tables e below (T35.setTop (mkF m 56 #[.val (.int i0), .val (.int i1), .val (.int (1 : Int32)), .val (.int (z27_29 + (i0 % (3 : Int32)))), .val (.ref z0_V1_1)] [(.int (z27_29 + (i0 % (3 : Int32)))), (.int (1 : Int32)), (.int (r2a (z27_29 + (i0 % (3 : Int32)))))])) t
        exact k)
      obtain ⟨_, _, ⟨T37, L37, k37, n37⟩, -, X37, ⟨Lc37, hQ37, l37, y37, z37⟩, st37⟩ := Jvm.LawKit.callS X35 hx (y := (⟨"com/example/splice/splice/XmlVersionAllowsPinLaw", "expected", "(ZI)Z"⟩ : MethodName)) hown (mvT hZ (hw _ (List.mem_of_getElem? (i := 19) rfl))) (mvT hZ (hw _ (List.mem_of_getElem? (i := 20) rfl))) (mvT hZ (hw _ (List.mem_of_getElem? (i := 2) rfl))) (mvT hZ (hw _ (List.mem_of_getElem? (i := 21) rfl))) (by decide) (backOf (W := 1) (rm3t l Z a0 hw [] (z27_29 + (i0 % (3 : Int32))) T29.heap n0 (Nat.le_trans Z0 K29.1)) hZ (hw _ (List.mem_of_getElem? (i := 21) rfl)) (hw _ (List.mem_of_getElem? (i := 2) rfl)) (by decide) (by decide)) (g := (mkF m 56 #[.val (.int i0), .val (.int i1), .val (.int (1 : Int32)), .val (.int (z27_29 + (i0 % (3 : Int32)))), .val (.ref z0_V1_1)] [(.int (z27_29 + (i0 % (3 : Int32)))), (.int (1 : Int32)), (.int (r2a (z27_29 + (i0 % (3 : Int32)))))])) rfl (by rw [hml]; rfl) (argsL := [(.int (1 : Int32)), (.int (z27_29 + (i0 % (3 : Int32))))]) (rest := [(.int (r2a (z27_29 + (i0 % (3 : Int32)))))]) (lenOf pd_2 rfl) rfl (by show 2 * 0 + _ ≤ _; exact Nat.le_of_eq rfl) (hb hby at_56) (fun _ _ => ⟨rfl, e35, (by decide : 1 + 0 ≤ _), (by decide : 8 + 0 ≤ _)⟩)
      dsimp only [Pt.U, Pt.locs, Pt.cells, Pt.slots] at X37 l37 y37 z37 st37 hQ37
      subst l37 y37 z37
      obtain ⟨rfl, N37q, e37⟩ := hQ37
      have N37 := Fr.app N35 N37q
      have P37 : own_Go p e below S0 (T37.setTop (mkF m 59 #[.val (.int i0), .val (.int i1), .val (.int (1 : Int32)), .val (.int (z27_29 + (i0 % (3 : Int32)))), .val (.ref z0_V1_1)] [(.int (r3t (z27_29 + (i0 % (3 : Int32))))), (.int (r2a (z27_29 + (i0 % (3 : Int32)))))])) := fun t k => P36 t (st37 _ k)
      have c38 : (r2a (z27_29 + (i0 % (3 : Int32)))) = (r3t (z27_29 + (i0 % (3 : Int32)))) := own_r2a _
      have P39 : own_Go p e below S0 (T37.setTop (mkF m 67 #[.val (.int i0), .val (.int i1), .val (.int (1 : Int32)), .val (.int (z27_29 + (i0 % (3 : Int32)))), .val (.ref z0_V1_1)] [(.int (1 : Int32))])) := fun t k => P37 t (by
        show Steps p.tables e below (T37.setTop (mkF m 59 #[.val (.int i0), .val (.int i1), .val (.int (1 : Int32)), .val (.int (z27_29 + (i0 % (3 : Int32)))), .val (.ref z0_V1_1)] [(.int (r3t (z27_29 + (i0 % (3 : Int32))))), (.int (r2a (z27_29 + (i0 % (3 : Int32)))))])) t
        refine XS.icmpNo X37.here hx rfl (hb hby at_59) rfl (teq c38).2 ?_
        refine XS.iconst X37.here hx rfl (hb hby at_62) ?_
        refine XS.goto X37.here hx rfl (pc0 := 63) (pc' := 67) rfl (hb hby at_63) (by decide) (by decide) ?_
        show Steps p.tables e below (T37.setTop (mkF m 67 #[.val (.int i0), .val (.int i1), .val (.int (1 : Int32)), .val (.int (z27_29 + (i0 % (3 : Int32)))), .val (.ref z0_V1_1)] [(.int (1 : Int32))])) t
        exact k)
      obtain ⟨fs, hr, hrun, hended, hW, hsame⟩ := X37.leave (v := some (.int (1 : Int32))) (fun h => by rw [Bd.returns] at h; cases h)
      refine ⟨_, _, own_from hS0 (P39 _ ?_), hrun, hended, _, _, rfl, ?_, ⟨_, rfl⟩, hW, hsame.mono (by decide) (by decide)⟩
      · show Steps p.tables e below (T37.setTop (mkF m 67 #[.val (.int i0), .val (.int i1), .val (.int (1 : Int32)), .val (.int (z27_29 + (i0 % (3 : Int32)))), .val (.ref z0_V1_1)] [(.int (1 : Int32))])) _
        exact retN X37 hx (t := .boolean) Bd.returns (by simp) (hb hby at_67) hr
      · show Q0 Z i0 i1 z0_V1_0 z0_V1_1 h0 n0 _ T37.heap _
        rw [e37]
        exact ⟨rfl, N37⟩
    · skip
      have P40 : own_Go p e below S0 (s₁.setTop (mkF m 37 #[.val (.int i0), .val (.int i1), .val (.int (1 : Int32)), .val (.int i0), .unset] [])) := fun t k => P26 t (by
        show Steps p.tables e below (s₁.setTop (mkF m 17 #[.val (.int i0), .val (.int i1), .val (.int (1 : Int32)), .unset, .unset] [(.int (i1 &&& (8 : Int32)))])) t
        refine XS.ifNo X0.here hx rfl (hb hby at_17) rfl ((if0 _ _).trans (feq c27).1) ?_
        refine XS.iloadN X0.here hx rfl (hb hby at_20) rfl ?_
        refine XS.goto X0.here hx rfl (pc0 := 21) (pc' := 32) rfl (hb hby at_21) (by decide) (by decide) ?_
        refine XS.istoreN X0.here hx rfl (hb hby at_32) rfl (l' := #[.val (.int i0), .val (.int i1), .val (.int (1 : Int32)), .val (.int i0), .unset]) rfl ?_
        refine XS.iloadN X0.here hx rfl (hb hby at_33) rfl ?_
        refine XS.ifNo X0.here hx rfl (hb hby at_34) rfl ((if0 _ _).trans (feq (by decide)).1) ?_
        show Steps p.tables e below (s₁.setTop (mkF m 37 #[.val (.int i0), .val (.int i1), .val (.int (1 : Int32)), .val (.int i0), .unset] [])) t
        exact k)
      obtain ⟨T41, X41, e41, st41⟩ := getS2 X0 hx hZ hown (host := "") (Or.inl (hw _ (List.mem_of_getElem? (i := 24) rfl))) Via.refl e0 S_V1_1 (g := (mkF m 37 #[.val (.int i0), .val (.int i1), .val (.int (1 : Int32)), .val (.int i0), .unset] [])) rfl (hb hby at_37)
      have P41 : own_Go p e below S0 (T41.setTop (mkF m 40 #[.val (.int i0), .val (.int i1), .val (.int (1 : Int32)), .val (.int i0), .unset] [(.ref z0_V1_1)])) := fun t k => P40 t (st41 _ k)
      have P42 : own_Go p e below S0 (T41.setTop (mkF m 51 #[.val (.int i0), .val (.int i1), .val (.int (1 : Int32)), .val (.int i0), .val (.ref z0_V1_1)] [(.int i0), (.ref z0_V1_1)])) := fun t k => P41 t (by
        show Steps p.tables e below (T41.setTop (mkF m 40 #[.val (.int i0), .val (.int i1), .val (.int (1 : Int32)), .val (.int i0), .unset] [(.ref z0_V1_1)])) t
        refine XS.goto X41.here hx rfl (pc0 := 40) (pc' := 46) rfl (hb hby at_40) (by decide) (by decide) ?_
        refine XS.astore X41.here hx rfl (hb hby at_46) rfl rfl (l' := #[.val (.int i0), .val (.int i1), .val (.int (1 : Int32)), .val (.int i0), .val (.ref z0_V1_1)]) rfl ?_
        refine XS.aload X41.here hx rfl (hb hby at_48) rfl rfl ?_
        refine XS.iloadN X41.here hx rfl (hb hby at_50) rfl ?_
        show Steps p.tables e below (T41.setTop (mkF m 51 #[.val (.int i0), .val (.int i1), .val (.int (1 : Int32)), .val (.int i0), .val (.ref z0_V1_1)] [(.int i0), (.ref z0_V1_1)])) t
        exact k)
      obtain ⟨cq43, kq43, q43a, q43b, q43c⟩ := isOf hZ e41 E_z0_V1_1
      obtain ⟨_, _, ⟨T43, L43, k43, n43⟩, -, X43, ⟨Lc43, hQ43, l43, y43, z43⟩, st43⟩ := X41.virtualBack hx (y := (⟨"com/example/splice/splice/XmlVersion", "allows", "(I)Z"⟩ : MethodName)) (z := (⟨"com/example/splice/splice/XmlVersion", "allows", "(I)Z"⟩ : MethodName)) hown (mvT hZ (hw _ (List.mem_of_getElem? (i := 12) rfl))) (mvT hZ (hw _ (List.mem_of_getElem? (i := 13) rfl))) (notFace_of_selects (args := #[]) (mvT hZ (hw _ (List.mem_of_getElem? (i := 15) rfl)))) (mvT hZ (hw _ (List.mem_of_getElem? (i := 15) rfl))) (mvT hZ (hw _ (List.mem_of_getElem? (i := 14) rfl))) (by decide) (backOf (W := 0) (rm2a l Z a0 hw [] z0_V1_1 i0 h0 n0 Z0 S_V1_1) hZ (hw _ (List.mem_of_getElem? (i := 16) rfl)) (hw _ (List.mem_of_getElem? (i := 10) rfl)) (by decide) (by decide)) q43a q43c (g := (mkF m 51 #[.val (.int i0), .val (.int i1), .val (.int (1 : Int32)), .val (.int i0), .val (.ref z0_V1_1)] [(.int i0), (.ref z0_V1_1)])) rfl (by rw [hml]; rfl) (Steps.refl _) (argsL := [(.int i0)]) (rest := []) (lenOf pd_1 rfl) rfl (by show 2 * 0 + _ ≤ _; exact Nat.le_of_eq rfl) (hb hby at_51) (fun _ _ => ⟨rfl, e41, (by decide : 0 + 0 ≤ _), (by decide : 0 + 0 ≤ _)⟩)
      dsimp only [Pt.U, Pt.locs, Pt.cells, Pt.slots] at X43 l43 y43 z43 st43 hQ43
      subst l43 y43 z43
      obtain ⟨rfl, N43q, e43⟩ := hQ43
      have N43 := Fr.app N0 N43q
      have P43 : own_Go p e below S0 (T43.setTop (mkF m 54 #[.val (.int i0), .val (.int i1), .val (.int (1 : Int32)), .val (.int i0), .val (.ref z0_V1_1)] [(.int (r2a i0))])) := fun t k => P42 t (st43.trans k)
      have P44 : own_Go p e below S0 (T43.setTop (mkF m 56 #[.val (.int i0), .val (.int i1), .val (.int (1 : Int32)), .val (.int i0), .val (.ref z0_V1_1)] [(.int i0), (.int (1 : Int32)), (.int (r2a i0))])) := fun t k => P43 t (by
        show Steps p.tables e below (T43.setTop (mkF m 54 #[.val (.int i0), .val (.int i1), .val (.int (1 : Int32)), .val (.int i0), .val (.ref z0_V1_1)] [(.int (r2a i0))])) t
        refine XS.iloadN X43.here hx rfl (hb hby at_54) rfl ?_
        refine XS.iloadN X43.here hx rfl (hb hby at_55) rfl ?_
        show Steps p.tables e below (T43.setTop (mkF m 56 #[.val (.int i0), .val (.int i1), .val (.int (1 : Int32)), .val (.int i0), .val (.ref z0_V1_1)] [(.int i0), (.int (1 : Int32)), (.int (r2a i0))])) t
        exact k)
      obtain ⟨_, _, ⟨T45, L45, k45, n45⟩, -, X45, ⟨Lc45, hQ45, l45, y45, z45⟩, st45⟩ := Jvm.LawKit.callS X43 hx (y := (⟨"com/example/splice/splice/XmlVersionAllowsPinLaw", "expected", "(ZI)Z"⟩ : MethodName)) hown (mvT hZ (hw _ (List.mem_of_getElem? (i := 19) rfl))) (mvT hZ (hw _ (List.mem_of_getElem? (i := 20) rfl))) (mvT hZ (hw _ (List.mem_of_getElem? (i := 2) rfl))) (mvT hZ (hw _ (List.mem_of_getElem? (i := 21) rfl))) (by decide) (backOf (W := 1) (rm3t l Z a0 hw [] i0 h0 n0 Z0) hZ (hw _ (List.mem_of_getElem? (i := 21) rfl)) (hw _ (List.mem_of_getElem? (i := 2) rfl)) (by decide) (by decide)) (g := (mkF m 56 #[.val (.int i0), .val (.int i1), .val (.int (1 : Int32)), .val (.int i0), .val (.ref z0_V1_1)] [(.int i0), (.int (1 : Int32)), (.int (r2a i0))])) rfl (by rw [hml]; rfl) (argsL := [(.int (1 : Int32)), (.int i0)]) (rest := [(.int (r2a i0))]) (lenOf pd_2 rfl) rfl (by show 2 * 0 + _ ≤ _; exact Nat.le_of_eq rfl) (hb hby at_56) (fun _ _ => ⟨rfl, e43, (by decide : 0 + 0 ≤ _), (by decide : 0 + 0 ≤ _)⟩)
      dsimp only [Pt.U, Pt.locs, Pt.cells, Pt.slots] at X45 l45 y45 z45 st45 hQ45
      subst l45 y45 z45
      obtain ⟨rfl, N45q, e45⟩ := hQ45
      have N45 := Fr.app N43 N45q
      have P45 : own_Go p e below S0 (T45.setTop (mkF m 59 #[.val (.int i0), .val (.int i1), .val (.int (1 : Int32)), .val (.int i0), .val (.ref z0_V1_1)] [(.int (r3t i0)), (.int (r2a i0))])) := fun t k => P44 t (st45 _ k)
      have c46 : (r2a i0) = (r3t i0) := own_r2a _
      have P47 : own_Go p e below S0 (T45.setTop (mkF m 67 #[.val (.int i0), .val (.int i1), .val (.int (1 : Int32)), .val (.int i0), .val (.ref z0_V1_1)] [(.int (1 : Int32))])) := fun t k => P45 t (by
        show Steps p.tables e below (T45.setTop (mkF m 59 #[.val (.int i0), .val (.int i1), .val (.int (1 : Int32)), .val (.int i0), .val (.ref z0_V1_1)] [(.int (r3t i0)), (.int (r2a i0))])) t
        refine XS.icmpNo X45.here hx rfl (hb hby at_59) rfl (teq c46).2 ?_
        refine XS.iconst X45.here hx rfl (hb hby at_62) ?_
        refine XS.goto X45.here hx rfl (pc0 := 63) (pc' := 67) rfl (hb hby at_63) (by decide) (by decide) ?_
        show Steps p.tables e below (T45.setTop (mkF m 67 #[.val (.int i0), .val (.int i1), .val (.int (1 : Int32)), .val (.int i0), .val (.ref z0_V1_1)] [(.int (1 : Int32))])) t
        exact k)
      obtain ⟨fs, hr, hrun, hended, hW, hsame⟩ := X45.leave (v := some (.int (1 : Int32))) (fun h => by rw [Bd.returns] at h; cases h)
      refine ⟨_, _, own_from hS0 (P47 _ ?_), hrun, hended, _, _, rfl, ?_, ⟨_, rfl⟩, hW, hsame.mono (by decide) (by decide)⟩
      · show Steps p.tables e below (T45.setTop (mkF m 67 #[.val (.int i0), .val (.int i1), .val (.int (1 : Int32)), .val (.int i0), .val (.ref z0_V1_1)] [(.int (1 : Int32))])) _
        exact retN X45 hx (t := .boolean) Bd.returns (by simp) (hb hby at_67) hr
      · show Q0 Z i0 i1 z0_V1_0 z0_V1_1 h0 n0 _ T45.heap _
        rw [e45]
        exact ⟨rfl, N45⟩
set_option maxRecDepth 65536 in
set_option maxHeartbeats 40000000 in
theorem comes_1 {Post : Tables → Env → Array Value → State → Outcome → State → Prop} (hpost : ∀ tb e args s v u, (limb_1_1.after args s (.returned v) u = true ∧ limb_1_2.after args s (.returned v) u = true ∧ True) → FrameEnd s (.returned v) u (Jvm.fieldLocs frame_1_writes args s ++ Jvm.arrayLocs frame_1_arrays args s ++ Jvm.staticLocs frame_1_statics s) 16 128 → Post tb e args s (.returned v) u) :
    ArmFor flags0 classFile x code maxLocals ret World_1 tables_1 room_1 Calls_1 rest_1 Pre_1 Post := by
  intro l hfl _ _ p e ha hc hk s m args below hf hA hF happ hP
  obtain ⟨hcalls, hrest, hpre⟩ := hP
  obtain ⟨-, -, -, hnamed, -, -, -, hat⟩ := (Spec.applies_iff hf).mp happ
  obtain ⟨hg, hn⟩ := and_e (Cond.before_iff.mp (show (Jvm.Cond.and given_1 narrow_1).before args s = true from hpre))
  obtain ⟨ga1, gb1⟩ := and_e hg
  obtain ⟨ga2, gb2⟩ := and_e gb1
  obtain ⟨w0, w1, rfl⟩ : ∃ w0 w1 : Value, args = #[w0, w1] := by
    have hs : args.size = 2 := by simpa [Cond.value, given_1] using ga1
    obtain ⟨L⟩ := args
    match L, hs with
    | [w0, w1], _ => exact ⟨w0, w1, rfl⟩
  have hw := fun d (hd : d ∈ tables_1) => atoms_spec (ws := Jvm.Cond.code x code maxLocals ret :: tables_1) hat d (List.mem_cons_of_mem _ hd)
  have hfit : Fit s := fun {y c} hc i hi => by
    obtain ⟨ha, rfl⟩ := Array.getElem?_eq_some_iff.mp hc
    have q := List.all_eq_true.mp ((Array.all_eq_true_iff_forall_mem.mp hF) _ (Array.getElem_mem ha)) i (List.mem_range.mpr hi)
    simpa [Array.getElem?_eq_getElem hi] using q
  obtain ⟨i0, ei0⟩ := is_v ga2
  obtain rfl : w0 = (.int i0) := Option.some.inj ei0
  obtain ⟨i1, ei1⟩ := is_v gb2
  obtain rfl : w1 = (.int i1) := Option.some.inj ei1
  obtain ⟨ga3, gb3⟩ := and_e hn
  obtain ⟨ga4, gb4⟩ := and_e gb3
  obtain ⟨ga5, gb5⟩ := and_e gb4
  obtain ⟨z0_V1_0, ev1⟩ := exa_v ga3
  have S_V1_0 : Sta s s.heap "com/example/splice/splice/XmlVersion" "V1_0" "Lcom/example/splice/splice/XmlVersion;" (.ref z0_V1_0) := Sta.start ev1 (Or.inr ⟨(hw _ (List.mem_of_getElem? (i := 10) rfl)), (hw _ (List.mem_of_getElem? (i := 11) rfl))⟩)
  have Ex_z0_V1_0 : Exa s s.heap z0_V1_0 "com/example/splice/splice/XmlVersion" := Exa.start ev1 ga3
  have Od_z0_V1_0 : Fld s s.heap z0_V1_0 "java/lang/Enum" "ordinal" "I" (.int (0 : Int32)) := Fld.start ((fld_at ev1).symm.trans (Cond.eq_int (Cond.before_iff.mpr ga5) rfl))
  obtain ⟨z0_V1_1, ev2⟩ := exa_v ga4
  have S_V1_1 : Sta s s.heap "com/example/splice/splice/XmlVersion" "V1_1" "Lcom/example/splice/splice/XmlVersion;" (.ref z0_V1_1) := Sta.start ev2 (Or.inr ⟨(hw _ (List.mem_of_getElem? (i := 10) rfl)), (hw _ (List.mem_of_getElem? (i := 18) rfl))⟩)
  have Ex_z0_V1_1 : Exa s s.heap z0_V1_1 "com/example/splice/splice/XmlVersion" := Exa.start ev2 ga4
  have Od_z0_V1_1 : Fld s s.heap z0_V1_1 "java/lang/Enum" "ordinal" "I" (.int (1 : Int32)) := Fld.start ((fld_at ev2).symm.trans (Cond.eq_int (Cond.before_iff.mpr gb5) rfl))
  obtain ⟨n, o, h1, h2, h3, _, L, rfl, ⟨rfl, N⟩, hq⟩ := rm0 l s _ hw tables_1 i0 i1 z0_V1_0 z0_V1_1 s.heap s.heap.size (Nat.le_refl _) S_V1_0 Ex_z0_V1_0 S_V1_1 (Fld.ne Od_z0_V1_0 Od_z0_V1_1 (fun q => absurd (Value.int.inj q) (by decide))) Ex_z0_V1_1 p e ha hc hk s m _ below hf ((Spec.applies_iff_loose hf).mp happ).1 ⟨rfl, State.Warmed39.refl s, rfl⟩ trivial
  refine ⟨n, _, h1, h2, h3, hpost _ _ _ _ _ _ ⟨Cond.after_iff.mpr rfl, Cond.after_iff.mpr (eq_i res_at (Term.int_eval (1)) rfl), trivial⟩ ⟨hq.1, hq.2.1, (hq.2.2.sift fun y hy => Or.inr (N y hy)).mono (by decide) (by decide)⟩⟩
theorem main_1_1 : Claimed_1_1 := comes_1 fun _ _ _ _ _ _ h hF => ⟨h.1, hF⟩
theorem main_1_2 : Claimed_1_2 := comes_1 fun _ _ _ _ _ _ h hF => ⟨h.2.1, hF⟩
end Jvm.Pilot.@@N@@
namespace Jvm.Pilot.@@N@@
open Jvm Jvm.ClassFile Sem Op Lib Jvm.Free Jvm.Stand Jvm.Pilot.@@N@@.Jvm.D
/-! MADE BY PROGRAM (witnessworld.py) out of the Statement's table words and the real class files: 12 classes; the members and pool entries that the words name. The judged class is class 1, her method 3. -/
namespace start1
open Jvm.ClassFile
def u (s : String) : CpInfo := .utf8 (stringToUtf16 s)
/-- a pool by its gaps: so many unusable entries, then the entry; so many at the end -/
def gap : Nat → List CpInfo → List CpInfo
  | 0, r => r
  | n + 1, r => .unusable :: gap n r
def poolList (es : List (Nat × CpInfo)) (last : Nat) : List CpInfo := es.foldr (fun e r => gap e.1 (e.2 :: r)) (gap last [])
def pool (es : List (Nat × CpInfo)) (last : Nat) : Array CpInfo := ⟨poolList es last⟩
def fileOf (pool : Array CpInfo) (this : Nat) (attrs : Array Attribute := #[]) (ms : Array MethodInfo := #[]) (fl : Nat := 33) (sup : Nat := 0) (ifs : Array Nat := #[]) (fds : Array FieldInfo := #[]) : ClassFile where
  minorVersion := 0
  majorVersion := 65
  constantPool := pool
  accessFlags := fl
  thisClass := this
  superClass := sup
  interfaces := ifs
  fields := fds
  methods := ms
  attributes := attrs
def plain (name : String) (sup : Option ClassId) : Class where
  name := name
  kind := .ordinary
  loader := none
  accessFlags := 33
  super := sup
  interfaces := #[]
  cf := none
  fields := #[]
  methods := #[]
  instanceTypes := #[]
  staticTypes := #[]
  resolved := #[]
  callSites := []
  init := .initialized
  statics := none
  mirror := none

def pool0 : Array CpInfo := pool [(5, u "<init>"), (0, u "()V"), (1, .class_ 10), (1, u "java/lang/Object")] 113

def k0m0 : Method := { name := "<init>", desc := "()V", sig := { parameters := [], returnType := none }, accessFlags := 1, code := none }
/-- java/lang/Object -/
def k0 : Class := { plain "java/lang/Object" none with
  accessFlags := 33
  interfaces := #[]
  cf := some (fileOf pool0 8 #[] #[{ accessFlags := 1, nameIndex := 5, descriptorIndex := 6, attributes := #[] }] 33 0 #[] #[])
  fields := #[]
  methods := #[k0m0]
  instanceTypes := #[]
  staticTypes := #[]
  resolved := Array.replicate 124 none
  statics := none }

def pool1 : Array CpInfo := pool [(2, .class_ 4), (1, u "java/lang/Object"), (0, u "<init>"), (0, u "()V"), (0, .integer 55295), (0, .integer 57343), (0, .integer 65534), (0, .integer 1114111), (0, .integer 55296), (0, .integer 65535), (0, .methodref 14 15), (0, .class_ 16), (0, .nameAndType 17 18), (0, u "com/example/splice/splice/XmlVersionAllowsPinLaw"), (0, u "pivot"), (0, u "(I)I"), (0, .fieldref 20 21), (0, .class_ 22), (0, .nameAndType 23 24), (0, u "com/example/splice/splice/XmlVersion"), (0, u "V1_1"), (0, u "Lcom/example/splice/splice/XmlVersion;"), (0, .fieldref 20 26), (0, .nameAndType 27 24), (0, u "V1_0"), (0, .methodref 20 29), (0, .nameAndType 30 31), (0, u "allows"), (0, u "(I)Z"), (0, .methodref 14 33), (0, .nameAndType 34 35), (0, u "expected"), (0, u "(ZI)Z"), (3, u "law"), (0, u "(II)Z")] 2

def k1m0 : Method := { name := "<init>", desc := "()V", sig := { parameters := [], returnType := none }, accessFlags := 1, code := none }
def k1c1 : Code := { maxStack := 4, maxLocals := 2, code := method_2_code, exceptionTable := #[], attributes := #[] }
def k1m1 : Method := { name := "pivot", desc := "(I)I", sig := { parameters := [.int], returnType := some .int }, accessFlags := 10, code := some k1c1 }
def k1c2 : Code := { maxStack := 2, maxLocals := 2, code := method_3_code, exceptionTable := #[], attributes := #[] }
def k1m2 : Method := { name := "expected", desc := "(ZI)Z", sig := { parameters := [.boolean, .int], returnType := some .boolean }, accessFlags := 10, code := some k1c2 }
def k1c3 : Code := { maxStack := 3, maxLocals := 5, code := code, exceptionTable := #[], attributes := #[] }
def k1m3 : Method := { name := "law", desc := "(II)Z", sig := { parameters := [.int, .int], returnType := some .boolean }, accessFlags := 9, code := some k1c3 }
/-- com/example/splice/splice/XmlVersionAllowsPinLaw -/
def k1 : Class := { plain "com/example/splice/splice/XmlVersionAllowsPinLaw" (some 0) with
  accessFlags := 49
  interfaces := #[]
  cf := some (fileOf pool1 14 #[] #[{ accessFlags := 1, nameIndex := 5, descriptorIndex := 6, attributes := #[] }, { accessFlags := 10, nameIndex := 17, descriptorIndex := 18, attributes := #[] }, { accessFlags := 10, nameIndex := 34, descriptorIndex := 35, attributes := #[] }, { accessFlags := 9, nameIndex := 39, descriptorIndex := 40, attributes := #[] }] 49 2 #[] #[])
  fields := #[]
  methods := #[k1m0, k1m1, k1m2, k1m3]
  instanceTypes := #[]
  staticTypes := #[]
  resolved := Array.replicate 43 none
  statics := none }

def pool2 : Array CpInfo := pool [(1, .class_ 2), (0, u "java/lang/constant/Constable"), (0, .class_ 4), (0, u "java/lang/Object")] 6

/-- java/lang/constant/Constable -/
def k2 : Class := { plain "java/lang/constant/Constable" (some 0) with
  accessFlags := 1537
  interfaces := #[]
  cf := some (fileOf pool2 1 #[] #[] 1537 3 #[] #[])
  fields := #[]
  methods := #[]
  instanceTypes := #[]
  staticTypes := #[]
  resolved := Array.replicate 11 none
  statics := none }

def pool3 : Array CpInfo := pool [(1, .class_ 2), (0, u "java/lang/Comparable"), (0, .class_ 4), (0, u "java/lang/Object")] 7

/-- java/lang/Comparable -/
def k3 : Class := { plain "java/lang/Comparable" (some 0) with
  accessFlags := 1537
  interfaces := #[]
  cf := some (fileOf pool3 1 #[] #[] 1537 3 #[] #[])
  fields := #[]
  methods := #[]
  instanceTypes := #[]
  staticTypes := #[]
  resolved := Array.replicate 12 none
  statics := none }

def pool4 : Array CpInfo := pool [(1, .class_ 2), (0, u "java/io/Serializable"), (0, .class_ 4), (0, u "java/lang/Object")] 2

/-- java/io/Serializable -/
def k4 : Class := { plain "java/io/Serializable" (some 0) with
  accessFlags := 1537
  interfaces := #[]
  cf := some (fileOf pool4 1 #[] #[] 1537 3 #[] #[])
  fields := #[]
  methods := #[]
  instanceTypes := #[]
  staticTypes := #[]
  resolved := Array.replicate 7 none
  statics := none }

def pool5 : Array CpInfo := pool [(2, .class_ 4), (1, u "java/lang/Enum"), (0, u "name"), (0, u "Ljava/lang/String;"), (2, u "ordinal"), (0, u "I"), (1, .class_ 14), (1, u "java/lang/Object"), (4, u "hash"), (86, .class_ 108), (1, u "java/lang/Enum$EnumDesc"), (2, .class_ 112), (0, u "java/lang/constant/Constable"), (0, .class_ 114), (0, u "java/lang/Comparable"), (0, .class_ 116), (0, u "java/io/Serializable")] 87

/-- java/lang/Enum -/
def k5 : Class := { plain "java/lang/Enum" (some 0) with
  accessFlags := 1057
  interfaces := #[2, 3, 4]
  cf := some (fileOf pool5 2 #[.nestMembers #[106]] #[] 1057 12 #[111, 113, 115] #[{ accessFlags := 18, nameIndex := 5, descriptorIndex := 6, attributes := #[] }, { accessFlags := 18, nameIndex := 9, descriptorIndex := 10, attributes := #[] }, { accessFlags := 2, nameIndex := 19, descriptorIndex := 10, attributes := #[] }])
  fields := #[{ name := "name", type := (.object "java/lang/String"), accessFlags := 18, slot := 0, constantValue := 0 }, { name := "ordinal", type := .int, accessFlags := 18, slot := 1, constantValue := 0 }, { name := "hash", type := .int, accessFlags := 2, slot := 2, constantValue := 0 }]
  methods := #[]
  instanceTypes := #[(.object "java/lang/String"), .int, .int]
  staticTypes := #[]
  resolved := Array.replicate 204 none
  statics := none }

def pool6 : Array CpInfo := pool [(1, .class_ 2), (0, u "com/example/splice/splice/XmlVersion"), (2, u "V1_0"), (0, u "Lcom/example/splice/splice/XmlVersion;"), (0, .fieldref 1 8), (0, .nameAndType 9 6), (0, u "V1_1"), (2, u "$VALUES"), (0, u "[Lcom/example/splice/splice/XmlVersion;"), (6, .class_ 22), (1, u "java/lang/Enum"), (8, u "number"), (0, u "Ljava/lang/String;"), (10, .integer 55295), (0, .integer 57344), (0, .integer 65533), (0, .integer 65536), (0, .integer 1114111), (2, u "allows"), (0, u "(I)Z")] 49

def k6c0 : Code := { maxStack := 2, maxLocals := 3, code := prog_177_method_7_code, exceptionTable := #[], attributes := #[] }
def k6m0 : Method := { name := "allows", desc := "(I)Z", sig := { parameters := [.int], returnType := some .boolean }, accessFlags := 0, code := some k6c0 }
/-- com/example/splice/splice/XmlVersion -/
def k6 : Class := { plain "com/example/splice/splice/XmlVersion" (some 5) with
  accessFlags := 16432
  interfaces := #[]
  cf := some (fileOf pool6 1 #[] #[{ accessFlags := 0, nameIndex := 50, descriptorIndex := 51, attributes := #[] }] 16432 20 #[] #[{ accessFlags := 16409, nameIndex := 5, descriptorIndex := 6, attributes := #[] }, { accessFlags := 16409, nameIndex := 9, descriptorIndex := 6, attributes := #[] }, { accessFlags := 18, nameIndex := 31, descriptorIndex := 32, attributes := #[] }, { accessFlags := 4122, nameIndex := 12, descriptorIndex := 13, attributes := #[] }])
  fields := #[{ name := "V1_0", type := (.object "com/example/splice/splice/XmlVersion"), accessFlags := 16409, slot := 0, constantValue := 0 }, { name := "V1_1", type := (.object "com/example/splice/splice/XmlVersion"), accessFlags := 16409, slot := 1, constantValue := 0 }, { name := "number", type := (.object "java/lang/String"), accessFlags := 18, slot := 3, constantValue := 0 }, { name := "$VALUES", type := (.array (.object "com/example/splice/splice/XmlVersion")), accessFlags := 4122, slot := 2, constantValue := 0 }]
  methods := #[k6m0]
  instanceTypes := #[(.object "java/lang/String"), .int, .int, (.object "java/lang/String")]
  staticTypes := #[(.object "com/example/splice/splice/XmlVersion"), (.object "com/example/splice/splice/XmlVersion"), (.array (.object "com/example/splice/splice/XmlVersion"))]
  resolved := Array.replicate 101 none
  statics := some 0 }

def pool7 : Array CpInfo := pool [(1, u "java/lang/Cloneable"), (0, .class_ 1), (0, u "java/lang/Object"), (0, .class_ 3)] 3

/-- java/lang/Cloneable -/
def k7 : Class := { plain "java/lang/Cloneable" (some 0) with
  accessFlags := 1537
  interfaces := #[]
  cf := some (fileOf pool7 2 #[] #[] 1537 4 #[] #[])
  fields := #[]
  methods := #[]
  instanceTypes := #[]
  staticTypes := #[]
  resolved := Array.replicate 8 none
  statics := none }

/-- the primitive byte -/
def k8 : Class := { plain "byte" none with kind := .primitive 'B', accessFlags := 0x411 }
/-- [B -/
def k9 : Class := { plain "[B" (some 0) with kind := .array 8 .byte, interfaces := #[7, 4], accessFlags := 1041 }

/-- the primitive int -/
def k10 : Class := { plain "int" none with kind := .primitive 'I', accessFlags := 0x411 }
/-- [I -/
def k11 : Class := { plain "[I" (some 0) with kind := .array 10 .int, interfaces := #[7, 4], accessFlags := 1041 }

def heap : Heap := #[{ cls := 6, slots := #[.ref 1, .ref 2, .null], vm := .statics 6 },
  { cls := 6, slots := #[.null, .int 0, .int 0, .null], vm := .none },
  { cls := 6, slots := #[.null, .int 1, .int 0, .null], vm := .none }]
def classes : Array Class := #[k0, k1, k2, k3, k4, k5, k6, k7, k8, k9, k10, k11]
def interned : List (Array UInt16 × Addr) := []
def slotsUsed : Nat := 11
def theMethod : MethodId := ⟨1, 3⟩
def args0 : Array Value := #[.int 5, .int 3]
def aboutOver (below : List Frame) : State where
  vm := { classes := classes, interned := interned.toArray }
  heap := heap
  slotsUsed := slotsUsed
  threads := #[{ frames := .invoking theMethod args0 :: below }]
def below0 : List Frame := [.native { method := ⟨0, 0⟩, args := #[] }]
def about1 : State := aboutOver below0
def p0 : Program := .bare "" "" ""
def e0 : Env := launch0.env 0 0 0
theorem w_frames : about1.frames = Frame.invoking theMethod args0 :: below0 := rfl
set_option maxRecDepth 65536 in
theorem w_args : argsFit about1.vm theMethod args0 = true := by decide +kernel
set_option maxRecDepth 65536 in
theorem w_heap : heapFits about1 = true := by decide +kernel
set_option maxRecDepth 65536 in
theorem w_runnable : about1.curStatus? = some .runnable := by decide +kernel
set_option maxRecDepth 65536 in
theorem w_alone : about1.alone = true := by decide +kernel
set_option maxRecDepth 65536 in
theorem w_named : about1.methodNamed? x = some theMethod := by decide +kernel
set_option maxRecDepth 65536 in
theorem w_hears : about1.hears theMethod below0 = true := by decide +kernel
set_option maxRecDepth 65536 in
theorem w_ripe : about1.ripe theMethod args0 below0 = true := by decide +kernel
theorem w_running : about1.status = .running := rfl
set_option maxRecDepth 65536 in
theorem w_room : about1.hasRoom e0.platform room_1 = true :=
  launch0.hasRoom_least _ room_1 (by decide +kernel) (by decide +kernel) (by decide +kernel) (by decide +kernel) (by decide +kernel) (by decide +kernel)
theorem allAtoms_all (ts : List Jvm.Cond) (a : Array Jvm.Value) (st : Jvm.State) : (allAtoms ts).before a st = ts.all (fun c => c.before a st) := by
  induction ts with
  | nil => rfl
  | cons c t ih =>
    show (Jvm.Cond.and c (allAtoms t)).before a st = _
    rw [Jvm.Cond.before_and, ih, List.all_cons]
def words1 : List Jvm.Cond := Jvm.Cond.code x code maxLocals ret :: tables_1
/-- a 'code' word, met by the world's own term for the bytes: nothing is compared byte by byte -/
theorem code_word {y : MethodName} {bytes : ByteArray} {mx : Nat} {rt : Option FieldType} {a : Array Value} {s : State} {m : MethodId} {meth : Method} {c : Code} (h1 : s.methodNamed? y = some m) (h2 : s.vm.method? m = some meth) (h3 : meth.code = some c) (h4 : c.code = bytes)
    (h5 : (c.maxLocals == mx && c.exceptionTable.isEmpty && decide (c.maxStack ≤ mostOperands) && decide (meth.sig.returnType = rt) && !meth.locks && decide (parseMethodDescriptor y.desc = some meth.sig)) = true) : (Jvm.Cond.code y bytes mx rt).before a s = true := by
  simp only [Bool.and_eq_true, beq_iff_eq, Bool.not_eq_true', decide_eq_true_eq] at h5
  obtain ⟨⟨⟨⟨⟨g1, g2⟩, g3⟩, g4⟩, g5⟩, g6⟩ := h5
  simp [Cond.before, Cond.holds, Cond.value, h1, h2, h3, h4, g1, g2, g3, g4, g5, g6]
def isCode : Jvm.Cond → Bool
  | .code _ _ _ _ => true
  | _ => false
theorem all_split {L : List Jvm.Cond} {P : Jvm.Cond → Bool} (h1 : L.all (fun c => isCode c || P c) = true) (h2 : ∀ c ∈ L.filter isCode, P c = true) : L.all P = true := by
  refine List.all_eq_true.mpr fun c hc => ?_
  have h := List.all_eq_true.mp h1 c hc
  rcases Bool.eq_false_or_eq_true (isCode c) with hi | hi
  · exact h2 c (List.mem_filter.mpr ⟨hc, hi⟩)
  · simpa [hi] using h
set_option maxRecDepth 65536 in
theorem w_c0 : (Jvm.Cond.code x code maxLocals ret).before args0 about1 = true := code_word (m := ⟨1, 3⟩) (meth := k1m3) (c := k1c3) (by decide +kernel) rfl rfl rfl (by decide +kernel)
set_option maxRecDepth 65536 in
theorem w_c1 : (Jvm.Cond.code ({ cls := "com/example/splice/splice/XmlVersionAllowsPinLaw", name := "pivot", desc := "(I)I" } : Jvm.MethodName) method_2_code (2 : Nat) (Option.some Jvm.ClassFile.FieldType.int)).before args0 about1 = true := code_word (m := ⟨1, 1⟩) (meth := k1m1) (c := k1c1) (by decide +kernel) rfl rfl rfl (by decide +kernel)
set_option maxRecDepth 65536 in
theorem w_c2 : (Jvm.Cond.code ({ cls := "com/example/splice/splice/XmlVersion", name := "allows", desc := "(I)Z" } : Jvm.MethodName) prog_177_method_7_code (3 : Nat) (Option.some Jvm.ClassFile.FieldType.boolean)).before args0 about1 = true := code_word (m := ⟨6, 0⟩) (meth := k6m0) (c := k6c0) (by decide +kernel) rfl rfl rfl (by decide +kernel)
set_option maxRecDepth 65536 in
theorem w_c3 : (Jvm.Cond.code ({ cls := "com/example/splice/splice/XmlVersionAllowsPinLaw", name := "expected", desc := "(ZI)Z" } : Jvm.MethodName) method_3_code (2 : Nat) (Option.some Jvm.ClassFile.FieldType.boolean)).before args0 about1 = true := code_word (m := ⟨1, 2⟩) (meth := k1m2) (c := k1c2) (by decide +kernel) rfl rfl rfl (by decide +kernel)
def codes1 : List Jvm.Cond := [Jvm.Cond.code x code maxLocals ret, Jvm.Cond.code ({ cls := "com/example/splice/splice/XmlVersionAllowsPinLaw", name := "pivot", desc := "(I)I" } : Jvm.MethodName) method_2_code (2 : Nat) (Option.some Jvm.ClassFile.FieldType.int), Jvm.Cond.code ({ cls := "com/example/splice/splice/XmlVersion", name := "allows", desc := "(I)Z" } : Jvm.MethodName) prog_177_method_7_code (3 : Nat) (Option.some Jvm.ClassFile.FieldType.boolean), Jvm.Cond.code ({ cls := "com/example/splice/splice/XmlVersionAllowsPinLaw", name := "expected", desc := "(ZI)Z" } : Jvm.MethodName) method_3_code (2 : Nat) (Option.some Jvm.ClassFile.FieldType.boolean)]
set_option maxRecDepth 65536 in
theorem codes_eq : words1.filter isCode = codes1 := rfl
theorem w_codes : ∀ c ∈ words1.filter isCode, c.before args0 about1 = true := by
  rw [codes_eq]
  intro c hc
  simp only [codes1, List.mem_cons, List.not_mem_nil, or_false] at hc
  rcases hc with rfl | rfl | rfl | rfl
  · exact w_c0
  · exact w_c1
  · exact w_c2
  · exact w_c3
set_option maxRecDepth 65536 in
theorem w_t1 : (words1.take 24).all (fun c => isCode c || c.before args0 about1) = true := by decide +kernel
set_option maxRecDepth 65536 in
theorem w_t2 : (words1.drop 24).all (fun c => isCode c || c.before args0 about1) = true := by decide +kernel
theorem w_tables : (allAtoms (Jvm.Cond.code x code maxLocals ret :: tables_1)).before args0 about1 = true := by
  rw [allAtoms_all]
  show words1.all (fun c => c.before args0 about1) = true
  refine all_split ?_ w_codes
  rw [← List.take_append_drop 24 words1, List.all_append, w_t1, w_t2]
  rfl
set_option maxRecDepth 65536 in
theorem w_case : (Jvm.Cond.and given_1 narrow_1).before args0 about1 = true := by decide +kernel
theorem w_applies : (headSpec (Jvm.Cond.code x code maxLocals ret :: tables_1) room_1).applies x e0.platform about1 = true :=
  (Spec.applies_iff w_frames).mpr ⟨w_running, w_runnable, w_alone, w_named, w_hears, w_ripe, w_room, w_tables⟩
theorem atStart : AtStart classFile x code maxLocals ret World_1 tables_1 room_1 Calls_1 rest_1 Pre_1 launch0 p0 e0 about1 theMethod args0 below0 :=
  ⟨lists_1, trivial, launch0.admits_env _ _ _, launch0.least_env, fairChoices_fair.cas, fairChoices_fair.clock, w_frames, w_args, w_heap, w_applies, trivial, trivial, w_case⟩
end start1
theorem witness_1 : WitnessClaimed_1 := ⟨start1.p0, start1.e0, start1.about1, start1.theMethod, start1.args0, start1.below0, start1.atStart⟩
end Jvm.Pilot.@@N@@
