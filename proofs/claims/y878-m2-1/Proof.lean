import JvmDerived
import JvmDerived.Pilot.@@N@@Statement
import JvmDerived.Pilot.@@N@@Code
set_option linter.unusedVariables false
set_option linter.unusedSimpArgs false
namespace Jvm.RoadKit
open Sem ClassFile Op Lib Jvm.Stand Jvm.Free Jvm.LawKit
section New
variable {p : Program} {l : Launch} {e : Env} {R : Room} {s : State} {m : MethodId} {args : Array Value} {below : List Frame} {meth : Method} {c : Code} {T : State} {locs : List Loc} {cells slots : Nat}
theorem retI (X : Stand p l e R s m args below meth c T locs cells slots) (hx : p.tables.exec = Jvm.exec) {pc : Nat} {Ls : Array Slot} {z : Int32} {rest : List Value} (hret : meth.sig.returnType = some .int) (hd : decode c.code pc = .ok (.ireturn, 1)) {fs : List Frame}
    (hl : ∀ (f : JFrame) (acts : List Action), f.method = m → f.locked = none → f.entered = [] → (doReturn e (T.setTop f) acts (some (.int z))).1 = T.setFrames fs) : Steps p.tables e below (T.setTop (mkF m pc Ls (.int z :: rest))) (T.setFrames fs) := by
  have hm' : T.vm.method? m = some meth := X.method'
  have hn : narrow .int (.int z) = .int z := rfl
  show Steps p.tables e below (T.setTop { method := m, pc := pc, locals := Ls, stack := _ :: rest, locked := none }) _
  jvm_step X.here [X.here.top, hx, hd, hm', hret, hn]
  first | (intro acts; rw [hl _ acts rfl rfl rfl]) | rw [hl _ _ rfl rfl rfl]
  exact Steps.refl _
end New
end Jvm.RoadKit
namespace Jvm.Pilot.@@N@@
open Jvm Jvm.ClassFile Sem Op Lib Jvm.Free Jvm.Stand Jvm.LawKit Jvm.RoadKit Bundle Jvm.Pilot.@@N@@.Jvm.D
abbrev own_Go (p : Program) (e : Env) (below : List Frame) (A B : State) : Prop := ∀ t, Steps p.tables e below B t → Steps p.tables e below A t
theorem own_from {p : Program} {e : Env} {below : List Frame} {A B t : State} (h : A = B) (k : Steps p.tables e below A t) : Steps p.tables e below B t := h ▸ k
theorem own_ite1 {P : Prop} [Decidable P] (h : P) : ¬ ((if P then (1 : Int32) else (0 : Int32)) = (0 : Int32)) := by rw [if_pos h]; decide
theorem own_ite0 {P : Prop} [Decidable P] (h : ¬ P) : (if P then (1 : Int32) else (0 : Int32)) = (0 : Int32) := if_neg h
def own_Pl (h : Heap) (a : Addr) : Prop := ∃ c : Cell, h[a]? = some c ∧ c.vm.isStatics = false
theorem own_plE {Z : State} {h : Heap} {a : Addr} {C : String} (F : Exa Z h a C) : own_Pl h a := by obtain ⟨cell, k, h1, _, _, h4, _⟩ := F; exact ⟨cell, h1, h4⟩
theorem own_plF {Z : State} {h : Heap} {a : Addr} {C n d : String} {v : Value} (F : Fld Z h a C n d v) : own_Pl h a := by obtain ⟨cell, cf, k, i, f, h1, _, _, _, h5, _⟩ := F; exact ⟨cell, h1, h5⟩
theorem own_plA {Z : State} {h : Heap} {a : Addr} {k : ClassId} {ty : FieldType} {n : Int32} {vs : List Value} {d : Value} (F : Arv Z h a k ty n vs d) : own_Pl h a := by obtain ⟨c, A, _⟩ := F; exact ⟨c, A.1, A.plain⟩
theorem own_staK {Z : State} {h h' : Heap} {C n d : String} {v : Value} {ws : List Addr} (F : Sta Z h C n d v) (K : Keep h h' ws) (q : ∀ x ∈ ws, own_Pl h x) : Sta Z h' C n d v := by
  obtain ⟨cf, i, k, f, st, cell, h1, h2, h3, h4, h5, h6, h7⟩ := F
  refine ⟨cf, i, k, f, st, cell, h1, h2, h3, h4, K.2.1 st cell h5 fun z => ?_, h6, h7⟩
  obtain ⟨c, q1, q2⟩ := q st z
  cases h5.symm.trans q1
  rw [h6] at q2; cases q2
theorem own_insK {Z : State} {h h' : Heap} {a : Addr} {C : String} {bo : Bool} {ws : List Addr} (F : Ins Z h a C bo) (K : Keep h h' ws) : Ins Z h' a C bo := by
  obtain ⟨cell, cT, h1, h2, h3⟩ := F
  obtain ⟨c', q1, q2, q3, q4⟩ := K.2.2 a cell h1
  exact ⟨c', cT, q1, h2, by rw [q2, q3]; exact h3⟩
theorem own_atI {c : Cell} {vs : List Value} {d : Value} {ty : FieldType} {j : Int32} (H : Has c vs d) (G : ∀ i, i < c.slots.size → fits ty (vs.getD i d) = true) (q : ¬ (j < 0 ∨ c.slots.size ≤ j.toNatClampNeg)) (ht : ty = .int ∨ ty = .boolean ∨ ty = .byte ∨ ty = .char ∨ ty = .short) : ∃ z, c.slots[j.toNatClampNeg]? = some (.int z) := by
  have hlt := Nat.lt_of_not_le fun y => q (Or.inr y)
  obtain ⟨z, hz⟩ := fit_I (G _ hlt) ht
  exact ⟨z, by rw [H _ hlt, hz]⟩
theorem own_cat {v : Value} (h : v.isRef = true) : v.category = 1 := by cases v <;> simp [Value.isRef, Value.category] at h ⊢
section OwnB
variable {Z : State} {h h' : Heap} {a b : Addr} {k : ClassId} {f : Nat → Int32} {ws : List Addr} {sl : Nat} {v : Value}
def own_Byt (Z : State) (h : Heap) (a : Addr) (k : ClassId) (f : Nat → Int32) : Prop := ∃ c : Cell, Arr Z h a c .byte ∧ c.cls = k ∧ c.slots.size = 16 ∧ ∀ i, i < 16 → c.slots[i]? = some (.int (f i))
theorem own_Byt.lt (F : own_Byt Z h a k f) : a < h.size := by obtain ⟨c, A, _⟩ := F; exact A.lt
theorem own_Byt.ext (F : own_Byt Z h a k f) (E : Ext h h') : own_Byt Z h' a k f := by obtain ⟨c, A, r⟩ := F; exact ⟨c, A.ext E, r⟩
theorem own_Byt.other (F : own_Byt Z h b k f) (W : Wr h h' a sl v) (q : b ≠ a) : own_Byt Z h' b k f := by obtain ⟨c, A, r⟩ := F; exact ⟨c, A.other W q, r⟩
theorem own_Byt.keep (F : own_Byt Z h a k f) (K : Keep h h' ws) (q : a ∉ ws) : own_Byt Z h' a k f := by obtain ⟨c, A, r⟩ := F; exact ⟨c, ⟨K.2.1 a c A.1 q, A.2⟩, r⟩
theorem own_plB (F : own_Byt Z h a k f) : own_Pl h a := by obtain ⟨c, A, _⟩ := F; exact ⟨c, A.1, A.plain⟩
theorem own_ofNew (F : Arv Z h a k .byte (16 : Int32) [] (.int (0 : Int32))) : own_Byt Z h a k (fun _ => (0 : Int32)) := by
  obtain ⟨c, A, q, S, N, H, G⟩ := F
  have e : (16 : Int32).toNatClampNeg = 16 := by decide
  rw [e] at S
  exact ⟨c, A, q, S, fun i hi => by rw [H i (by omega)]; rfl⟩
theorem own_bin {c : Cell} {j : Int32} (S : c.slots.size = 16) (q : ¬ (j < 0) ∧ j < (16 : Int32)) : ¬ (j < 0 ∨ c.slots.size ≤ j.toNatClampNeg) := inb_of (z := (16 : Int32)) (S.trans (by decide)) q
theorem own_blt {j : Int32} (q : ¬ (j < 0) ∧ j < (16 : Int32)) : j.toNatClampNeg < 16 := by
  have h1 := nat_of q.1
  have h2 := q.2
  rw [Int32.lt_iff_toInt_lt, show (16 : Int32).toInt = 16 from by decide] at h2
  omega
theorem own_bset {c : Cell} {j x : Int32} (F : own_Byt Z h a k f) (A : Arr Z h a c .byte) (S : c.slots.size = 16) (hin : ¬ (j < 0 ∨ c.slots.size ≤ j.toNatClampNeg)) (W : Wr h h' a j.toNatClampNeg (.int x)) : own_Byt Z h' a k (fun i => if i = j.toNatClampNeg then x else f i) := by
  obtain ⟨c', A', q, S', H⟩ := F
  cases A.1.symm.trans A'.1
  have hlt := Nat.lt_of_not_le fun y => hin (Or.inr y)
  refine ⟨_, A.same W, q, by rw [sz_set]; exact S, fun i hi => ?_⟩
  show (c.slots.setIfInBounds j.toNatClampNeg (.int x))[i]? = some (.int (if i = j.toNatClampNeg then x else f i))
  by_cases e : i = j.toNatClampNeg
  · subst e; rw [if_pos rfl]; simp [hlt]
  · rw [if_neg e, Array.getElem?_setIfInBounds_ne (Ne.symm e)]; exact H i hi
end OwnB
def own_Cls (b l : Int32) : Prop := (l = (1 : Int32) ∧ (b &&& (255 : Int32)) < (128 : Int32)) ∨ (l = (2 : Int32) ∧ ¬ (b &&& (255 : Int32)) < (128 : Int32) ∧ (b &&& (255 : Int32)) < (224 : Int32)) ∨ (l = (3 : Int32) ∧ ¬ (b &&& (255 : Int32)) < (224 : Int32) ∧ (b &&& (255 : Int32)) < (240 : Int32)) ∨ (l = (4 : Int32) ∧ ¬ (b &&& (255 : Int32)) < (240 : Int32))
def own_Put (f g : Nat → Int32) (p l : Int32) : Prop := (∀ i, i < p.toNatClampNeg → g i = f i) ∧ own_Cls (g p.toNatClampNeg) l
theorem own_put1 {f : Nat → Int32} {p l v : Int32} (h : own_Cls v l) : own_Put f (fun i => if i = p.toNatClampNeg then v else f i) p l :=
  ⟨fun i hi => if_neg (by omega), by show own_Cls (if p.toNatClampNeg = p.toNatClampNeg then v else _) l; rw [if_pos rfl]; exact h⟩
theorem own_putS {f g : Nat → Int32} {p l v : Int32} {j : Nat} (h : own_Put f g p l) (hj : p.toNatClampNeg < j) : own_Put f (fun i => if i = j then v else g i) p l :=
  ⟨fun i hi => (if_neg (by omega)).trans (h.1 i hi), by show own_Cls (if p.toNatClampNeg = j then v else _) l; rw [if_neg (by omega)]; exact h.2⟩
theorem own_lt32 (x y : Int32) : x < y ↔ x.toInt < y.toInt := Int32.lt_iff_toInt_lt
theorem own_lt64 (x y : Int64) : x < y ↔ x.toInt < y.toInt := Int64.lt_iff_toInt_lt
theorem own_t16 : (16 : Int32).toInt = 16 := by decide
theorem own_t0 : (0 : Int32).toInt = 0 := by decide
theorem own_inb {p : Int32} (h : 0 ≤ p.toInt ∧ p.toInt ≤ 15) : ¬ (p < 0) ∧ p < (16 : Int32) := by rw [own_lt32, own_lt32, own_t16, own_t0]; omega
theorem own_padd {p l : Int32} (h : 0 ≤ p.toInt ∧ p.toInt ≤ 100) (h2 : 0 ≤ l.toInt ∧ l.toInt ≤ 100) : (p + l).toInt = p.toInt + l.toInt := by
  have a := c_iadd p l; have b := rng32 (p + l); omega
theorem own_natlt {p q : Int32} (h : 0 ≤ p.toInt) (h2 : p.toInt < q.toInt) : p.toNatClampNeg < q.toNatClampNeg := by
  have a := nat_of (j := p) (by rw [own_lt32, own_t0]; omega); have b := nat_of (j := q) (by rw [own_lt32, own_t0]; omega); omega
theorem own_in1 {p : Int32} (h : 0 ≤ p.toInt ∧ p.toInt ≤ 12) : (p + (1 : Int32)).toInt = p.toInt + 1 := own_padd (by omega) (by decide)
theorem own_in2 {p : Int32} (h : 0 ≤ p.toInt ∧ p.toInt ≤ 12) : (p + (2 : Int32)).toInt = p.toInt + 2 := own_padd (by omega) (by decide)
theorem own_in3 {p : Int32} (h : 0 ≤ p.toInt ∧ p.toInt ≤ 12) : (p + (3 : Int32)).toInt = p.toInt + 3 := own_padd (by omega) (by decide)
theorem own_lit : (1 : Int32).toInt = 1 ∧ (2 : Int32).toInt = 2 ∧ (3 : Int32).toInt = 3 ∧ (4 : Int32).toInt = 4 ∧ (128 : Int32).toInt = 128 ∧ (224 : Int32).toInt = 224 ∧ (240 : Int32).toInt = 240 ∧ (194 : Int32).toInt = 194 := by decide
theorem own_l {b l : Int32} (h : own_Cls b l) : 1 ≤ l.toInt ∧ l.toInt ≤ 4 := by
  obtain ⟨e1, e2, e3, e4, _⟩ := own_lit
  rcases h with ⟨rfl, _⟩ | ⟨rfl, _⟩ | ⟨rfl, _⟩ | ⟨rfl, _⟩ <;> omega
theorem own_len {b l : Int32} (h : own_Cls b l) : l = (if (b &&& (255 : Int32)) < (128 : Int32) then (1 : Int32) else (if (b &&& (255 : Int32)) < (224 : Int32) then (2 : Int32) else (if (b &&& (255 : Int32)) < (240 : Int32) then (3 : Int32) else (4 : Int32)))) := by
  obtain ⟨_, _, _, _, e5, e6, e7, _⟩ := own_lit
  unfold own_Cls at h
  simp only [own_lt32, e5, e6, e7] at h ⊢
  rcases h with ⟨rfl, h⟩ | ⟨rfl, h1, h2⟩ | ⟨rfl, h1, h2⟩ | ⟨rfl, h1⟩
  · rw [if_pos h]
  · rw [if_neg h1, if_pos h2]
  · rw [if_neg (by omega), if_neg h1, if_pos h2]
  · rw [if_neg (by omega), if_neg (by omega), if_neg h1]
theorem own_bb (x : Int32) : ((nar .byte (x.toInt8.toInt32)) &&& (255 : Int32)).toInt = x.toInt % 256 := by
  have a := c_i2b x
  have b := c_i2b (x.toInt8.toInt32)
  have m := c_mask (nar .byte (x.toInt8.toInt32)) 255 8 (by decide) (by decide)
  rw [m]
  show (x.toInt8.toInt32.toInt8.toInt32).toInt % 256 = _
  omega
theorem own_cls1 (x : Int32) (h : 0 ≤ x.toInt % 256 ∧ x.toInt % 256 < 128) : own_Cls (nar .byte (x.toInt8.toInt32)) (1 : Int32) := by
  obtain ⟨_, _, _, _, e5, e6, e7, _⟩ := own_lit
  exact Or.inl ⟨rfl, by rw [own_lt32, own_bb, e5]; omega⟩
theorem own_cls2 (x : Int32) (h : 128 ≤ x.toInt % 256 ∧ x.toInt % 256 < 224) : own_Cls (nar .byte (x.toInt8.toInt32)) (2 : Int32) := by
  obtain ⟨_, _, _, _, e5, e6, e7, _⟩ := own_lit
  exact Or.inr (Or.inl ⟨rfl, by rw [own_lt32, own_bb, e5]; omega, by rw [own_lt32, own_bb, e6]; omega⟩)
theorem own_cls3 (x : Int32) (h : 224 ≤ x.toInt % 256 ∧ x.toInt % 256 < 240) : own_Cls (nar .byte (x.toInt8.toInt32)) (3 : Int32) := by
  obtain ⟨_, _, _, _, e5, e6, e7, _⟩ := own_lit
  exact Or.inr (Or.inr (Or.inl ⟨rfl, by rw [own_lt32, own_bb, e6]; omega, by rw [own_lt32, own_bb, e7]; omega⟩))
theorem own_cls4 (x : Int32) (h : 240 ≤ x.toInt % 256) : own_Cls (nar .byte (x.toInt8.toInt32)) (4 : Int32) := by
  obtain ⟨_, _, _, _, e5, e6, e7, _⟩ := own_lit
  exact Or.inr (Or.inr (Or.inr ⟨rfl, by rw [own_lt32, own_bb, e7]; omega⟩))
theorem own_k0 (r : Int32) : own_Cls (nar .byte ((r &&& (127 : Int32)).toInt8.toInt32)) (1 : Int32) := own_cls1 _ (by rw [c_mask r 127 7 (by decide) (by decide)]; omega)
theorem own_k1 (r : Int32) : own_Cls (nar .byte (((194 : Int32) + ((r &&& (255 : Int32)) % (30 : Int32))).toInt8.toInt32)) (2 : Int32) := own_cls2 _ (by
  have a := c_mask r 255 8 (by decide) (by decide)
  have b := (c_irem (r &&& (255 : Int32)) 30 30 (by decide)).1 (by omega)
  have c := c_iadd (194 : Int32) ((r &&& (255 : Int32)) % (30 : Int32)); have d := rng32 ((194 : Int32) + ((r &&& (255 : Int32)) % (30 : Int32)))
  obtain ⟨_, _, _, _, e5, e6, e7, e8⟩ := own_lit
  omega)
theorem own_or224 (r : Int32) : 224 ≤ ((224 : Int32) ||| (r &&& (15 : Int32))).toInt ∧ ((224 : Int32) ||| (r &&& (15 : Int32))).toInt < 240 := by
  have a := c_mask r 15 4 (by decide) (by decide)
  have e : (224 : Int32).toInt = 224 := by decide
  have o := c_or (224 : Int32) (r &&& (15 : Int32)) 4 (by decide) 16 (by decide) (by decide) (by omega) (by omega)
  have d := rng32 ((224 : Int32) ||| (r &&& (15 : Int32)))
  omega
theorem own_k2 (r : Int32) : own_Cls (nar .byte (((224 : Int32) ||| (r &&& (15 : Int32))).toInt8.toInt32)) (3 : Int32) := own_cls3 _ (by have a := own_or224 r; omega)
theorem own_k3 (r : Int32) : own_Cls (nar .byte (((240 : Int32) + ((r &&& (255 : Int32)) % (5 : Int32))).toInt8.toInt32)) (4 : Int32) := own_cls4 _ (by
  have a := c_mask r 255 8 (by decide) (by decide)
  have b := (c_irem (r &&& (255 : Int32)) 5 5 (by decide)).1 (by omega)
  have c := c_iadd (240 : Int32) ((r &&& (255 : Int32)) % (5 : Int32)); have d := rng32 ((240 : Int32) + ((r &&& (255 : Int32)) % (5 : Int32)))
  obtain ⟨_, _, _, _, e5, e6, e7, e8⟩ := own_lit
  omega)
theorem own_fr (x : Int32) : 0 ≤ (x &&& (3 : Int32)).toInt ∧ (x &&& (3 : Int32)).toInt ≤ 3 := by rw [c_mask x 3 2 (by decide) (by decide)]; omega
theorem own_u {l : Int32} {u : Int64} (h : u = (if l = (4 : Int32) then (2 : Int64) else (1 : Int64))) : 1 ≤ u.toInt ∧ u.toInt ≤ 2 := by
  subst h; split <;> decide
theorem own_z64 : (0 : Int64).toInt = 0 := by decide
theorem own_a64 {x y : Int64} (h : 0 ≤ x.toInt ∧ x.toInt ≤ 100) (h2 : 0 ≤ y.toInt ∧ y.toInt ≤ 100) : (x + y).toInt = x.toInt + y.toInt := by
  have a := c_ladd x y; have b := rng64 (x + y); omega

theorem pn_1 : plainName "com/example/strict_acl/strictacl/Utf8TextByteAfterPinLaw" = true := by first | (simp [plainName, overriddenIn]; done) | decide +kernel
theorem d1_0 : decode method_3_code 0 = .ok (.aload_n 0, 1) := by decide +kernel
theorem d1_1 : decode method_3_code 1 = .ok (.iload_n 1, 1) := by decide +kernel
theorem d1_2 : decode method_3_code 2 = .ok (.iload_n 2, 1) := by decide +kernel
theorem d1_3 : decode method_3_code 3 = .ok (.i2b, 1) := by decide +kernel
theorem d1_4 : decode method_3_code 4 = .ok (.bastore, 1) := by decide +kernel
theorem d1_5 : decode method_3_code 5 = .ok (.aload_n 0, 1) := by decide +kernel
theorem d1_6 : decode method_3_code 6 = .ok (.iload_n 1, 1) := by decide +kernel
theorem d1_7 : decode method_3_code 7 = .ok (.iconst 1, 1) := by decide +kernel
theorem d1_8 : decode method_3_code 8 = .ok (.iadd, 1) := by decide +kernel
theorem d1_9 : decode method_3_code 9 = .ok (.iload_n 2, 1) := by decide +kernel
theorem d1_10 : decode method_3_code 10 = .ok (.bipush 8, 2) := by decide +kernel
theorem d1_12 : decode method_3_code 12 = .ok (.iushr, 1) := by decide +kernel
theorem d1_13 : decode method_3_code 13 = .ok (.i2b, 1) := by decide +kernel
theorem d1_14 : decode method_3_code 14 = .ok (.bastore, 1) := by decide +kernel
theorem d1_15 : decode method_3_code 15 = .ok (.aload_n 0, 1) := by decide +kernel
theorem d1_16 : decode method_3_code 16 = .ok (.iload_n 1, 1) := by decide +kernel
theorem d1_17 : decode method_3_code 17 = .ok (.iconst 2, 1) := by decide +kernel
theorem d1_18 : decode method_3_code 18 = .ok (.iadd, 1) := by decide +kernel
theorem d1_19 : decode method_3_code 19 = .ok (.iload_n 2, 1) := by decide +kernel
theorem d1_20 : decode method_3_code 20 = .ok (.bipush 16, 2) := by decide +kernel
theorem d1_22 : decode method_3_code 22 = .ok (.iushr, 1) := by decide +kernel
theorem d1_23 : decode method_3_code 23 = .ok (.i2b, 1) := by decide +kernel
theorem d1_24 : decode method_3_code 24 = .ok (.bastore, 1) := by decide +kernel
theorem d1_25 : decode method_3_code 25 = .ok (.aload_n 0, 1) := by decide +kernel
theorem d1_26 : decode method_3_code 26 = .ok (.iload_n 1, 1) := by decide +kernel
theorem d1_27 : decode method_3_code 27 = .ok (.iconst 3, 1) := by decide +kernel
theorem d1_28 : decode method_3_code 28 = .ok (.iadd, 1) := by decide +kernel
theorem d1_29 : decode method_3_code 29 = .ok (.iload_n 2, 1) := by decide +kernel
theorem d1_30 : decode method_3_code 30 = .ok (.bipush 24, 2) := by decide +kernel
theorem d1_32 : decode method_3_code 32 = .ok (.iushr, 1) := by decide +kernel
theorem d1_33 : decode method_3_code 33 = .ok (.i2b, 1) := by decide +kernel
theorem d1_34 : decode method_3_code 34 = .ok (.bastore, 1) := by decide +kernel
theorem d1_35 : decode method_3_code 35 = .ok (.return_, 1) := by decide +kernel
theorem ef_1a0 (m : MethodId) (qa : Addr) (qv : Int32) : entryFrame m #[(.ref qa), (.int (0 : Int32)), (.int qv)] 3 = mkF m 0 #[.val (.ref qa), .val (.int (0 : Int32)), .val (.int qv)] [] := by first | (simp [entryFrame, mkF, argsToLocals, Value.category]; done) | rfl
def Q1a0 (Z : State) (qa : Addr) (qv : Int32) (qk : ClassId) (qf : Nat → Int32) (h0 : Heap) (n0 : Nat) (v : Option Value) (h : Heap) (L : List Loc) : Prop := ∃ (f11 : Nat → Int32), v = none ∧ Fr n0 L ∧ Keep h0 h [qa] ∧ own_Byt Z h qa qk f11
set_option maxRecDepth 65536 in
set_option maxHeartbeats 40000000 in
theorem rm1a0 (l : Launch) (Z : State) (a0 : Array Value) (hw : ∀ d ∈ tables_1, d.before a0 Z = true) (ws : List Jvm.Cond) (qa : Addr) (qv : Int32) (qk : ClassId) (qf : Nat → Int32) (h0 : Heap) (n0 : Nat) (Z0 : n0 ≤ h0.size) (B_qa : own_Byt Z h0 qa qk qf) (g_qa : n0 ≤ qa) :
    MetFree l (⟨"com/example/strict_acl/strictacl/Utf8TextByteAfterPinLaw", "fill", "([BII)V"⟩ : MethodName) (head1 (Jvm.Cond.code (⟨"com/example/strict_acl/strictacl/Utf8TextByteAfterPinLaw", "fill", "([BII)V"⟩ : MethodName) method_3_code 3 none :: ws) ({ frames := 0, cells := 0, slots := 0, locals := 0 } : Room)) (fun a U => a = #[(.ref qa), (.int (0 : Int32)), (.int qv)] ∧ Z.Warmed39 U.vm ∧ U.heap = h0) (fun _ _ _ _ _ => True) (fun _ U o U' => ∃ v L, o = .returned v ∧ Q1a0 Z qa qv qk qf h0 n0 v U'.heap L ∧ FrameEnd U o U' L ({ frames := 0, cells := 0, slots := 0, locals := 0 } : Room).cells ({ frames := 0, cells := 0, slots := 0, locals := 0 } : Room).slots) := by
  refine MetFree.of_bodySF (plainFor_of_name pn_1) hisR ?_
  intro p e s m args below meth c s₁ Bd hml0 hP hK
  obtain ⟨rfl, hZ, hh⟩ := hP
  have hx := Bd.exec
  have hby := Bd.bytes
  have hml : c.maxLocals = 3 := hml0
  have hown : s.vm.findClass "com/example/strict_acl/strictacl/Utf8TextByteAfterPinLaw" = some m.cls := findClass_of_methodNamed Bd.named
  have hnm := (name_of_methodNamed Bd.named Bd.method).1
  have X0 : Stand p l e ({ frames := 0, cells := 0, slots := 0, locals := 0 } : Room) s m #[(.ref qa), (.int (0 : Int32)), (.int qv)] below meth c s₁ [] 0 0 := Stand.of_body Bd
  have e0 : s₁.heap = h0 := by rw [← hh, Bd.state]; rfl
  have N0 := Fr.nil n0
  obtain ⟨S0, hS0⟩ : ∃ z, z = s₁.setTop (entryFrame m #[(.ref qa), (.int (0 : Int32)), (.int qv)] 3) := ⟨_, rfl⟩
  have P0 : own_Go p e below S0 (s₁.setTop (mkF m 0 #[.val (.ref qa), .val (.int (0 : Int32)), .val (.int qv)] [])) := fun t k => by rw [hS0]; exact castTop (ef_1a0 m qa qv) k
  have P1 : own_Go p e below S0 (s₁.setTop (mkF m 4 #[.val (.ref qa), .val (.int (0 : Int32)), .val (.int qv)] [(.int (qv.toInt8.toInt32)), (.int (0 : Int32)), (.ref qa)])) := fun t k => P0 t (by
    show Steps p.tables e below (s₁.setTop (mkF m 0 #[.val (.ref qa), .val (.int (0 : Int32)), .val (.int qv)] [])) t
    refine XS.aloadN X0.here hx rfl (hb hby d1_0) rfl rfl ?_
    refine XS.iloadN X0.here hx rfl (hb hby d1_1) rfl ?_
    refine XS.iloadN X0.here hx rfl (hb hby d1_2) rfl ?_
    refine XS.i2b X0.here hx rfl (hb hby d1_3) rfl ?_
    show Steps p.tables e below (s₁.setTop (mkF m 4 #[.val (.ref qa), .val (.int (0 : Int32)), .val (.int qv)] [(.int (qv.toInt8.toInt32)), (.int (0 : Int32)), (.ref qa)])) t
    exact k)
  have hb3 : ¬ ((0 : Int32) < 0) ∧ (0 : Int32) < (16 : Int32) := ⟨by decide, by decide⟩
  obtain ⟨cl3, Ar3, q3, Sz3, Hh3⟩ := id B_qa
  have hin3 : ¬ ((0 : Int32) < 0 ∨ cl3.slots.size ≤ ((0 : Int32)).toNatClampNeg) := own_bin Sz3 hb3
  obtain ⟨T2, h2, X2, e2, W2, st2⟩ := stB X0 hx hZ e0 Ar3 (j := (0 : Int32)) hin3 (g := (mkF m 4 #[.val (.ref qa), .val (.int (0 : Int32)), .val (.int qv)] [(.int (qv.toInt8.toInt32)), (.int (0 : Int32)), (.ref qa)])) rfl rfl (hb hby d1_4)
  have K2 : Keep h0 h2 [qa] := (Keep.refl h0 [qa]).wr W2 (Or.inl (by simp))
  have N2 := Fr.snoc X2 N0 g_qa
  obtain ⟨f2, hf2⟩ : ∃ g : Nat → Int32, g = fun i => if i = ((0 : Int32)).toNatClampNeg then (nar .byte (qv.toInt8.toInt32)) else qf i := ⟨_, rfl⟩
  have V2 : own_Byt Z h2 qa qk f2 := by rw [hf2]; exact own_bset ⟨cl3, Ar3, q3, Sz3, Hh3⟩ Ar3 Sz3 hin3 W2
  have P2 : own_Go p e below S0 (T2.setTop (mkF m 5 #[.val (.ref qa), .val (.int (0 : Int32)), .val (.int qv)] [])) := fun t k => P1 t (st2 _ k)
  have P4 : own_Go p e below S0 (T2.setTop (mkF m 14 #[.val (.ref qa), .val (.int (0 : Int32)), .val (.int qv)] [(.int (((qv.toUInt32 >>> ((8 : Int32) &&& 31).toUInt32).toInt32).toInt8.toInt32)), (.int (1 : Int32)), (.ref qa)])) := fun t k => P2 t (by
    show Steps p.tables e below (T2.setTop (mkF m 5 #[.val (.ref qa), .val (.int (0 : Int32)), .val (.int qv)] [])) t
    refine XS.aloadN X2.here hx rfl (hb hby d1_5) rfl rfl ?_
    refine XS.iloadN X2.here hx rfl (hb hby d1_6) rfl ?_
    refine XS.iconst X2.here hx rfl (hb hby d1_7) ?_
    refine XS.iadd X2.here hx rfl (hb hby d1_8) rfl ?_
    refine XS.iloadN X2.here hx rfl (hb hby d1_9) rfl ?_
    refine XS.bipush X2.here hx rfl (hb hby d1_10) ?_
    show Steps p.tables e below (T2.setTop (mkF m 12 #[.val (.ref qa), .val (.int (0 : Int32)), .val (.int qv)] [(.int (8 : Int32)), (.int qv), (.int (1 : Int32)), (.ref qa)])) t
    refine XS.iushr X2.here hx rfl (hb hby d1_12) rfl ?_
    refine XS.i2b X2.here hx rfl (hb hby d1_13) rfl ?_
    show Steps p.tables e below (T2.setTop (mkF m 14 #[.val (.ref qa), .val (.int (0 : Int32)), .val (.int qv)] [(.int (((qv.toUInt32 >>> ((8 : Int32) &&& 31).toUInt32).toInt32).toInt8.toInt32)), (.int (1 : Int32)), (.ref qa)])) t
    exact k)
  have hb6 : ¬ ((1 : Int32) < 0) ∧ (1 : Int32) < (16 : Int32) := ⟨by decide, by decide⟩
  obtain ⟨cl6, Ar6, q6, Sz6, Hh6⟩ := id V2
  have hin6 : ¬ ((1 : Int32) < 0 ∨ cl6.slots.size ≤ ((1 : Int32)).toNatClampNeg) := own_bin Sz6 hb6
  obtain ⟨T5, h5, X5, e5, W5, st5⟩ := stB X2 hx hZ e2 Ar6 (j := (1 : Int32)) hin6 (g := (mkF m 14 #[.val (.ref qa), .val (.int (0 : Int32)), .val (.int qv)] [(.int (((qv.toUInt32 >>> ((8 : Int32) &&& 31).toUInt32).toInt32).toInt8.toInt32)), (.int (1 : Int32)), (.ref qa)])) rfl rfl (hb hby d1_14)
  have K5 : Keep h0 h5 [qa] := K2.wr W5 (Or.inl (by simp))
  have N5 := Fr.snoc X5 N2 g_qa
  obtain ⟨f5, hf5⟩ : ∃ g : Nat → Int32, g = fun i => if i = ((1 : Int32)).toNatClampNeg then (nar .byte (((qv.toUInt32 >>> ((8 : Int32) &&& 31).toUInt32).toInt32).toInt8.toInt32)) else f2 i := ⟨_, rfl⟩
  have V5 : own_Byt Z h5 qa qk f5 := by rw [hf5]; exact own_bset ⟨cl6, Ar6, q6, Sz6, Hh6⟩ Ar6 Sz6 hin6 W5
  have P5 : own_Go p e below S0 (T5.setTop (mkF m 15 #[.val (.ref qa), .val (.int (0 : Int32)), .val (.int qv)] [])) := fun t k => P4 t (st5 _ k)
  have P7 : own_Go p e below S0 (T5.setTop (mkF m 24 #[.val (.ref qa), .val (.int (0 : Int32)), .val (.int qv)] [(.int (((qv.toUInt32 >>> ((16 : Int32) &&& 31).toUInt32).toInt32).toInt8.toInt32)), (.int (2 : Int32)), (.ref qa)])) := fun t k => P5 t (by
    show Steps p.tables e below (T5.setTop (mkF m 15 #[.val (.ref qa), .val (.int (0 : Int32)), .val (.int qv)] [])) t
    refine XS.aloadN X5.here hx rfl (hb hby d1_15) rfl rfl ?_
    refine XS.iloadN X5.here hx rfl (hb hby d1_16) rfl ?_
    refine XS.iconst X5.here hx rfl (hb hby d1_17) ?_
    refine XS.iadd X5.here hx rfl (hb hby d1_18) rfl ?_
    refine XS.iloadN X5.here hx rfl (hb hby d1_19) rfl ?_
    refine XS.bipush X5.here hx rfl (hb hby d1_20) ?_
    show Steps p.tables e below (T5.setTop (mkF m 22 #[.val (.ref qa), .val (.int (0 : Int32)), .val (.int qv)] [(.int (16 : Int32)), (.int qv), (.int (2 : Int32)), (.ref qa)])) t
    refine XS.iushr X5.here hx rfl (hb hby d1_22) rfl ?_
    refine XS.i2b X5.here hx rfl (hb hby d1_23) rfl ?_
    show Steps p.tables e below (T5.setTop (mkF m 24 #[.val (.ref qa), .val (.int (0 : Int32)), .val (.int qv)] [(.int (((qv.toUInt32 >>> ((16 : Int32) &&& 31).toUInt32).toInt32).toInt8.toInt32)), (.int (2 : Int32)), (.ref qa)])) t
    exact k)
  have hb9 : ¬ ((2 : Int32) < 0) ∧ (2 : Int32) < (16 : Int32) := ⟨by decide, by decide⟩
  obtain ⟨cl9, Ar9, q9, Sz9, Hh9⟩ := id V5
  have hin9 : ¬ ((2 : Int32) < 0 ∨ cl9.slots.size ≤ ((2 : Int32)).toNatClampNeg) := own_bin Sz9 hb9
  obtain ⟨T8, h8, X8, e8, W8, st8⟩ := stB X5 hx hZ e5 Ar9 (j := (2 : Int32)) hin9 (g := (mkF m 24 #[.val (.ref qa), .val (.int (0 : Int32)), .val (.int qv)] [(.int (((qv.toUInt32 >>> ((16 : Int32) &&& 31).toUInt32).toInt32).toInt8.toInt32)), (.int (2 : Int32)), (.ref qa)])) rfl rfl (hb hby d1_24)
  have K8 : Keep h0 h8 [qa] := K5.wr W8 (Or.inl (by simp))
  have N8 := Fr.snoc X8 N5 g_qa
  obtain ⟨f8, hf8⟩ : ∃ g : Nat → Int32, g = fun i => if i = ((2 : Int32)).toNatClampNeg then (nar .byte (((qv.toUInt32 >>> ((16 : Int32) &&& 31).toUInt32).toInt32).toInt8.toInt32)) else f5 i := ⟨_, rfl⟩
  have V8 : own_Byt Z h8 qa qk f8 := by rw [hf8]; exact own_bset ⟨cl9, Ar9, q9, Sz9, Hh9⟩ Ar9 Sz9 hin9 W8
  have P8 : own_Go p e below S0 (T8.setTop (mkF m 25 #[.val (.ref qa), .val (.int (0 : Int32)), .val (.int qv)] [])) := fun t k => P7 t (st8 _ k)
  have P10 : own_Go p e below S0 (T8.setTop (mkF m 34 #[.val (.ref qa), .val (.int (0 : Int32)), .val (.int qv)] [(.int (((qv.toUInt32 >>> ((24 : Int32) &&& 31).toUInt32).toInt32).toInt8.toInt32)), (.int (3 : Int32)), (.ref qa)])) := fun t k => P8 t (by
    show Steps p.tables e below (T8.setTop (mkF m 25 #[.val (.ref qa), .val (.int (0 : Int32)), .val (.int qv)] [])) t
    refine XS.aloadN X8.here hx rfl (hb hby d1_25) rfl rfl ?_
    refine XS.iloadN X8.here hx rfl (hb hby d1_26) rfl ?_
    refine XS.iconst X8.here hx rfl (hb hby d1_27) ?_
    refine XS.iadd X8.here hx rfl (hb hby d1_28) rfl ?_
    refine XS.iloadN X8.here hx rfl (hb hby d1_29) rfl ?_
    refine XS.bipush X8.here hx rfl (hb hby d1_30) ?_
    show Steps p.tables e below (T8.setTop (mkF m 32 #[.val (.ref qa), .val (.int (0 : Int32)), .val (.int qv)] [(.int (24 : Int32)), (.int qv), (.int (3 : Int32)), (.ref qa)])) t
    refine XS.iushr X8.here hx rfl (hb hby d1_32) rfl ?_
    refine XS.i2b X8.here hx rfl (hb hby d1_33) rfl ?_
    show Steps p.tables e below (T8.setTop (mkF m 34 #[.val (.ref qa), .val (.int (0 : Int32)), .val (.int qv)] [(.int (((qv.toUInt32 >>> ((24 : Int32) &&& 31).toUInt32).toInt32).toInt8.toInt32)), (.int (3 : Int32)), (.ref qa)])) t
    exact k)
  have hb12 : ¬ ((3 : Int32) < 0) ∧ (3 : Int32) < (16 : Int32) := ⟨by decide, by decide⟩
  obtain ⟨cl12, Ar12, q12, Sz12, Hh12⟩ := id V8
  have hin12 : ¬ ((3 : Int32) < 0 ∨ cl12.slots.size ≤ ((3 : Int32)).toNatClampNeg) := own_bin Sz12 hb12
  obtain ⟨T11, h11, X11, e11, W11, st11⟩ := stB X8 hx hZ e8 Ar12 (j := (3 : Int32)) hin12 (g := (mkF m 34 #[.val (.ref qa), .val (.int (0 : Int32)), .val (.int qv)] [(.int (((qv.toUInt32 >>> ((24 : Int32) &&& 31).toUInt32).toInt32).toInt8.toInt32)), (.int (3 : Int32)), (.ref qa)])) rfl rfl (hb hby d1_34)
  have K11 : Keep h0 h11 [qa] := K8.wr W11 (Or.inl (by simp))
  have N11 := Fr.snoc X11 N8 g_qa
  obtain ⟨f11, hf11⟩ : ∃ g : Nat → Int32, g = fun i => if i = ((3 : Int32)).toNatClampNeg then (nar .byte (((qv.toUInt32 >>> ((24 : Int32) &&& 31).toUInt32).toInt32).toInt8.toInt32)) else f8 i := ⟨_, rfl⟩
  have V11 : own_Byt Z h11 qa qk f11 := by rw [hf11]; exact own_bset ⟨cl12, Ar12, q12, Sz12, Hh12⟩ Ar12 Sz12 hin12 W11
  have P11 : own_Go p e below S0 (T11.setTop (mkF m 35 #[.val (.ref qa), .val (.int (0 : Int32)), .val (.int qv)] [])) := fun t k => P10 t (st11 _ k)
  obtain ⟨fs, hr, hrun, hended, hW, hsame⟩ := X11.leave (v := none) (fun _ => rfl)
  refine ⟨_, _, own_from hS0 (P11 _ ?_), hrun, hended, _, _, rfl, ?_, ⟨_, rfl⟩, hW, hsame.mono (by decide) (by decide)⟩
  · show Steps p.tables e below (T11.setTop (mkF m 35 #[.val (.ref qa), .val (.int (0 : Int32)), .val (.int qv)] [])) _
    exact X11.returnOut hx Bd.returns (hb hby d1_35) hr
  · show Q1a0 Z qa qv qk qf h0 n0 _ T11.heap _
    rw [e11]
    exact ⟨f11, rfl, N11, K11, V11⟩
theorem ef_1a4 (m : MethodId) (qa : Addr) (qv : Int32) : entryFrame m #[(.ref qa), (.int (4 : Int32)), (.int qv)] 3 = mkF m 0 #[.val (.ref qa), .val (.int (4 : Int32)), .val (.int qv)] [] := by first | (simp [entryFrame, mkF, argsToLocals, Value.category]; done) | rfl
def Q1a4 (Z : State) (qa : Addr) (qv : Int32) (qk : ClassId) (qf : Nat → Int32) (h0 : Heap) (n0 : Nat) (v : Option Value) (h : Heap) (L : List Loc) : Prop := ∃ (f11 : Nat → Int32), v = none ∧ Fr n0 L ∧ Keep h0 h [qa] ∧ own_Byt Z h qa qk f11
set_option maxRecDepth 65536 in
set_option maxHeartbeats 40000000 in
theorem rm1a4 (l : Launch) (Z : State) (a0 : Array Value) (hw : ∀ d ∈ tables_1, d.before a0 Z = true) (ws : List Jvm.Cond) (qa : Addr) (qv : Int32) (qk : ClassId) (qf : Nat → Int32) (h0 : Heap) (n0 : Nat) (Z0 : n0 ≤ h0.size) (B_qa : own_Byt Z h0 qa qk qf) (g_qa : n0 ≤ qa) :
    MetFree l (⟨"com/example/strict_acl/strictacl/Utf8TextByteAfterPinLaw", "fill", "([BII)V"⟩ : MethodName) (head1 (Jvm.Cond.code (⟨"com/example/strict_acl/strictacl/Utf8TextByteAfterPinLaw", "fill", "([BII)V"⟩ : MethodName) method_3_code 3 none :: ws) ({ frames := 0, cells := 0, slots := 0, locals := 0 } : Room)) (fun a U => a = #[(.ref qa), (.int (4 : Int32)), (.int qv)] ∧ Z.Warmed39 U.vm ∧ U.heap = h0) (fun _ _ _ _ _ => True) (fun _ U o U' => ∃ v L, o = .returned v ∧ Q1a4 Z qa qv qk qf h0 n0 v U'.heap L ∧ FrameEnd U o U' L ({ frames := 0, cells := 0, slots := 0, locals := 0 } : Room).cells ({ frames := 0, cells := 0, slots := 0, locals := 0 } : Room).slots) := by
  refine MetFree.of_bodySF (plainFor_of_name pn_1) hisR ?_
  intro p e s m args below meth c s₁ Bd hml0 hP hK
  obtain ⟨rfl, hZ, hh⟩ := hP
  have hx := Bd.exec
  have hby := Bd.bytes
  have hml : c.maxLocals = 3 := hml0
  have hown : s.vm.findClass "com/example/strict_acl/strictacl/Utf8TextByteAfterPinLaw" = some m.cls := findClass_of_methodNamed Bd.named
  have hnm := (name_of_methodNamed Bd.named Bd.method).1
  have X0 : Stand p l e ({ frames := 0, cells := 0, slots := 0, locals := 0 } : Room) s m #[(.ref qa), (.int (4 : Int32)), (.int qv)] below meth c s₁ [] 0 0 := Stand.of_body Bd
  have e0 : s₁.heap = h0 := by rw [← hh, Bd.state]; rfl
  have N0 := Fr.nil n0
  obtain ⟨S0, hS0⟩ : ∃ z, z = s₁.setTop (entryFrame m #[(.ref qa), (.int (4 : Int32)), (.int qv)] 3) := ⟨_, rfl⟩
  have P0 : own_Go p e below S0 (s₁.setTop (mkF m 0 #[.val (.ref qa), .val (.int (4 : Int32)), .val (.int qv)] [])) := fun t k => by rw [hS0]; exact castTop (ef_1a4 m qa qv) k
  have P1 : own_Go p e below S0 (s₁.setTop (mkF m 4 #[.val (.ref qa), .val (.int (4 : Int32)), .val (.int qv)] [(.int (qv.toInt8.toInt32)), (.int (4 : Int32)), (.ref qa)])) := fun t k => P0 t (by
    show Steps p.tables e below (s₁.setTop (mkF m 0 #[.val (.ref qa), .val (.int (4 : Int32)), .val (.int qv)] [])) t
    refine XS.aloadN X0.here hx rfl (hb hby d1_0) rfl rfl ?_
    refine XS.iloadN X0.here hx rfl (hb hby d1_1) rfl ?_
    refine XS.iloadN X0.here hx rfl (hb hby d1_2) rfl ?_
    refine XS.i2b X0.here hx rfl (hb hby d1_3) rfl ?_
    show Steps p.tables e below (s₁.setTop (mkF m 4 #[.val (.ref qa), .val (.int (4 : Int32)), .val (.int qv)] [(.int (qv.toInt8.toInt32)), (.int (4 : Int32)), (.ref qa)])) t
    exact k)
  have hb3 : ¬ ((4 : Int32) < 0) ∧ (4 : Int32) < (16 : Int32) := ⟨by decide, by decide⟩
  obtain ⟨cl3, Ar3, q3, Sz3, Hh3⟩ := id B_qa
  have hin3 : ¬ ((4 : Int32) < 0 ∨ cl3.slots.size ≤ ((4 : Int32)).toNatClampNeg) := own_bin Sz3 hb3
  obtain ⟨T2, h2, X2, e2, W2, st2⟩ := stB X0 hx hZ e0 Ar3 (j := (4 : Int32)) hin3 (g := (mkF m 4 #[.val (.ref qa), .val (.int (4 : Int32)), .val (.int qv)] [(.int (qv.toInt8.toInt32)), (.int (4 : Int32)), (.ref qa)])) rfl rfl (hb hby d1_4)
  have K2 : Keep h0 h2 [qa] := (Keep.refl h0 [qa]).wr W2 (Or.inl (by simp))
  have N2 := Fr.snoc X2 N0 g_qa
  obtain ⟨f2, hf2⟩ : ∃ g : Nat → Int32, g = fun i => if i = ((4 : Int32)).toNatClampNeg then (nar .byte (qv.toInt8.toInt32)) else qf i := ⟨_, rfl⟩
  have V2 : own_Byt Z h2 qa qk f2 := by rw [hf2]; exact own_bset ⟨cl3, Ar3, q3, Sz3, Hh3⟩ Ar3 Sz3 hin3 W2
  have P2 : own_Go p e below S0 (T2.setTop (mkF m 5 #[.val (.ref qa), .val (.int (4 : Int32)), .val (.int qv)] [])) := fun t k => P1 t (st2 _ k)
  have P4 : own_Go p e below S0 (T2.setTop (mkF m 14 #[.val (.ref qa), .val (.int (4 : Int32)), .val (.int qv)] [(.int (((qv.toUInt32 >>> ((8 : Int32) &&& 31).toUInt32).toInt32).toInt8.toInt32)), (.int (5 : Int32)), (.ref qa)])) := fun t k => P2 t (by
    show Steps p.tables e below (T2.setTop (mkF m 5 #[.val (.ref qa), .val (.int (4 : Int32)), .val (.int qv)] [])) t
    refine XS.aloadN X2.here hx rfl (hb hby d1_5) rfl rfl ?_
    refine XS.iloadN X2.here hx rfl (hb hby d1_6) rfl ?_
    refine XS.iconst X2.here hx rfl (hb hby d1_7) ?_
    refine XS.iadd X2.here hx rfl (hb hby d1_8) rfl ?_
    refine XS.iloadN X2.here hx rfl (hb hby d1_9) rfl ?_
    refine XS.bipush X2.here hx rfl (hb hby d1_10) ?_
    show Steps p.tables e below (T2.setTop (mkF m 12 #[.val (.ref qa), .val (.int (4 : Int32)), .val (.int qv)] [(.int (8 : Int32)), (.int qv), (.int (5 : Int32)), (.ref qa)])) t
    refine XS.iushr X2.here hx rfl (hb hby d1_12) rfl ?_
    refine XS.i2b X2.here hx rfl (hb hby d1_13) rfl ?_
    show Steps p.tables e below (T2.setTop (mkF m 14 #[.val (.ref qa), .val (.int (4 : Int32)), .val (.int qv)] [(.int (((qv.toUInt32 >>> ((8 : Int32) &&& 31).toUInt32).toInt32).toInt8.toInt32)), (.int (5 : Int32)), (.ref qa)])) t
    exact k)
  have hb6 : ¬ ((5 : Int32) < 0) ∧ (5 : Int32) < (16 : Int32) := ⟨by decide, by decide⟩
  obtain ⟨cl6, Ar6, q6, Sz6, Hh6⟩ := id V2
  have hin6 : ¬ ((5 : Int32) < 0 ∨ cl6.slots.size ≤ ((5 : Int32)).toNatClampNeg) := own_bin Sz6 hb6
  obtain ⟨T5, h5, X5, e5, W5, st5⟩ := stB X2 hx hZ e2 Ar6 (j := (5 : Int32)) hin6 (g := (mkF m 14 #[.val (.ref qa), .val (.int (4 : Int32)), .val (.int qv)] [(.int (((qv.toUInt32 >>> ((8 : Int32) &&& 31).toUInt32).toInt32).toInt8.toInt32)), (.int (5 : Int32)), (.ref qa)])) rfl rfl (hb hby d1_14)
  have K5 : Keep h0 h5 [qa] := K2.wr W5 (Or.inl (by simp))
  have N5 := Fr.snoc X5 N2 g_qa
  obtain ⟨f5, hf5⟩ : ∃ g : Nat → Int32, g = fun i => if i = ((5 : Int32)).toNatClampNeg then (nar .byte (((qv.toUInt32 >>> ((8 : Int32) &&& 31).toUInt32).toInt32).toInt8.toInt32)) else f2 i := ⟨_, rfl⟩
  have V5 : own_Byt Z h5 qa qk f5 := by rw [hf5]; exact own_bset ⟨cl6, Ar6, q6, Sz6, Hh6⟩ Ar6 Sz6 hin6 W5
  have P5 : own_Go p e below S0 (T5.setTop (mkF m 15 #[.val (.ref qa), .val (.int (4 : Int32)), .val (.int qv)] [])) := fun t k => P4 t (st5 _ k)
  have P7 : own_Go p e below S0 (T5.setTop (mkF m 24 #[.val (.ref qa), .val (.int (4 : Int32)), .val (.int qv)] [(.int (((qv.toUInt32 >>> ((16 : Int32) &&& 31).toUInt32).toInt32).toInt8.toInt32)), (.int (6 : Int32)), (.ref qa)])) := fun t k => P5 t (by
    show Steps p.tables e below (T5.setTop (mkF m 15 #[.val (.ref qa), .val (.int (4 : Int32)), .val (.int qv)] [])) t
    refine XS.aloadN X5.here hx rfl (hb hby d1_15) rfl rfl ?_
    refine XS.iloadN X5.here hx rfl (hb hby d1_16) rfl ?_
    refine XS.iconst X5.here hx rfl (hb hby d1_17) ?_
    refine XS.iadd X5.here hx rfl (hb hby d1_18) rfl ?_
    refine XS.iloadN X5.here hx rfl (hb hby d1_19) rfl ?_
    refine XS.bipush X5.here hx rfl (hb hby d1_20) ?_
    show Steps p.tables e below (T5.setTop (mkF m 22 #[.val (.ref qa), .val (.int (4 : Int32)), .val (.int qv)] [(.int (16 : Int32)), (.int qv), (.int (6 : Int32)), (.ref qa)])) t
    refine XS.iushr X5.here hx rfl (hb hby d1_22) rfl ?_
    refine XS.i2b X5.here hx rfl (hb hby d1_23) rfl ?_
    show Steps p.tables e below (T5.setTop (mkF m 24 #[.val (.ref qa), .val (.int (4 : Int32)), .val (.int qv)] [(.int (((qv.toUInt32 >>> ((16 : Int32) &&& 31).toUInt32).toInt32).toInt8.toInt32)), (.int (6 : Int32)), (.ref qa)])) t
    exact k)
  have hb9 : ¬ ((6 : Int32) < 0) ∧ (6 : Int32) < (16 : Int32) := ⟨by decide, by decide⟩
  obtain ⟨cl9, Ar9, q9, Sz9, Hh9⟩ := id V5
  have hin9 : ¬ ((6 : Int32) < 0 ∨ cl9.slots.size ≤ ((6 : Int32)).toNatClampNeg) := own_bin Sz9 hb9
  obtain ⟨T8, h8, X8, e8, W8, st8⟩ := stB X5 hx hZ e5 Ar9 (j := (6 : Int32)) hin9 (g := (mkF m 24 #[.val (.ref qa), .val (.int (4 : Int32)), .val (.int qv)] [(.int (((qv.toUInt32 >>> ((16 : Int32) &&& 31).toUInt32).toInt32).toInt8.toInt32)), (.int (6 : Int32)), (.ref qa)])) rfl rfl (hb hby d1_24)
  have K8 : Keep h0 h8 [qa] := K5.wr W8 (Or.inl (by simp))
  have N8 := Fr.snoc X8 N5 g_qa
  obtain ⟨f8, hf8⟩ : ∃ g : Nat → Int32, g = fun i => if i = ((6 : Int32)).toNatClampNeg then (nar .byte (((qv.toUInt32 >>> ((16 : Int32) &&& 31).toUInt32).toInt32).toInt8.toInt32)) else f5 i := ⟨_, rfl⟩
  have V8 : own_Byt Z h8 qa qk f8 := by rw [hf8]; exact own_bset ⟨cl9, Ar9, q9, Sz9, Hh9⟩ Ar9 Sz9 hin9 W8
  have P8 : own_Go p e below S0 (T8.setTop (mkF m 25 #[.val (.ref qa), .val (.int (4 : Int32)), .val (.int qv)] [])) := fun t k => P7 t (st8 _ k)
  have P10 : own_Go p e below S0 (T8.setTop (mkF m 34 #[.val (.ref qa), .val (.int (4 : Int32)), .val (.int qv)] [(.int (((qv.toUInt32 >>> ((24 : Int32) &&& 31).toUInt32).toInt32).toInt8.toInt32)), (.int (7 : Int32)), (.ref qa)])) := fun t k => P8 t (by
    show Steps p.tables e below (T8.setTop (mkF m 25 #[.val (.ref qa), .val (.int (4 : Int32)), .val (.int qv)] [])) t
    refine XS.aloadN X8.here hx rfl (hb hby d1_25) rfl rfl ?_
    refine XS.iloadN X8.here hx rfl (hb hby d1_26) rfl ?_
    refine XS.iconst X8.here hx rfl (hb hby d1_27) ?_
    refine XS.iadd X8.here hx rfl (hb hby d1_28) rfl ?_
    refine XS.iloadN X8.here hx rfl (hb hby d1_29) rfl ?_
    refine XS.bipush X8.here hx rfl (hb hby d1_30) ?_
    show Steps p.tables e below (T8.setTop (mkF m 32 #[.val (.ref qa), .val (.int (4 : Int32)), .val (.int qv)] [(.int (24 : Int32)), (.int qv), (.int (7 : Int32)), (.ref qa)])) t
    refine XS.iushr X8.here hx rfl (hb hby d1_32) rfl ?_
    refine XS.i2b X8.here hx rfl (hb hby d1_33) rfl ?_
    show Steps p.tables e below (T8.setTop (mkF m 34 #[.val (.ref qa), .val (.int (4 : Int32)), .val (.int qv)] [(.int (((qv.toUInt32 >>> ((24 : Int32) &&& 31).toUInt32).toInt32).toInt8.toInt32)), (.int (7 : Int32)), (.ref qa)])) t
    exact k)
  have hb12 : ¬ ((7 : Int32) < 0) ∧ (7 : Int32) < (16 : Int32) := ⟨by decide, by decide⟩
  obtain ⟨cl12, Ar12, q12, Sz12, Hh12⟩ := id V8
  have hin12 : ¬ ((7 : Int32) < 0 ∨ cl12.slots.size ≤ ((7 : Int32)).toNatClampNeg) := own_bin Sz12 hb12
  obtain ⟨T11, h11, X11, e11, W11, st11⟩ := stB X8 hx hZ e8 Ar12 (j := (7 : Int32)) hin12 (g := (mkF m 34 #[.val (.ref qa), .val (.int (4 : Int32)), .val (.int qv)] [(.int (((qv.toUInt32 >>> ((24 : Int32) &&& 31).toUInt32).toInt32).toInt8.toInt32)), (.int (7 : Int32)), (.ref qa)])) rfl rfl (hb hby d1_34)
  have K11 : Keep h0 h11 [qa] := K8.wr W11 (Or.inl (by simp))
  have N11 := Fr.snoc X11 N8 g_qa
  obtain ⟨f11, hf11⟩ : ∃ g : Nat → Int32, g = fun i => if i = ((7 : Int32)).toNatClampNeg then (nar .byte (((qv.toUInt32 >>> ((24 : Int32) &&& 31).toUInt32).toInt32).toInt8.toInt32)) else f8 i := ⟨_, rfl⟩
  have V11 : own_Byt Z h11 qa qk f11 := by rw [hf11]; exact own_bset ⟨cl12, Ar12, q12, Sz12, Hh12⟩ Ar12 Sz12 hin12 W11
  have P11 : own_Go p e below S0 (T11.setTop (mkF m 35 #[.val (.ref qa), .val (.int (4 : Int32)), .val (.int qv)] [])) := fun t k => P10 t (st11 _ k)
  obtain ⟨fs, hr, hrun, hended, hW, hsame⟩ := X11.leave (v := none) (fun _ => rfl)
  refine ⟨_, _, own_from hS0 (P11 _ ?_), hrun, hended, _, _, rfl, ?_, ⟨_, rfl⟩, hW, hsame.mono (by decide) (by decide)⟩
  · show Steps p.tables e below (T11.setTop (mkF m 35 #[.val (.ref qa), .val (.int (4 : Int32)), .val (.int qv)] [])) _
    exact X11.returnOut hx Bd.returns (hb hby d1_35) hr
  · show Q1a4 Z qa qv qk qf h0 n0 _ T11.heap _
    rw [e11]
    exact ⟨f11, rfl, N11, K11, V11⟩
theorem ef_1a8 (m : MethodId) (qa : Addr) (qv : Int32) : entryFrame m #[(.ref qa), (.int (8 : Int32)), (.int qv)] 3 = mkF m 0 #[.val (.ref qa), .val (.int (8 : Int32)), .val (.int qv)] [] := by first | (simp [entryFrame, mkF, argsToLocals, Value.category]; done) | rfl
def Q1a8 (Z : State) (qa : Addr) (qv : Int32) (qk : ClassId) (qf : Nat → Int32) (h0 : Heap) (n0 : Nat) (v : Option Value) (h : Heap) (L : List Loc) : Prop := ∃ (f11 : Nat → Int32), v = none ∧ Fr n0 L ∧ Keep h0 h [qa] ∧ own_Byt Z h qa qk f11
set_option maxRecDepth 65536 in
set_option maxHeartbeats 40000000 in
theorem rm1a8 (l : Launch) (Z : State) (a0 : Array Value) (hw : ∀ d ∈ tables_1, d.before a0 Z = true) (ws : List Jvm.Cond) (qa : Addr) (qv : Int32) (qk : ClassId) (qf : Nat → Int32) (h0 : Heap) (n0 : Nat) (Z0 : n0 ≤ h0.size) (B_qa : own_Byt Z h0 qa qk qf) (g_qa : n0 ≤ qa) :
    MetFree l (⟨"com/example/strict_acl/strictacl/Utf8TextByteAfterPinLaw", "fill", "([BII)V"⟩ : MethodName) (head1 (Jvm.Cond.code (⟨"com/example/strict_acl/strictacl/Utf8TextByteAfterPinLaw", "fill", "([BII)V"⟩ : MethodName) method_3_code 3 none :: ws) ({ frames := 0, cells := 0, slots := 0, locals := 0 } : Room)) (fun a U => a = #[(.ref qa), (.int (8 : Int32)), (.int qv)] ∧ Z.Warmed39 U.vm ∧ U.heap = h0) (fun _ _ _ _ _ => True) (fun _ U o U' => ∃ v L, o = .returned v ∧ Q1a8 Z qa qv qk qf h0 n0 v U'.heap L ∧ FrameEnd U o U' L ({ frames := 0, cells := 0, slots := 0, locals := 0 } : Room).cells ({ frames := 0, cells := 0, slots := 0, locals := 0 } : Room).slots) := by
  refine MetFree.of_bodySF (plainFor_of_name pn_1) hisR ?_
  intro p e s m args below meth c s₁ Bd hml0 hP hK
  obtain ⟨rfl, hZ, hh⟩ := hP
  have hx := Bd.exec
  have hby := Bd.bytes
  have hml : c.maxLocals = 3 := hml0
  have hown : s.vm.findClass "com/example/strict_acl/strictacl/Utf8TextByteAfterPinLaw" = some m.cls := findClass_of_methodNamed Bd.named
  have hnm := (name_of_methodNamed Bd.named Bd.method).1
  have X0 : Stand p l e ({ frames := 0, cells := 0, slots := 0, locals := 0 } : Room) s m #[(.ref qa), (.int (8 : Int32)), (.int qv)] below meth c s₁ [] 0 0 := Stand.of_body Bd
  have e0 : s₁.heap = h0 := by rw [← hh, Bd.state]; rfl
  have N0 := Fr.nil n0
  obtain ⟨S0, hS0⟩ : ∃ z, z = s₁.setTop (entryFrame m #[(.ref qa), (.int (8 : Int32)), (.int qv)] 3) := ⟨_, rfl⟩
  have P0 : own_Go p e below S0 (s₁.setTop (mkF m 0 #[.val (.ref qa), .val (.int (8 : Int32)), .val (.int qv)] [])) := fun t k => by rw [hS0]; exact castTop (ef_1a8 m qa qv) k
  have P1 : own_Go p e below S0 (s₁.setTop (mkF m 4 #[.val (.ref qa), .val (.int (8 : Int32)), .val (.int qv)] [(.int (qv.toInt8.toInt32)), (.int (8 : Int32)), (.ref qa)])) := fun t k => P0 t (by
    show Steps p.tables e below (s₁.setTop (mkF m 0 #[.val (.ref qa), .val (.int (8 : Int32)), .val (.int qv)] [])) t
    refine XS.aloadN X0.here hx rfl (hb hby d1_0) rfl rfl ?_
    refine XS.iloadN X0.here hx rfl (hb hby d1_1) rfl ?_
    refine XS.iloadN X0.here hx rfl (hb hby d1_2) rfl ?_
    refine XS.i2b X0.here hx rfl (hb hby d1_3) rfl ?_
    show Steps p.tables e below (s₁.setTop (mkF m 4 #[.val (.ref qa), .val (.int (8 : Int32)), .val (.int qv)] [(.int (qv.toInt8.toInt32)), (.int (8 : Int32)), (.ref qa)])) t
    exact k)
  have hb3 : ¬ ((8 : Int32) < 0) ∧ (8 : Int32) < (16 : Int32) := ⟨by decide, by decide⟩
  obtain ⟨cl3, Ar3, q3, Sz3, Hh3⟩ := id B_qa
  have hin3 : ¬ ((8 : Int32) < 0 ∨ cl3.slots.size ≤ ((8 : Int32)).toNatClampNeg) := own_bin Sz3 hb3
  obtain ⟨T2, h2, X2, e2, W2, st2⟩ := stB X0 hx hZ e0 Ar3 (j := (8 : Int32)) hin3 (g := (mkF m 4 #[.val (.ref qa), .val (.int (8 : Int32)), .val (.int qv)] [(.int (qv.toInt8.toInt32)), (.int (8 : Int32)), (.ref qa)])) rfl rfl (hb hby d1_4)
  have K2 : Keep h0 h2 [qa] := (Keep.refl h0 [qa]).wr W2 (Or.inl (by simp))
  have N2 := Fr.snoc X2 N0 g_qa
  obtain ⟨f2, hf2⟩ : ∃ g : Nat → Int32, g = fun i => if i = ((8 : Int32)).toNatClampNeg then (nar .byte (qv.toInt8.toInt32)) else qf i := ⟨_, rfl⟩
  have V2 : own_Byt Z h2 qa qk f2 := by rw [hf2]; exact own_bset ⟨cl3, Ar3, q3, Sz3, Hh3⟩ Ar3 Sz3 hin3 W2
  have P2 : own_Go p e below S0 (T2.setTop (mkF m 5 #[.val (.ref qa), .val (.int (8 : Int32)), .val (.int qv)] [])) := fun t k => P1 t (st2 _ k)
  have P4 : own_Go p e below S0 (T2.setTop (mkF m 14 #[.val (.ref qa), .val (.int (8 : Int32)), .val (.int qv)] [(.int (((qv.toUInt32 >>> ((8 : Int32) &&& 31).toUInt32).toInt32).toInt8.toInt32)), (.int (9 : Int32)), (.ref qa)])) := fun t k => P2 t (by
    show Steps p.tables e below (T2.setTop (mkF m 5 #[.val (.ref qa), .val (.int (8 : Int32)), .val (.int qv)] [])) t
    refine XS.aloadN X2.here hx rfl (hb hby d1_5) rfl rfl ?_
    refine XS.iloadN X2.here hx rfl (hb hby d1_6) rfl ?_
    refine XS.iconst X2.here hx rfl (hb hby d1_7) ?_
    refine XS.iadd X2.here hx rfl (hb hby d1_8) rfl ?_
    refine XS.iloadN X2.here hx rfl (hb hby d1_9) rfl ?_
    refine XS.bipush X2.here hx rfl (hb hby d1_10) ?_
    show Steps p.tables e below (T2.setTop (mkF m 12 #[.val (.ref qa), .val (.int (8 : Int32)), .val (.int qv)] [(.int (8 : Int32)), (.int qv), (.int (9 : Int32)), (.ref qa)])) t
    refine XS.iushr X2.here hx rfl (hb hby d1_12) rfl ?_
    refine XS.i2b X2.here hx rfl (hb hby d1_13) rfl ?_
    show Steps p.tables e below (T2.setTop (mkF m 14 #[.val (.ref qa), .val (.int (8 : Int32)), .val (.int qv)] [(.int (((qv.toUInt32 >>> ((8 : Int32) &&& 31).toUInt32).toInt32).toInt8.toInt32)), (.int (9 : Int32)), (.ref qa)])) t
    exact k)
  have hb6 : ¬ ((9 : Int32) < 0) ∧ (9 : Int32) < (16 : Int32) := ⟨by decide, by decide⟩
  obtain ⟨cl6, Ar6, q6, Sz6, Hh6⟩ := id V2
  have hin6 : ¬ ((9 : Int32) < 0 ∨ cl6.slots.size ≤ ((9 : Int32)).toNatClampNeg) := own_bin Sz6 hb6
  obtain ⟨T5, h5, X5, e5, W5, st5⟩ := stB X2 hx hZ e2 Ar6 (j := (9 : Int32)) hin6 (g := (mkF m 14 #[.val (.ref qa), .val (.int (8 : Int32)), .val (.int qv)] [(.int (((qv.toUInt32 >>> ((8 : Int32) &&& 31).toUInt32).toInt32).toInt8.toInt32)), (.int (9 : Int32)), (.ref qa)])) rfl rfl (hb hby d1_14)
  have K5 : Keep h0 h5 [qa] := K2.wr W5 (Or.inl (by simp))
  have N5 := Fr.snoc X5 N2 g_qa
  obtain ⟨f5, hf5⟩ : ∃ g : Nat → Int32, g = fun i => if i = ((9 : Int32)).toNatClampNeg then (nar .byte (((qv.toUInt32 >>> ((8 : Int32) &&& 31).toUInt32).toInt32).toInt8.toInt32)) else f2 i := ⟨_, rfl⟩
  have V5 : own_Byt Z h5 qa qk f5 := by rw [hf5]; exact own_bset ⟨cl6, Ar6, q6, Sz6, Hh6⟩ Ar6 Sz6 hin6 W5
  have P5 : own_Go p e below S0 (T5.setTop (mkF m 15 #[.val (.ref qa), .val (.int (8 : Int32)), .val (.int qv)] [])) := fun t k => P4 t (st5 _ k)
  have P7 : own_Go p e below S0 (T5.setTop (mkF m 24 #[.val (.ref qa), .val (.int (8 : Int32)), .val (.int qv)] [(.int (((qv.toUInt32 >>> ((16 : Int32) &&& 31).toUInt32).toInt32).toInt8.toInt32)), (.int (10 : Int32)), (.ref qa)])) := fun t k => P5 t (by
    show Steps p.tables e below (T5.setTop (mkF m 15 #[.val (.ref qa), .val (.int (8 : Int32)), .val (.int qv)] [])) t
    refine XS.aloadN X5.here hx rfl (hb hby d1_15) rfl rfl ?_
    refine XS.iloadN X5.here hx rfl (hb hby d1_16) rfl ?_
    refine XS.iconst X5.here hx rfl (hb hby d1_17) ?_
    refine XS.iadd X5.here hx rfl (hb hby d1_18) rfl ?_
    refine XS.iloadN X5.here hx rfl (hb hby d1_19) rfl ?_
    refine XS.bipush X5.here hx rfl (hb hby d1_20) ?_
    show Steps p.tables e below (T5.setTop (mkF m 22 #[.val (.ref qa), .val (.int (8 : Int32)), .val (.int qv)] [(.int (16 : Int32)), (.int qv), (.int (10 : Int32)), (.ref qa)])) t
    refine XS.iushr X5.here hx rfl (hb hby d1_22) rfl ?_
    refine XS.i2b X5.here hx rfl (hb hby d1_23) rfl ?_
    show Steps p.tables e below (T5.setTop (mkF m 24 #[.val (.ref qa), .val (.int (8 : Int32)), .val (.int qv)] [(.int (((qv.toUInt32 >>> ((16 : Int32) &&& 31).toUInt32).toInt32).toInt8.toInt32)), (.int (10 : Int32)), (.ref qa)])) t
    exact k)
  have hb9 : ¬ ((10 : Int32) < 0) ∧ (10 : Int32) < (16 : Int32) := ⟨by decide, by decide⟩
  obtain ⟨cl9, Ar9, q9, Sz9, Hh9⟩ := id V5
  have hin9 : ¬ ((10 : Int32) < 0 ∨ cl9.slots.size ≤ ((10 : Int32)).toNatClampNeg) := own_bin Sz9 hb9
  obtain ⟨T8, h8, X8, e8, W8, st8⟩ := stB X5 hx hZ e5 Ar9 (j := (10 : Int32)) hin9 (g := (mkF m 24 #[.val (.ref qa), .val (.int (8 : Int32)), .val (.int qv)] [(.int (((qv.toUInt32 >>> ((16 : Int32) &&& 31).toUInt32).toInt32).toInt8.toInt32)), (.int (10 : Int32)), (.ref qa)])) rfl rfl (hb hby d1_24)
  have K8 : Keep h0 h8 [qa] := K5.wr W8 (Or.inl (by simp))
  have N8 := Fr.snoc X8 N5 g_qa
  obtain ⟨f8, hf8⟩ : ∃ g : Nat → Int32, g = fun i => if i = ((10 : Int32)).toNatClampNeg then (nar .byte (((qv.toUInt32 >>> ((16 : Int32) &&& 31).toUInt32).toInt32).toInt8.toInt32)) else f5 i := ⟨_, rfl⟩
  have V8 : own_Byt Z h8 qa qk f8 := by rw [hf8]; exact own_bset ⟨cl9, Ar9, q9, Sz9, Hh9⟩ Ar9 Sz9 hin9 W8
  have P8 : own_Go p e below S0 (T8.setTop (mkF m 25 #[.val (.ref qa), .val (.int (8 : Int32)), .val (.int qv)] [])) := fun t k => P7 t (st8 _ k)
  have P10 : own_Go p e below S0 (T8.setTop (mkF m 34 #[.val (.ref qa), .val (.int (8 : Int32)), .val (.int qv)] [(.int (((qv.toUInt32 >>> ((24 : Int32) &&& 31).toUInt32).toInt32).toInt8.toInt32)), (.int (11 : Int32)), (.ref qa)])) := fun t k => P8 t (by
    show Steps p.tables e below (T8.setTop (mkF m 25 #[.val (.ref qa), .val (.int (8 : Int32)), .val (.int qv)] [])) t
    refine XS.aloadN X8.here hx rfl (hb hby d1_25) rfl rfl ?_
    refine XS.iloadN X8.here hx rfl (hb hby d1_26) rfl ?_
    refine XS.iconst X8.here hx rfl (hb hby d1_27) ?_
    refine XS.iadd X8.here hx rfl (hb hby d1_28) rfl ?_
    refine XS.iloadN X8.here hx rfl (hb hby d1_29) rfl ?_
    refine XS.bipush X8.here hx rfl (hb hby d1_30) ?_
    show Steps p.tables e below (T8.setTop (mkF m 32 #[.val (.ref qa), .val (.int (8 : Int32)), .val (.int qv)] [(.int (24 : Int32)), (.int qv), (.int (11 : Int32)), (.ref qa)])) t
    refine XS.iushr X8.here hx rfl (hb hby d1_32) rfl ?_
    refine XS.i2b X8.here hx rfl (hb hby d1_33) rfl ?_
    show Steps p.tables e below (T8.setTop (mkF m 34 #[.val (.ref qa), .val (.int (8 : Int32)), .val (.int qv)] [(.int (((qv.toUInt32 >>> ((24 : Int32) &&& 31).toUInt32).toInt32).toInt8.toInt32)), (.int (11 : Int32)), (.ref qa)])) t
    exact k)
  have hb12 : ¬ ((11 : Int32) < 0) ∧ (11 : Int32) < (16 : Int32) := ⟨by decide, by decide⟩
  obtain ⟨cl12, Ar12, q12, Sz12, Hh12⟩ := id V8
  have hin12 : ¬ ((11 : Int32) < 0 ∨ cl12.slots.size ≤ ((11 : Int32)).toNatClampNeg) := own_bin Sz12 hb12
  obtain ⟨T11, h11, X11, e11, W11, st11⟩ := stB X8 hx hZ e8 Ar12 (j := (11 : Int32)) hin12 (g := (mkF m 34 #[.val (.ref qa), .val (.int (8 : Int32)), .val (.int qv)] [(.int (((qv.toUInt32 >>> ((24 : Int32) &&& 31).toUInt32).toInt32).toInt8.toInt32)), (.int (11 : Int32)), (.ref qa)])) rfl rfl (hb hby d1_34)
  have K11 : Keep h0 h11 [qa] := K8.wr W11 (Or.inl (by simp))
  have N11 := Fr.snoc X11 N8 g_qa
  obtain ⟨f11, hf11⟩ : ∃ g : Nat → Int32, g = fun i => if i = ((11 : Int32)).toNatClampNeg then (nar .byte (((qv.toUInt32 >>> ((24 : Int32) &&& 31).toUInt32).toInt32).toInt8.toInt32)) else f8 i := ⟨_, rfl⟩
  have V11 : own_Byt Z h11 qa qk f11 := by rw [hf11]; exact own_bset ⟨cl12, Ar12, q12, Sz12, Hh12⟩ Ar12 Sz12 hin12 W11
  have P11 : own_Go p e below S0 (T11.setTop (mkF m 35 #[.val (.ref qa), .val (.int (8 : Int32)), .val (.int qv)] [])) := fun t k => P10 t (st11 _ k)
  obtain ⟨fs, hr, hrun, hended, hW, hsame⟩ := X11.leave (v := none) (fun _ => rfl)
  refine ⟨_, _, own_from hS0 (P11 _ ?_), hrun, hended, _, _, rfl, ?_, ⟨_, rfl⟩, hW, hsame.mono (by decide) (by decide)⟩
  · show Steps p.tables e below (T11.setTop (mkF m 35 #[.val (.ref qa), .val (.int (8 : Int32)), .val (.int qv)] [])) _
    exact X11.returnOut hx Bd.returns (hb hby d1_35) hr
  · show Q1a8 Z qa qv qk qf h0 n0 _ T11.heap _
    rw [e11]
    exact ⟨f11, rfl, N11, K11, V11⟩
theorem ef_1a12 (m : MethodId) (qa : Addr) (qv : Int32) : entryFrame m #[(.ref qa), (.int (12 : Int32)), (.int qv)] 3 = mkF m 0 #[.val (.ref qa), .val (.int (12 : Int32)), .val (.int qv)] [] := by first | (simp [entryFrame, mkF, argsToLocals, Value.category]; done) | rfl
def Q1a12 (Z : State) (qa : Addr) (qv : Int32) (qk : ClassId) (qf : Nat → Int32) (h0 : Heap) (n0 : Nat) (v : Option Value) (h : Heap) (L : List Loc) : Prop := ∃ (f11 : Nat → Int32), v = none ∧ Fr n0 L ∧ Keep h0 h [qa] ∧ own_Byt Z h qa qk f11
set_option maxRecDepth 65536 in
set_option maxHeartbeats 40000000 in
theorem rm1a12 (l : Launch) (Z : State) (a0 : Array Value) (hw : ∀ d ∈ tables_1, d.before a0 Z = true) (ws : List Jvm.Cond) (qa : Addr) (qv : Int32) (qk : ClassId) (qf : Nat → Int32) (h0 : Heap) (n0 : Nat) (Z0 : n0 ≤ h0.size) (B_qa : own_Byt Z h0 qa qk qf) (g_qa : n0 ≤ qa) :
    MetFree l (⟨"com/example/strict_acl/strictacl/Utf8TextByteAfterPinLaw", "fill", "([BII)V"⟩ : MethodName) (head1 (Jvm.Cond.code (⟨"com/example/strict_acl/strictacl/Utf8TextByteAfterPinLaw", "fill", "([BII)V"⟩ : MethodName) method_3_code 3 none :: ws) ({ frames := 0, cells := 0, slots := 0, locals := 0 } : Room)) (fun a U => a = #[(.ref qa), (.int (12 : Int32)), (.int qv)] ∧ Z.Warmed39 U.vm ∧ U.heap = h0) (fun _ _ _ _ _ => True) (fun _ U o U' => ∃ v L, o = .returned v ∧ Q1a12 Z qa qv qk qf h0 n0 v U'.heap L ∧ FrameEnd U o U' L ({ frames := 0, cells := 0, slots := 0, locals := 0 } : Room).cells ({ frames := 0, cells := 0, slots := 0, locals := 0 } : Room).slots) := by
  refine MetFree.of_bodySF (plainFor_of_name pn_1) hisR ?_
  intro p e s m args below meth c s₁ Bd hml0 hP hK
  obtain ⟨rfl, hZ, hh⟩ := hP
  have hx := Bd.exec
  have hby := Bd.bytes
  have hml : c.maxLocals = 3 := hml0
  have hown : s.vm.findClass "com/example/strict_acl/strictacl/Utf8TextByteAfterPinLaw" = some m.cls := findClass_of_methodNamed Bd.named
  have hnm := (name_of_methodNamed Bd.named Bd.method).1
  have X0 : Stand p l e ({ frames := 0, cells := 0, slots := 0, locals := 0 } : Room) s m #[(.ref qa), (.int (12 : Int32)), (.int qv)] below meth c s₁ [] 0 0 := Stand.of_body Bd
  have e0 : s₁.heap = h0 := by rw [← hh, Bd.state]; rfl
  have N0 := Fr.nil n0
  obtain ⟨S0, hS0⟩ : ∃ z, z = s₁.setTop (entryFrame m #[(.ref qa), (.int (12 : Int32)), (.int qv)] 3) := ⟨_, rfl⟩
  have P0 : own_Go p e below S0 (s₁.setTop (mkF m 0 #[.val (.ref qa), .val (.int (12 : Int32)), .val (.int qv)] [])) := fun t k => by rw [hS0]; exact castTop (ef_1a12 m qa qv) k
  have P1 : own_Go p e below S0 (s₁.setTop (mkF m 4 #[.val (.ref qa), .val (.int (12 : Int32)), .val (.int qv)] [(.int (qv.toInt8.toInt32)), (.int (12 : Int32)), (.ref qa)])) := fun t k => P0 t (by
    show Steps p.tables e below (s₁.setTop (mkF m 0 #[.val (.ref qa), .val (.int (12 : Int32)), .val (.int qv)] [])) t
    refine XS.aloadN X0.here hx rfl (hb hby d1_0) rfl rfl ?_
    refine XS.iloadN X0.here hx rfl (hb hby d1_1) rfl ?_
    refine XS.iloadN X0.here hx rfl (hb hby d1_2) rfl ?_
    refine XS.i2b X0.here hx rfl (hb hby d1_3) rfl ?_
    show Steps p.tables e below (s₁.setTop (mkF m 4 #[.val (.ref qa), .val (.int (12 : Int32)), .val (.int qv)] [(.int (qv.toInt8.toInt32)), (.int (12 : Int32)), (.ref qa)])) t
    exact k)
  have hb3 : ¬ ((12 : Int32) < 0) ∧ (12 : Int32) < (16 : Int32) := ⟨by decide, by decide⟩
  obtain ⟨cl3, Ar3, q3, Sz3, Hh3⟩ := id B_qa
  have hin3 : ¬ ((12 : Int32) < 0 ∨ cl3.slots.size ≤ ((12 : Int32)).toNatClampNeg) := own_bin Sz3 hb3
  obtain ⟨T2, h2, X2, e2, W2, st2⟩ := stB X0 hx hZ e0 Ar3 (j := (12 : Int32)) hin3 (g := (mkF m 4 #[.val (.ref qa), .val (.int (12 : Int32)), .val (.int qv)] [(.int (qv.toInt8.toInt32)), (.int (12 : Int32)), (.ref qa)])) rfl rfl (hb hby d1_4)
  have K2 : Keep h0 h2 [qa] := (Keep.refl h0 [qa]).wr W2 (Or.inl (by simp))
  have N2 := Fr.snoc X2 N0 g_qa
  obtain ⟨f2, hf2⟩ : ∃ g : Nat → Int32, g = fun i => if i = ((12 : Int32)).toNatClampNeg then (nar .byte (qv.toInt8.toInt32)) else qf i := ⟨_, rfl⟩
  have V2 : own_Byt Z h2 qa qk f2 := by rw [hf2]; exact own_bset ⟨cl3, Ar3, q3, Sz3, Hh3⟩ Ar3 Sz3 hin3 W2
  have P2 : own_Go p e below S0 (T2.setTop (mkF m 5 #[.val (.ref qa), .val (.int (12 : Int32)), .val (.int qv)] [])) := fun t k => P1 t (st2 _ k)
  have P4 : own_Go p e below S0 (T2.setTop (mkF m 14 #[.val (.ref qa), .val (.int (12 : Int32)), .val (.int qv)] [(.int (((qv.toUInt32 >>> ((8 : Int32) &&& 31).toUInt32).toInt32).toInt8.toInt32)), (.int (13 : Int32)), (.ref qa)])) := fun t k => P2 t (by
    show Steps p.tables e below (T2.setTop (mkF m 5 #[.val (.ref qa), .val (.int (12 : Int32)), .val (.int qv)] [])) t
    refine XS.aloadN X2.here hx rfl (hb hby d1_5) rfl rfl ?_
    refine XS.iloadN X2.here hx rfl (hb hby d1_6) rfl ?_
    refine XS.iconst X2.here hx rfl (hb hby d1_7) ?_
    refine XS.iadd X2.here hx rfl (hb hby d1_8) rfl ?_
    refine XS.iloadN X2.here hx rfl (hb hby d1_9) rfl ?_
    refine XS.bipush X2.here hx rfl (hb hby d1_10) ?_
    show Steps p.tables e below (T2.setTop (mkF m 12 #[.val (.ref qa), .val (.int (12 : Int32)), .val (.int qv)] [(.int (8 : Int32)), (.int qv), (.int (13 : Int32)), (.ref qa)])) t
    refine XS.iushr X2.here hx rfl (hb hby d1_12) rfl ?_
    refine XS.i2b X2.here hx rfl (hb hby d1_13) rfl ?_
    show Steps p.tables e below (T2.setTop (mkF m 14 #[.val (.ref qa), .val (.int (12 : Int32)), .val (.int qv)] [(.int (((qv.toUInt32 >>> ((8 : Int32) &&& 31).toUInt32).toInt32).toInt8.toInt32)), (.int (13 : Int32)), (.ref qa)])) t
    exact k)
  have hb6 : ¬ ((13 : Int32) < 0) ∧ (13 : Int32) < (16 : Int32) := ⟨by decide, by decide⟩
  obtain ⟨cl6, Ar6, q6, Sz6, Hh6⟩ := id V2
  have hin6 : ¬ ((13 : Int32) < 0 ∨ cl6.slots.size ≤ ((13 : Int32)).toNatClampNeg) := own_bin Sz6 hb6
  obtain ⟨T5, h5, X5, e5, W5, st5⟩ := stB X2 hx hZ e2 Ar6 (j := (13 : Int32)) hin6 (g := (mkF m 14 #[.val (.ref qa), .val (.int (12 : Int32)), .val (.int qv)] [(.int (((qv.toUInt32 >>> ((8 : Int32) &&& 31).toUInt32).toInt32).toInt8.toInt32)), (.int (13 : Int32)), (.ref qa)])) rfl rfl (hb hby d1_14)
  have K5 : Keep h0 h5 [qa] := K2.wr W5 (Or.inl (by simp))
  have N5 := Fr.snoc X5 N2 g_qa
  obtain ⟨f5, hf5⟩ : ∃ g : Nat → Int32, g = fun i => if i = ((13 : Int32)).toNatClampNeg then (nar .byte (((qv.toUInt32 >>> ((8 : Int32) &&& 31).toUInt32).toInt32).toInt8.toInt32)) else f2 i := ⟨_, rfl⟩
  have V5 : own_Byt Z h5 qa qk f5 := by rw [hf5]; exact own_bset ⟨cl6, Ar6, q6, Sz6, Hh6⟩ Ar6 Sz6 hin6 W5
  have P5 : own_Go p e below S0 (T5.setTop (mkF m 15 #[.val (.ref qa), .val (.int (12 : Int32)), .val (.int qv)] [])) := fun t k => P4 t (st5 _ k)
  have P7 : own_Go p e below S0 (T5.setTop (mkF m 24 #[.val (.ref qa), .val (.int (12 : Int32)), .val (.int qv)] [(.int (((qv.toUInt32 >>> ((16 : Int32) &&& 31).toUInt32).toInt32).toInt8.toInt32)), (.int (14 : Int32)), (.ref qa)])) := fun t k => P5 t (by
    show Steps p.tables e below (T5.setTop (mkF m 15 #[.val (.ref qa), .val (.int (12 : Int32)), .val (.int qv)] [])) t
    refine XS.aloadN X5.here hx rfl (hb hby d1_15) rfl rfl ?_
    refine XS.iloadN X5.here hx rfl (hb hby d1_16) rfl ?_
    refine XS.iconst X5.here hx rfl (hb hby d1_17) ?_
    refine XS.iadd X5.here hx rfl (hb hby d1_18) rfl ?_
    refine XS.iloadN X5.here hx rfl (hb hby d1_19) rfl ?_
    refine XS.bipush X5.here hx rfl (hb hby d1_20) ?_
    show Steps p.tables e below (T5.setTop (mkF m 22 #[.val (.ref qa), .val (.int (12 : Int32)), .val (.int qv)] [(.int (16 : Int32)), (.int qv), (.int (14 : Int32)), (.ref qa)])) t
    refine XS.iushr X5.here hx rfl (hb hby d1_22) rfl ?_
    refine XS.i2b X5.here hx rfl (hb hby d1_23) rfl ?_
    show Steps p.tables e below (T5.setTop (mkF m 24 #[.val (.ref qa), .val (.int (12 : Int32)), .val (.int qv)] [(.int (((qv.toUInt32 >>> ((16 : Int32) &&& 31).toUInt32).toInt32).toInt8.toInt32)), (.int (14 : Int32)), (.ref qa)])) t
    exact k)
  have hb9 : ¬ ((14 : Int32) < 0) ∧ (14 : Int32) < (16 : Int32) := ⟨by decide, by decide⟩
  obtain ⟨cl9, Ar9, q9, Sz9, Hh9⟩ := id V5
  have hin9 : ¬ ((14 : Int32) < 0 ∨ cl9.slots.size ≤ ((14 : Int32)).toNatClampNeg) := own_bin Sz9 hb9
  obtain ⟨T8, h8, X8, e8, W8, st8⟩ := stB X5 hx hZ e5 Ar9 (j := (14 : Int32)) hin9 (g := (mkF m 24 #[.val (.ref qa), .val (.int (12 : Int32)), .val (.int qv)] [(.int (((qv.toUInt32 >>> ((16 : Int32) &&& 31).toUInt32).toInt32).toInt8.toInt32)), (.int (14 : Int32)), (.ref qa)])) rfl rfl (hb hby d1_24)
  have K8 : Keep h0 h8 [qa] := K5.wr W8 (Or.inl (by simp))
  have N8 := Fr.snoc X8 N5 g_qa
  obtain ⟨f8, hf8⟩ : ∃ g : Nat → Int32, g = fun i => if i = ((14 : Int32)).toNatClampNeg then (nar .byte (((qv.toUInt32 >>> ((16 : Int32) &&& 31).toUInt32).toInt32).toInt8.toInt32)) else f5 i := ⟨_, rfl⟩
  have V8 : own_Byt Z h8 qa qk f8 := by rw [hf8]; exact own_bset ⟨cl9, Ar9, q9, Sz9, Hh9⟩ Ar9 Sz9 hin9 W8
  have P8 : own_Go p e below S0 (T8.setTop (mkF m 25 #[.val (.ref qa), .val (.int (12 : Int32)), .val (.int qv)] [])) := fun t k => P7 t (st8 _ k)
  have P10 : own_Go p e below S0 (T8.setTop (mkF m 34 #[.val (.ref qa), .val (.int (12 : Int32)), .val (.int qv)] [(.int (((qv.toUInt32 >>> ((24 : Int32) &&& 31).toUInt32).toInt32).toInt8.toInt32)), (.int (15 : Int32)), (.ref qa)])) := fun t k => P8 t (by
    show Steps p.tables e below (T8.setTop (mkF m 25 #[.val (.ref qa), .val (.int (12 : Int32)), .val (.int qv)] [])) t
    refine XS.aloadN X8.here hx rfl (hb hby d1_25) rfl rfl ?_
    refine XS.iloadN X8.here hx rfl (hb hby d1_26) rfl ?_
    refine XS.iconst X8.here hx rfl (hb hby d1_27) ?_
    refine XS.iadd X8.here hx rfl (hb hby d1_28) rfl ?_
    refine XS.iloadN X8.here hx rfl (hb hby d1_29) rfl ?_
    refine XS.bipush X8.here hx rfl (hb hby d1_30) ?_
    show Steps p.tables e below (T8.setTop (mkF m 32 #[.val (.ref qa), .val (.int (12 : Int32)), .val (.int qv)] [(.int (24 : Int32)), (.int qv), (.int (15 : Int32)), (.ref qa)])) t
    refine XS.iushr X8.here hx rfl (hb hby d1_32) rfl ?_
    refine XS.i2b X8.here hx rfl (hb hby d1_33) rfl ?_
    show Steps p.tables e below (T8.setTop (mkF m 34 #[.val (.ref qa), .val (.int (12 : Int32)), .val (.int qv)] [(.int (((qv.toUInt32 >>> ((24 : Int32) &&& 31).toUInt32).toInt32).toInt8.toInt32)), (.int (15 : Int32)), (.ref qa)])) t
    exact k)
  have hb12 : ¬ ((15 : Int32) < 0) ∧ (15 : Int32) < (16 : Int32) := ⟨by decide, by decide⟩
  obtain ⟨cl12, Ar12, q12, Sz12, Hh12⟩ := id V8
  have hin12 : ¬ ((15 : Int32) < 0 ∨ cl12.slots.size ≤ ((15 : Int32)).toNatClampNeg) := own_bin Sz12 hb12
  obtain ⟨T11, h11, X11, e11, W11, st11⟩ := stB X8 hx hZ e8 Ar12 (j := (15 : Int32)) hin12 (g := (mkF m 34 #[.val (.ref qa), .val (.int (12 : Int32)), .val (.int qv)] [(.int (((qv.toUInt32 >>> ((24 : Int32) &&& 31).toUInt32).toInt32).toInt8.toInt32)), (.int (15 : Int32)), (.ref qa)])) rfl rfl (hb hby d1_34)
  have K11 : Keep h0 h11 [qa] := K8.wr W11 (Or.inl (by simp))
  have N11 := Fr.snoc X11 N8 g_qa
  obtain ⟨f11, hf11⟩ : ∃ g : Nat → Int32, g = fun i => if i = ((15 : Int32)).toNatClampNeg then (nar .byte (((qv.toUInt32 >>> ((24 : Int32) &&& 31).toUInt32).toInt32).toInt8.toInt32)) else f8 i := ⟨_, rfl⟩
  have V11 : own_Byt Z h11 qa qk f11 := by rw [hf11]; exact own_bset ⟨cl12, Ar12, q12, Sz12, Hh12⟩ Ar12 Sz12 hin12 W11
  have P11 : own_Go p e below S0 (T11.setTop (mkF m 35 #[.val (.ref qa), .val (.int (12 : Int32)), .val (.int qv)] [])) := fun t k => P10 t (st11 _ k)
  obtain ⟨fs, hr, hrun, hended, hW, hsame⟩ := X11.leave (v := none) (fun _ => rfl)
  refine ⟨_, _, own_from hS0 (P11 _ ?_), hrun, hended, _, _, rfl, ?_, ⟨_, rfl⟩, hW, hsame.mono (by decide) (by decide)⟩
  · show Steps p.tables e below (T11.setTop (mkF m 35 #[.val (.ref qa), .val (.int (12 : Int32)), .val (.int qv)] [])) _
    exact X11.returnOut hx Bd.returns (hb hby d1_35) hr
  · show Q1a12 Z qa qv qk qf h0 n0 _ T11.heap _
    rw [e11]
    exact ⟨f11, rfl, N11, K11, V11⟩
theorem d2_0 : decode method_4_code 0 = .ok (.sipush 128, 3) := by decide +kernel
theorem d2_3 : decode method_4_code 3 = .ok (.iload_n 3, 1) := by decide +kernel
theorem d2_4 : decode method_4_code 4 = .ok (.bipush 16, 2) := by decide +kernel
theorem d2_6 : decode method_4_code 6 = .ok (.iushr, 1) := by decide +kernel
theorem d2_7 : decode method_4_code 7 = .ok (.bipush 63, 2) := by decide +kernel
theorem d2_9 : decode method_4_code 9 = .ok (.iand, 1) := by decide +kernel
theorem d2_10 : decode method_4_code 10 = .ok (.ior, 1) := by decide +kernel
theorem d2_11 : decode method_4_code 11 = .ok (.istore 4, 2) := by decide +kernel
theorem d2_13 : decode method_4_code 13 = .ok (.sipush 128, 3) := by decide +kernel
theorem d2_16 : decode method_4_code 16 = .ok (.iload_n 3, 1) := by decide +kernel
theorem d2_17 : decode method_4_code 17 = .ok (.bipush 24, 2) := by decide +kernel
theorem d2_19 : decode method_4_code 19 = .ok (.iushr, 1) := by decide +kernel
theorem d2_20 : decode method_4_code 20 = .ok (.bipush 63, 2) := by decide +kernel
theorem d2_22 : decode method_4_code 22 = .ok (.iand, 1) := by decide +kernel
theorem d2_23 : decode method_4_code 23 = .ok (.ior, 1) := by decide +kernel
theorem d2_24 : decode method_4_code 24 = .ok (.istore 5, 2) := by decide +kernel
theorem d2_26 : decode method_4_code 26 = .ok (.iload_n 2, 1) := by decide +kernel
theorem d2_27 : decode method_4_code 27 = .ok (.ifCond .ne 13, 3) := by decide +kernel
theorem d2_30 : decode method_4_code 30 = .ok (.aload_n 0, 1) := by decide +kernel
theorem d2_31 : decode method_4_code 31 = .ok (.iload_n 1, 1) := by decide +kernel
theorem d2_32 : decode method_4_code 32 = .ok (.iload_n 3, 1) := by decide +kernel
theorem d2_33 : decode method_4_code 33 = .ok (.bipush 127, 2) := by decide +kernel
theorem d2_35 : decode method_4_code 35 = .ok (.iand, 1) := by decide +kernel
theorem d2_36 : decode method_4_code 36 = .ok (.i2b, 1) := by decide +kernel
theorem d2_37 : decode method_4_code 37 = .ok (.bastore, 1) := by decide +kernel
theorem d2_38 : decode method_4_code 38 = .ok (.iconst 1, 1) := by decide +kernel
theorem d2_39 : decode method_4_code 39 = .ok (.ireturn, 1) := by decide +kernel
theorem d2_40 : decode method_4_code 40 = .ok (.iload_n 2, 1) := by decide +kernel
theorem d2_41 : decode method_4_code 41 = .ok (.iconst 1, 1) := by decide +kernel
theorem d2_42 : decode method_4_code 42 = .ok (.if_icmp .ne 38, 3) := by decide +kernel
theorem d2_45 : decode method_4_code 45 = .ok (.aload_n 0, 1) := by decide +kernel
theorem d2_46 : decode method_4_code 46 = .ok (.iload_n 1, 1) := by decide +kernel
theorem d2_47 : decode method_4_code 47 = .ok (.sipush 194, 3) := by decide +kernel
theorem d2_50 : decode method_4_code 50 = .ok (.iload_n 3, 1) := by decide +kernel
theorem d2_51 : decode method_4_code 51 = .ok (.sipush 255, 3) := by decide +kernel
theorem d2_54 : decode method_4_code 54 = .ok (.iand, 1) := by decide +kernel
theorem d2_55 : decode method_4_code 55 = .ok (.bipush 30, 2) := by decide +kernel
theorem d2_57 : decode method_4_code 57 = .ok (.irem, 1) := by decide +kernel
theorem d2_58 : decode method_4_code 58 = .ok (.iadd, 1) := by decide +kernel
theorem d2_59 : decode method_4_code 59 = .ok (.i2b, 1) := by decide +kernel
theorem d2_60 : decode method_4_code 60 = .ok (.bastore, 1) := by decide +kernel
theorem d2_61 : decode method_4_code 61 = .ok (.aload_n 0, 1) := by decide +kernel
theorem d2_62 : decode method_4_code 62 = .ok (.iload_n 1, 1) := by decide +kernel
theorem d2_63 : decode method_4_code 63 = .ok (.iconst 1, 1) := by decide +kernel
theorem d2_64 : decode method_4_code 64 = .ok (.iadd, 1) := by decide +kernel
theorem d2_65 : decode method_4_code 65 = .ok (.sipush 128, 3) := by decide +kernel
theorem d2_68 : decode method_4_code 68 = .ok (.iload_n 3, 1) := by decide +kernel
theorem d2_69 : decode method_4_code 69 = .ok (.bipush 8, 2) := by decide +kernel
theorem d2_71 : decode method_4_code 71 = .ok (.iushr, 1) := by decide +kernel
theorem d2_72 : decode method_4_code 72 = .ok (.bipush 63, 2) := by decide +kernel
theorem d2_74 : decode method_4_code 74 = .ok (.iand, 1) := by decide +kernel
theorem d2_75 : decode method_4_code 75 = .ok (.ior, 1) := by decide +kernel
theorem d2_76 : decode method_4_code 76 = .ok (.i2b, 1) := by decide +kernel
theorem d2_77 : decode method_4_code 77 = .ok (.bastore, 1) := by decide +kernel
theorem d2_78 : decode method_4_code 78 = .ok (.iconst 2, 1) := by decide +kernel
theorem d2_79 : decode method_4_code 79 = .ok (.ireturn, 1) := by decide +kernel
theorem d2_80 : decode method_4_code 80 = .ok (.iload_n 2, 1) := by decide +kernel
theorem d2_81 : decode method_4_code 81 = .ok (.iconst 2, 1) := by decide +kernel
theorem d2_82 : decode method_4_code 82 = .ok (.if_icmp .ne 98, 3) := by decide +kernel
theorem d2_85 : decode method_4_code 85 = .ok (.sipush 224, 3) := by decide +kernel
theorem d2_88 : decode method_4_code 88 = .ok (.iload_n 3, 1) := by decide +kernel
theorem d2_89 : decode method_4_code 89 = .ok (.bipush 15, 2) := by decide +kernel
theorem d2_91 : decode method_4_code 91 = .ok (.iand, 1) := by decide +kernel
theorem d2_92 : decode method_4_code 92 = .ok (.ior, 1) := by decide +kernel
theorem d2_93 : decode method_4_code 93 = .ok (.istore 6, 2) := by decide +kernel
theorem d2_95 : decode method_4_code 95 = .ok (.iload 6, 2) := by decide +kernel
theorem d2_97 : decode method_4_code 97 = .ok (.sipush 224, 3) := by decide +kernel
theorem d2_100 : decode method_4_code 100 = .ok (.if_icmp .ne 19, 3) := by decide +kernel
theorem d2_103 : decode method_4_code 103 = .ok (.sipush 160, 3) := by decide +kernel
theorem d2_106 : decode method_4_code 106 = .ok (.iload_n 3, 1) := by decide +kernel
theorem d2_107 : decode method_4_code 107 = .ok (.bipush 8, 2) := by decide +kernel
theorem d2_109 : decode method_4_code 109 = .ok (.iushr, 1) := by decide +kernel
theorem d2_110 : decode method_4_code 110 = .ok (.bipush 31, 2) := by decide +kernel
theorem d2_112 : decode method_4_code 112 = .ok (.iand, 1) := by decide +kernel
theorem d2_113 : decode method_4_code 113 = .ok (.ior, 1) := by decide +kernel
theorem d2_114 : decode method_4_code 114 = .ok (.istore 7, 2) := by decide +kernel
theorem d2_116 : decode method_4_code 116 = .ok (.goto 40, 3) := by decide +kernel
theorem d2_119 : decode method_4_code 119 = .ok (.iload 6, 2) := by decide +kernel
theorem d2_121 : decode method_4_code 121 = .ok (.sipush 237, 3) := by decide +kernel
theorem d2_124 : decode method_4_code 124 = .ok (.if_icmp .ne 19, 3) := by decide +kernel
theorem d2_127 : decode method_4_code 127 = .ok (.sipush 128, 3) := by decide +kernel
theorem d2_130 : decode method_4_code 130 = .ok (.iload_n 3, 1) := by decide +kernel
theorem d2_131 : decode method_4_code 131 = .ok (.bipush 8, 2) := by decide +kernel
theorem d2_133 : decode method_4_code 133 = .ok (.iushr, 1) := by decide +kernel
theorem d2_134 : decode method_4_code 134 = .ok (.bipush 31, 2) := by decide +kernel
theorem d2_136 : decode method_4_code 136 = .ok (.iand, 1) := by decide +kernel
theorem d2_137 : decode method_4_code 137 = .ok (.ior, 1) := by decide +kernel
theorem d2_138 : decode method_4_code 138 = .ok (.istore 7, 2) := by decide +kernel
theorem d2_140 : decode method_4_code 140 = .ok (.goto 16, 3) := by decide +kernel
theorem d2_143 : decode method_4_code 143 = .ok (.sipush 128, 3) := by decide +kernel
theorem d2_146 : decode method_4_code 146 = .ok (.iload_n 3, 1) := by decide +kernel
theorem d2_147 : decode method_4_code 147 = .ok (.bipush 8, 2) := by decide +kernel
theorem d2_149 : decode method_4_code 149 = .ok (.iushr, 1) := by decide +kernel
theorem d2_150 : decode method_4_code 150 = .ok (.bipush 63, 2) := by decide +kernel
theorem d2_152 : decode method_4_code 152 = .ok (.iand, 1) := by decide +kernel
theorem d2_153 : decode method_4_code 153 = .ok (.ior, 1) := by decide +kernel
theorem d2_154 : decode method_4_code 154 = .ok (.istore 7, 2) := by decide +kernel
theorem d2_156 : decode method_4_code 156 = .ok (.aload_n 0, 1) := by decide +kernel
theorem d2_157 : decode method_4_code 157 = .ok (.iload_n 1, 1) := by decide +kernel
theorem d2_158 : decode method_4_code 158 = .ok (.iload 6, 2) := by decide +kernel
theorem d2_160 : decode method_4_code 160 = .ok (.i2b, 1) := by decide +kernel
theorem d2_161 : decode method_4_code 161 = .ok (.bastore, 1) := by decide +kernel
theorem d2_162 : decode method_4_code 162 = .ok (.aload_n 0, 1) := by decide +kernel
theorem d2_163 : decode method_4_code 163 = .ok (.iload_n 1, 1) := by decide +kernel
theorem d2_164 : decode method_4_code 164 = .ok (.iconst 1, 1) := by decide +kernel
theorem d2_165 : decode method_4_code 165 = .ok (.iadd, 1) := by decide +kernel
theorem d2_166 : decode method_4_code 166 = .ok (.iload 7, 2) := by decide +kernel
theorem d2_168 : decode method_4_code 168 = .ok (.i2b, 1) := by decide +kernel
theorem d2_169 : decode method_4_code 169 = .ok (.bastore, 1) := by decide +kernel
theorem d2_170 : decode method_4_code 170 = .ok (.aload_n 0, 1) := by decide +kernel
theorem d2_171 : decode method_4_code 171 = .ok (.iload_n 1, 1) := by decide +kernel
theorem d2_172 : decode method_4_code 172 = .ok (.iconst 2, 1) := by decide +kernel
theorem d2_173 : decode method_4_code 173 = .ok (.iadd, 1) := by decide +kernel
theorem d2_174 : decode method_4_code 174 = .ok (.iload 4, 2) := by decide +kernel
theorem d2_176 : decode method_4_code 176 = .ok (.i2b, 1) := by decide +kernel
theorem d2_177 : decode method_4_code 177 = .ok (.bastore, 1) := by decide +kernel
theorem d2_178 : decode method_4_code 178 = .ok (.iconst 3, 1) := by decide +kernel
theorem d2_179 : decode method_4_code 179 = .ok (.ireturn, 1) := by decide +kernel
theorem d2_180 : decode method_4_code 180 = .ok (.sipush 240, 3) := by decide +kernel
theorem d2_183 : decode method_4_code 183 = .ok (.iload_n 3, 1) := by decide +kernel
theorem d2_184 : decode method_4_code 184 = .ok (.sipush 255, 3) := by decide +kernel
theorem d2_187 : decode method_4_code 187 = .ok (.iand, 1) := by decide +kernel
theorem d2_188 : decode method_4_code 188 = .ok (.iconst 5, 1) := by decide +kernel
theorem d2_189 : decode method_4_code 189 = .ok (.irem, 1) := by decide +kernel
theorem d2_190 : decode method_4_code 190 = .ok (.iadd, 1) := by decide +kernel
theorem d2_191 : decode method_4_code 191 = .ok (.istore 6, 2) := by decide +kernel
theorem d2_193 : decode method_4_code 193 = .ok (.iload 6, 2) := by decide +kernel
theorem d2_195 : decode method_4_code 195 = .ok (.sipush 240, 3) := by decide +kernel
theorem d2_198 : decode method_4_code 198 = .ok (.if_icmp .ne 23, 3) := by decide +kernel
theorem d2_201 : decode method_4_code 201 = .ok (.sipush 144, 3) := by decide +kernel
theorem d2_204 : decode method_4_code 204 = .ok (.iload_n 3, 1) := by decide +kernel
theorem d2_205 : decode method_4_code 205 = .ok (.bipush 8, 2) := by decide +kernel
theorem d2_207 : decode method_4_code 207 = .ok (.iushr, 1) := by decide +kernel
theorem d2_208 : decode method_4_code 208 = .ok (.sipush 255, 3) := by decide +kernel
theorem d2_211 : decode method_4_code 211 = .ok (.iand, 1) := by decide +kernel
theorem d2_212 : decode method_4_code 212 = .ok (.bipush 48, 2) := by decide +kernel
theorem d2_214 : decode method_4_code 214 = .ok (.irem, 1) := by decide +kernel
theorem d2_215 : decode method_4_code 215 = .ok (.iadd, 1) := by decide +kernel
theorem d2_216 : decode method_4_code 216 = .ok (.istore 7, 2) := by decide +kernel
theorem d2_218 : decode method_4_code 218 = .ok (.goto 40, 3) := by decide +kernel
theorem d2_221 : decode method_4_code 221 = .ok (.iload 6, 2) := by decide +kernel
theorem d2_223 : decode method_4_code 223 = .ok (.sipush 244, 3) := by decide +kernel
theorem d2_226 : decode method_4_code 226 = .ok (.if_icmp .ne 19, 3) := by decide +kernel
theorem d2_229 : decode method_4_code 229 = .ok (.sipush 128, 3) := by decide +kernel
theorem d2_232 : decode method_4_code 232 = .ok (.iload_n 3, 1) := by decide +kernel
theorem d2_233 : decode method_4_code 233 = .ok (.bipush 8, 2) := by decide +kernel
theorem d2_235 : decode method_4_code 235 = .ok (.iushr, 1) := by decide +kernel
theorem d2_236 : decode method_4_code 236 = .ok (.bipush 15, 2) := by decide +kernel
theorem d2_238 : decode method_4_code 238 = .ok (.iand, 1) := by decide +kernel
theorem d2_239 : decode method_4_code 239 = .ok (.ior, 1) := by decide +kernel
theorem d2_240 : decode method_4_code 240 = .ok (.istore 7, 2) := by decide +kernel
theorem d2_242 : decode method_4_code 242 = .ok (.goto 16, 3) := by decide +kernel
theorem d2_245 : decode method_4_code 245 = .ok (.sipush 128, 3) := by decide +kernel
theorem d2_248 : decode method_4_code 248 = .ok (.iload_n 3, 1) := by decide +kernel
theorem d2_249 : decode method_4_code 249 = .ok (.bipush 8, 2) := by decide +kernel
theorem d2_251 : decode method_4_code 251 = .ok (.iushr, 1) := by decide +kernel
theorem d2_252 : decode method_4_code 252 = .ok (.bipush 63, 2) := by decide +kernel
theorem d2_254 : decode method_4_code 254 = .ok (.iand, 1) := by decide +kernel
theorem d2_255 : decode method_4_code 255 = .ok (.ior, 1) := by decide +kernel
theorem d2_256 : decode method_4_code 256 = .ok (.istore 7, 2) := by decide +kernel
theorem d2_258 : decode method_4_code 258 = .ok (.aload_n 0, 1) := by decide +kernel
theorem d2_259 : decode method_4_code 259 = .ok (.iload_n 1, 1) := by decide +kernel
theorem d2_260 : decode method_4_code 260 = .ok (.iload 6, 2) := by decide +kernel
theorem d2_262 : decode method_4_code 262 = .ok (.i2b, 1) := by decide +kernel
theorem d2_263 : decode method_4_code 263 = .ok (.bastore, 1) := by decide +kernel
theorem d2_264 : decode method_4_code 264 = .ok (.aload_n 0, 1) := by decide +kernel
theorem d2_265 : decode method_4_code 265 = .ok (.iload_n 1, 1) := by decide +kernel
theorem d2_266 : decode method_4_code 266 = .ok (.iconst 1, 1) := by decide +kernel
theorem d2_267 : decode method_4_code 267 = .ok (.iadd, 1) := by decide +kernel
theorem d2_268 : decode method_4_code 268 = .ok (.iload 7, 2) := by decide +kernel
theorem d2_270 : decode method_4_code 270 = .ok (.i2b, 1) := by decide +kernel
theorem d2_271 : decode method_4_code 271 = .ok (.bastore, 1) := by decide +kernel
theorem d2_272 : decode method_4_code 272 = .ok (.aload_n 0, 1) := by decide +kernel
theorem d2_273 : decode method_4_code 273 = .ok (.iload_n 1, 1) := by decide +kernel
theorem d2_274 : decode method_4_code 274 = .ok (.iconst 2, 1) := by decide +kernel
theorem d2_275 : decode method_4_code 275 = .ok (.iadd, 1) := by decide +kernel
theorem d2_276 : decode method_4_code 276 = .ok (.iload 4, 2) := by decide +kernel
theorem d2_278 : decode method_4_code 278 = .ok (.i2b, 1) := by decide +kernel
theorem d2_279 : decode method_4_code 279 = .ok (.bastore, 1) := by decide +kernel
theorem d2_280 : decode method_4_code 280 = .ok (.aload_n 0, 1) := by decide +kernel
theorem d2_281 : decode method_4_code 281 = .ok (.iload_n 1, 1) := by decide +kernel
theorem d2_282 : decode method_4_code 282 = .ok (.iconst 3, 1) := by decide +kernel
theorem d2_283 : decode method_4_code 283 = .ok (.iadd, 1) := by decide +kernel
theorem d2_284 : decode method_4_code 284 = .ok (.iload 5, 2) := by decide +kernel
theorem d2_286 : decode method_4_code 286 = .ok (.i2b, 1) := by decide +kernel
theorem d2_287 : decode method_4_code 287 = .ok (.bastore, 1) := by decide +kernel
theorem d2_288 : decode method_4_code 288 = .ok (.iconst 4, 1) := by decide +kernel
theorem d2_289 : decode method_4_code 289 = .ok (.ireturn, 1) := by decide +kernel
theorem ef_2 (m : MethodId) (qa : Addr) (qp : Int32) (qn : Int32) (qr : Int32) : entryFrame m #[(.ref qa), (.int qp), (.int qn), (.int qr)] 8 = mkF m 0 #[.val (.ref qa), .val (.int qp), .val (.int qn), .val (.int qr), .unset, .unset, .unset, .unset] [] := by first | (simp [entryFrame, mkF, argsToLocals, Value.category]; done) | rfl
def Q2 (Z : State) (qa : Addr) (qp : Int32) (qn : Int32) (qr : Int32) (qk : ClassId) (qf : Nat → Int32) (h0 : Heap) (n0 : Nat) (v : Option Value) (h : Heap) (L : List Loc) : Prop := ∃ (fo : Nat → Int32) (lo : Int32), v = some (.int lo) ∧ Fr n0 L ∧ Keep h0 h [qa] ∧ own_Byt Z h qa qk fo ∧ own_Put qf fo qp lo
set_option maxRecDepth 65536 in
set_option maxHeartbeats 40000000 in
theorem rm2 (l : Launch) (Z : State) (a0 : Array Value) (hw : ∀ d ∈ tables_1, d.before a0 Z = true) (ws : List Jvm.Cond) (qa : Addr) (qp : Int32) (qn : Int32) (qr : Int32) (qk : ClassId) (qf : Nat → Int32) (h0 : Heap) (n0 : Nat) (Z0 : n0 ≤ h0.size) (B_qa : own_Byt Z h0 qa qk qf) (hat : 0 ≤ qp.toInt ∧ qp.toInt ≤ 12) (g_qa : n0 ≤ qa) :
    MetFree l (⟨"com/example/strict_acl/strictacl/Utf8TextByteAfterPinLaw", "put", "([BIII)I"⟩ : MethodName) (head1 (Jvm.Cond.code (⟨"com/example/strict_acl/strictacl/Utf8TextByteAfterPinLaw", "put", "([BIII)I"⟩ : MethodName) method_4_code 8 (some .int) :: ws) ({ frames := 0, cells := 0, slots := 0, locals := 0 } : Room)) (fun a U => a = #[(.ref qa), (.int qp), (.int qn), (.int qr)] ∧ Z.Warmed39 U.vm ∧ U.heap = h0) (fun _ _ _ _ _ => True) (fun _ U o U' => ∃ v L, o = .returned v ∧ Q2 Z qa qp qn qr qk qf h0 n0 v U'.heap L ∧ FrameEnd U o U' L ({ frames := 0, cells := 0, slots := 0, locals := 0 } : Room).cells ({ frames := 0, cells := 0, slots := 0, locals := 0 } : Room).slots) := by
  refine MetFree.of_bodySF (plainFor_of_name pn_1) hisR ?_
  intro p e s m args below meth c s₁ Bd hml0 hP hK
  obtain ⟨rfl, hZ, hh⟩ := hP
  have hx := Bd.exec
  have hby := Bd.bytes
  have hml : c.maxLocals = 8 := hml0
  have hown : s.vm.findClass "com/example/strict_acl/strictacl/Utf8TextByteAfterPinLaw" = some m.cls := findClass_of_methodNamed Bd.named
  have hnm := (name_of_methodNamed Bd.named Bd.method).1
  have X0 : Stand p l e ({ frames := 0, cells := 0, slots := 0, locals := 0 } : Room) s m #[(.ref qa), (.int qp), (.int qn), (.int qr)] below meth c s₁ [] 0 0 := Stand.of_body Bd
  have e0 : s₁.heap = h0 := by rw [← hh, Bd.state]; rfl
  have N0 := Fr.nil n0
  obtain ⟨S0, hS0⟩ : ∃ z, z = s₁.setTop (entryFrame m #[(.ref qa), (.int qp), (.int qn), (.int qr)] 8) := ⟨_, rfl⟩
  have P0 : own_Go p e below S0 (s₁.setTop (mkF m 0 #[.val (.ref qa), .val (.int qp), .val (.int qn), .val (.int qr), .unset, .unset, .unset, .unset] [])) := fun t k => by rw [hS0]; exact castTop (ef_2 m qa qp qn qr) k
  have P1 : own_Go p e below S0 (s₁.setTop (mkF m 27 #[.val (.ref qa), .val (.int qp), .val (.int qn), .val (.int qr), .val (.int ((128 : Int32) ||| (((qr.toUInt32 >>> ((16 : Int32) &&& 31).toUInt32).toInt32) &&& (63 : Int32)))), .val (.int ((128 : Int32) ||| (((qr.toUInt32 >>> ((24 : Int32) &&& 31).toUInt32).toInt32) &&& (63 : Int32)))), .unset, .unset] [(.int qn)])) := fun t k => P0 t (by
    show Steps p.tables e below (s₁.setTop (mkF m 0 #[.val (.ref qa), .val (.int qp), .val (.int qn), .val (.int qr), .unset, .unset, .unset, .unset] [])) t
    refine XS.sipush X0.here hx rfl (hb hby d2_0) ?_
    refine XS.iloadN X0.here hx rfl (hb hby d2_3) rfl ?_
    refine XS.bipush X0.here hx rfl (hb hby d2_4) ?_
    refine XS.iushr X0.here hx rfl (hb hby d2_6) rfl ?_
    refine XS.bipush X0.here hx rfl (hb hby d2_7) ?_
    refine XS.iand X0.here hx rfl (hb hby d2_9) rfl ?_
    show Steps p.tables e below (s₁.setTop (mkF m 10 #[.val (.ref qa), .val (.int qp), .val (.int qn), .val (.int qr), .unset, .unset, .unset, .unset] [(.int (((qr.toUInt32 >>> ((16 : Int32) &&& 31).toUInt32).toInt32) &&& (63 : Int32))), (.int (128 : Int32))])) t
    refine XS.ior X0.here hx rfl (hb hby d2_10) rfl ?_
    refine XS.istore X0.here hx rfl (hb hby d2_11) rfl (l' := #[.val (.ref qa), .val (.int qp), .val (.int qn), .val (.int qr), .val (.int ((128 : Int32) ||| (((qr.toUInt32 >>> ((16 : Int32) &&& 31).toUInt32).toInt32) &&& (63 : Int32)))), .unset, .unset, .unset]) rfl ?_
    refine XS.sipush X0.here hx rfl (hb hby d2_13) ?_
    refine XS.iloadN X0.here hx rfl (hb hby d2_16) rfl ?_
    refine XS.bipush X0.here hx rfl (hb hby d2_17) ?_
    refine XS.iushr X0.here hx rfl (hb hby d2_19) rfl ?_
    show Steps p.tables e below (s₁.setTop (mkF m 20 #[.val (.ref qa), .val (.int qp), .val (.int qn), .val (.int qr), .val (.int ((128 : Int32) ||| (((qr.toUInt32 >>> ((16 : Int32) &&& 31).toUInt32).toInt32) &&& (63 : Int32)))), .unset, .unset, .unset] [(.int ((qr.toUInt32 >>> ((24 : Int32) &&& 31).toUInt32).toInt32)), (.int (128 : Int32))])) t
    refine XS.bipush X0.here hx rfl (hb hby d2_20) ?_
    refine XS.iand X0.here hx rfl (hb hby d2_22) rfl ?_
    refine XS.ior X0.here hx rfl (hb hby d2_23) rfl ?_
    refine XS.istore X0.here hx rfl (hb hby d2_24) rfl (l' := #[.val (.ref qa), .val (.int qp), .val (.int qn), .val (.int qr), .val (.int ((128 : Int32) ||| (((qr.toUInt32 >>> ((16 : Int32) &&& 31).toUInt32).toInt32) &&& (63 : Int32)))), .val (.int ((128 : Int32) ||| (((qr.toUInt32 >>> ((24 : Int32) &&& 31).toUInt32).toInt32) &&& (63 : Int32)))), .unset, .unset]) rfl ?_
    refine XS.iloadN X0.here hx rfl (hb hby d2_26) rfl ?_
    show Steps p.tables e below (s₁.setTop (mkF m 27 #[.val (.ref qa), .val (.int qp), .val (.int qn), .val (.int qr), .val (.int ((128 : Int32) ||| (((qr.toUInt32 >>> ((16 : Int32) &&& 31).toUInt32).toInt32) &&& (63 : Int32)))), .val (.int ((128 : Int32) ||| (((qr.toUInt32 >>> ((24 : Int32) &&& 31).toUInt32).toInt32) &&& (63 : Int32)))), .unset, .unset] [(.int qn)])) t
    exact k)
  by_cases c2 : qn = (0 : Int32)
  · skip
    have P3 : own_Go p e below S0 (s₁.setTop (mkF m 37 #[.val (.ref qa), .val (.int qp), .val (.int qn), .val (.int qr), .val (.int ((128 : Int32) ||| (((qr.toUInt32 >>> ((16 : Int32) &&& 31).toUInt32).toInt32) &&& (63 : Int32)))), .val (.int ((128 : Int32) ||| (((qr.toUInt32 >>> ((24 : Int32) &&& 31).toUInt32).toInt32) &&& (63 : Int32)))), .unset, .unset] [(.int ((qr &&& (127 : Int32)).toInt8.toInt32)), (.int qp), (.ref qa)])) := fun t k => P1 t (by
      show Steps p.tables e below (s₁.setTop (mkF m 27 #[.val (.ref qa), .val (.int qp), .val (.int qn), .val (.int qr), .val (.int ((128 : Int32) ||| (((qr.toUInt32 >>> ((16 : Int32) &&& 31).toUInt32).toInt32) &&& (63 : Int32)))), .val (.int ((128 : Int32) ||| (((qr.toUInt32 >>> ((24 : Int32) &&& 31).toUInt32).toInt32) &&& (63 : Int32)))), .unset, .unset] [(.int qn)])) t
      refine XS.ifNo X0.here hx rfl (hb hby d2_27) rfl ((if0 _ _).trans (teq c2).2) ?_
      refine XS.aloadN X0.here hx rfl (hb hby d2_30) rfl rfl ?_
      refine XS.iloadN X0.here hx rfl (hb hby d2_31) rfl ?_
      refine XS.iloadN X0.here hx rfl (hb hby d2_32) rfl ?_
      refine XS.bipush X0.here hx rfl (hb hby d2_33) ?_
      refine XS.iand X0.here hx rfl (hb hby d2_35) rfl ?_
      show Steps p.tables e below (s₁.setTop (mkF m 36 #[.val (.ref qa), .val (.int qp), .val (.int qn), .val (.int qr), .val (.int ((128 : Int32) ||| (((qr.toUInt32 >>> ((16 : Int32) &&& 31).toUInt32).toInt32) &&& (63 : Int32)))), .val (.int ((128 : Int32) ||| (((qr.toUInt32 >>> ((24 : Int32) &&& 31).toUInt32).toInt32) &&& (63 : Int32)))), .unset, .unset] [(.int (qr &&& (127 : Int32))), (.int qp), (.ref qa)])) t
      refine XS.i2b X0.here hx rfl (hb hby d2_36) rfl ?_
      show Steps p.tables e below (s₁.setTop (mkF m 37 #[.val (.ref qa), .val (.int qp), .val (.int qn), .val (.int qr), .val (.int ((128 : Int32) ||| (((qr.toUInt32 >>> ((16 : Int32) &&& 31).toUInt32).toInt32) &&& (63 : Int32)))), .val (.int ((128 : Int32) ||| (((qr.toUInt32 >>> ((24 : Int32) &&& 31).toUInt32).toInt32) &&& (63 : Int32)))), .unset, .unset] [(.int ((qr &&& (127 : Int32)).toInt8.toInt32)), (.int qp), (.ref qa)])) t
      exact k)
    have hb5 : ¬ (qp < 0) ∧ qp < (16 : Int32) := own_inb ⟨by omega, by omega⟩
    obtain ⟨cl5, Ar5, q5, Sz5, Hh5⟩ := id B_qa
    have hin5 : ¬ (qp < 0 ∨ cl5.slots.size ≤ (qp).toNatClampNeg) := own_bin Sz5 hb5
    obtain ⟨T4, h4, X4, e4, W4, st4⟩ := stB X0 hx hZ e0 Ar5 (j := qp) hin5 (g := (mkF m 37 #[.val (.ref qa), .val (.int qp), .val (.int qn), .val (.int qr), .val (.int ((128 : Int32) ||| (((qr.toUInt32 >>> ((16 : Int32) &&& 31).toUInt32).toInt32) &&& (63 : Int32)))), .val (.int ((128 : Int32) ||| (((qr.toUInt32 >>> ((24 : Int32) &&& 31).toUInt32).toInt32) &&& (63 : Int32)))), .unset, .unset] [(.int ((qr &&& (127 : Int32)).toInt8.toInt32)), (.int qp), (.ref qa)])) rfl rfl (hb hby d2_37)
    have K4 : Keep h0 h4 [qa] := (Keep.refl h0 [qa]).wr W4 (Or.inl (by simp))
    have N4 := Fr.snoc X4 N0 g_qa
    obtain ⟨f4, hf4⟩ : ∃ g : Nat → Int32, g = fun i => if i = (qp).toNatClampNeg then (nar .byte ((qr &&& (127 : Int32)).toInt8.toInt32)) else qf i := ⟨_, rfl⟩
    have V4 : own_Byt Z h4 qa qk f4 := by rw [hf4]; exact own_bset ⟨cl5, Ar5, q5, Sz5, Hh5⟩ Ar5 Sz5 hin5 W4
    have P4 : own_Go p e below S0 (T4.setTop (mkF m 38 #[.val (.ref qa), .val (.int qp), .val (.int qn), .val (.int qr), .val (.int ((128 : Int32) ||| (((qr.toUInt32 >>> ((16 : Int32) &&& 31).toUInt32).toInt32) &&& (63 : Int32)))), .val (.int ((128 : Int32) ||| (((qr.toUInt32 >>> ((24 : Int32) &&& 31).toUInt32).toInt32) &&& (63 : Int32)))), .unset, .unset] [])) := fun t k => P3 t (st4 _ k)
    have P6 : own_Go p e below S0 (T4.setTop (mkF m 39 #[.val (.ref qa), .val (.int qp), .val (.int qn), .val (.int qr), .val (.int ((128 : Int32) ||| (((qr.toUInt32 >>> ((16 : Int32) &&& 31).toUInt32).toInt32) &&& (63 : Int32)))), .val (.int ((128 : Int32) ||| (((qr.toUInt32 >>> ((24 : Int32) &&& 31).toUInt32).toInt32) &&& (63 : Int32)))), .unset, .unset] [(.int (1 : Int32))])) := fun t k => P4 t (by
      show Steps p.tables e below (T4.setTop (mkF m 38 #[.val (.ref qa), .val (.int qp), .val (.int qn), .val (.int qr), .val (.int ((128 : Int32) ||| (((qr.toUInt32 >>> ((16 : Int32) &&& 31).toUInt32).toInt32) &&& (63 : Int32)))), .val (.int ((128 : Int32) ||| (((qr.toUInt32 >>> ((24 : Int32) &&& 31).toUInt32).toInt32) &&& (63 : Int32)))), .unset, .unset] [])) t
      refine XS.iconst X4.here hx rfl (hb hby d2_38) ?_
      show Steps p.tables e below (T4.setTop (mkF m 39 #[.val (.ref qa), .val (.int qp), .val (.int qn), .val (.int qr), .val (.int ((128 : Int32) ||| (((qr.toUInt32 >>> ((16 : Int32) &&& 31).toUInt32).toInt32) &&& (63 : Int32)))), .val (.int ((128 : Int32) ||| (((qr.toUInt32 >>> ((24 : Int32) &&& 31).toUInt32).toInt32) &&& (63 : Int32)))), .unset, .unset] [(.int (1 : Int32))])) t
      exact k)
    obtain ⟨fs, hr, hrun, hended, hW, hsame⟩ := X4.leave (v := some (.int (1 : Int32))) (fun h => by rw [Bd.returns] at h; cases h)
    refine ⟨_, _, own_from hS0 (P6 _ ?_), hrun, hended, _, _, rfl, ?_, ⟨_, rfl⟩, hW, hsame.mono (by decide) (by decide)⟩
    · show Steps p.tables e below (T4.setTop (mkF m 39 #[.val (.ref qa), .val (.int qp), .val (.int qn), .val (.int qr), .val (.int ((128 : Int32) ||| (((qr.toUInt32 >>> ((16 : Int32) &&& 31).toUInt32).toInt32) &&& (63 : Int32)))), .val (.int ((128 : Int32) ||| (((qr.toUInt32 >>> ((24 : Int32) &&& 31).toUInt32).toInt32) &&& (63 : Int32)))), .unset, .unset] [(.int (1 : Int32))])) _
      exact retI X4 hx Bd.returns (hb hby d2_39) hr
    · show Q2 Z qa qp qn qr qk qf h0 n0 _ T4.heap _
      rw [e4]
      exact ⟨f4, (1 : Int32), rfl, N4, K4, V4, (by subst hf4; exact own_put1 (own_k0 _))⟩
  · skip
    have P7 : own_Go p e below S0 (s₁.setTop (mkF m 42 #[.val (.ref qa), .val (.int qp), .val (.int qn), .val (.int qr), .val (.int ((128 : Int32) ||| (((qr.toUInt32 >>> ((16 : Int32) &&& 31).toUInt32).toInt32) &&& (63 : Int32)))), .val (.int ((128 : Int32) ||| (((qr.toUInt32 >>> ((24 : Int32) &&& 31).toUInt32).toInt32) &&& (63 : Int32)))), .unset, .unset] [(.int (1 : Int32)), (.int qn)])) := fun t k => P1 t (by
      show Steps p.tables e below (s₁.setTop (mkF m 27 #[.val (.ref qa), .val (.int qp), .val (.int qn), .val (.int qr), .val (.int ((128 : Int32) ||| (((qr.toUInt32 >>> ((16 : Int32) &&& 31).toUInt32).toInt32) &&& (63 : Int32)))), .val (.int ((128 : Int32) ||| (((qr.toUInt32 >>> ((24 : Int32) &&& 31).toUInt32).toInt32) &&& (63 : Int32)))), .unset, .unset] [(.int qn)])) t
      refine XS.ifYes X0.here hx rfl (pc0 := 27) (pc' := 40) rfl (hb hby d2_27) rfl ((if0 _ _).trans (feq c2).2) (by decide) (by decide) ?_
      refine XS.iloadN X0.here hx rfl (hb hby d2_40) rfl ?_
      refine XS.iconst X0.here hx rfl (hb hby d2_41) ?_
      show Steps p.tables e below (s₁.setTop (mkF m 42 #[.val (.ref qa), .val (.int qp), .val (.int qn), .val (.int qr), .val (.int ((128 : Int32) ||| (((qr.toUInt32 >>> ((16 : Int32) &&& 31).toUInt32).toInt32) &&& (63 : Int32)))), .val (.int ((128 : Int32) ||| (((qr.toUInt32 >>> ((24 : Int32) &&& 31).toUInt32).toInt32) &&& (63 : Int32)))), .unset, .unset] [(.int (1 : Int32)), (.int qn)])) t
      exact k)
    by_cases c8 : qn = (1 : Int32)
    · skip
      have P9 : own_Go p e below S0 (s₁.setTop (mkF m 60 #[.val (.ref qa), .val (.int qp), .val (.int qn), .val (.int qr), .val (.int ((128 : Int32) ||| (((qr.toUInt32 >>> ((16 : Int32) &&& 31).toUInt32).toInt32) &&& (63 : Int32)))), .val (.int ((128 : Int32) ||| (((qr.toUInt32 >>> ((24 : Int32) &&& 31).toUInt32).toInt32) &&& (63 : Int32)))), .unset, .unset] [(.int (((194 : Int32) + ((qr &&& (255 : Int32)) % (30 : Int32))).toInt8.toInt32)), (.int qp), (.ref qa)])) := fun t k => P7 t (by
        show Steps p.tables e below (s₁.setTop (mkF m 42 #[.val (.ref qa), .val (.int qp), .val (.int qn), .val (.int qr), .val (.int ((128 : Int32) ||| (((qr.toUInt32 >>> ((16 : Int32) &&& 31).toUInt32).toInt32) &&& (63 : Int32)))), .val (.int ((128 : Int32) ||| (((qr.toUInt32 >>> ((24 : Int32) &&& 31).toUInt32).toInt32) &&& (63 : Int32)))), .unset, .unset] [(.int (1 : Int32)), (.int qn)])) t
        refine XS.icmpNo X0.here hx rfl (hb hby d2_42) rfl (teq c8).2 ?_
        refine XS.aloadN X0.here hx rfl (hb hby d2_45) rfl rfl ?_
        refine XS.iloadN X0.here hx rfl (hb hby d2_46) rfl ?_
        refine XS.sipush X0.here hx rfl (hb hby d2_47) ?_
        refine XS.iloadN X0.here hx rfl (hb hby d2_50) rfl ?_
        refine XS.sipush X0.here hx rfl (hb hby d2_51) ?_
        show Steps p.tables e below (s₁.setTop (mkF m 54 #[.val (.ref qa), .val (.int qp), .val (.int qn), .val (.int qr), .val (.int ((128 : Int32) ||| (((qr.toUInt32 >>> ((16 : Int32) &&& 31).toUInt32).toInt32) &&& (63 : Int32)))), .val (.int ((128 : Int32) ||| (((qr.toUInt32 >>> ((24 : Int32) &&& 31).toUInt32).toInt32) &&& (63 : Int32)))), .unset, .unset] [(.int (255 : Int32)), (.int qr), (.int (194 : Int32)), (.int qp), (.ref qa)])) t
        refine XS.iand X0.here hx rfl (hb hby d2_54) rfl ?_
        refine XS.bipush X0.here hx rfl (hb hby d2_55) ?_
        refine iremM (g := (mkF m 57 #[.val (.ref qa), .val (.int qp), .val (.int qn), .val (.int qr), .val (.int ((128 : Int32) ||| (((qr.toUInt32 >>> ((16 : Int32) &&& 31).toUInt32).toInt32) &&& (63 : Int32)))), .val (.int ((128 : Int32) ||| (((qr.toUInt32 >>> ((24 : Int32) &&& 31).toUInt32).toInt32) &&& (63 : Int32)))), .unset, .unset] [(.int (30 : Int32)), (.int (qr &&& (255 : Int32))), (.int (194 : Int32)), (.int qp), (.ref qa)])) X0 hx rfl (hb hby d2_57) rfl (by decide) ?_
        refine XS.iadd X0.here hx rfl (hb hby d2_58) rfl ?_
        refine XS.i2b X0.here hx rfl (hb hby d2_59) rfl ?_
        show Steps p.tables e below (s₁.setTop (mkF m 60 #[.val (.ref qa), .val (.int qp), .val (.int qn), .val (.int qr), .val (.int ((128 : Int32) ||| (((qr.toUInt32 >>> ((16 : Int32) &&& 31).toUInt32).toInt32) &&& (63 : Int32)))), .val (.int ((128 : Int32) ||| (((qr.toUInt32 >>> ((24 : Int32) &&& 31).toUInt32).toInt32) &&& (63 : Int32)))), .unset, .unset] [(.int (((194 : Int32) + ((qr &&& (255 : Int32)) % (30 : Int32))).toInt8.toInt32)), (.int qp), (.ref qa)])) t
        exact k)
      have hb11 : ¬ (qp < 0) ∧ qp < (16 : Int32) := own_inb ⟨by omega, by omega⟩
      obtain ⟨cl11, Ar11, q11, Sz11, Hh11⟩ := id B_qa
      have hin11 : ¬ (qp < 0 ∨ cl11.slots.size ≤ (qp).toNatClampNeg) := own_bin Sz11 hb11
      obtain ⟨T10, h10, X10, e10, W10, st10⟩ := stB X0 hx hZ e0 Ar11 (j := qp) hin11 (g := (mkF m 60 #[.val (.ref qa), .val (.int qp), .val (.int qn), .val (.int qr), .val (.int ((128 : Int32) ||| (((qr.toUInt32 >>> ((16 : Int32) &&& 31).toUInt32).toInt32) &&& (63 : Int32)))), .val (.int ((128 : Int32) ||| (((qr.toUInt32 >>> ((24 : Int32) &&& 31).toUInt32).toInt32) &&& (63 : Int32)))), .unset, .unset] [(.int (((194 : Int32) + ((qr &&& (255 : Int32)) % (30 : Int32))).toInt8.toInt32)), (.int qp), (.ref qa)])) rfl rfl (hb hby d2_60)
      have K10 : Keep h0 h10 [qa] := (Keep.refl h0 [qa]).wr W10 (Or.inl (by simp))
      have N10 := Fr.snoc X10 N0 g_qa
      obtain ⟨f10, hf10⟩ : ∃ g : Nat → Int32, g = fun i => if i = (qp).toNatClampNeg then (nar .byte (((194 : Int32) + ((qr &&& (255 : Int32)) % (30 : Int32))).toInt8.toInt32)) else qf i := ⟨_, rfl⟩
      have V10 : own_Byt Z h10 qa qk f10 := by rw [hf10]; exact own_bset ⟨cl11, Ar11, q11, Sz11, Hh11⟩ Ar11 Sz11 hin11 W10
      have P10 : own_Go p e below S0 (T10.setTop (mkF m 61 #[.val (.ref qa), .val (.int qp), .val (.int qn), .val (.int qr), .val (.int ((128 : Int32) ||| (((qr.toUInt32 >>> ((16 : Int32) &&& 31).toUInt32).toInt32) &&& (63 : Int32)))), .val (.int ((128 : Int32) ||| (((qr.toUInt32 >>> ((24 : Int32) &&& 31).toUInt32).toInt32) &&& (63 : Int32)))), .unset, .unset] [])) := fun t k => P9 t (st10 _ k)
      have P12 : own_Go p e below S0 (T10.setTop (mkF m 77 #[.val (.ref qa), .val (.int qp), .val (.int qn), .val (.int qr), .val (.int ((128 : Int32) ||| (((qr.toUInt32 >>> ((16 : Int32) &&& 31).toUInt32).toInt32) &&& (63 : Int32)))), .val (.int ((128 : Int32) ||| (((qr.toUInt32 >>> ((24 : Int32) &&& 31).toUInt32).toInt32) &&& (63 : Int32)))), .unset, .unset] [(.int (((128 : Int32) ||| (((qr.toUInt32 >>> ((8 : Int32) &&& 31).toUInt32).toInt32) &&& (63 : Int32))).toInt8.toInt32)), (.int (qp + (1 : Int32))), (.ref qa)])) := fun t k => P10 t (by
        show Steps p.tables e below (T10.setTop (mkF m 61 #[.val (.ref qa), .val (.int qp), .val (.int qn), .val (.int qr), .val (.int ((128 : Int32) ||| (((qr.toUInt32 >>> ((16 : Int32) &&& 31).toUInt32).toInt32) &&& (63 : Int32)))), .val (.int ((128 : Int32) ||| (((qr.toUInt32 >>> ((24 : Int32) &&& 31).toUInt32).toInt32) &&& (63 : Int32)))), .unset, .unset] [])) t
        refine XS.aloadN X10.here hx rfl (hb hby d2_61) rfl rfl ?_
        refine XS.iloadN X10.here hx rfl (hb hby d2_62) rfl ?_
        refine XS.iconst X10.here hx rfl (hb hby d2_63) ?_
        refine XS.iadd X10.here hx rfl (hb hby d2_64) rfl ?_
        refine XS.sipush X10.here hx rfl (hb hby d2_65) ?_
        refine XS.iloadN X10.here hx rfl (hb hby d2_68) rfl ?_
        show Steps p.tables e below (T10.setTop (mkF m 69 #[.val (.ref qa), .val (.int qp), .val (.int qn), .val (.int qr), .val (.int ((128 : Int32) ||| (((qr.toUInt32 >>> ((16 : Int32) &&& 31).toUInt32).toInt32) &&& (63 : Int32)))), .val (.int ((128 : Int32) ||| (((qr.toUInt32 >>> ((24 : Int32) &&& 31).toUInt32).toInt32) &&& (63 : Int32)))), .unset, .unset] [(.int qr), (.int (128 : Int32)), (.int (qp + (1 : Int32))), (.ref qa)])) t
        refine XS.bipush X10.here hx rfl (hb hby d2_69) ?_
        refine XS.iushr X10.here hx rfl (hb hby d2_71) rfl ?_
        refine XS.bipush X10.here hx rfl (hb hby d2_72) ?_
        refine XS.iand X10.here hx rfl (hb hby d2_74) rfl ?_
        refine XS.ior X10.here hx rfl (hb hby d2_75) rfl ?_
        refine XS.i2b X10.here hx rfl (hb hby d2_76) rfl ?_
        show Steps p.tables e below (T10.setTop (mkF m 77 #[.val (.ref qa), .val (.int qp), .val (.int qn), .val (.int qr), .val (.int ((128 : Int32) ||| (((qr.toUInt32 >>> ((16 : Int32) &&& 31).toUInt32).toInt32) &&& (63 : Int32)))), .val (.int ((128 : Int32) ||| (((qr.toUInt32 >>> ((24 : Int32) &&& 31).toUInt32).toInt32) &&& (63 : Int32)))), .unset, .unset] [(.int (((128 : Int32) ||| (((qr.toUInt32 >>> ((8 : Int32) &&& 31).toUInt32).toInt32) &&& (63 : Int32))).toInt8.toInt32)), (.int (qp + (1 : Int32))), (.ref qa)])) t
        exact k)
      have hb14 : ¬ ((qp + (1 : Int32)) < 0) ∧ (qp + (1 : Int32)) < (16 : Int32) := own_inb (by rw [own_in1 hat]; omega)
      obtain ⟨cl14, Ar14, q14, Sz14, Hh14⟩ := id V10
      have hin14 : ¬ ((qp + (1 : Int32)) < 0 ∨ cl14.slots.size ≤ ((qp + (1 : Int32))).toNatClampNeg) := own_bin Sz14 hb14
      obtain ⟨T13, h13, X13, e13, W13, st13⟩ := stB X10 hx hZ e10 Ar14 (j := (qp + (1 : Int32))) hin14 (g := (mkF m 77 #[.val (.ref qa), .val (.int qp), .val (.int qn), .val (.int qr), .val (.int ((128 : Int32) ||| (((qr.toUInt32 >>> ((16 : Int32) &&& 31).toUInt32).toInt32) &&& (63 : Int32)))), .val (.int ((128 : Int32) ||| (((qr.toUInt32 >>> ((24 : Int32) &&& 31).toUInt32).toInt32) &&& (63 : Int32)))), .unset, .unset] [(.int (((128 : Int32) ||| (((qr.toUInt32 >>> ((8 : Int32) &&& 31).toUInt32).toInt32) &&& (63 : Int32))).toInt8.toInt32)), (.int (qp + (1 : Int32))), (.ref qa)])) rfl rfl (hb hby d2_77)
      have K13 : Keep h0 h13 [qa] := K10.wr W13 (Or.inl (by simp))
      have N13 := Fr.snoc X13 N10 g_qa
      obtain ⟨f13, hf13⟩ : ∃ g : Nat → Int32, g = fun i => if i = ((qp + (1 : Int32))).toNatClampNeg then (nar .byte (((128 : Int32) ||| (((qr.toUInt32 >>> ((8 : Int32) &&& 31).toUInt32).toInt32) &&& (63 : Int32))).toInt8.toInt32)) else f10 i := ⟨_, rfl⟩
      have V13 : own_Byt Z h13 qa qk f13 := by rw [hf13]; exact own_bset ⟨cl14, Ar14, q14, Sz14, Hh14⟩ Ar14 Sz14 hin14 W13
      have P13 : own_Go p e below S0 (T13.setTop (mkF m 78 #[.val (.ref qa), .val (.int qp), .val (.int qn), .val (.int qr), .val (.int ((128 : Int32) ||| (((qr.toUInt32 >>> ((16 : Int32) &&& 31).toUInt32).toInt32) &&& (63 : Int32)))), .val (.int ((128 : Int32) ||| (((qr.toUInt32 >>> ((24 : Int32) &&& 31).toUInt32).toInt32) &&& (63 : Int32)))), .unset, .unset] [])) := fun t k => P12 t (st13 _ k)
      have P15 : own_Go p e below S0 (T13.setTop (mkF m 79 #[.val (.ref qa), .val (.int qp), .val (.int qn), .val (.int qr), .val (.int ((128 : Int32) ||| (((qr.toUInt32 >>> ((16 : Int32) &&& 31).toUInt32).toInt32) &&& (63 : Int32)))), .val (.int ((128 : Int32) ||| (((qr.toUInt32 >>> ((24 : Int32) &&& 31).toUInt32).toInt32) &&& (63 : Int32)))), .unset, .unset] [(.int (2 : Int32))])) := fun t k => P13 t (by
        show Steps p.tables e below (T13.setTop (mkF m 78 #[.val (.ref qa), .val (.int qp), .val (.int qn), .val (.int qr), .val (.int ((128 : Int32) ||| (((qr.toUInt32 >>> ((16 : Int32) &&& 31).toUInt32).toInt32) &&& (63 : Int32)))), .val (.int ((128 : Int32) ||| (((qr.toUInt32 >>> ((24 : Int32) &&& 31).toUInt32).toInt32) &&& (63 : Int32)))), .unset, .unset] [])) t
        refine XS.iconst X13.here hx rfl (hb hby d2_78) ?_
        show Steps p.tables e below (T13.setTop (mkF m 79 #[.val (.ref qa), .val (.int qp), .val (.int qn), .val (.int qr), .val (.int ((128 : Int32) ||| (((qr.toUInt32 >>> ((16 : Int32) &&& 31).toUInt32).toInt32) &&& (63 : Int32)))), .val (.int ((128 : Int32) ||| (((qr.toUInt32 >>> ((24 : Int32) &&& 31).toUInt32).toInt32) &&& (63 : Int32)))), .unset, .unset] [(.int (2 : Int32))])) t
        exact k)
      obtain ⟨fs, hr, hrun, hended, hW, hsame⟩ := X13.leave (v := some (.int (2 : Int32))) (fun h => by rw [Bd.returns] at h; cases h)
      refine ⟨_, _, own_from hS0 (P15 _ ?_), hrun, hended, _, _, rfl, ?_, ⟨_, rfl⟩, hW, hsame.mono (by decide) (by decide)⟩
      · show Steps p.tables e below (T13.setTop (mkF m 79 #[.val (.ref qa), .val (.int qp), .val (.int qn), .val (.int qr), .val (.int ((128 : Int32) ||| (((qr.toUInt32 >>> ((16 : Int32) &&& 31).toUInt32).toInt32) &&& (63 : Int32)))), .val (.int ((128 : Int32) ||| (((qr.toUInt32 >>> ((24 : Int32) &&& 31).toUInt32).toInt32) &&& (63 : Int32)))), .unset, .unset] [(.int (2 : Int32))])) _
        exact retI X13 hx Bd.returns (hb hby d2_79) hr
      · show Q2 Z qa qp qn qr qk qf h0 n0 _ T13.heap _
        rw [e13]
        exact ⟨f13, (2 : Int32), rfl, N13, K13, V13, (by subst hf13; subst hf10; exact own_putS (own_put1 (own_k1 _)) (own_natlt hat.1 (by rw [own_in1 hat]; omega)))⟩
    · skip
      have P16 : own_Go p e below S0 (s₁.setTop (mkF m 82 #[.val (.ref qa), .val (.int qp), .val (.int qn), .val (.int qr), .val (.int ((128 : Int32) ||| (((qr.toUInt32 >>> ((16 : Int32) &&& 31).toUInt32).toInt32) &&& (63 : Int32)))), .val (.int ((128 : Int32) ||| (((qr.toUInt32 >>> ((24 : Int32) &&& 31).toUInt32).toInt32) &&& (63 : Int32)))), .unset, .unset] [(.int (2 : Int32)), (.int qn)])) := fun t k => P7 t (by
        show Steps p.tables e below (s₁.setTop (mkF m 42 #[.val (.ref qa), .val (.int qp), .val (.int qn), .val (.int qr), .val (.int ((128 : Int32) ||| (((qr.toUInt32 >>> ((16 : Int32) &&& 31).toUInt32).toInt32) &&& (63 : Int32)))), .val (.int ((128 : Int32) ||| (((qr.toUInt32 >>> ((24 : Int32) &&& 31).toUInt32).toInt32) &&& (63 : Int32)))), .unset, .unset] [(.int (1 : Int32)), (.int qn)])) t
        refine XS.icmpYes X0.here hx rfl (pc0 := 42) (pc' := 80) rfl (hb hby d2_42) rfl (feq c8).2 (by decide) (by decide) ?_
        refine XS.iloadN X0.here hx rfl (hb hby d2_80) rfl ?_
        refine XS.iconst X0.here hx rfl (hb hby d2_81) ?_
        show Steps p.tables e below (s₁.setTop (mkF m 82 #[.val (.ref qa), .val (.int qp), .val (.int qn), .val (.int qr), .val (.int ((128 : Int32) ||| (((qr.toUInt32 >>> ((16 : Int32) &&& 31).toUInt32).toInt32) &&& (63 : Int32)))), .val (.int ((128 : Int32) ||| (((qr.toUInt32 >>> ((24 : Int32) &&& 31).toUInt32).toInt32) &&& (63 : Int32)))), .unset, .unset] [(.int (2 : Int32)), (.int qn)])) t
        exact k)
      by_cases c17 : qn = (2 : Int32)
      · skip
        have P18 : own_Go p e below S0 (s₁.setTop (mkF m 100 #[.val (.ref qa), .val (.int qp), .val (.int qn), .val (.int qr), .val (.int ((128 : Int32) ||| (((qr.toUInt32 >>> ((16 : Int32) &&& 31).toUInt32).toInt32) &&& (63 : Int32)))), .val (.int ((128 : Int32) ||| (((qr.toUInt32 >>> ((24 : Int32) &&& 31).toUInt32).toInt32) &&& (63 : Int32)))), .val (.int ((224 : Int32) ||| (qr &&& (15 : Int32)))), .unset] [(.int (224 : Int32)), (.int ((224 : Int32) ||| (qr &&& (15 : Int32))))])) := fun t k => P16 t (by
          show Steps p.tables e below (s₁.setTop (mkF m 82 #[.val (.ref qa), .val (.int qp), .val (.int qn), .val (.int qr), .val (.int ((128 : Int32) ||| (((qr.toUInt32 >>> ((16 : Int32) &&& 31).toUInt32).toInt32) &&& (63 : Int32)))), .val (.int ((128 : Int32) ||| (((qr.toUInt32 >>> ((24 : Int32) &&& 31).toUInt32).toInt32) &&& (63 : Int32)))), .unset, .unset] [(.int (2 : Int32)), (.int qn)])) t
          refine XS.icmpNo X0.here hx rfl (hb hby d2_82) rfl (teq c17).2 ?_
          refine XS.sipush X0.here hx rfl (hb hby d2_85) ?_
          refine XS.iloadN X0.here hx rfl (hb hby d2_88) rfl ?_
          refine XS.bipush X0.here hx rfl (hb hby d2_89) ?_
          refine XS.iand X0.here hx rfl (hb hby d2_91) rfl ?_
          refine XS.ior X0.here hx rfl (hb hby d2_92) rfl ?_
          show Steps p.tables e below (s₁.setTop (mkF m 93 #[.val (.ref qa), .val (.int qp), .val (.int qn), .val (.int qr), .val (.int ((128 : Int32) ||| (((qr.toUInt32 >>> ((16 : Int32) &&& 31).toUInt32).toInt32) &&& (63 : Int32)))), .val (.int ((128 : Int32) ||| (((qr.toUInt32 >>> ((24 : Int32) &&& 31).toUInt32).toInt32) &&& (63 : Int32)))), .unset, .unset] [(.int ((224 : Int32) ||| (qr &&& (15 : Int32))))])) t
          refine XS.istore X0.here hx rfl (hb hby d2_93) rfl (l' := #[.val (.ref qa), .val (.int qp), .val (.int qn), .val (.int qr), .val (.int ((128 : Int32) ||| (((qr.toUInt32 >>> ((16 : Int32) &&& 31).toUInt32).toInt32) &&& (63 : Int32)))), .val (.int ((128 : Int32) ||| (((qr.toUInt32 >>> ((24 : Int32) &&& 31).toUInt32).toInt32) &&& (63 : Int32)))), .val (.int ((224 : Int32) ||| (qr &&& (15 : Int32)))), .unset]) rfl ?_
          refine XS.iload X0.here hx rfl (hb hby d2_95) rfl ?_
          refine XS.sipush X0.here hx rfl (hb hby d2_97) ?_
          show Steps p.tables e below (s₁.setTop (mkF m 100 #[.val (.ref qa), .val (.int qp), .val (.int qn), .val (.int qr), .val (.int ((128 : Int32) ||| (((qr.toUInt32 >>> ((16 : Int32) &&& 31).toUInt32).toInt32) &&& (63 : Int32)))), .val (.int ((128 : Int32) ||| (((qr.toUInt32 >>> ((24 : Int32) &&& 31).toUInt32).toInt32) &&& (63 : Int32)))), .val (.int ((224 : Int32) ||| (qr &&& (15 : Int32)))), .unset] [(.int (224 : Int32)), (.int ((224 : Int32) ||| (qr &&& (15 : Int32))))])) t
          exact k)
        obtain ⟨v25_l7, hv25_l7, P25⟩ : ∃ (v25_l7 : Int32), (v25_l7 = (if ((224 : Int32) ||| (qr &&& (15 : Int32))) = (224 : Int32) then ((160 : Int32) ||| (((qr.toUInt32 >>> ((8 : Int32) &&& 31).toUInt32).toInt32) &&& (31 : Int32))) else (if ((224 : Int32) ||| (qr &&& (15 : Int32))) = (237 : Int32) then ((128 : Int32) ||| (((qr.toUInt32 >>> ((8 : Int32) &&& 31).toUInt32).toInt32) &&& (31 : Int32))) else ((128 : Int32) ||| (((qr.toUInt32 >>> ((8 : Int32) &&& 31).toUInt32).toInt32) &&& (63 : Int32)))))) ∧ (own_Go p e below S0 (s₁.setTop (mkF m 156 #[.val (.ref qa), .val (.int qp), .val (.int qn), .val (.int qr), .val (.int ((128 : Int32) ||| (((qr.toUInt32 >>> ((16 : Int32) &&& 31).toUInt32).toInt32) &&& (63 : Int32)))), .val (.int ((128 : Int32) ||| (((qr.toUInt32 >>> ((24 : Int32) &&& 31).toUInt32).toInt32) &&& (63 : Int32)))), .val (.int ((224 : Int32) ||| (qr &&& (15 : Int32)))), .val (.int v25_l7)] []))) := by
          by_cases c19 : ((224 : Int32) ||| (qr &&& (15 : Int32))) = (224 : Int32)
          · skip
            have P20 : own_Go p e below S0 (s₁.setTop (mkF m 156 #[.val (.ref qa), .val (.int qp), .val (.int qn), .val (.int qr), .val (.int ((128 : Int32) ||| (((qr.toUInt32 >>> ((16 : Int32) &&& 31).toUInt32).toInt32) &&& (63 : Int32)))), .val (.int ((128 : Int32) ||| (((qr.toUInt32 >>> ((24 : Int32) &&& 31).toUInt32).toInt32) &&& (63 : Int32)))), .val (.int ((224 : Int32) ||| (qr &&& (15 : Int32)))), .val (.int ((160 : Int32) ||| (((qr.toUInt32 >>> ((8 : Int32) &&& 31).toUInt32).toInt32) &&& (31 : Int32))))] [])) := fun t k => P18 t (by
              show Steps p.tables e below (s₁.setTop (mkF m 100 #[.val (.ref qa), .val (.int qp), .val (.int qn), .val (.int qr), .val (.int ((128 : Int32) ||| (((qr.toUInt32 >>> ((16 : Int32) &&& 31).toUInt32).toInt32) &&& (63 : Int32)))), .val (.int ((128 : Int32) ||| (((qr.toUInt32 >>> ((24 : Int32) &&& 31).toUInt32).toInt32) &&& (63 : Int32)))), .val (.int ((224 : Int32) ||| (qr &&& (15 : Int32)))), .unset] [(.int (224 : Int32)), (.int ((224 : Int32) ||| (qr &&& (15 : Int32))))])) t
              refine XS.icmpNo X0.here hx rfl (hb hby d2_100) rfl (teq c19).2 ?_
              refine XS.sipush X0.here hx rfl (hb hby d2_103) ?_
              refine XS.iloadN X0.here hx rfl (hb hby d2_106) rfl ?_
              refine XS.bipush X0.here hx rfl (hb hby d2_107) ?_
              refine XS.iushr X0.here hx rfl (hb hby d2_109) rfl ?_
              refine XS.bipush X0.here hx rfl (hb hby d2_110) ?_
              show Steps p.tables e below (s₁.setTop (mkF m 112 #[.val (.ref qa), .val (.int qp), .val (.int qn), .val (.int qr), .val (.int ((128 : Int32) ||| (((qr.toUInt32 >>> ((16 : Int32) &&& 31).toUInt32).toInt32) &&& (63 : Int32)))), .val (.int ((128 : Int32) ||| (((qr.toUInt32 >>> ((24 : Int32) &&& 31).toUInt32).toInt32) &&& (63 : Int32)))), .val (.int ((224 : Int32) ||| (qr &&& (15 : Int32)))), .unset] [(.int (31 : Int32)), (.int ((qr.toUInt32 >>> ((8 : Int32) &&& 31).toUInt32).toInt32)), (.int (160 : Int32))])) t
              refine XS.iand X0.here hx rfl (hb hby d2_112) rfl ?_
              refine XS.ior X0.here hx rfl (hb hby d2_113) rfl ?_
              refine XS.istore X0.here hx rfl (hb hby d2_114) rfl (l' := #[.val (.ref qa), .val (.int qp), .val (.int qn), .val (.int qr), .val (.int ((128 : Int32) ||| (((qr.toUInt32 >>> ((16 : Int32) &&& 31).toUInt32).toInt32) &&& (63 : Int32)))), .val (.int ((128 : Int32) ||| (((qr.toUInt32 >>> ((24 : Int32) &&& 31).toUInt32).toInt32) &&& (63 : Int32)))), .val (.int ((224 : Int32) ||| (qr &&& (15 : Int32)))), .val (.int ((160 : Int32) ||| (((qr.toUInt32 >>> ((8 : Int32) &&& 31).toUInt32).toInt32) &&& (31 : Int32))))]) rfl ?_
              refine XS.goto X0.here hx rfl (pc0 := 116) (pc' := 156) rfl (hb hby d2_116) (by decide) (by decide) ?_
              show Steps p.tables e below (s₁.setTop (mkF m 156 #[.val (.ref qa), .val (.int qp), .val (.int qn), .val (.int qr), .val (.int ((128 : Int32) ||| (((qr.toUInt32 >>> ((16 : Int32) &&& 31).toUInt32).toInt32) &&& (63 : Int32)))), .val (.int ((128 : Int32) ||| (((qr.toUInt32 >>> ((24 : Int32) &&& 31).toUInt32).toInt32) &&& (63 : Int32)))), .val (.int ((224 : Int32) ||| (qr &&& (15 : Int32)))), .val (.int ((160 : Int32) ||| (((qr.toUInt32 >>> ((8 : Int32) &&& 31).toUInt32).toInt32) &&& (31 : Int32))))] [])) t
              exact k)
            exact ⟨((160 : Int32) ||| (((qr.toUInt32 >>> ((8 : Int32) &&& 31).toUInt32).toInt32) &&& (31 : Int32))), (Eq.symm (if_pos c19)), P20⟩
          · skip
            have P21 : own_Go p e below S0 (s₁.setTop (mkF m 124 #[.val (.ref qa), .val (.int qp), .val (.int qn), .val (.int qr), .val (.int ((128 : Int32) ||| (((qr.toUInt32 >>> ((16 : Int32) &&& 31).toUInt32).toInt32) &&& (63 : Int32)))), .val (.int ((128 : Int32) ||| (((qr.toUInt32 >>> ((24 : Int32) &&& 31).toUInt32).toInt32) &&& (63 : Int32)))), .val (.int ((224 : Int32) ||| (qr &&& (15 : Int32)))), .unset] [(.int (237 : Int32)), (.int ((224 : Int32) ||| (qr &&& (15 : Int32))))])) := fun t k => P18 t (by
              show Steps p.tables e below (s₁.setTop (mkF m 100 #[.val (.ref qa), .val (.int qp), .val (.int qn), .val (.int qr), .val (.int ((128 : Int32) ||| (((qr.toUInt32 >>> ((16 : Int32) &&& 31).toUInt32).toInt32) &&& (63 : Int32)))), .val (.int ((128 : Int32) ||| (((qr.toUInt32 >>> ((24 : Int32) &&& 31).toUInt32).toInt32) &&& (63 : Int32)))), .val (.int ((224 : Int32) ||| (qr &&& (15 : Int32)))), .unset] [(.int (224 : Int32)), (.int ((224 : Int32) ||| (qr &&& (15 : Int32))))])) t
              refine XS.icmpYes X0.here hx rfl (pc0 := 100) (pc' := 119) rfl (hb hby d2_100) rfl (feq c19).2 (by decide) (by decide) ?_
              refine XS.iload X0.here hx rfl (hb hby d2_119) rfl ?_
              refine XS.sipush X0.here hx rfl (hb hby d2_121) ?_
              show Steps p.tables e below (s₁.setTop (mkF m 124 #[.val (.ref qa), .val (.int qp), .val (.int qn), .val (.int qr), .val (.int ((128 : Int32) ||| (((qr.toUInt32 >>> ((16 : Int32) &&& 31).toUInt32).toInt32) &&& (63 : Int32)))), .val (.int ((128 : Int32) ||| (((qr.toUInt32 >>> ((24 : Int32) &&& 31).toUInt32).toInt32) &&& (63 : Int32)))), .val (.int ((224 : Int32) ||| (qr &&& (15 : Int32)))), .unset] [(.int (237 : Int32)), (.int ((224 : Int32) ||| (qr &&& (15 : Int32))))])) t
              exact k)
            by_cases c22 : ((224 : Int32) ||| (qr &&& (15 : Int32))) = (237 : Int32)
            · skip
              have P23 : own_Go p e below S0 (s₁.setTop (mkF m 156 #[.val (.ref qa), .val (.int qp), .val (.int qn), .val (.int qr), .val (.int ((128 : Int32) ||| (((qr.toUInt32 >>> ((16 : Int32) &&& 31).toUInt32).toInt32) &&& (63 : Int32)))), .val (.int ((128 : Int32) ||| (((qr.toUInt32 >>> ((24 : Int32) &&& 31).toUInt32).toInt32) &&& (63 : Int32)))), .val (.int ((224 : Int32) ||| (qr &&& (15 : Int32)))), .val (.int ((128 : Int32) ||| (((qr.toUInt32 >>> ((8 : Int32) &&& 31).toUInt32).toInt32) &&& (31 : Int32))))] [])) := fun t k => P21 t (by
                show Steps p.tables e below (s₁.setTop (mkF m 124 #[.val (.ref qa), .val (.int qp), .val (.int qn), .val (.int qr), .val (.int ((128 : Int32) ||| (((qr.toUInt32 >>> ((16 : Int32) &&& 31).toUInt32).toInt32) &&& (63 : Int32)))), .val (.int ((128 : Int32) ||| (((qr.toUInt32 >>> ((24 : Int32) &&& 31).toUInt32).toInt32) &&& (63 : Int32)))), .val (.int ((224 : Int32) ||| (qr &&& (15 : Int32)))), .unset] [(.int (237 : Int32)), (.int ((224 : Int32) ||| (qr &&& (15 : Int32))))])) t
                refine XS.icmpNo X0.here hx rfl (hb hby d2_124) rfl (teq c22).2 ?_
                refine XS.sipush X0.here hx rfl (hb hby d2_127) ?_
                refine XS.iloadN X0.here hx rfl (hb hby d2_130) rfl ?_
                refine XS.bipush X0.here hx rfl (hb hby d2_131) ?_
                refine XS.iushr X0.here hx rfl (hb hby d2_133) rfl ?_
                refine XS.bipush X0.here hx rfl (hb hby d2_134) ?_
                show Steps p.tables e below (s₁.setTop (mkF m 136 #[.val (.ref qa), .val (.int qp), .val (.int qn), .val (.int qr), .val (.int ((128 : Int32) ||| (((qr.toUInt32 >>> ((16 : Int32) &&& 31).toUInt32).toInt32) &&& (63 : Int32)))), .val (.int ((128 : Int32) ||| (((qr.toUInt32 >>> ((24 : Int32) &&& 31).toUInt32).toInt32) &&& (63 : Int32)))), .val (.int ((224 : Int32) ||| (qr &&& (15 : Int32)))), .unset] [(.int (31 : Int32)), (.int ((qr.toUInt32 >>> ((8 : Int32) &&& 31).toUInt32).toInt32)), (.int (128 : Int32))])) t
                refine XS.iand X0.here hx rfl (hb hby d2_136) rfl ?_
                refine XS.ior X0.here hx rfl (hb hby d2_137) rfl ?_
                refine XS.istore X0.here hx rfl (hb hby d2_138) rfl (l' := #[.val (.ref qa), .val (.int qp), .val (.int qn), .val (.int qr), .val (.int ((128 : Int32) ||| (((qr.toUInt32 >>> ((16 : Int32) &&& 31).toUInt32).toInt32) &&& (63 : Int32)))), .val (.int ((128 : Int32) ||| (((qr.toUInt32 >>> ((24 : Int32) &&& 31).toUInt32).toInt32) &&& (63 : Int32)))), .val (.int ((224 : Int32) ||| (qr &&& (15 : Int32)))), .val (.int ((128 : Int32) ||| (((qr.toUInt32 >>> ((8 : Int32) &&& 31).toUInt32).toInt32) &&& (31 : Int32))))]) rfl ?_
                refine XS.goto X0.here hx rfl (pc0 := 140) (pc' := 156) rfl (hb hby d2_140) (by decide) (by decide) ?_
                show Steps p.tables e below (s₁.setTop (mkF m 156 #[.val (.ref qa), .val (.int qp), .val (.int qn), .val (.int qr), .val (.int ((128 : Int32) ||| (((qr.toUInt32 >>> ((16 : Int32) &&& 31).toUInt32).toInt32) &&& (63 : Int32)))), .val (.int ((128 : Int32) ||| (((qr.toUInt32 >>> ((24 : Int32) &&& 31).toUInt32).toInt32) &&& (63 : Int32)))), .val (.int ((224 : Int32) ||| (qr &&& (15 : Int32)))), .val (.int ((128 : Int32) ||| (((qr.toUInt32 >>> ((8 : Int32) &&& 31).toUInt32).toInt32) &&& (31 : Int32))))] [])) t
                exact k)
              exact ⟨((128 : Int32) ||| (((qr.toUInt32 >>> ((8 : Int32) &&& 31).toUInt32).toInt32) &&& (31 : Int32))), (Eq.symm (Eq.trans (if_neg c19) (if_pos c22))), P23⟩
            · skip
              have P24 : own_Go p e below S0 (s₁.setTop (mkF m 156 #[.val (.ref qa), .val (.int qp), .val (.int qn), .val (.int qr), .val (.int ((128 : Int32) ||| (((qr.toUInt32 >>> ((16 : Int32) &&& 31).toUInt32).toInt32) &&& (63 : Int32)))), .val (.int ((128 : Int32) ||| (((qr.toUInt32 >>> ((24 : Int32) &&& 31).toUInt32).toInt32) &&& (63 : Int32)))), .val (.int ((224 : Int32) ||| (qr &&& (15 : Int32)))), .val (.int ((128 : Int32) ||| (((qr.toUInt32 >>> ((8 : Int32) &&& 31).toUInt32).toInt32) &&& (63 : Int32))))] [])) := fun t k => P21 t (by
                show Steps p.tables e below (s₁.setTop (mkF m 124 #[.val (.ref qa), .val (.int qp), .val (.int qn), .val (.int qr), .val (.int ((128 : Int32) ||| (((qr.toUInt32 >>> ((16 : Int32) &&& 31).toUInt32).toInt32) &&& (63 : Int32)))), .val (.int ((128 : Int32) ||| (((qr.toUInt32 >>> ((24 : Int32) &&& 31).toUInt32).toInt32) &&& (63 : Int32)))), .val (.int ((224 : Int32) ||| (qr &&& (15 : Int32)))), .unset] [(.int (237 : Int32)), (.int ((224 : Int32) ||| (qr &&& (15 : Int32))))])) t
                refine XS.icmpYes X0.here hx rfl (pc0 := 124) (pc' := 143) rfl (hb hby d2_124) rfl (feq c22).2 (by decide) (by decide) ?_
                refine XS.sipush X0.here hx rfl (hb hby d2_143) ?_
                refine XS.iloadN X0.here hx rfl (hb hby d2_146) rfl ?_
                refine XS.bipush X0.here hx rfl (hb hby d2_147) ?_
                refine XS.iushr X0.here hx rfl (hb hby d2_149) rfl ?_
                refine XS.bipush X0.here hx rfl (hb hby d2_150) ?_
                show Steps p.tables e below (s₁.setTop (mkF m 152 #[.val (.ref qa), .val (.int qp), .val (.int qn), .val (.int qr), .val (.int ((128 : Int32) ||| (((qr.toUInt32 >>> ((16 : Int32) &&& 31).toUInt32).toInt32) &&& (63 : Int32)))), .val (.int ((128 : Int32) ||| (((qr.toUInt32 >>> ((24 : Int32) &&& 31).toUInt32).toInt32) &&& (63 : Int32)))), .val (.int ((224 : Int32) ||| (qr &&& (15 : Int32)))), .unset] [(.int (63 : Int32)), (.int ((qr.toUInt32 >>> ((8 : Int32) &&& 31).toUInt32).toInt32)), (.int (128 : Int32))])) t
                refine XS.iand X0.here hx rfl (hb hby d2_152) rfl ?_
                refine XS.ior X0.here hx rfl (hb hby d2_153) rfl ?_
                refine XS.istore X0.here hx rfl (hb hby d2_154) rfl (l' := #[.val (.ref qa), .val (.int qp), .val (.int qn), .val (.int qr), .val (.int ((128 : Int32) ||| (((qr.toUInt32 >>> ((16 : Int32) &&& 31).toUInt32).toInt32) &&& (63 : Int32)))), .val (.int ((128 : Int32) ||| (((qr.toUInt32 >>> ((24 : Int32) &&& 31).toUInt32).toInt32) &&& (63 : Int32)))), .val (.int ((224 : Int32) ||| (qr &&& (15 : Int32)))), .val (.int ((128 : Int32) ||| (((qr.toUInt32 >>> ((8 : Int32) &&& 31).toUInt32).toInt32) &&& (63 : Int32))))]) rfl ?_
                show Steps p.tables e below (s₁.setTop (mkF m 156 #[.val (.ref qa), .val (.int qp), .val (.int qn), .val (.int qr), .val (.int ((128 : Int32) ||| (((qr.toUInt32 >>> ((16 : Int32) &&& 31).toUInt32).toInt32) &&& (63 : Int32)))), .val (.int ((128 : Int32) ||| (((qr.toUInt32 >>> ((24 : Int32) &&& 31).toUInt32).toInt32) &&& (63 : Int32)))), .val (.int ((224 : Int32) ||| (qr &&& (15 : Int32)))), .val (.int ((128 : Int32) ||| (((qr.toUInt32 >>> ((8 : Int32) &&& 31).toUInt32).toInt32) &&& (63 : Int32))))] [])) t
                exact k)
              exact ⟨((128 : Int32) ||| (((qr.toUInt32 >>> ((8 : Int32) &&& 31).toUInt32).toInt32) &&& (63 : Int32))), (Eq.symm (Eq.trans (if_neg c19) (if_neg c22))), P24⟩
        have P26 : own_Go p e below S0 (s₁.setTop (mkF m 161 #[.val (.ref qa), .val (.int qp), .val (.int qn), .val (.int qr), .val (.int ((128 : Int32) ||| (((qr.toUInt32 >>> ((16 : Int32) &&& 31).toUInt32).toInt32) &&& (63 : Int32)))), .val (.int ((128 : Int32) ||| (((qr.toUInt32 >>> ((24 : Int32) &&& 31).toUInt32).toInt32) &&& (63 : Int32)))), .val (.int ((224 : Int32) ||| (qr &&& (15 : Int32)))), .val (.int v25_l7)] [(.int (((224 : Int32) ||| (qr &&& (15 : Int32))).toInt8.toInt32)), (.int qp), (.ref qa)])) := fun t k => P25 t (by
          show Steps p.tables e below (s₁.setTop (mkF m 156 #[.val (.ref qa), .val (.int qp), .val (.int qn), .val (.int qr), .val (.int ((128 : Int32) ||| (((qr.toUInt32 >>> ((16 : Int32) &&& 31).toUInt32).toInt32) &&& (63 : Int32)))), .val (.int ((128 : Int32) ||| (((qr.toUInt32 >>> ((24 : Int32) &&& 31).toUInt32).toInt32) &&& (63 : Int32)))), .val (.int ((224 : Int32) ||| (qr &&& (15 : Int32)))), .val (.int v25_l7)] [])) t
          refine XS.aloadN X0.here hx rfl (hb hby d2_156) rfl rfl ?_
          refine XS.iloadN X0.here hx rfl (hb hby d2_157) rfl ?_
          refine XS.iload X0.here hx rfl (hb hby d2_158) rfl ?_
          refine XS.i2b X0.here hx rfl (hb hby d2_160) rfl ?_
          show Steps p.tables e below (s₁.setTop (mkF m 161 #[.val (.ref qa), .val (.int qp), .val (.int qn), .val (.int qr), .val (.int ((128 : Int32) ||| (((qr.toUInt32 >>> ((16 : Int32) &&& 31).toUInt32).toInt32) &&& (63 : Int32)))), .val (.int ((128 : Int32) ||| (((qr.toUInt32 >>> ((24 : Int32) &&& 31).toUInt32).toInt32) &&& (63 : Int32)))), .val (.int ((224 : Int32) ||| (qr &&& (15 : Int32)))), .val (.int v25_l7)] [(.int (((224 : Int32) ||| (qr &&& (15 : Int32))).toInt8.toInt32)), (.int qp), (.ref qa)])) t
          exact k)
        have hb28 : ¬ (qp < 0) ∧ qp < (16 : Int32) := own_inb ⟨by omega, by omega⟩
        obtain ⟨cl28, Ar28, q28, Sz28, Hh28⟩ := id B_qa
        have hin28 : ¬ (qp < 0 ∨ cl28.slots.size ≤ (qp).toNatClampNeg) := own_bin Sz28 hb28
        obtain ⟨T27, h27, X27, e27, W27, st27⟩ := stB X0 hx hZ e0 Ar28 (j := qp) hin28 (g := (mkF m 161 #[.val (.ref qa), .val (.int qp), .val (.int qn), .val (.int qr), .val (.int ((128 : Int32) ||| (((qr.toUInt32 >>> ((16 : Int32) &&& 31).toUInt32).toInt32) &&& (63 : Int32)))), .val (.int ((128 : Int32) ||| (((qr.toUInt32 >>> ((24 : Int32) &&& 31).toUInt32).toInt32) &&& (63 : Int32)))), .val (.int ((224 : Int32) ||| (qr &&& (15 : Int32)))), .val (.int v25_l7)] [(.int (((224 : Int32) ||| (qr &&& (15 : Int32))).toInt8.toInt32)), (.int qp), (.ref qa)])) rfl rfl (hb hby d2_161)
        have K27 : Keep h0 h27 [qa] := (Keep.refl h0 [qa]).wr W27 (Or.inl (by simp))
        have N27 := Fr.snoc X27 N0 g_qa
        obtain ⟨f27, hf27⟩ : ∃ g : Nat → Int32, g = fun i => if i = (qp).toNatClampNeg then (nar .byte (((224 : Int32) ||| (qr &&& (15 : Int32))).toInt8.toInt32)) else qf i := ⟨_, rfl⟩
        have V27 : own_Byt Z h27 qa qk f27 := by rw [hf27]; exact own_bset ⟨cl28, Ar28, q28, Sz28, Hh28⟩ Ar28 Sz28 hin28 W27
        have P27 : own_Go p e below S0 (T27.setTop (mkF m 162 #[.val (.ref qa), .val (.int qp), .val (.int qn), .val (.int qr), .val (.int ((128 : Int32) ||| (((qr.toUInt32 >>> ((16 : Int32) &&& 31).toUInt32).toInt32) &&& (63 : Int32)))), .val (.int ((128 : Int32) ||| (((qr.toUInt32 >>> ((24 : Int32) &&& 31).toUInt32).toInt32) &&& (63 : Int32)))), .val (.int ((224 : Int32) ||| (qr &&& (15 : Int32)))), .val (.int v25_l7)] [])) := fun t k => P26 t (st27 _ k)
        have P29 : own_Go p e below S0 (T27.setTop (mkF m 169 #[.val (.ref qa), .val (.int qp), .val (.int qn), .val (.int qr), .val (.int ((128 : Int32) ||| (((qr.toUInt32 >>> ((16 : Int32) &&& 31).toUInt32).toInt32) &&& (63 : Int32)))), .val (.int ((128 : Int32) ||| (((qr.toUInt32 >>> ((24 : Int32) &&& 31).toUInt32).toInt32) &&& (63 : Int32)))), .val (.int ((224 : Int32) ||| (qr &&& (15 : Int32)))), .val (.int v25_l7)] [(.int (v25_l7.toInt8.toInt32)), (.int (qp + (1 : Int32))), (.ref qa)])) := fun t k => P27 t (by
          show Steps p.tables e below (T27.setTop (mkF m 162 #[.val (.ref qa), .val (.int qp), .val (.int qn), .val (.int qr), .val (.int ((128 : Int32) ||| (((qr.toUInt32 >>> ((16 : Int32) &&& 31).toUInt32).toInt32) &&& (63 : Int32)))), .val (.int ((128 : Int32) ||| (((qr.toUInt32 >>> ((24 : Int32) &&& 31).toUInt32).toInt32) &&& (63 : Int32)))), .val (.int ((224 : Int32) ||| (qr &&& (15 : Int32)))), .val (.int v25_l7)] [])) t
          refine XS.aloadN X27.here hx rfl (hb hby d2_162) rfl rfl ?_
          refine XS.iloadN X27.here hx rfl (hb hby d2_163) rfl ?_
          refine XS.iconst X27.here hx rfl (hb hby d2_164) ?_
          refine XS.iadd X27.here hx rfl (hb hby d2_165) rfl ?_
          refine XS.iload X27.here hx rfl (hb hby d2_166) rfl ?_
          refine XS.i2b X27.here hx rfl (hb hby d2_168) rfl ?_
          show Steps p.tables e below (T27.setTop (mkF m 169 #[.val (.ref qa), .val (.int qp), .val (.int qn), .val (.int qr), .val (.int ((128 : Int32) ||| (((qr.toUInt32 >>> ((16 : Int32) &&& 31).toUInt32).toInt32) &&& (63 : Int32)))), .val (.int ((128 : Int32) ||| (((qr.toUInt32 >>> ((24 : Int32) &&& 31).toUInt32).toInt32) &&& (63 : Int32)))), .val (.int ((224 : Int32) ||| (qr &&& (15 : Int32)))), .val (.int v25_l7)] [(.int (v25_l7.toInt8.toInt32)), (.int (qp + (1 : Int32))), (.ref qa)])) t
          exact k)
        have hb31 : ¬ ((qp + (1 : Int32)) < 0) ∧ (qp + (1 : Int32)) < (16 : Int32) := own_inb (by rw [own_in1 hat]; omega)
        obtain ⟨cl31, Ar31, q31, Sz31, Hh31⟩ := id V27
        have hin31 : ¬ ((qp + (1 : Int32)) < 0 ∨ cl31.slots.size ≤ ((qp + (1 : Int32))).toNatClampNeg) := own_bin Sz31 hb31
        obtain ⟨T30, h30, X30, e30, W30, st30⟩ := stB X27 hx hZ e27 Ar31 (j := (qp + (1 : Int32))) hin31 (g := (mkF m 169 #[.val (.ref qa), .val (.int qp), .val (.int qn), .val (.int qr), .val (.int ((128 : Int32) ||| (((qr.toUInt32 >>> ((16 : Int32) &&& 31).toUInt32).toInt32) &&& (63 : Int32)))), .val (.int ((128 : Int32) ||| (((qr.toUInt32 >>> ((24 : Int32) &&& 31).toUInt32).toInt32) &&& (63 : Int32)))), .val (.int ((224 : Int32) ||| (qr &&& (15 : Int32)))), .val (.int v25_l7)] [(.int (v25_l7.toInt8.toInt32)), (.int (qp + (1 : Int32))), (.ref qa)])) rfl rfl (hb hby d2_169)
        have K30 : Keep h0 h30 [qa] := K27.wr W30 (Or.inl (by simp))
        have N30 := Fr.snoc X30 N27 g_qa
        obtain ⟨f30, hf30⟩ : ∃ g : Nat → Int32, g = fun i => if i = ((qp + (1 : Int32))).toNatClampNeg then (nar .byte (v25_l7.toInt8.toInt32)) else f27 i := ⟨_, rfl⟩
        have V30 : own_Byt Z h30 qa qk f30 := by rw [hf30]; exact own_bset ⟨cl31, Ar31, q31, Sz31, Hh31⟩ Ar31 Sz31 hin31 W30
        have P30 : own_Go p e below S0 (T30.setTop (mkF m 170 #[.val (.ref qa), .val (.int qp), .val (.int qn), .val (.int qr), .val (.int ((128 : Int32) ||| (((qr.toUInt32 >>> ((16 : Int32) &&& 31).toUInt32).toInt32) &&& (63 : Int32)))), .val (.int ((128 : Int32) ||| (((qr.toUInt32 >>> ((24 : Int32) &&& 31).toUInt32).toInt32) &&& (63 : Int32)))), .val (.int ((224 : Int32) ||| (qr &&& (15 : Int32)))), .val (.int v25_l7)] [])) := fun t k => P29 t (st30 _ k)
        have P32 : own_Go p e below S0 (T30.setTop (mkF m 177 #[.val (.ref qa), .val (.int qp), .val (.int qn), .val (.int qr), .val (.int ((128 : Int32) ||| (((qr.toUInt32 >>> ((16 : Int32) &&& 31).toUInt32).toInt32) &&& (63 : Int32)))), .val (.int ((128 : Int32) ||| (((qr.toUInt32 >>> ((24 : Int32) &&& 31).toUInt32).toInt32) &&& (63 : Int32)))), .val (.int ((224 : Int32) ||| (qr &&& (15 : Int32)))), .val (.int v25_l7)] [(.int (((128 : Int32) ||| (((qr.toUInt32 >>> ((16 : Int32) &&& 31).toUInt32).toInt32) &&& (63 : Int32))).toInt8.toInt32)), (.int (qp + (2 : Int32))), (.ref qa)])) := fun t k => P30 t (by
          show Steps p.tables e below (T30.setTop (mkF m 170 #[.val (.ref qa), .val (.int qp), .val (.int qn), .val (.int qr), .val (.int ((128 : Int32) ||| (((qr.toUInt32 >>> ((16 : Int32) &&& 31).toUInt32).toInt32) &&& (63 : Int32)))), .val (.int ((128 : Int32) ||| (((qr.toUInt32 >>> ((24 : Int32) &&& 31).toUInt32).toInt32) &&& (63 : Int32)))), .val (.int ((224 : Int32) ||| (qr &&& (15 : Int32)))), .val (.int v25_l7)] [])) t
          refine XS.aloadN X30.here hx rfl (hb hby d2_170) rfl rfl ?_
          refine XS.iloadN X30.here hx rfl (hb hby d2_171) rfl ?_
          refine XS.iconst X30.here hx rfl (hb hby d2_172) ?_
          refine XS.iadd X30.here hx rfl (hb hby d2_173) rfl ?_
          refine XS.iload X30.here hx rfl (hb hby d2_174) rfl ?_
          refine XS.i2b X30.here hx rfl (hb hby d2_176) rfl ?_
          show Steps p.tables e below (T30.setTop (mkF m 177 #[.val (.ref qa), .val (.int qp), .val (.int qn), .val (.int qr), .val (.int ((128 : Int32) ||| (((qr.toUInt32 >>> ((16 : Int32) &&& 31).toUInt32).toInt32) &&& (63 : Int32)))), .val (.int ((128 : Int32) ||| (((qr.toUInt32 >>> ((24 : Int32) &&& 31).toUInt32).toInt32) &&& (63 : Int32)))), .val (.int ((224 : Int32) ||| (qr &&& (15 : Int32)))), .val (.int v25_l7)] [(.int (((128 : Int32) ||| (((qr.toUInt32 >>> ((16 : Int32) &&& 31).toUInt32).toInt32) &&& (63 : Int32))).toInt8.toInt32)), (.int (qp + (2 : Int32))), (.ref qa)])) t
          exact k)
        have hb34 : ¬ ((qp + (2 : Int32)) < 0) ∧ (qp + (2 : Int32)) < (16 : Int32) := own_inb (by rw [own_in2 hat]; omega)
        obtain ⟨cl34, Ar34, q34, Sz34, Hh34⟩ := id V30
        have hin34 : ¬ ((qp + (2 : Int32)) < 0 ∨ cl34.slots.size ≤ ((qp + (2 : Int32))).toNatClampNeg) := own_bin Sz34 hb34
        obtain ⟨T33, h33, X33, e33, W33, st33⟩ := stB X30 hx hZ e30 Ar34 (j := (qp + (2 : Int32))) hin34 (g := (mkF m 177 #[.val (.ref qa), .val (.int qp), .val (.int qn), .val (.int qr), .val (.int ((128 : Int32) ||| (((qr.toUInt32 >>> ((16 : Int32) &&& 31).toUInt32).toInt32) &&& (63 : Int32)))), .val (.int ((128 : Int32) ||| (((qr.toUInt32 >>> ((24 : Int32) &&& 31).toUInt32).toInt32) &&& (63 : Int32)))), .val (.int ((224 : Int32) ||| (qr &&& (15 : Int32)))), .val (.int v25_l7)] [(.int (((128 : Int32) ||| (((qr.toUInt32 >>> ((16 : Int32) &&& 31).toUInt32).toInt32) &&& (63 : Int32))).toInt8.toInt32)), (.int (qp + (2 : Int32))), (.ref qa)])) rfl rfl (hb hby d2_177)
        have K33 : Keep h0 h33 [qa] := K30.wr W33 (Or.inl (by simp))
        have N33 := Fr.snoc X33 N30 g_qa
        obtain ⟨f33, hf33⟩ : ∃ g : Nat → Int32, g = fun i => if i = ((qp + (2 : Int32))).toNatClampNeg then (nar .byte (((128 : Int32) ||| (((qr.toUInt32 >>> ((16 : Int32) &&& 31).toUInt32).toInt32) &&& (63 : Int32))).toInt8.toInt32)) else f30 i := ⟨_, rfl⟩
        have V33 : own_Byt Z h33 qa qk f33 := by rw [hf33]; exact own_bset ⟨cl34, Ar34, q34, Sz34, Hh34⟩ Ar34 Sz34 hin34 W33
        have P33 : own_Go p e below S0 (T33.setTop (mkF m 178 #[.val (.ref qa), .val (.int qp), .val (.int qn), .val (.int qr), .val (.int ((128 : Int32) ||| (((qr.toUInt32 >>> ((16 : Int32) &&& 31).toUInt32).toInt32) &&& (63 : Int32)))), .val (.int ((128 : Int32) ||| (((qr.toUInt32 >>> ((24 : Int32) &&& 31).toUInt32).toInt32) &&& (63 : Int32)))), .val (.int ((224 : Int32) ||| (qr &&& (15 : Int32)))), .val (.int v25_l7)] [])) := fun t k => P32 t (st33 _ k)
        have P35 : own_Go p e below S0 (T33.setTop (mkF m 179 #[.val (.ref qa), .val (.int qp), .val (.int qn), .val (.int qr), .val (.int ((128 : Int32) ||| (((qr.toUInt32 >>> ((16 : Int32) &&& 31).toUInt32).toInt32) &&& (63 : Int32)))), .val (.int ((128 : Int32) ||| (((qr.toUInt32 >>> ((24 : Int32) &&& 31).toUInt32).toInt32) &&& (63 : Int32)))), .val (.int ((224 : Int32) ||| (qr &&& (15 : Int32)))), .val (.int v25_l7)] [(.int (3 : Int32))])) := fun t k => P33 t (by
          show Steps p.tables e below (T33.setTop (mkF m 178 #[.val (.ref qa), .val (.int qp), .val (.int qn), .val (.int qr), .val (.int ((128 : Int32) ||| (((qr.toUInt32 >>> ((16 : Int32) &&& 31).toUInt32).toInt32) &&& (63 : Int32)))), .val (.int ((128 : Int32) ||| (((qr.toUInt32 >>> ((24 : Int32) &&& 31).toUInt32).toInt32) &&& (63 : Int32)))), .val (.int ((224 : Int32) ||| (qr &&& (15 : Int32)))), .val (.int v25_l7)] [])) t
          refine XS.iconst X33.here hx rfl (hb hby d2_178) ?_
          show Steps p.tables e below (T33.setTop (mkF m 179 #[.val (.ref qa), .val (.int qp), .val (.int qn), .val (.int qr), .val (.int ((128 : Int32) ||| (((qr.toUInt32 >>> ((16 : Int32) &&& 31).toUInt32).toInt32) &&& (63 : Int32)))), .val (.int ((128 : Int32) ||| (((qr.toUInt32 >>> ((24 : Int32) &&& 31).toUInt32).toInt32) &&& (63 : Int32)))), .val (.int ((224 : Int32) ||| (qr &&& (15 : Int32)))), .val (.int v25_l7)] [(.int (3 : Int32))])) t
          exact k)
        obtain ⟨fs, hr, hrun, hended, hW, hsame⟩ := X33.leave (v := some (.int (3 : Int32))) (fun h => by rw [Bd.returns] at h; cases h)
        refine ⟨_, _, own_from hS0 (P35 _ ?_), hrun, hended, _, _, rfl, ?_, ⟨_, rfl⟩, hW, hsame.mono (by decide) (by decide)⟩
        · show Steps p.tables e below (T33.setTop (mkF m 179 #[.val (.ref qa), .val (.int qp), .val (.int qn), .val (.int qr), .val (.int ((128 : Int32) ||| (((qr.toUInt32 >>> ((16 : Int32) &&& 31).toUInt32).toInt32) &&& (63 : Int32)))), .val (.int ((128 : Int32) ||| (((qr.toUInt32 >>> ((24 : Int32) &&& 31).toUInt32).toInt32) &&& (63 : Int32)))), .val (.int ((224 : Int32) ||| (qr &&& (15 : Int32)))), .val (.int v25_l7)] [(.int (3 : Int32))])) _
          exact retI X33 hx Bd.returns (hb hby d2_179) hr
        · show Q2 Z qa qp qn qr qk qf h0 n0 _ T33.heap _
          rw [e33]
          exact ⟨f33, (3 : Int32), rfl, N33, K33, V33, (by subst hf33; subst hf30; subst hf27; exact own_putS (own_putS (own_put1 (own_k2 _)) (own_natlt hat.1 (by rw [own_in1 hat]; omega))) (own_natlt hat.1 (by rw [own_in2 hat]; omega)))⟩
      · skip
        have P36 : own_Go p e below S0 (s₁.setTop (mkF m 198 #[.val (.ref qa), .val (.int qp), .val (.int qn), .val (.int qr), .val (.int ((128 : Int32) ||| (((qr.toUInt32 >>> ((16 : Int32) &&& 31).toUInt32).toInt32) &&& (63 : Int32)))), .val (.int ((128 : Int32) ||| (((qr.toUInt32 >>> ((24 : Int32) &&& 31).toUInt32).toInt32) &&& (63 : Int32)))), .val (.int ((240 : Int32) + ((qr &&& (255 : Int32)) % (5 : Int32)))), .unset] [(.int (240 : Int32)), (.int ((240 : Int32) + ((qr &&& (255 : Int32)) % (5 : Int32))))])) := fun t k => P16 t (by
          show Steps p.tables e below (s₁.setTop (mkF m 82 #[.val (.ref qa), .val (.int qp), .val (.int qn), .val (.int qr), .val (.int ((128 : Int32) ||| (((qr.toUInt32 >>> ((16 : Int32) &&& 31).toUInt32).toInt32) &&& (63 : Int32)))), .val (.int ((128 : Int32) ||| (((qr.toUInt32 >>> ((24 : Int32) &&& 31).toUInt32).toInt32) &&& (63 : Int32)))), .unset, .unset] [(.int (2 : Int32)), (.int qn)])) t
          refine XS.icmpYes X0.here hx rfl (pc0 := 82) (pc' := 180) rfl (hb hby d2_82) rfl (feq c17).2 (by decide) (by decide) ?_
          refine XS.sipush X0.here hx rfl (hb hby d2_180) ?_
          refine XS.iloadN X0.here hx rfl (hb hby d2_183) rfl ?_
          refine XS.sipush X0.here hx rfl (hb hby d2_184) ?_
          refine XS.iand X0.here hx rfl (hb hby d2_187) rfl ?_
          refine XS.iconst X0.here hx rfl (hb hby d2_188) ?_
          show Steps p.tables e below (s₁.setTop (mkF m 189 #[.val (.ref qa), .val (.int qp), .val (.int qn), .val (.int qr), .val (.int ((128 : Int32) ||| (((qr.toUInt32 >>> ((16 : Int32) &&& 31).toUInt32).toInt32) &&& (63 : Int32)))), .val (.int ((128 : Int32) ||| (((qr.toUInt32 >>> ((24 : Int32) &&& 31).toUInt32).toInt32) &&& (63 : Int32)))), .unset, .unset] [(.int (5 : Int32)), (.int (qr &&& (255 : Int32))), (.int (240 : Int32))])) t
          refine iremM (g := (mkF m 189 #[.val (.ref qa), .val (.int qp), .val (.int qn), .val (.int qr), .val (.int ((128 : Int32) ||| (((qr.toUInt32 >>> ((16 : Int32) &&& 31).toUInt32).toInt32) &&& (63 : Int32)))), .val (.int ((128 : Int32) ||| (((qr.toUInt32 >>> ((24 : Int32) &&& 31).toUInt32).toInt32) &&& (63 : Int32)))), .unset, .unset] [(.int (5 : Int32)), (.int (qr &&& (255 : Int32))), (.int (240 : Int32))])) X0 hx rfl (hb hby d2_189) rfl (by decide) ?_
          refine XS.iadd X0.here hx rfl (hb hby d2_190) rfl ?_
          refine XS.istore X0.here hx rfl (hb hby d2_191) rfl (l' := #[.val (.ref qa), .val (.int qp), .val (.int qn), .val (.int qr), .val (.int ((128 : Int32) ||| (((qr.toUInt32 >>> ((16 : Int32) &&& 31).toUInt32).toInt32) &&& (63 : Int32)))), .val (.int ((128 : Int32) ||| (((qr.toUInt32 >>> ((24 : Int32) &&& 31).toUInt32).toInt32) &&& (63 : Int32)))), .val (.int ((240 : Int32) + ((qr &&& (255 : Int32)) % (5 : Int32)))), .unset]) rfl ?_
          refine XS.iload X0.here hx rfl (hb hby d2_193) rfl ?_
          refine XS.sipush X0.here hx rfl (hb hby d2_195) ?_
          show Steps p.tables e below (s₁.setTop (mkF m 198 #[.val (.ref qa), .val (.int qp), .val (.int qn), .val (.int qr), .val (.int ((128 : Int32) ||| (((qr.toUInt32 >>> ((16 : Int32) &&& 31).toUInt32).toInt32) &&& (63 : Int32)))), .val (.int ((128 : Int32) ||| (((qr.toUInt32 >>> ((24 : Int32) &&& 31).toUInt32).toInt32) &&& (63 : Int32)))), .val (.int ((240 : Int32) + ((qr &&& (255 : Int32)) % (5 : Int32)))), .unset] [(.int (240 : Int32)), (.int ((240 : Int32) + ((qr &&& (255 : Int32)) % (5 : Int32))))])) t
          exact k)
        obtain ⟨v43_l7, hv43_l7, P43⟩ : ∃ (v43_l7 : Int32), (v43_l7 = (if ((240 : Int32) + ((qr &&& (255 : Int32)) % (5 : Int32))) = (240 : Int32) then ((144 : Int32) + ((((qr.toUInt32 >>> ((8 : Int32) &&& 31).toUInt32).toInt32) &&& (255 : Int32)) % (48 : Int32))) else (if ((240 : Int32) + ((qr &&& (255 : Int32)) % (5 : Int32))) = (244 : Int32) then ((128 : Int32) ||| (((qr.toUInt32 >>> ((8 : Int32) &&& 31).toUInt32).toInt32) &&& (15 : Int32))) else ((128 : Int32) ||| (((qr.toUInt32 >>> ((8 : Int32) &&& 31).toUInt32).toInt32) &&& (63 : Int32)))))) ∧ (own_Go p e below S0 (s₁.setTop (mkF m 258 #[.val (.ref qa), .val (.int qp), .val (.int qn), .val (.int qr), .val (.int ((128 : Int32) ||| (((qr.toUInt32 >>> ((16 : Int32) &&& 31).toUInt32).toInt32) &&& (63 : Int32)))), .val (.int ((128 : Int32) ||| (((qr.toUInt32 >>> ((24 : Int32) &&& 31).toUInt32).toInt32) &&& (63 : Int32)))), .val (.int ((240 : Int32) + ((qr &&& (255 : Int32)) % (5 : Int32)))), .val (.int v43_l7)] []))) := by
          by_cases c37 : ((240 : Int32) + ((qr &&& (255 : Int32)) % (5 : Int32))) = (240 : Int32)
          · skip
            have P38 : own_Go p e below S0 (s₁.setTop (mkF m 258 #[.val (.ref qa), .val (.int qp), .val (.int qn), .val (.int qr), .val (.int ((128 : Int32) ||| (((qr.toUInt32 >>> ((16 : Int32) &&& 31).toUInt32).toInt32) &&& (63 : Int32)))), .val (.int ((128 : Int32) ||| (((qr.toUInt32 >>> ((24 : Int32) &&& 31).toUInt32).toInt32) &&& (63 : Int32)))), .val (.int ((240 : Int32) + ((qr &&& (255 : Int32)) % (5 : Int32)))), .val (.int ((144 : Int32) + ((((qr.toUInt32 >>> ((8 : Int32) &&& 31).toUInt32).toInt32) &&& (255 : Int32)) % (48 : Int32))))] [])) := fun t k => P36 t (by
              show Steps p.tables e below (s₁.setTop (mkF m 198 #[.val (.ref qa), .val (.int qp), .val (.int qn), .val (.int qr), .val (.int ((128 : Int32) ||| (((qr.toUInt32 >>> ((16 : Int32) &&& 31).toUInt32).toInt32) &&& (63 : Int32)))), .val (.int ((128 : Int32) ||| (((qr.toUInt32 >>> ((24 : Int32) &&& 31).toUInt32).toInt32) &&& (63 : Int32)))), .val (.int ((240 : Int32) + ((qr &&& (255 : Int32)) % (5 : Int32)))), .unset] [(.int (240 : Int32)), (.int ((240 : Int32) + ((qr &&& (255 : Int32)) % (5 : Int32))))])) t
              refine XS.icmpNo X0.here hx rfl (hb hby d2_198) rfl (teq c37).2 ?_
              refine XS.sipush X0.here hx rfl (hb hby d2_201) ?_
              refine XS.iloadN X0.here hx rfl (hb hby d2_204) rfl ?_
              refine XS.bipush X0.here hx rfl (hb hby d2_205) ?_
              refine XS.iushr X0.here hx rfl (hb hby d2_207) rfl ?_
              refine XS.sipush X0.here hx rfl (hb hby d2_208) ?_
              show Steps p.tables e below (s₁.setTop (mkF m 211 #[.val (.ref qa), .val (.int qp), .val (.int qn), .val (.int qr), .val (.int ((128 : Int32) ||| (((qr.toUInt32 >>> ((16 : Int32) &&& 31).toUInt32).toInt32) &&& (63 : Int32)))), .val (.int ((128 : Int32) ||| (((qr.toUInt32 >>> ((24 : Int32) &&& 31).toUInt32).toInt32) &&& (63 : Int32)))), .val (.int ((240 : Int32) + ((qr &&& (255 : Int32)) % (5 : Int32)))), .unset] [(.int (255 : Int32)), (.int ((qr.toUInt32 >>> ((8 : Int32) &&& 31).toUInt32).toInt32)), (.int (144 : Int32))])) t
              refine XS.iand X0.here hx rfl (hb hby d2_211) rfl ?_
              refine XS.bipush X0.here hx rfl (hb hby d2_212) ?_
              refine iremM (g := (mkF m 214 #[.val (.ref qa), .val (.int qp), .val (.int qn), .val (.int qr), .val (.int ((128 : Int32) ||| (((qr.toUInt32 >>> ((16 : Int32) &&& 31).toUInt32).toInt32) &&& (63 : Int32)))), .val (.int ((128 : Int32) ||| (((qr.toUInt32 >>> ((24 : Int32) &&& 31).toUInt32).toInt32) &&& (63 : Int32)))), .val (.int ((240 : Int32) + ((qr &&& (255 : Int32)) % (5 : Int32)))), .unset] [(.int (48 : Int32)), (.int (((qr.toUInt32 >>> ((8 : Int32) &&& 31).toUInt32).toInt32) &&& (255 : Int32))), (.int (144 : Int32))])) X0 hx rfl (hb hby d2_214) rfl (by decide) ?_
              refine XS.iadd X0.here hx rfl (hb hby d2_215) rfl ?_
              refine XS.istore X0.here hx rfl (hb hby d2_216) rfl (l' := #[.val (.ref qa), .val (.int qp), .val (.int qn), .val (.int qr), .val (.int ((128 : Int32) ||| (((qr.toUInt32 >>> ((16 : Int32) &&& 31).toUInt32).toInt32) &&& (63 : Int32)))), .val (.int ((128 : Int32) ||| (((qr.toUInt32 >>> ((24 : Int32) &&& 31).toUInt32).toInt32) &&& (63 : Int32)))), .val (.int ((240 : Int32) + ((qr &&& (255 : Int32)) % (5 : Int32)))), .val (.int ((144 : Int32) + ((((qr.toUInt32 >>> ((8 : Int32) &&& 31).toUInt32).toInt32) &&& (255 : Int32)) % (48 : Int32))))]) rfl ?_
              refine XS.goto X0.here hx rfl (pc0 := 218) (pc' := 258) rfl (hb hby d2_218) (by decide) (by decide) ?_
              show Steps p.tables e below (s₁.setTop (mkF m 258 #[.val (.ref qa), .val (.int qp), .val (.int qn), .val (.int qr), .val (.int ((128 : Int32) ||| (((qr.toUInt32 >>> ((16 : Int32) &&& 31).toUInt32).toInt32) &&& (63 : Int32)))), .val (.int ((128 : Int32) ||| (((qr.toUInt32 >>> ((24 : Int32) &&& 31).toUInt32).toInt32) &&& (63 : Int32)))), .val (.int ((240 : Int32) + ((qr &&& (255 : Int32)) % (5 : Int32)))), .val (.int ((144 : Int32) + ((((qr.toUInt32 >>> ((8 : Int32) &&& 31).toUInt32).toInt32) &&& (255 : Int32)) % (48 : Int32))))] [])) t
              exact k)
            exact ⟨((144 : Int32) + ((((qr.toUInt32 >>> ((8 : Int32) &&& 31).toUInt32).toInt32) &&& (255 : Int32)) % (48 : Int32))), (Eq.symm (if_pos c37)), P38⟩
          · skip
            have P39 : own_Go p e below S0 (s₁.setTop (mkF m 226 #[.val (.ref qa), .val (.int qp), .val (.int qn), .val (.int qr), .val (.int ((128 : Int32) ||| (((qr.toUInt32 >>> ((16 : Int32) &&& 31).toUInt32).toInt32) &&& (63 : Int32)))), .val (.int ((128 : Int32) ||| (((qr.toUInt32 >>> ((24 : Int32) &&& 31).toUInt32).toInt32) &&& (63 : Int32)))), .val (.int ((240 : Int32) + ((qr &&& (255 : Int32)) % (5 : Int32)))), .unset] [(.int (244 : Int32)), (.int ((240 : Int32) + ((qr &&& (255 : Int32)) % (5 : Int32))))])) := fun t k => P36 t (by
              show Steps p.tables e below (s₁.setTop (mkF m 198 #[.val (.ref qa), .val (.int qp), .val (.int qn), .val (.int qr), .val (.int ((128 : Int32) ||| (((qr.toUInt32 >>> ((16 : Int32) &&& 31).toUInt32).toInt32) &&& (63 : Int32)))), .val (.int ((128 : Int32) ||| (((qr.toUInt32 >>> ((24 : Int32) &&& 31).toUInt32).toInt32) &&& (63 : Int32)))), .val (.int ((240 : Int32) + ((qr &&& (255 : Int32)) % (5 : Int32)))), .unset] [(.int (240 : Int32)), (.int ((240 : Int32) + ((qr &&& (255 : Int32)) % (5 : Int32))))])) t
              refine XS.icmpYes X0.here hx rfl (pc0 := 198) (pc' := 221) rfl (hb hby d2_198) rfl (feq c37).2 (by decide) (by decide) ?_
              refine XS.iload X0.here hx rfl (hb hby d2_221) rfl ?_
              refine XS.sipush X0.here hx rfl (hb hby d2_223) ?_
              show Steps p.tables e below (s₁.setTop (mkF m 226 #[.val (.ref qa), .val (.int qp), .val (.int qn), .val (.int qr), .val (.int ((128 : Int32) ||| (((qr.toUInt32 >>> ((16 : Int32) &&& 31).toUInt32).toInt32) &&& (63 : Int32)))), .val (.int ((128 : Int32) ||| (((qr.toUInt32 >>> ((24 : Int32) &&& 31).toUInt32).toInt32) &&& (63 : Int32)))), .val (.int ((240 : Int32) + ((qr &&& (255 : Int32)) % (5 : Int32)))), .unset] [(.int (244 : Int32)), (.int ((240 : Int32) + ((qr &&& (255 : Int32)) % (5 : Int32))))])) t
              exact k)
            by_cases c40 : ((240 : Int32) + ((qr &&& (255 : Int32)) % (5 : Int32))) = (244 : Int32)
            · skip
              have P41 : own_Go p e below S0 (s₁.setTop (mkF m 258 #[.val (.ref qa), .val (.int qp), .val (.int qn), .val (.int qr), .val (.int ((128 : Int32) ||| (((qr.toUInt32 >>> ((16 : Int32) &&& 31).toUInt32).toInt32) &&& (63 : Int32)))), .val (.int ((128 : Int32) ||| (((qr.toUInt32 >>> ((24 : Int32) &&& 31).toUInt32).toInt32) &&& (63 : Int32)))), .val (.int ((240 : Int32) + ((qr &&& (255 : Int32)) % (5 : Int32)))), .val (.int ((128 : Int32) ||| (((qr.toUInt32 >>> ((8 : Int32) &&& 31).toUInt32).toInt32) &&& (15 : Int32))))] [])) := fun t k => P39 t (by
                show Steps p.tables e below (s₁.setTop (mkF m 226 #[.val (.ref qa), .val (.int qp), .val (.int qn), .val (.int qr), .val (.int ((128 : Int32) ||| (((qr.toUInt32 >>> ((16 : Int32) &&& 31).toUInt32).toInt32) &&& (63 : Int32)))), .val (.int ((128 : Int32) ||| (((qr.toUInt32 >>> ((24 : Int32) &&& 31).toUInt32).toInt32) &&& (63 : Int32)))), .val (.int ((240 : Int32) + ((qr &&& (255 : Int32)) % (5 : Int32)))), .unset] [(.int (244 : Int32)), (.int ((240 : Int32) + ((qr &&& (255 : Int32)) % (5 : Int32))))])) t
                refine XS.icmpNo X0.here hx rfl (hb hby d2_226) rfl (teq c40).2 ?_
                refine XS.sipush X0.here hx rfl (hb hby d2_229) ?_
                refine XS.iloadN X0.here hx rfl (hb hby d2_232) rfl ?_
                refine XS.bipush X0.here hx rfl (hb hby d2_233) ?_
                refine XS.iushr X0.here hx rfl (hb hby d2_235) rfl ?_
                refine XS.bipush X0.here hx rfl (hb hby d2_236) ?_
                show Steps p.tables e below (s₁.setTop (mkF m 238 #[.val (.ref qa), .val (.int qp), .val (.int qn), .val (.int qr), .val (.int ((128 : Int32) ||| (((qr.toUInt32 >>> ((16 : Int32) &&& 31).toUInt32).toInt32) &&& (63 : Int32)))), .val (.int ((128 : Int32) ||| (((qr.toUInt32 >>> ((24 : Int32) &&& 31).toUInt32).toInt32) &&& (63 : Int32)))), .val (.int ((240 : Int32) + ((qr &&& (255 : Int32)) % (5 : Int32)))), .unset] [(.int (15 : Int32)), (.int ((qr.toUInt32 >>> ((8 : Int32) &&& 31).toUInt32).toInt32)), (.int (128 : Int32))])) t
                refine XS.iand X0.here hx rfl (hb hby d2_238) rfl ?_
                refine XS.ior X0.here hx rfl (hb hby d2_239) rfl ?_
                refine XS.istore X0.here hx rfl (hb hby d2_240) rfl (l' := #[.val (.ref qa), .val (.int qp), .val (.int qn), .val (.int qr), .val (.int ((128 : Int32) ||| (((qr.toUInt32 >>> ((16 : Int32) &&& 31).toUInt32).toInt32) &&& (63 : Int32)))), .val (.int ((128 : Int32) ||| (((qr.toUInt32 >>> ((24 : Int32) &&& 31).toUInt32).toInt32) &&& (63 : Int32)))), .val (.int ((240 : Int32) + ((qr &&& (255 : Int32)) % (5 : Int32)))), .val (.int ((128 : Int32) ||| (((qr.toUInt32 >>> ((8 : Int32) &&& 31).toUInt32).toInt32) &&& (15 : Int32))))]) rfl ?_
                refine XS.goto X0.here hx rfl (pc0 := 242) (pc' := 258) rfl (hb hby d2_242) (by decide) (by decide) ?_
                show Steps p.tables e below (s₁.setTop (mkF m 258 #[.val (.ref qa), .val (.int qp), .val (.int qn), .val (.int qr), .val (.int ((128 : Int32) ||| (((qr.toUInt32 >>> ((16 : Int32) &&& 31).toUInt32).toInt32) &&& (63 : Int32)))), .val (.int ((128 : Int32) ||| (((qr.toUInt32 >>> ((24 : Int32) &&& 31).toUInt32).toInt32) &&& (63 : Int32)))), .val (.int ((240 : Int32) + ((qr &&& (255 : Int32)) % (5 : Int32)))), .val (.int ((128 : Int32) ||| (((qr.toUInt32 >>> ((8 : Int32) &&& 31).toUInt32).toInt32) &&& (15 : Int32))))] [])) t
                exact k)
              exact ⟨((128 : Int32) ||| (((qr.toUInt32 >>> ((8 : Int32) &&& 31).toUInt32).toInt32) &&& (15 : Int32))), (Eq.symm (Eq.trans (if_neg c37) (if_pos c40))), P41⟩
            · skip
              have P42 : own_Go p e below S0 (s₁.setTop (mkF m 258 #[.val (.ref qa), .val (.int qp), .val (.int qn), .val (.int qr), .val (.int ((128 : Int32) ||| (((qr.toUInt32 >>> ((16 : Int32) &&& 31).toUInt32).toInt32) &&& (63 : Int32)))), .val (.int ((128 : Int32) ||| (((qr.toUInt32 >>> ((24 : Int32) &&& 31).toUInt32).toInt32) &&& (63 : Int32)))), .val (.int ((240 : Int32) + ((qr &&& (255 : Int32)) % (5 : Int32)))), .val (.int ((128 : Int32) ||| (((qr.toUInt32 >>> ((8 : Int32) &&& 31).toUInt32).toInt32) &&& (63 : Int32))))] [])) := fun t k => P39 t (by
                show Steps p.tables e below (s₁.setTop (mkF m 226 #[.val (.ref qa), .val (.int qp), .val (.int qn), .val (.int qr), .val (.int ((128 : Int32) ||| (((qr.toUInt32 >>> ((16 : Int32) &&& 31).toUInt32).toInt32) &&& (63 : Int32)))), .val (.int ((128 : Int32) ||| (((qr.toUInt32 >>> ((24 : Int32) &&& 31).toUInt32).toInt32) &&& (63 : Int32)))), .val (.int ((240 : Int32) + ((qr &&& (255 : Int32)) % (5 : Int32)))), .unset] [(.int (244 : Int32)), (.int ((240 : Int32) + ((qr &&& (255 : Int32)) % (5 : Int32))))])) t
                refine XS.icmpYes X0.here hx rfl (pc0 := 226) (pc' := 245) rfl (hb hby d2_226) rfl (feq c40).2 (by decide) (by decide) ?_
                refine XS.sipush X0.here hx rfl (hb hby d2_245) ?_
                refine XS.iloadN X0.here hx rfl (hb hby d2_248) rfl ?_
                refine XS.bipush X0.here hx rfl (hb hby d2_249) ?_
                refine XS.iushr X0.here hx rfl (hb hby d2_251) rfl ?_
                refine XS.bipush X0.here hx rfl (hb hby d2_252) ?_
                show Steps p.tables e below (s₁.setTop (mkF m 254 #[.val (.ref qa), .val (.int qp), .val (.int qn), .val (.int qr), .val (.int ((128 : Int32) ||| (((qr.toUInt32 >>> ((16 : Int32) &&& 31).toUInt32).toInt32) &&& (63 : Int32)))), .val (.int ((128 : Int32) ||| (((qr.toUInt32 >>> ((24 : Int32) &&& 31).toUInt32).toInt32) &&& (63 : Int32)))), .val (.int ((240 : Int32) + ((qr &&& (255 : Int32)) % (5 : Int32)))), .unset] [(.int (63 : Int32)), (.int ((qr.toUInt32 >>> ((8 : Int32) &&& 31).toUInt32).toInt32)), (.int (128 : Int32))])) t
                refine XS.iand X0.here hx rfl (hb hby d2_254) rfl ?_
                refine XS.ior X0.here hx rfl (hb hby d2_255) rfl ?_
                refine XS.istore X0.here hx rfl (hb hby d2_256) rfl (l' := #[.val (.ref qa), .val (.int qp), .val (.int qn), .val (.int qr), .val (.int ((128 : Int32) ||| (((qr.toUInt32 >>> ((16 : Int32) &&& 31).toUInt32).toInt32) &&& (63 : Int32)))), .val (.int ((128 : Int32) ||| (((qr.toUInt32 >>> ((24 : Int32) &&& 31).toUInt32).toInt32) &&& (63 : Int32)))), .val (.int ((240 : Int32) + ((qr &&& (255 : Int32)) % (5 : Int32)))), .val (.int ((128 : Int32) ||| (((qr.toUInt32 >>> ((8 : Int32) &&& 31).toUInt32).toInt32) &&& (63 : Int32))))]) rfl ?_
                show Steps p.tables e below (s₁.setTop (mkF m 258 #[.val (.ref qa), .val (.int qp), .val (.int qn), .val (.int qr), .val (.int ((128 : Int32) ||| (((qr.toUInt32 >>> ((16 : Int32) &&& 31).toUInt32).toInt32) &&& (63 : Int32)))), .val (.int ((128 : Int32) ||| (((qr.toUInt32 >>> ((24 : Int32) &&& 31).toUInt32).toInt32) &&& (63 : Int32)))), .val (.int ((240 : Int32) + ((qr &&& (255 : Int32)) % (5 : Int32)))), .val (.int ((128 : Int32) ||| (((qr.toUInt32 >>> ((8 : Int32) &&& 31).toUInt32).toInt32) &&& (63 : Int32))))] [])) t
                exact k)
              exact ⟨((128 : Int32) ||| (((qr.toUInt32 >>> ((8 : Int32) &&& 31).toUInt32).toInt32) &&& (63 : Int32))), (Eq.symm (Eq.trans (if_neg c37) (if_neg c40))), P42⟩
        have P44 : own_Go p e below S0 (s₁.setTop (mkF m 263 #[.val (.ref qa), .val (.int qp), .val (.int qn), .val (.int qr), .val (.int ((128 : Int32) ||| (((qr.toUInt32 >>> ((16 : Int32) &&& 31).toUInt32).toInt32) &&& (63 : Int32)))), .val (.int ((128 : Int32) ||| (((qr.toUInt32 >>> ((24 : Int32) &&& 31).toUInt32).toInt32) &&& (63 : Int32)))), .val (.int ((240 : Int32) + ((qr &&& (255 : Int32)) % (5 : Int32)))), .val (.int v43_l7)] [(.int (((240 : Int32) + ((qr &&& (255 : Int32)) % (5 : Int32))).toInt8.toInt32)), (.int qp), (.ref qa)])) := fun t k => P43 t (by
          show Steps p.tables e below (s₁.setTop (mkF m 258 #[.val (.ref qa), .val (.int qp), .val (.int qn), .val (.int qr), .val (.int ((128 : Int32) ||| (((qr.toUInt32 >>> ((16 : Int32) &&& 31).toUInt32).toInt32) &&& (63 : Int32)))), .val (.int ((128 : Int32) ||| (((qr.toUInt32 >>> ((24 : Int32) &&& 31).toUInt32).toInt32) &&& (63 : Int32)))), .val (.int ((240 : Int32) + ((qr &&& (255 : Int32)) % (5 : Int32)))), .val (.int v43_l7)] [])) t
          refine XS.aloadN X0.here hx rfl (hb hby d2_258) rfl rfl ?_
          refine XS.iloadN X0.here hx rfl (hb hby d2_259) rfl ?_
          refine XS.iload X0.here hx rfl (hb hby d2_260) rfl ?_
          refine XS.i2b X0.here hx rfl (hb hby d2_262) rfl ?_
          show Steps p.tables e below (s₁.setTop (mkF m 263 #[.val (.ref qa), .val (.int qp), .val (.int qn), .val (.int qr), .val (.int ((128 : Int32) ||| (((qr.toUInt32 >>> ((16 : Int32) &&& 31).toUInt32).toInt32) &&& (63 : Int32)))), .val (.int ((128 : Int32) ||| (((qr.toUInt32 >>> ((24 : Int32) &&& 31).toUInt32).toInt32) &&& (63 : Int32)))), .val (.int ((240 : Int32) + ((qr &&& (255 : Int32)) % (5 : Int32)))), .val (.int v43_l7)] [(.int (((240 : Int32) + ((qr &&& (255 : Int32)) % (5 : Int32))).toInt8.toInt32)), (.int qp), (.ref qa)])) t
          exact k)
        have hb46 : ¬ (qp < 0) ∧ qp < (16 : Int32) := own_inb ⟨by omega, by omega⟩
        obtain ⟨cl46, Ar46, q46, Sz46, Hh46⟩ := id B_qa
        have hin46 : ¬ (qp < 0 ∨ cl46.slots.size ≤ (qp).toNatClampNeg) := own_bin Sz46 hb46
        obtain ⟨T45, h45, X45, e45, W45, st45⟩ := stB X0 hx hZ e0 Ar46 (j := qp) hin46 (g := (mkF m 263 #[.val (.ref qa), .val (.int qp), .val (.int qn), .val (.int qr), .val (.int ((128 : Int32) ||| (((qr.toUInt32 >>> ((16 : Int32) &&& 31).toUInt32).toInt32) &&& (63 : Int32)))), .val (.int ((128 : Int32) ||| (((qr.toUInt32 >>> ((24 : Int32) &&& 31).toUInt32).toInt32) &&& (63 : Int32)))), .val (.int ((240 : Int32) + ((qr &&& (255 : Int32)) % (5 : Int32)))), .val (.int v43_l7)] [(.int (((240 : Int32) + ((qr &&& (255 : Int32)) % (5 : Int32))).toInt8.toInt32)), (.int qp), (.ref qa)])) rfl rfl (hb hby d2_263)
        have K45 : Keep h0 h45 [qa] := (Keep.refl h0 [qa]).wr W45 (Or.inl (by simp))
        have N45 := Fr.snoc X45 N0 g_qa
        obtain ⟨f45, hf45⟩ : ∃ g : Nat → Int32, g = fun i => if i = (qp).toNatClampNeg then (nar .byte (((240 : Int32) + ((qr &&& (255 : Int32)) % (5 : Int32))).toInt8.toInt32)) else qf i := ⟨_, rfl⟩
        have V45 : own_Byt Z h45 qa qk f45 := by rw [hf45]; exact own_bset ⟨cl46, Ar46, q46, Sz46, Hh46⟩ Ar46 Sz46 hin46 W45
        have P45 : own_Go p e below S0 (T45.setTop (mkF m 264 #[.val (.ref qa), .val (.int qp), .val (.int qn), .val (.int qr), .val (.int ((128 : Int32) ||| (((qr.toUInt32 >>> ((16 : Int32) &&& 31).toUInt32).toInt32) &&& (63 : Int32)))), .val (.int ((128 : Int32) ||| (((qr.toUInt32 >>> ((24 : Int32) &&& 31).toUInt32).toInt32) &&& (63 : Int32)))), .val (.int ((240 : Int32) + ((qr &&& (255 : Int32)) % (5 : Int32)))), .val (.int v43_l7)] [])) := fun t k => P44 t (st45 _ k)
        have P47 : own_Go p e below S0 (T45.setTop (mkF m 271 #[.val (.ref qa), .val (.int qp), .val (.int qn), .val (.int qr), .val (.int ((128 : Int32) ||| (((qr.toUInt32 >>> ((16 : Int32) &&& 31).toUInt32).toInt32) &&& (63 : Int32)))), .val (.int ((128 : Int32) ||| (((qr.toUInt32 >>> ((24 : Int32) &&& 31).toUInt32).toInt32) &&& (63 : Int32)))), .val (.int ((240 : Int32) + ((qr &&& (255 : Int32)) % (5 : Int32)))), .val (.int v43_l7)] [(.int (v43_l7.toInt8.toInt32)), (.int (qp + (1 : Int32))), (.ref qa)])) := fun t k => P45 t (by
          show Steps p.tables e below (T45.setTop (mkF m 264 #[.val (.ref qa), .val (.int qp), .val (.int qn), .val (.int qr), .val (.int ((128 : Int32) ||| (((qr.toUInt32 >>> ((16 : Int32) &&& 31).toUInt32).toInt32) &&& (63 : Int32)))), .val (.int ((128 : Int32) ||| (((qr.toUInt32 >>> ((24 : Int32) &&& 31).toUInt32).toInt32) &&& (63 : Int32)))), .val (.int ((240 : Int32) + ((qr &&& (255 : Int32)) % (5 : Int32)))), .val (.int v43_l7)] [])) t
          refine XS.aloadN X45.here hx rfl (hb hby d2_264) rfl rfl ?_
          refine XS.iloadN X45.here hx rfl (hb hby d2_265) rfl ?_
          refine XS.iconst X45.here hx rfl (hb hby d2_266) ?_
          refine XS.iadd X45.here hx rfl (hb hby d2_267) rfl ?_
          refine XS.iload X45.here hx rfl (hb hby d2_268) rfl ?_
          refine XS.i2b X45.here hx rfl (hb hby d2_270) rfl ?_
          show Steps p.tables e below (T45.setTop (mkF m 271 #[.val (.ref qa), .val (.int qp), .val (.int qn), .val (.int qr), .val (.int ((128 : Int32) ||| (((qr.toUInt32 >>> ((16 : Int32) &&& 31).toUInt32).toInt32) &&& (63 : Int32)))), .val (.int ((128 : Int32) ||| (((qr.toUInt32 >>> ((24 : Int32) &&& 31).toUInt32).toInt32) &&& (63 : Int32)))), .val (.int ((240 : Int32) + ((qr &&& (255 : Int32)) % (5 : Int32)))), .val (.int v43_l7)] [(.int (v43_l7.toInt8.toInt32)), (.int (qp + (1 : Int32))), (.ref qa)])) t
          exact k)
        have hb49 : ¬ ((qp + (1 : Int32)) < 0) ∧ (qp + (1 : Int32)) < (16 : Int32) := own_inb (by rw [own_in1 hat]; omega)
        obtain ⟨cl49, Ar49, q49, Sz49, Hh49⟩ := id V45
        have hin49 : ¬ ((qp + (1 : Int32)) < 0 ∨ cl49.slots.size ≤ ((qp + (1 : Int32))).toNatClampNeg) := own_bin Sz49 hb49
        obtain ⟨T48, h48, X48, e48, W48, st48⟩ := stB X45 hx hZ e45 Ar49 (j := (qp + (1 : Int32))) hin49 (g := (mkF m 271 #[.val (.ref qa), .val (.int qp), .val (.int qn), .val (.int qr), .val (.int ((128 : Int32) ||| (((qr.toUInt32 >>> ((16 : Int32) &&& 31).toUInt32).toInt32) &&& (63 : Int32)))), .val (.int ((128 : Int32) ||| (((qr.toUInt32 >>> ((24 : Int32) &&& 31).toUInt32).toInt32) &&& (63 : Int32)))), .val (.int ((240 : Int32) + ((qr &&& (255 : Int32)) % (5 : Int32)))), .val (.int v43_l7)] [(.int (v43_l7.toInt8.toInt32)), (.int (qp + (1 : Int32))), (.ref qa)])) rfl rfl (hb hby d2_271)
        have K48 : Keep h0 h48 [qa] := K45.wr W48 (Or.inl (by simp))
        have N48 := Fr.snoc X48 N45 g_qa
        obtain ⟨f48, hf48⟩ : ∃ g : Nat → Int32, g = fun i => if i = ((qp + (1 : Int32))).toNatClampNeg then (nar .byte (v43_l7.toInt8.toInt32)) else f45 i := ⟨_, rfl⟩
        have V48 : own_Byt Z h48 qa qk f48 := by rw [hf48]; exact own_bset ⟨cl49, Ar49, q49, Sz49, Hh49⟩ Ar49 Sz49 hin49 W48
        have P48 : own_Go p e below S0 (T48.setTop (mkF m 272 #[.val (.ref qa), .val (.int qp), .val (.int qn), .val (.int qr), .val (.int ((128 : Int32) ||| (((qr.toUInt32 >>> ((16 : Int32) &&& 31).toUInt32).toInt32) &&& (63 : Int32)))), .val (.int ((128 : Int32) ||| (((qr.toUInt32 >>> ((24 : Int32) &&& 31).toUInt32).toInt32) &&& (63 : Int32)))), .val (.int ((240 : Int32) + ((qr &&& (255 : Int32)) % (5 : Int32)))), .val (.int v43_l7)] [])) := fun t k => P47 t (st48 _ k)
        have P50 : own_Go p e below S0 (T48.setTop (mkF m 279 #[.val (.ref qa), .val (.int qp), .val (.int qn), .val (.int qr), .val (.int ((128 : Int32) ||| (((qr.toUInt32 >>> ((16 : Int32) &&& 31).toUInt32).toInt32) &&& (63 : Int32)))), .val (.int ((128 : Int32) ||| (((qr.toUInt32 >>> ((24 : Int32) &&& 31).toUInt32).toInt32) &&& (63 : Int32)))), .val (.int ((240 : Int32) + ((qr &&& (255 : Int32)) % (5 : Int32)))), .val (.int v43_l7)] [(.int (((128 : Int32) ||| (((qr.toUInt32 >>> ((16 : Int32) &&& 31).toUInt32).toInt32) &&& (63 : Int32))).toInt8.toInt32)), (.int (qp + (2 : Int32))), (.ref qa)])) := fun t k => P48 t (by
          show Steps p.tables e below (T48.setTop (mkF m 272 #[.val (.ref qa), .val (.int qp), .val (.int qn), .val (.int qr), .val (.int ((128 : Int32) ||| (((qr.toUInt32 >>> ((16 : Int32) &&& 31).toUInt32).toInt32) &&& (63 : Int32)))), .val (.int ((128 : Int32) ||| (((qr.toUInt32 >>> ((24 : Int32) &&& 31).toUInt32).toInt32) &&& (63 : Int32)))), .val (.int ((240 : Int32) + ((qr &&& (255 : Int32)) % (5 : Int32)))), .val (.int v43_l7)] [])) t
          refine XS.aloadN X48.here hx rfl (hb hby d2_272) rfl rfl ?_
          refine XS.iloadN X48.here hx rfl (hb hby d2_273) rfl ?_
          refine XS.iconst X48.here hx rfl (hb hby d2_274) ?_
          refine XS.iadd X48.here hx rfl (hb hby d2_275) rfl ?_
          refine XS.iload X48.here hx rfl (hb hby d2_276) rfl ?_
          refine XS.i2b X48.here hx rfl (hb hby d2_278) rfl ?_
          show Steps p.tables e below (T48.setTop (mkF m 279 #[.val (.ref qa), .val (.int qp), .val (.int qn), .val (.int qr), .val (.int ((128 : Int32) ||| (((qr.toUInt32 >>> ((16 : Int32) &&& 31).toUInt32).toInt32) &&& (63 : Int32)))), .val (.int ((128 : Int32) ||| (((qr.toUInt32 >>> ((24 : Int32) &&& 31).toUInt32).toInt32) &&& (63 : Int32)))), .val (.int ((240 : Int32) + ((qr &&& (255 : Int32)) % (5 : Int32)))), .val (.int v43_l7)] [(.int (((128 : Int32) ||| (((qr.toUInt32 >>> ((16 : Int32) &&& 31).toUInt32).toInt32) &&& (63 : Int32))).toInt8.toInt32)), (.int (qp + (2 : Int32))), (.ref qa)])) t
          exact k)
        have hb52 : ¬ ((qp + (2 : Int32)) < 0) ∧ (qp + (2 : Int32)) < (16 : Int32) := own_inb (by rw [own_in2 hat]; omega)
        obtain ⟨cl52, Ar52, q52, Sz52, Hh52⟩ := id V48
        have hin52 : ¬ ((qp + (2 : Int32)) < 0 ∨ cl52.slots.size ≤ ((qp + (2 : Int32))).toNatClampNeg) := own_bin Sz52 hb52
        obtain ⟨T51, h51, X51, e51, W51, st51⟩ := stB X48 hx hZ e48 Ar52 (j := (qp + (2 : Int32))) hin52 (g := (mkF m 279 #[.val (.ref qa), .val (.int qp), .val (.int qn), .val (.int qr), .val (.int ((128 : Int32) ||| (((qr.toUInt32 >>> ((16 : Int32) &&& 31).toUInt32).toInt32) &&& (63 : Int32)))), .val (.int ((128 : Int32) ||| (((qr.toUInt32 >>> ((24 : Int32) &&& 31).toUInt32).toInt32) &&& (63 : Int32)))), .val (.int ((240 : Int32) + ((qr &&& (255 : Int32)) % (5 : Int32)))), .val (.int v43_l7)] [(.int (((128 : Int32) ||| (((qr.toUInt32 >>> ((16 : Int32) &&& 31).toUInt32).toInt32) &&& (63 : Int32))).toInt8.toInt32)), (.int (qp + (2 : Int32))), (.ref qa)])) rfl rfl (hb hby d2_279)
        have K51 : Keep h0 h51 [qa] := K48.wr W51 (Or.inl (by simp))
        have N51 := Fr.snoc X51 N48 g_qa
        obtain ⟨f51, hf51⟩ : ∃ g : Nat → Int32, g = fun i => if i = ((qp + (2 : Int32))).toNatClampNeg then (nar .byte (((128 : Int32) ||| (((qr.toUInt32 >>> ((16 : Int32) &&& 31).toUInt32).toInt32) &&& (63 : Int32))).toInt8.toInt32)) else f48 i := ⟨_, rfl⟩
        have V51 : own_Byt Z h51 qa qk f51 := by rw [hf51]; exact own_bset ⟨cl52, Ar52, q52, Sz52, Hh52⟩ Ar52 Sz52 hin52 W51
        have P51 : own_Go p e below S0 (T51.setTop (mkF m 280 #[.val (.ref qa), .val (.int qp), .val (.int qn), .val (.int qr), .val (.int ((128 : Int32) ||| (((qr.toUInt32 >>> ((16 : Int32) &&& 31).toUInt32).toInt32) &&& (63 : Int32)))), .val (.int ((128 : Int32) ||| (((qr.toUInt32 >>> ((24 : Int32) &&& 31).toUInt32).toInt32) &&& (63 : Int32)))), .val (.int ((240 : Int32) + ((qr &&& (255 : Int32)) % (5 : Int32)))), .val (.int v43_l7)] [])) := fun t k => P50 t (st51 _ k)
        have P53 : own_Go p e below S0 (T51.setTop (mkF m 287 #[.val (.ref qa), .val (.int qp), .val (.int qn), .val (.int qr), .val (.int ((128 : Int32) ||| (((qr.toUInt32 >>> ((16 : Int32) &&& 31).toUInt32).toInt32) &&& (63 : Int32)))), .val (.int ((128 : Int32) ||| (((qr.toUInt32 >>> ((24 : Int32) &&& 31).toUInt32).toInt32) &&& (63 : Int32)))), .val (.int ((240 : Int32) + ((qr &&& (255 : Int32)) % (5 : Int32)))), .val (.int v43_l7)] [(.int (((128 : Int32) ||| (((qr.toUInt32 >>> ((24 : Int32) &&& 31).toUInt32).toInt32) &&& (63 : Int32))).toInt8.toInt32)), (.int (qp + (3 : Int32))), (.ref qa)])) := fun t k => P51 t (by
          show Steps p.tables e below (T51.setTop (mkF m 280 #[.val (.ref qa), .val (.int qp), .val (.int qn), .val (.int qr), .val (.int ((128 : Int32) ||| (((qr.toUInt32 >>> ((16 : Int32) &&& 31).toUInt32).toInt32) &&& (63 : Int32)))), .val (.int ((128 : Int32) ||| (((qr.toUInt32 >>> ((24 : Int32) &&& 31).toUInt32).toInt32) &&& (63 : Int32)))), .val (.int ((240 : Int32) + ((qr &&& (255 : Int32)) % (5 : Int32)))), .val (.int v43_l7)] [])) t
          refine XS.aloadN X51.here hx rfl (hb hby d2_280) rfl rfl ?_
          refine XS.iloadN X51.here hx rfl (hb hby d2_281) rfl ?_
          refine XS.iconst X51.here hx rfl (hb hby d2_282) ?_
          refine XS.iadd X51.here hx rfl (hb hby d2_283) rfl ?_
          refine XS.iload X51.here hx rfl (hb hby d2_284) rfl ?_
          refine XS.i2b X51.here hx rfl (hb hby d2_286) rfl ?_
          show Steps p.tables e below (T51.setTop (mkF m 287 #[.val (.ref qa), .val (.int qp), .val (.int qn), .val (.int qr), .val (.int ((128 : Int32) ||| (((qr.toUInt32 >>> ((16 : Int32) &&& 31).toUInt32).toInt32) &&& (63 : Int32)))), .val (.int ((128 : Int32) ||| (((qr.toUInt32 >>> ((24 : Int32) &&& 31).toUInt32).toInt32) &&& (63 : Int32)))), .val (.int ((240 : Int32) + ((qr &&& (255 : Int32)) % (5 : Int32)))), .val (.int v43_l7)] [(.int (((128 : Int32) ||| (((qr.toUInt32 >>> ((24 : Int32) &&& 31).toUInt32).toInt32) &&& (63 : Int32))).toInt8.toInt32)), (.int (qp + (3 : Int32))), (.ref qa)])) t
          exact k)
        have hb55 : ¬ ((qp + (3 : Int32)) < 0) ∧ (qp + (3 : Int32)) < (16 : Int32) := own_inb (by rw [own_in3 hat]; omega)
        obtain ⟨cl55, Ar55, q55, Sz55, Hh55⟩ := id V51
        have hin55 : ¬ ((qp + (3 : Int32)) < 0 ∨ cl55.slots.size ≤ ((qp + (3 : Int32))).toNatClampNeg) := own_bin Sz55 hb55
        obtain ⟨T54, h54, X54, e54, W54, st54⟩ := stB X51 hx hZ e51 Ar55 (j := (qp + (3 : Int32))) hin55 (g := (mkF m 287 #[.val (.ref qa), .val (.int qp), .val (.int qn), .val (.int qr), .val (.int ((128 : Int32) ||| (((qr.toUInt32 >>> ((16 : Int32) &&& 31).toUInt32).toInt32) &&& (63 : Int32)))), .val (.int ((128 : Int32) ||| (((qr.toUInt32 >>> ((24 : Int32) &&& 31).toUInt32).toInt32) &&& (63 : Int32)))), .val (.int ((240 : Int32) + ((qr &&& (255 : Int32)) % (5 : Int32)))), .val (.int v43_l7)] [(.int (((128 : Int32) ||| (((qr.toUInt32 >>> ((24 : Int32) &&& 31).toUInt32).toInt32) &&& (63 : Int32))).toInt8.toInt32)), (.int (qp + (3 : Int32))), (.ref qa)])) rfl rfl (hb hby d2_287)
        have K54 : Keep h0 h54 [qa] := K51.wr W54 (Or.inl (by simp))
        have N54 := Fr.snoc X54 N51 g_qa
        obtain ⟨f54, hf54⟩ : ∃ g : Nat → Int32, g = fun i => if i = ((qp + (3 : Int32))).toNatClampNeg then (nar .byte (((128 : Int32) ||| (((qr.toUInt32 >>> ((24 : Int32) &&& 31).toUInt32).toInt32) &&& (63 : Int32))).toInt8.toInt32)) else f51 i := ⟨_, rfl⟩
        have V54 : own_Byt Z h54 qa qk f54 := by rw [hf54]; exact own_bset ⟨cl55, Ar55, q55, Sz55, Hh55⟩ Ar55 Sz55 hin55 W54
        have P54 : own_Go p e below S0 (T54.setTop (mkF m 288 #[.val (.ref qa), .val (.int qp), .val (.int qn), .val (.int qr), .val (.int ((128 : Int32) ||| (((qr.toUInt32 >>> ((16 : Int32) &&& 31).toUInt32).toInt32) &&& (63 : Int32)))), .val (.int ((128 : Int32) ||| (((qr.toUInt32 >>> ((24 : Int32) &&& 31).toUInt32).toInt32) &&& (63 : Int32)))), .val (.int ((240 : Int32) + ((qr &&& (255 : Int32)) % (5 : Int32)))), .val (.int v43_l7)] [])) := fun t k => P53 t (st54 _ k)
        have P56 : own_Go p e below S0 (T54.setTop (mkF m 289 #[.val (.ref qa), .val (.int qp), .val (.int qn), .val (.int qr), .val (.int ((128 : Int32) ||| (((qr.toUInt32 >>> ((16 : Int32) &&& 31).toUInt32).toInt32) &&& (63 : Int32)))), .val (.int ((128 : Int32) ||| (((qr.toUInt32 >>> ((24 : Int32) &&& 31).toUInt32).toInt32) &&& (63 : Int32)))), .val (.int ((240 : Int32) + ((qr &&& (255 : Int32)) % (5 : Int32)))), .val (.int v43_l7)] [(.int (4 : Int32))])) := fun t k => P54 t (by
          show Steps p.tables e below (T54.setTop (mkF m 288 #[.val (.ref qa), .val (.int qp), .val (.int qn), .val (.int qr), .val (.int ((128 : Int32) ||| (((qr.toUInt32 >>> ((16 : Int32) &&& 31).toUInt32).toInt32) &&& (63 : Int32)))), .val (.int ((128 : Int32) ||| (((qr.toUInt32 >>> ((24 : Int32) &&& 31).toUInt32).toInt32) &&& (63 : Int32)))), .val (.int ((240 : Int32) + ((qr &&& (255 : Int32)) % (5 : Int32)))), .val (.int v43_l7)] [])) t
          refine XS.iconst X54.here hx rfl (hb hby d2_288) ?_
          show Steps p.tables e below (T54.setTop (mkF m 289 #[.val (.ref qa), .val (.int qp), .val (.int qn), .val (.int qr), .val (.int ((128 : Int32) ||| (((qr.toUInt32 >>> ((16 : Int32) &&& 31).toUInt32).toInt32) &&& (63 : Int32)))), .val (.int ((128 : Int32) ||| (((qr.toUInt32 >>> ((24 : Int32) &&& 31).toUInt32).toInt32) &&& (63 : Int32)))), .val (.int ((240 : Int32) + ((qr &&& (255 : Int32)) % (5 : Int32)))), .val (.int v43_l7)] [(.int (4 : Int32))])) t
          exact k)
        obtain ⟨fs, hr, hrun, hended, hW, hsame⟩ := X54.leave (v := some (.int (4 : Int32))) (fun h => by rw [Bd.returns] at h; cases h)
        refine ⟨_, _, own_from hS0 (P56 _ ?_), hrun, hended, _, _, rfl, ?_, ⟨_, rfl⟩, hW, hsame.mono (by decide) (by decide)⟩
        · show Steps p.tables e below (T54.setTop (mkF m 289 #[.val (.ref qa), .val (.int qp), .val (.int qn), .val (.int qr), .val (.int ((128 : Int32) ||| (((qr.toUInt32 >>> ((16 : Int32) &&& 31).toUInt32).toInt32) &&& (63 : Int32)))), .val (.int ((128 : Int32) ||| (((qr.toUInt32 >>> ((24 : Int32) &&& 31).toUInt32).toInt32) &&& (63 : Int32)))), .val (.int ((240 : Int32) + ((qr &&& (255 : Int32)) % (5 : Int32)))), .val (.int v43_l7)] [(.int (4 : Int32))])) _
          exact retI X54 hx Bd.returns (hb hby d2_289) hr
        · show Q2 Z qa qp qn qr qk qf h0 n0 _ T54.heap _
          rw [e54]
          exact ⟨f54, (4 : Int32), rfl, N54, K54, V54, (by subst hf54; subst hf51; subst hf48; subst hf45; exact own_putS (own_putS (own_putS (own_put1 (own_k3 _)) (own_natlt hat.1 (by rw [own_in1 hat]; omega))) (own_natlt hat.1 (by rw [own_in2 hat]; omega))) (own_natlt hat.1 (by rw [own_in3 hat]; omega)))⟩
theorem pn_3 : plainName "com/example/strict_acl/strictacl/Utf8Text" = true := by first | (simp [plainName, overriddenIn]; done) | decide +kernel
theorem d3_0 : decode prog_39_method_4_code 0 = .ok (.lload_n 2, 1) := by decide +kernel
theorem d3_1 : decode prog_39_method_4_code 1 = .ok (.lconst 0, 1) := by decide +kernel
theorem d3_2 : decode prog_39_method_4_code 2 = .ok (.lcmp, 1) := by decide +kernel
theorem d3_3 : decode prog_39_method_4_code 3 = .ok (.ifCond .ge 17, 3) := by decide +kernel
theorem d3_20 : decode prog_39_method_4_code 20 = .ok (.iload_n 1, 1) := by decide +kernel
theorem d3_21 : decode prog_39_method_4_code 21 = .ok (.istore 4, 2) := by decide +kernel
theorem d3_23 : decode prog_39_method_4_code 23 = .ok (.lconst 0, 1) := by decide +kernel
theorem d3_24 : decode prog_39_method_4_code 24 = .ok (.lstore 5, 2) := by decide +kernel
theorem d3_26 : decode prog_39_method_4_code 26 = .ok (.lload 5, 2) := by decide +kernel
theorem d3_28 : decode prog_39_method_4_code 28 = .ok (.lload_n 2, 1) := by decide +kernel
theorem d3_29 : decode prog_39_method_4_code 29 = .ok (.lcmp, 1) := by decide +kernel
theorem d3_30 : decode prog_39_method_4_code 30 = .ok (.ifCond .ge 86, 3) := by decide +kernel
theorem d3_116 : decode prog_39_method_4_code 116 = .ok (.iload 4, 2) := by decide +kernel
theorem d3_118 : decode prog_39_method_4_code 118 = .ok (.ireturn, 1) := by decide +kernel
theorem ef_3n0 (m : MethodId) (qa : Addr) (qp : Int32) (qc : Int64) : entryFrame m #[(.ref qa), (.int qp), (.long qc)] 9 = mkF m 0 #[.val (.ref qa), .val (.int qp), .val (.long qc), .second, .unset, .unset, .unset, .unset, .unset] [] := by first | (simp [entryFrame, mkF, argsToLocals, Value.category]; done) | rfl
def Q3n0 (Z : State) (qa : Addr) (qp : Int32) (qc : Int64) (qk : ClassId) (qf : Nat → Int32) (h0 : Heap) (n0 : Nat) (v : Option Value) (h : Heap) (L : List Loc) : Prop := v = some (.int qp) ∧ Fr n0 L ∧ h = h0
set_option maxRecDepth 65536 in
set_option maxHeartbeats 40000000 in
theorem rm3n0 (l : Launch) (Z : State) (a0 : Array Value) (hw : ∀ d ∈ tables_1, d.before a0 Z = true) (ws : List Jvm.Cond) (qa : Addr) (qp : Int32) (qc : Int64) (qk : ClassId) (qf : Nat → Int32) (h0 : Heap) (n0 : Nat) (Z0 : n0 ≤ h0.size) (B_qa : own_Byt Z h0 qa qk qf) (hge : ¬ (qc < (0 : Int64))) (hfin : ¬ ((0 : Int64) < qc)) :
    MetFree l (⟨"com/example/strict_acl/strictacl/Utf8Text", "byteAfter", "([BIJ)I"⟩ : MethodName) (head1 (Jvm.Cond.code (⟨"com/example/strict_acl/strictacl/Utf8Text", "byteAfter", "([BIJ)I"⟩ : MethodName) prog_39_method_4_code 9 (some .int) :: ws) ({ frames := 0, cells := 0, slots := 0, locals := 0 } : Room)) (fun a U => a = #[(.ref qa), (.int qp), (.long qc)] ∧ Z.Warmed39 U.vm ∧ U.heap = h0) (fun _ _ _ _ _ => True) (fun _ U o U' => ∃ v L, o = .returned v ∧ Q3n0 Z qa qp qc qk qf h0 n0 v U'.heap L ∧ FrameEnd U o U' L ({ frames := 0, cells := 0, slots := 0, locals := 0 } : Room).cells ({ frames := 0, cells := 0, slots := 0, locals := 0 } : Room).slots) := by
  refine MetFree.of_bodySF (plainFor_of_name pn_3) hisR ?_
  intro p e s m args below meth c s₁ Bd hml0 hP hK
  obtain ⟨rfl, hZ, hh⟩ := hP
  have hx := Bd.exec
  have hby := Bd.bytes
  have hml : c.maxLocals = 9 := hml0
  have hown : s.vm.findClass "com/example/strict_acl/strictacl/Utf8Text" = some m.cls := findClass_of_methodNamed Bd.named
  have hnm := (name_of_methodNamed Bd.named Bd.method).1
  have X0 : Stand p l e ({ frames := 0, cells := 0, slots := 0, locals := 0 } : Room) s m #[(.ref qa), (.int qp), (.long qc)] below meth c s₁ [] 0 0 := Stand.of_body Bd
  have e0 : s₁.heap = h0 := by rw [← hh, Bd.state]; rfl
  have N0 := Fr.nil n0
  obtain ⟨S0, hS0⟩ : ∃ z, z = s₁.setTop (entryFrame m #[(.ref qa), (.int qp), (.long qc)] 9) := ⟨_, rfl⟩
  have P0 : own_Go p e below S0 (s₁.setTop (mkF m 0 #[.val (.ref qa), .val (.int qp), .val (.long qc), .second, .unset, .unset, .unset, .unset, .unset] [])) := fun t k => by rw [hS0]; exact castTop (ef_3n0 m qa qp qc) k
  have c1 : ¬ (qc < (0 : Int64)) := hge
  have c2 : ¬ ((0 : Int64) < qc) := hfin
  have P3 : own_Go p e below S0 (s₁.setTop (mkF m 118 #[.val (.ref qa), .val (.int qp), .val (.long qc), .second, .val (.int qp), .val (.long (0 : Int64)), .second, .unset, .unset] [(.int qp)])) := fun t k => P0 t (by
    show Steps p.tables e below (s₁.setTop (mkF m 0 #[.val (.ref qa), .val (.int qp), .val (.long qc), .second, .unset, .unset, .unset, .unset, .unset] [])) t
    refine XS.lloadN X0.here hx rfl (hb hby d3_0) rfl ?_
    refine XS.lconst X0.here hx rfl (hb hby d3_1) ?_
    refine XS.lcmp X0.here hx rfl (hb hby d3_2) rfl ?_
    refine XS.ifYes X0.here hx rfl (pc0 := 3) (pc' := 20) rfl (hb hby d3_3) rfl ((if0 _ _).trans (flt (fun q => c1 ((lw_lt qc (0 : Int64)).mp q))).2.1) (by decide) (by decide) ?_
    refine XS.iloadN X0.here hx rfl (hb hby d3_20) rfl ?_
    refine XS.istore X0.here hx rfl (hb hby d3_21) rfl (l' := #[.val (.ref qa), .val (.int qp), .val (.long qc), .second, .val (.int qp), .unset, .unset, .unset, .unset]) rfl ?_
    show Steps p.tables e below (s₁.setTop (mkF m 23 #[.val (.ref qa), .val (.int qp), .val (.long qc), .second, .val (.int qp), .unset, .unset, .unset, .unset] [])) t
    refine XS.lconst X0.here hx rfl (hb hby d3_23) ?_
    refine XS.lstore X0.here hx rfl (hb hby d3_24) rfl (l' := #[.val (.ref qa), .val (.int qp), .val (.long qc), .second, .val (.int qp), .val (.long (0 : Int64)), .second, .unset, .unset]) rfl ?_
    refine XS.lload X0.here hx rfl (hb hby d3_26) rfl ?_
    refine XS.lloadN X0.here hx rfl (hb hby d3_28) rfl ?_
    refine XS.lcmp X0.here hx rfl (hb hby d3_29) rfl ?_
    refine XS.ifYes X0.here hx rfl (pc0 := 30) (pc' := 116) rfl (hb hby d3_30) rfl ((if0 _ _).trans (flt (fun q => c2 ((lw_lt (0 : Int64) qc).mp q))).2.1) (by decide) (by decide) ?_
    show Steps p.tables e below (s₁.setTop (mkF m 116 #[.val (.ref qa), .val (.int qp), .val (.long qc), .second, .val (.int qp), .val (.long (0 : Int64)), .second, .unset, .unset] [])) t
    refine XS.iload X0.here hx rfl (hb hby d3_116) rfl ?_
    show Steps p.tables e below (s₁.setTop (mkF m 118 #[.val (.ref qa), .val (.int qp), .val (.long qc), .second, .val (.int qp), .val (.long (0 : Int64)), .second, .unset, .unset] [(.int qp)])) t
    exact k)
  obtain ⟨fs, hr, hrun, hended, hW, hsame⟩ := X0.leave (v := some (.int qp)) (fun h => by rw [Bd.returns] at h; cases h)
  refine ⟨_, _, own_from hS0 (P3 _ ?_), hrun, hended, _, _, rfl, ?_, ⟨_, rfl⟩, hW, hsame.mono (by decide) (by decide)⟩
  · show Steps p.tables e below (s₁.setTop (mkF m 118 #[.val (.ref qa), .val (.int qp), .val (.long qc), .second, .val (.int qp), .val (.long (0 : Int64)), .second, .unset, .unset] [(.int qp)])) _
    exact retI X0 hx Bd.returns (hb hby d3_118) hr
  · show Q3n0 Z qa qp qc qk qf h0 n0 _ s₁.heap _
    rw [e0]
    exact ⟨rfl, N0, rfl⟩
theorem d3_33 : decode prog_39_method_4_code 33 = .ok (.aload_n 0, 1) := by decide +kernel
theorem d3_34 : decode prog_39_method_4_code 34 = .ok (.iload 4, 2) := by decide +kernel
theorem d3_36 : decode prog_39_method_4_code 36 = .ok (.baload, 1) := by decide +kernel
theorem d3_37 : decode prog_39_method_4_code 37 = .ok (.sipush 255, 3) := by decide +kernel
theorem d3_40 : decode prog_39_method_4_code 40 = .ok (.iand, 1) := by decide +kernel
theorem d3_41 : decode prog_39_method_4_code 41 = .ok (.istore 7, 2) := by decide +kernel
theorem d3_43 : decode prog_39_method_4_code 43 = .ok (.iload 7, 2) := by decide +kernel
theorem d3_45 : decode prog_39_method_4_code 45 = .ok (.sipush 128, 3) := by decide +kernel
theorem d3_48 : decode prog_39_method_4_code 48 = .ok (.if_icmp .ge 9, 3) := by decide +kernel
theorem d3_51 : decode prog_39_method_4_code 51 = .ok (.iconst 1, 1) := by decide +kernel
theorem d3_52 : decode prog_39_method_4_code 52 = .ok (.istore 8, 2) := by decide +kernel
theorem d3_54 : decode prog_39_method_4_code 54 = .ok (.goto 34, 3) := by decide +kernel
theorem d3_57 : decode prog_39_method_4_code 57 = .ok (.iload 7, 2) := by decide +kernel
theorem d3_59 : decode prog_39_method_4_code 59 = .ok (.sipush 224, 3) := by decide +kernel
theorem d3_62 : decode prog_39_method_4_code 62 = .ok (.if_icmp .ge 9, 3) := by decide +kernel
theorem d3_65 : decode prog_39_method_4_code 65 = .ok (.iconst 2, 1) := by decide +kernel
theorem d3_66 : decode prog_39_method_4_code 66 = .ok (.istore 8, 2) := by decide +kernel
theorem d3_68 : decode prog_39_method_4_code 68 = .ok (.goto 20, 3) := by decide +kernel
theorem d3_71 : decode prog_39_method_4_code 71 = .ok (.iload 7, 2) := by decide +kernel
theorem d3_73 : decode prog_39_method_4_code 73 = .ok (.sipush 240, 3) := by decide +kernel
theorem d3_76 : decode prog_39_method_4_code 76 = .ok (.if_icmp .ge 9, 3) := by decide +kernel
theorem d3_79 : decode prog_39_method_4_code 79 = .ok (.iconst 3, 1) := by decide +kernel
theorem d3_80 : decode prog_39_method_4_code 80 = .ok (.istore 8, 2) := by decide +kernel
theorem d3_82 : decode prog_39_method_4_code 82 = .ok (.goto 6, 3) := by decide +kernel
theorem d3_85 : decode prog_39_method_4_code 85 = .ok (.iconst 4, 1) := by decide +kernel
theorem d3_86 : decode prog_39_method_4_code 86 = .ok (.istore 8, 2) := by decide +kernel
theorem d3_88 : decode prog_39_method_4_code 88 = .ok (.iload 4, 2) := by decide +kernel
theorem d3_90 : decode prog_39_method_4_code 90 = .ok (.iload 8, 2) := by decide +kernel
theorem d3_92 : decode prog_39_method_4_code 92 = .ok (.iadd, 1) := by decide +kernel
theorem d3_93 : decode prog_39_method_4_code 93 = .ok (.istore 4, 2) := by decide +kernel
theorem d3_95 : decode prog_39_method_4_code 95 = .ok (.lload 5, 2) := by decide +kernel
theorem d3_97 : decode prog_39_method_4_code 97 = .ok (.iload 8, 2) := by decide +kernel
theorem d3_99 : decode prog_39_method_4_code 99 = .ok (.iconst 4, 1) := by decide +kernel
theorem d3_100 : decode prog_39_method_4_code 100 = .ok (.if_icmp .ne 9, 3) := by decide +kernel
theorem d3_103 : decode prog_39_method_4_code 103 = .ok (.ldc2_w 45, 3) := by decide +kernel
theorem d3_106 : decode prog_39_method_4_code 106 = .ok (.goto 4, 3) := by decide +kernel
theorem d3_109 : decode prog_39_method_4_code 109 = .ok (.lconst 1, 1) := by decide +kernel
theorem d3_110 : decode prog_39_method_4_code 110 = .ok (.ladd, 1) := by decide +kernel
theorem d3_111 : decode prog_39_method_4_code 111 = .ok (.lstore 5, 2) := by decide +kernel
theorem d3_113 : decode prog_39_method_4_code 113 = .ok (.goto (-87), 3) := by decide +kernel
theorem ef_3n1 (m : MethodId) (qa : Addr) (qp : Int32) (qc : Int64) : entryFrame m #[(.ref qa), (.int qp), (.long qc)] 9 = mkF m 0 #[.val (.ref qa), .val (.int qp), .val (.long qc), .second, .unset, .unset, .unset, .unset, .unset] [] := by first | (simp [entryFrame, mkF, argsToLocals, Value.category]; done) | rfl
def Q3n1 (Z : State) (qa : Addr) (qp : Int32) (qc : Int64) (qk : ClassId) (qf : Nat → Int32) (l0 : Int32) (u0 : Int64) (h0 : Heap) (n0 : Nat) (v : Option Value) (h : Heap) (L : List Loc) : Prop := v = some (.int (qp + l0)) ∧ Fr n0 L ∧ h = h0
set_option maxRecDepth 65536 in
set_option maxHeartbeats 40000000 in
theorem rm3n1 (l : Launch) (Z : State) (a0 : Array Value) (hw : ∀ d ∈ tables_1, d.before a0 Z = true) (ws : List Jvm.Cond) (qa : Addr) (qp : Int32) (qc : Int64) (qk : ClassId) (qf : Nat → Int32) (l0 : Int32) (u0 : Int64) (h0 : Heap) (n0 : Nat) (Z0 : n0 ≤ h0.size) (B_qa : own_Byt Z h0 qa qk qf) (hge : ¬ (qc < (0 : Int64))) (hlt0 : (0 : Int64) < qc) (hin0 : ¬ (qp < 0) ∧ qp < (16 : Int32)) (hcl0 : own_Cls (qf (qp).toNatClampNeg) l0) (hu0 : u0 = (if l0 = (4 : Int32) then (2 : Int64) else (1 : Int64))) (hfin : ¬ (((0 : Int64) + u0) < qc)) :
    MetFree l (⟨"com/example/strict_acl/strictacl/Utf8Text", "byteAfter", "([BIJ)I"⟩ : MethodName) (head1 (Jvm.Cond.code (⟨"com/example/strict_acl/strictacl/Utf8Text", "byteAfter", "([BIJ)I"⟩ : MethodName) prog_39_method_4_code 9 (some .int) :: ws) ({ frames := 0, cells := 0, slots := 0, locals := 0 } : Room)) (fun a U => a = #[(.ref qa), (.int qp), (.long qc)] ∧ Z.Warmed39 U.vm ∧ U.heap = h0) (fun _ _ _ _ _ => True) (fun _ U o U' => ∃ v L, o = .returned v ∧ Q3n1 Z qa qp qc qk qf l0 u0 h0 n0 v U'.heap L ∧ FrameEnd U o U' L ({ frames := 0, cells := 0, slots := 0, locals := 0 } : Room).cells ({ frames := 0, cells := 0, slots := 0, locals := 0 } : Room).slots) := by
  refine MetFree.of_bodySF (plainFor_of_name pn_3) hisR ?_
  intro p e s m args below meth c s₁ Bd hml0 hP hK
  obtain ⟨rfl, hZ, hh⟩ := hP
  have hx := Bd.exec
  have hby := Bd.bytes
  have hml : c.maxLocals = 9 := hml0
  have hown : s.vm.findClass "com/example/strict_acl/strictacl/Utf8Text" = some m.cls := findClass_of_methodNamed Bd.named
  have hnm := (name_of_methodNamed Bd.named Bd.method).1
  have X0 : Stand p l e ({ frames := 0, cells := 0, slots := 0, locals := 0 } : Room) s m #[(.ref qa), (.int qp), (.long qc)] below meth c s₁ [] 0 0 := Stand.of_body Bd
  have e0 : s₁.heap = h0 := by rw [← hh, Bd.state]; rfl
  have N0 := Fr.nil n0
  obtain ⟨S0, hS0⟩ : ∃ z, z = s₁.setTop (entryFrame m #[(.ref qa), (.int qp), (.long qc)] 9) := ⟨_, rfl⟩
  have P0 : own_Go p e below S0 (s₁.setTop (mkF m 0 #[.val (.ref qa), .val (.int qp), .val (.long qc), .second, .unset, .unset, .unset, .unset, .unset] [])) := fun t k => by rw [hS0]; exact castTop (ef_3n1 m qa qp qc) k
  have c1 : ¬ (qc < (0 : Int64)) := hge
  have c2 : (0 : Int64) < qc := hlt0
  have hb3 : ¬ (qp < 0) ∧ qp < (16 : Int32) := hin0
  obtain ⟨cl3, Ar3, q3, Sz3, Hh3⟩ := id B_qa
  have hin3 : ¬ (qp < 0 ∨ cl3.slots.size ≤ (qp).toNatClampNeg) := own_bin Sz3 hb3
  have hat3 : cl3.slots[(qp).toNatClampNeg]? = some (.int (qf (qp).toNatClampNeg)) := Hh3 _ (own_blt hb3)
  have P4 : own_Go p e below S0 (s₁.setTop (mkF m 48 #[.val (.ref qa), .val (.int qp), .val (.long qc), .second, .val (.int qp), .val (.long (0 : Int64)), .second, .val (.int ((qf (qp).toNatClampNeg) &&& (255 : Int32))), .unset] [(.int (128 : Int32)), (.int ((qf (qp).toNatClampNeg) &&& (255 : Int32)))])) := fun t k => P0 t (by
    show Steps p.tables e below (s₁.setTop (mkF m 0 #[.val (.ref qa), .val (.int qp), .val (.long qc), .second, .unset, .unset, .unset, .unset, .unset] [])) t
    refine XS.lloadN X0.here hx rfl (hb hby d3_0) rfl ?_
    refine XS.lconst X0.here hx rfl (hb hby d3_1) ?_
    refine XS.lcmp X0.here hx rfl (hb hby d3_2) rfl ?_
    refine XS.ifYes X0.here hx rfl (pc0 := 3) (pc' := 20) rfl (hb hby d3_3) rfl ((if0 _ _).trans (flt (fun q => c1 ((lw_lt qc (0 : Int64)).mp q))).2.1) (by decide) (by decide) ?_
    refine XS.iloadN X0.here hx rfl (hb hby d3_20) rfl ?_
    refine XS.istore X0.here hx rfl (hb hby d3_21) rfl (l' := #[.val (.ref qa), .val (.int qp), .val (.long qc), .second, .val (.int qp), .unset, .unset, .unset, .unset]) rfl ?_
    show Steps p.tables e below (s₁.setTop (mkF m 23 #[.val (.ref qa), .val (.int qp), .val (.long qc), .second, .val (.int qp), .unset, .unset, .unset, .unset] [])) t
    refine XS.lconst X0.here hx rfl (hb hby d3_23) ?_
    refine XS.lstore X0.here hx rfl (hb hby d3_24) rfl (l' := #[.val (.ref qa), .val (.int qp), .val (.long qc), .second, .val (.int qp), .val (.long (0 : Int64)), .second, .unset, .unset]) rfl ?_
    refine XS.lload X0.here hx rfl (hb hby d3_26) rfl ?_
    refine XS.lloadN X0.here hx rfl (hb hby d3_28) rfl ?_
    refine XS.lcmp X0.here hx rfl (hb hby d3_29) rfl ?_
    refine XS.ifNo X0.here hx rfl (hb hby d3_30) rfl ((if0 _ _).trans (tlt ((lw_lt (0 : Int64) qc).mpr c2)).2.1) ?_
    show Steps p.tables e below (s₁.setTop (mkF m 33 #[.val (.ref qa), .val (.int qp), .val (.long qc), .second, .val (.int qp), .val (.long (0 : Int64)), .second, .unset, .unset] [])) t
    refine XS.aloadN X0.here hx rfl (hb hby d3_33) rfl rfl ?_
    refine XS.iload X0.here hx rfl (hb hby d3_34) rfl ?_
    show Steps p.tables e below (s₁.setTop (mkF m 36 #[.val (.ref qa), .val (.int qp), .val (.long qc), .second, .val (.int qp), .val (.long (0 : Int64)), .second, .unset, .unset] [(.int qp), (.ref qa)])) t
    refine X0.baloadBytes hx (j := qp) (v := (.int (qf (qp).toNatClampNeg))) (by rw [e0]; exact Ar3.1) (State.isArrayOf_alike hZ.alike Ar3.2.1) Ar3.2.2 hin3 hat3 (g := (mkF m 36 #[.val (.ref qa), .val (.int qp), .val (.long qc), .second, .val (.int qp), .val (.long (0 : Int64)), .second, .unset, .unset] [(.int qp), (.ref qa)])) rfl rfl (hb hby d3_36) _ ?_
    refine XS.sipush X0.here hx rfl (hb hby d3_37) ?_
    refine XS.iand X0.here hx rfl (hb hby d3_40) rfl ?_
    refine XS.istore X0.here hx rfl (hb hby d3_41) rfl (l' := #[.val (.ref qa), .val (.int qp), .val (.long qc), .second, .val (.int qp), .val (.long (0 : Int64)), .second, .val (.int ((qf (qp).toNatClampNeg) &&& (255 : Int32))), .unset]) rfl ?_
    show Steps p.tables e below (s₁.setTop (mkF m 43 #[.val (.ref qa), .val (.int qp), .val (.long qc), .second, .val (.int qp), .val (.long (0 : Int64)), .second, .val (.int ((qf (qp).toNatClampNeg) &&& (255 : Int32))), .unset] [])) t
    refine XS.iload X0.here hx rfl (hb hby d3_43) rfl ?_
    refine XS.sipush X0.here hx rfl (hb hby d3_45) ?_
    show Steps p.tables e below (s₁.setTop (mkF m 48 #[.val (.ref qa), .val (.int qp), .val (.long qc), .second, .val (.int qp), .val (.long (0 : Int64)), .second, .val (.int ((qf (qp).toNatClampNeg) &&& (255 : Int32))), .unset] [(.int (128 : Int32)), (.int ((qf (qp).toNatClampNeg) &&& (255 : Int32)))])) t
    exact k)
  obtain ⟨v14_l8, hv14_l8, P14⟩ : ∃ (v14_l8 : Int32), (v14_l8 = (if ((qf (qp).toNatClampNeg) &&& (255 : Int32)) < (128 : Int32) then (1 : Int32) else (if ((qf (qp).toNatClampNeg) &&& (255 : Int32)) < (224 : Int32) then (2 : Int32) else (if ((qf (qp).toNatClampNeg) &&& (255 : Int32)) < (240 : Int32) then (3 : Int32) else (4 : Int32))))) ∧ (own_Go p e below S0 (s₁.setTop (mkF m 88 #[.val (.ref qa), .val (.int qp), .val (.long qc), .second, .val (.int qp), .val (.long (0 : Int64)), .second, .val (.int ((qf (qp).toNatClampNeg) &&& (255 : Int32))), .val (.int v14_l8)] []))) := by
    by_cases c5 : ((qf (qp).toNatClampNeg) &&& (255 : Int32)) < (128 : Int32)
    · skip
      have P6 : own_Go p e below S0 (s₁.setTop (mkF m 88 #[.val (.ref qa), .val (.int qp), .val (.long qc), .second, .val (.int qp), .val (.long (0 : Int64)), .second, .val (.int ((qf (qp).toNatClampNeg) &&& (255 : Int32))), .val (.int (1 : Int32))] [])) := fun t k => P4 t (by
        show Steps p.tables e below (s₁.setTop (mkF m 48 #[.val (.ref qa), .val (.int qp), .val (.long qc), .second, .val (.int qp), .val (.long (0 : Int64)), .second, .val (.int ((qf (qp).toNatClampNeg) &&& (255 : Int32))), .unset] [(.int (128 : Int32)), (.int ((qf (qp).toNatClampNeg) &&& (255 : Int32)))])) t
        refine XS.icmpNo X0.here hx rfl (hb hby d3_48) rfl (tlt c5).2.1 ?_
        refine XS.iconst X0.here hx rfl (hb hby d3_51) ?_
        refine XS.istore X0.here hx rfl (hb hby d3_52) rfl (l' := #[.val (.ref qa), .val (.int qp), .val (.long qc), .second, .val (.int qp), .val (.long (0 : Int64)), .second, .val (.int ((qf (qp).toNatClampNeg) &&& (255 : Int32))), .val (.int (1 : Int32))]) rfl ?_
        refine XS.goto X0.here hx rfl (pc0 := 54) (pc' := 88) rfl (hb hby d3_54) (by decide) (by decide) ?_
        show Steps p.tables e below (s₁.setTop (mkF m 88 #[.val (.ref qa), .val (.int qp), .val (.long qc), .second, .val (.int qp), .val (.long (0 : Int64)), .second, .val (.int ((qf (qp).toNatClampNeg) &&& (255 : Int32))), .val (.int (1 : Int32))] [])) t
        exact k)
      exact ⟨(1 : Int32), (Eq.symm (if_pos c5)), P6⟩
    · skip
      have P7 : own_Go p e below S0 (s₁.setTop (mkF m 62 #[.val (.ref qa), .val (.int qp), .val (.long qc), .second, .val (.int qp), .val (.long (0 : Int64)), .second, .val (.int ((qf (qp).toNatClampNeg) &&& (255 : Int32))), .unset] [(.int (224 : Int32)), (.int ((qf (qp).toNatClampNeg) &&& (255 : Int32)))])) := fun t k => P4 t (by
        show Steps p.tables e below (s₁.setTop (mkF m 48 #[.val (.ref qa), .val (.int qp), .val (.long qc), .second, .val (.int qp), .val (.long (0 : Int64)), .second, .val (.int ((qf (qp).toNatClampNeg) &&& (255 : Int32))), .unset] [(.int (128 : Int32)), (.int ((qf (qp).toNatClampNeg) &&& (255 : Int32)))])) t
        refine XS.icmpYes X0.here hx rfl (pc0 := 48) (pc' := 57) rfl (hb hby d3_48) rfl (flt c5).2.1 (by decide) (by decide) ?_
        refine XS.iload X0.here hx rfl (hb hby d3_57) rfl ?_
        refine XS.sipush X0.here hx rfl (hb hby d3_59) ?_
        show Steps p.tables e below (s₁.setTop (mkF m 62 #[.val (.ref qa), .val (.int qp), .val (.long qc), .second, .val (.int qp), .val (.long (0 : Int64)), .second, .val (.int ((qf (qp).toNatClampNeg) &&& (255 : Int32))), .unset] [(.int (224 : Int32)), (.int ((qf (qp).toNatClampNeg) &&& (255 : Int32)))])) t
        exact k)
      by_cases c8 : ((qf (qp).toNatClampNeg) &&& (255 : Int32)) < (224 : Int32)
      · skip
        have P9 : own_Go p e below S0 (s₁.setTop (mkF m 88 #[.val (.ref qa), .val (.int qp), .val (.long qc), .second, .val (.int qp), .val (.long (0 : Int64)), .second, .val (.int ((qf (qp).toNatClampNeg) &&& (255 : Int32))), .val (.int (2 : Int32))] [])) := fun t k => P7 t (by
          show Steps p.tables e below (s₁.setTop (mkF m 62 #[.val (.ref qa), .val (.int qp), .val (.long qc), .second, .val (.int qp), .val (.long (0 : Int64)), .second, .val (.int ((qf (qp).toNatClampNeg) &&& (255 : Int32))), .unset] [(.int (224 : Int32)), (.int ((qf (qp).toNatClampNeg) &&& (255 : Int32)))])) t
          refine XS.icmpNo X0.here hx rfl (hb hby d3_62) rfl (tlt c8).2.1 ?_
          refine XS.iconst X0.here hx rfl (hb hby d3_65) ?_
          refine XS.istore X0.here hx rfl (hb hby d3_66) rfl (l' := #[.val (.ref qa), .val (.int qp), .val (.long qc), .second, .val (.int qp), .val (.long (0 : Int64)), .second, .val (.int ((qf (qp).toNatClampNeg) &&& (255 : Int32))), .val (.int (2 : Int32))]) rfl ?_
          refine XS.goto X0.here hx rfl (pc0 := 68) (pc' := 88) rfl (hb hby d3_68) (by decide) (by decide) ?_
          show Steps p.tables e below (s₁.setTop (mkF m 88 #[.val (.ref qa), .val (.int qp), .val (.long qc), .second, .val (.int qp), .val (.long (0 : Int64)), .second, .val (.int ((qf (qp).toNatClampNeg) &&& (255 : Int32))), .val (.int (2 : Int32))] [])) t
          exact k)
        exact ⟨(2 : Int32), (Eq.symm (Eq.trans (if_neg c5) (if_pos c8))), P9⟩
      · skip
        have P10 : own_Go p e below S0 (s₁.setTop (mkF m 76 #[.val (.ref qa), .val (.int qp), .val (.long qc), .second, .val (.int qp), .val (.long (0 : Int64)), .second, .val (.int ((qf (qp).toNatClampNeg) &&& (255 : Int32))), .unset] [(.int (240 : Int32)), (.int ((qf (qp).toNatClampNeg) &&& (255 : Int32)))])) := fun t k => P7 t (by
          show Steps p.tables e below (s₁.setTop (mkF m 62 #[.val (.ref qa), .val (.int qp), .val (.long qc), .second, .val (.int qp), .val (.long (0 : Int64)), .second, .val (.int ((qf (qp).toNatClampNeg) &&& (255 : Int32))), .unset] [(.int (224 : Int32)), (.int ((qf (qp).toNatClampNeg) &&& (255 : Int32)))])) t
          refine XS.icmpYes X0.here hx rfl (pc0 := 62) (pc' := 71) rfl (hb hby d3_62) rfl (flt c8).2.1 (by decide) (by decide) ?_
          refine XS.iload X0.here hx rfl (hb hby d3_71) rfl ?_
          refine XS.sipush X0.here hx rfl (hb hby d3_73) ?_
          show Steps p.tables e below (s₁.setTop (mkF m 76 #[.val (.ref qa), .val (.int qp), .val (.long qc), .second, .val (.int qp), .val (.long (0 : Int64)), .second, .val (.int ((qf (qp).toNatClampNeg) &&& (255 : Int32))), .unset] [(.int (240 : Int32)), (.int ((qf (qp).toNatClampNeg) &&& (255 : Int32)))])) t
          exact k)
        by_cases c11 : ((qf (qp).toNatClampNeg) &&& (255 : Int32)) < (240 : Int32)
        · skip
          have P12 : own_Go p e below S0 (s₁.setTop (mkF m 88 #[.val (.ref qa), .val (.int qp), .val (.long qc), .second, .val (.int qp), .val (.long (0 : Int64)), .second, .val (.int ((qf (qp).toNatClampNeg) &&& (255 : Int32))), .val (.int (3 : Int32))] [])) := fun t k => P10 t (by
            show Steps p.tables e below (s₁.setTop (mkF m 76 #[.val (.ref qa), .val (.int qp), .val (.long qc), .second, .val (.int qp), .val (.long (0 : Int64)), .second, .val (.int ((qf (qp).toNatClampNeg) &&& (255 : Int32))), .unset] [(.int (240 : Int32)), (.int ((qf (qp).toNatClampNeg) &&& (255 : Int32)))])) t
            refine XS.icmpNo X0.here hx rfl (hb hby d3_76) rfl (tlt c11).2.1 ?_
            refine XS.iconst X0.here hx rfl (hb hby d3_79) ?_
            refine XS.istore X0.here hx rfl (hb hby d3_80) rfl (l' := #[.val (.ref qa), .val (.int qp), .val (.long qc), .second, .val (.int qp), .val (.long (0 : Int64)), .second, .val (.int ((qf (qp).toNatClampNeg) &&& (255 : Int32))), .val (.int (3 : Int32))]) rfl ?_
            refine XS.goto X0.here hx rfl (pc0 := 82) (pc' := 88) rfl (hb hby d3_82) (by decide) (by decide) ?_
            show Steps p.tables e below (s₁.setTop (mkF m 88 #[.val (.ref qa), .val (.int qp), .val (.long qc), .second, .val (.int qp), .val (.long (0 : Int64)), .second, .val (.int ((qf (qp).toNatClampNeg) &&& (255 : Int32))), .val (.int (3 : Int32))] [])) t
            exact k)
          exact ⟨(3 : Int32), (Eq.symm (Eq.trans (if_neg c5) (Eq.trans (if_neg c8) (if_pos c11)))), P12⟩
        · skip
          have P13 : own_Go p e below S0 (s₁.setTop (mkF m 88 #[.val (.ref qa), .val (.int qp), .val (.long qc), .second, .val (.int qp), .val (.long (0 : Int64)), .second, .val (.int ((qf (qp).toNatClampNeg) &&& (255 : Int32))), .val (.int (4 : Int32))] [])) := fun t k => P10 t (by
            show Steps p.tables e below (s₁.setTop (mkF m 76 #[.val (.ref qa), .val (.int qp), .val (.long qc), .second, .val (.int qp), .val (.long (0 : Int64)), .second, .val (.int ((qf (qp).toNatClampNeg) &&& (255 : Int32))), .unset] [(.int (240 : Int32)), (.int ((qf (qp).toNatClampNeg) &&& (255 : Int32)))])) t
            refine XS.icmpYes X0.here hx rfl (pc0 := 76) (pc' := 85) rfl (hb hby d3_76) rfl (flt c11).2.1 (by decide) (by decide) ?_
            refine XS.iconst X0.here hx rfl (hb hby d3_85) ?_
            refine XS.istore X0.here hx rfl (hb hby d3_86) rfl (l' := #[.val (.ref qa), .val (.int qp), .val (.long qc), .second, .val (.int qp), .val (.long (0 : Int64)), .second, .val (.int ((qf (qp).toNatClampNeg) &&& (255 : Int32))), .val (.int (4 : Int32))]) rfl ?_
            show Steps p.tables e below (s₁.setTop (mkF m 88 #[.val (.ref qa), .val (.int qp), .val (.long qc), .second, .val (.int qp), .val (.long (0 : Int64)), .second, .val (.int ((qf (qp).toNatClampNeg) &&& (255 : Int32))), .val (.int (4 : Int32))] [])) t
            exact k)
          exact ⟨(4 : Int32), (Eq.symm (Eq.trans (if_neg c5) (Eq.trans (if_neg c8) (if_neg c11)))), P13⟩
  obtain rfl : l0 = v14_l8 := by rw [hv14_l8]; exact own_len hcl0
  have P15 : own_Go p e below S0 (s₁.setTop (mkF m 100 #[.val (.ref qa), .val (.int qp), .val (.long qc), .second, .val (.int (qp + l0)), .val (.long (0 : Int64)), .second, .val (.int ((qf (qp).toNatClampNeg) &&& (255 : Int32))), .val (.int l0)] [(.int (4 : Int32)), (.int l0), (.long (0 : Int64))])) := fun t k => P14 t (by
    show Steps p.tables e below (s₁.setTop (mkF m 88 #[.val (.ref qa), .val (.int qp), .val (.long qc), .second, .val (.int qp), .val (.long (0 : Int64)), .second, .val (.int ((qf (qp).toNatClampNeg) &&& (255 : Int32))), .val (.int l0)] [])) t
    refine XS.iload X0.here hx rfl (hb hby d3_88) rfl ?_
    refine XS.iload X0.here hx rfl (hb hby d3_90) rfl ?_
    refine XS.iadd X0.here hx rfl (hb hby d3_92) rfl ?_
    refine XS.istore X0.here hx rfl (hb hby d3_93) rfl (l' := #[.val (.ref qa), .val (.int qp), .val (.long qc), .second, .val (.int (qp + l0)), .val (.long (0 : Int64)), .second, .val (.int ((qf (qp).toNatClampNeg) &&& (255 : Int32))), .val (.int l0)]) rfl ?_
    refine XS.lload X0.here hx rfl (hb hby d3_95) rfl ?_
    refine XS.iload X0.here hx rfl (hb hby d3_97) rfl ?_
    show Steps p.tables e below (s₁.setTop (mkF m 99 #[.val (.ref qa), .val (.int qp), .val (.long qc), .second, .val (.int (qp + l0)), .val (.long (0 : Int64)), .second, .val (.int ((qf (qp).toNatClampNeg) &&& (255 : Int32))), .val (.int l0)] [(.int l0), (.long (0 : Int64))])) t
    refine XS.iconst X0.here hx rfl (hb hby d3_99) ?_
    show Steps p.tables e below (s₁.setTop (mkF m 100 #[.val (.ref qa), .val (.int qp), .val (.long qc), .second, .val (.int (qp + l0)), .val (.long (0 : Int64)), .second, .val (.int ((qf (qp).toNatClampNeg) &&& (255 : Int32))), .val (.int l0)] [(.int (4 : Int32)), (.int l0), (.long (0 : Int64))])) t
    exact k)
  obtain ⟨v19_s0, hv19_s0, P19⟩ : ∃ (v19_s0 : Int64), (v19_s0 = (if l0 = (4 : Int32) then (2 : Int64) else (1 : Int64))) ∧ (own_Go p e below S0 (s₁.setTop (mkF m 110 #[.val (.ref qa), .val (.int qp), .val (.long qc), .second, .val (.int (qp + l0)), .val (.long (0 : Int64)), .second, .val (.int ((qf (qp).toNatClampNeg) &&& (255 : Int32))), .val (.int l0)] [(.long v19_s0), (.long (0 : Int64))]))) := by
    by_cases c16 : l0 = (4 : Int32)
    · skip
      have P17 : own_Go p e below S0 (s₁.setTop (mkF m 110 #[.val (.ref qa), .val (.int qp), .val (.long qc), .second, .val (.int (qp + l0)), .val (.long (0 : Int64)), .second, .val (.int ((qf (qp).toNatClampNeg) &&& (255 : Int32))), .val (.int l0)] [(.long (2 : Int64)), (.long (0 : Int64))])) := fun t k => P15 t (by
        show Steps p.tables e below (s₁.setTop (mkF m 100 #[.val (.ref qa), .val (.int qp), .val (.long qc), .second, .val (.int (qp + l0)), .val (.long (0 : Int64)), .second, .val (.int ((qf (qp).toNatClampNeg) &&& (255 : Int32))), .val (.int l0)] [(.int (4 : Int32)), (.int l0), (.long (0 : Int64))])) t
        refine XS.icmpNo X0.here hx rfl (hb hby d3_100) rfl (teq c16).2 ?_
        show Steps p.tables e below (s₁.setTop (mkF m 103 #[.val (.ref qa), .val (.int qp), .val (.long qc), .second, .val (.int (qp + l0)), .val (.long (0 : Int64)), .second, .val (.int ((qf (qp).toNatClampNeg) &&& (255 : Int32))), .val (.int l0)] [(.long (0 : Int64))])) t
        refine X0.ldc2Long hx hown (mvT hZ (hw _ (List.mem_of_getElem? (i := 13) rfl))) (g := (mkF m 103 #[.val (.ref qa), .val (.int qp), .val (.long qc), .second, .val (.int (qp + l0)), .val (.long (0 : Int64)), .second, .val (.int ((qf (qp).toNatClampNeg) &&& (255 : Int32))), .val (.int l0)] [(.long (0 : Int64))])) rfl (hb hby d3_103) _ ?_
        refine XS.goto X0.here hx rfl (pc0 := 106) (pc' := 110) rfl (hb hby d3_106) (by decide) (by decide) ?_
        show Steps p.tables e below (s₁.setTop (mkF m 110 #[.val (.ref qa), .val (.int qp), .val (.long qc), .second, .val (.int (qp + l0)), .val (.long (0 : Int64)), .second, .val (.int ((qf (qp).toNatClampNeg) &&& (255 : Int32))), .val (.int l0)] [(.long (2 : Int64)), (.long (0 : Int64))])) t
        exact k)
      exact ⟨(2 : Int64), (Eq.symm (if_pos c16)), P17⟩
    · skip
      have P18 : own_Go p e below S0 (s₁.setTop (mkF m 110 #[.val (.ref qa), .val (.int qp), .val (.long qc), .second, .val (.int (qp + l0)), .val (.long (0 : Int64)), .second, .val (.int ((qf (qp).toNatClampNeg) &&& (255 : Int32))), .val (.int l0)] [(.long (1 : Int64)), (.long (0 : Int64))])) := fun t k => P15 t (by
        show Steps p.tables e below (s₁.setTop (mkF m 100 #[.val (.ref qa), .val (.int qp), .val (.long qc), .second, .val (.int (qp + l0)), .val (.long (0 : Int64)), .second, .val (.int ((qf (qp).toNatClampNeg) &&& (255 : Int32))), .val (.int l0)] [(.int (4 : Int32)), (.int l0), (.long (0 : Int64))])) t
        refine XS.icmpYes X0.here hx rfl (pc0 := 100) (pc' := 109) rfl (hb hby d3_100) rfl (feq c16).2 (by decide) (by decide) ?_
        refine XS.lconst X0.here hx rfl (hb hby d3_109) ?_
        show Steps p.tables e below (s₁.setTop (mkF m 110 #[.val (.ref qa), .val (.int qp), .val (.long qc), .second, .val (.int (qp + l0)), .val (.long (0 : Int64)), .second, .val (.int ((qf (qp).toNatClampNeg) &&& (255 : Int32))), .val (.int l0)] [(.long (1 : Int64)), (.long (0 : Int64))])) t
        exact k)
      exact ⟨(1 : Int64), (Eq.symm (if_neg c16)), P18⟩
  obtain rfl : u0 = v19_s0 := hu0.trans (Eq.symm hv19_s0)
  have c20 : ¬ (((0 : Int64) + u0) < qc) := hfin
  have P21 : own_Go p e below S0 (s₁.setTop (mkF m 118 #[.val (.ref qa), .val (.int qp), .val (.long qc), .second, .val (.int (qp + l0)), .val (.long ((0 : Int64) + u0)), .second, .val (.int ((qf (qp).toNatClampNeg) &&& (255 : Int32))), .val (.int l0)] [(.int (qp + l0))])) := fun t k => P19 t (by
    show Steps p.tables e below (s₁.setTop (mkF m 110 #[.val (.ref qa), .val (.int qp), .val (.long qc), .second, .val (.int (qp + l0)), .val (.long (0 : Int64)), .second, .val (.int ((qf (qp).toNatClampNeg) &&& (255 : Int32))), .val (.int l0)] [(.long u0), (.long (0 : Int64))])) t
    refine XS.ladd X0.here hx rfl (hb hby d3_110) rfl ?_
    refine XS.lstore X0.here hx rfl (hb hby d3_111) rfl (l' := #[.val (.ref qa), .val (.int qp), .val (.long qc), .second, .val (.int (qp + l0)), .val (.long ((0 : Int64) + u0)), .second, .val (.int ((qf (qp).toNatClampNeg) &&& (255 : Int32))), .val (.int l0)]) rfl ?_
    refine XS.goto X0.here hx rfl (pc0 := 113) (pc' := 26) rfl (hb hby d3_113) (by decide) (by decide) ?_
    refine XS.lload X0.here hx rfl (hb hby d3_26) rfl ?_
    refine XS.lloadN X0.here hx rfl (hb hby d3_28) rfl ?_
    refine XS.lcmp X0.here hx rfl (hb hby d3_29) rfl ?_
    show Steps p.tables e below (s₁.setTop (mkF m 30 #[.val (.ref qa), .val (.int qp), .val (.long qc), .second, .val (.int (qp + l0)), .val (.long ((0 : Int64) + u0)), .second, .val (.int ((qf (qp).toNatClampNeg) &&& (255 : Int32))), .val (.int l0)] [(.int (lcmpW ((0 : Int64) + u0) qc))])) t
    refine XS.ifYes X0.here hx rfl (pc0 := 30) (pc' := 116) rfl (hb hby d3_30) rfl ((if0 _ _).trans (flt (fun q => c20 ((lw_lt ((0 : Int64) + u0) qc).mp q))).2.1) (by decide) (by decide) ?_
    refine XS.iload X0.here hx rfl (hb hby d3_116) rfl ?_
    show Steps p.tables e below (s₁.setTop (mkF m 118 #[.val (.ref qa), .val (.int qp), .val (.long qc), .second, .val (.int (qp + l0)), .val (.long ((0 : Int64) + u0)), .second, .val (.int ((qf (qp).toNatClampNeg) &&& (255 : Int32))), .val (.int l0)] [(.int (qp + l0))])) t
    exact k)
  obtain ⟨fs, hr, hrun, hended, hW, hsame⟩ := X0.leave (v := some (.int (qp + l0))) (fun h => by rw [Bd.returns] at h; cases h)
  refine ⟨_, _, own_from hS0 (P21 _ ?_), hrun, hended, _, _, rfl, ?_, ⟨_, rfl⟩, hW, hsame.mono (by decide) (by decide)⟩
  · show Steps p.tables e below (s₁.setTop (mkF m 118 #[.val (.ref qa), .val (.int qp), .val (.long qc), .second, .val (.int (qp + l0)), .val (.long ((0 : Int64) + u0)), .second, .val (.int ((qf (qp).toNatClampNeg) &&& (255 : Int32))), .val (.int l0)] [(.int (qp + l0))])) _
    exact retI X0 hx Bd.returns (hb hby d3_118) hr
  · show Q3n1 Z qa qp qc qk qf l0 u0 h0 n0 _ s₁.heap _
    rw [e0]
    exact ⟨rfl, N0, rfl⟩
theorem ef_3n2 (m : MethodId) (qa : Addr) (qp : Int32) (qc : Int64) : entryFrame m #[(.ref qa), (.int qp), (.long qc)] 9 = mkF m 0 #[.val (.ref qa), .val (.int qp), .val (.long qc), .second, .unset, .unset, .unset, .unset, .unset] [] := by first | (simp [entryFrame, mkF, argsToLocals, Value.category]; done) | rfl
def Q3n2 (Z : State) (qa : Addr) (qp : Int32) (qc : Int64) (qk : ClassId) (qf : Nat → Int32) (l0 : Int32) (u0 : Int64) (l1 : Int32) (u1 : Int64) (h0 : Heap) (n0 : Nat) (v : Option Value) (h : Heap) (L : List Loc) : Prop := v = some (.int ((qp + l0) + l1)) ∧ Fr n0 L ∧ h = h0
set_option maxRecDepth 65536 in
set_option maxHeartbeats 40000000 in
theorem rm3n2 (l : Launch) (Z : State) (a0 : Array Value) (hw : ∀ d ∈ tables_1, d.before a0 Z = true) (ws : List Jvm.Cond) (qa : Addr) (qp : Int32) (qc : Int64) (qk : ClassId) (qf : Nat → Int32) (l0 : Int32) (u0 : Int64) (l1 : Int32) (u1 : Int64) (h0 : Heap) (n0 : Nat) (Z0 : n0 ≤ h0.size) (B_qa : own_Byt Z h0 qa qk qf) (hge : ¬ (qc < (0 : Int64))) (hlt0 : (0 : Int64) < qc) (hin0 : ¬ (qp < 0) ∧ qp < (16 : Int32)) (hcl0 : own_Cls (qf (qp).toNatClampNeg) l0) (hu0 : u0 = (if l0 = (4 : Int32) then (2 : Int64) else (1 : Int64))) (hlt1 : ((0 : Int64) + u0) < qc) (hin1 : ¬ ((qp + l0) < 0) ∧ (qp + l0) < (16 : Int32)) (hcl1 : own_Cls (qf ((qp + l0)).toNatClampNeg) l1) (hu1 : u1 = (if l1 = (4 : Int32) then (2 : Int64) else (1 : Int64))) (hfin : ¬ ((((0 : Int64) + u0) + u1) < qc)) :
    MetFree l (⟨"com/example/strict_acl/strictacl/Utf8Text", "byteAfter", "([BIJ)I"⟩ : MethodName) (head1 (Jvm.Cond.code (⟨"com/example/strict_acl/strictacl/Utf8Text", "byteAfter", "([BIJ)I"⟩ : MethodName) prog_39_method_4_code 9 (some .int) :: ws) ({ frames := 0, cells := 0, slots := 0, locals := 0 } : Room)) (fun a U => a = #[(.ref qa), (.int qp), (.long qc)] ∧ Z.Warmed39 U.vm ∧ U.heap = h0) (fun _ _ _ _ _ => True) (fun _ U o U' => ∃ v L, o = .returned v ∧ Q3n2 Z qa qp qc qk qf l0 u0 l1 u1 h0 n0 v U'.heap L ∧ FrameEnd U o U' L ({ frames := 0, cells := 0, slots := 0, locals := 0 } : Room).cells ({ frames := 0, cells := 0, slots := 0, locals := 0 } : Room).slots) := by
  refine MetFree.of_bodySF (plainFor_of_name pn_3) hisR ?_
  intro p e s m args below meth c s₁ Bd hml0 hP hK
  obtain ⟨rfl, hZ, hh⟩ := hP
  have hx := Bd.exec
  have hby := Bd.bytes
  have hml : c.maxLocals = 9 := hml0
  have hown : s.vm.findClass "com/example/strict_acl/strictacl/Utf8Text" = some m.cls := findClass_of_methodNamed Bd.named
  have hnm := (name_of_methodNamed Bd.named Bd.method).1
  have X0 : Stand p l e ({ frames := 0, cells := 0, slots := 0, locals := 0 } : Room) s m #[(.ref qa), (.int qp), (.long qc)] below meth c s₁ [] 0 0 := Stand.of_body Bd
  have e0 : s₁.heap = h0 := by rw [← hh, Bd.state]; rfl
  have N0 := Fr.nil n0
  obtain ⟨S0, hS0⟩ : ∃ z, z = s₁.setTop (entryFrame m #[(.ref qa), (.int qp), (.long qc)] 9) := ⟨_, rfl⟩
  have P0 : own_Go p e below S0 (s₁.setTop (mkF m 0 #[.val (.ref qa), .val (.int qp), .val (.long qc), .second, .unset, .unset, .unset, .unset, .unset] [])) := fun t k => by rw [hS0]; exact castTop (ef_3n2 m qa qp qc) k
  have c1 : ¬ (qc < (0 : Int64)) := hge
  have c2 : (0 : Int64) < qc := hlt0
  have hb3 : ¬ (qp < 0) ∧ qp < (16 : Int32) := hin0
  obtain ⟨cl3, Ar3, q3, Sz3, Hh3⟩ := id B_qa
  have hin3 : ¬ (qp < 0 ∨ cl3.slots.size ≤ (qp).toNatClampNeg) := own_bin Sz3 hb3
  have hat3 : cl3.slots[(qp).toNatClampNeg]? = some (.int (qf (qp).toNatClampNeg)) := Hh3 _ (own_blt hb3)
  have P4 : own_Go p e below S0 (s₁.setTop (mkF m 48 #[.val (.ref qa), .val (.int qp), .val (.long qc), .second, .val (.int qp), .val (.long (0 : Int64)), .second, .val (.int ((qf (qp).toNatClampNeg) &&& (255 : Int32))), .unset] [(.int (128 : Int32)), (.int ((qf (qp).toNatClampNeg) &&& (255 : Int32)))])) := fun t k => P0 t (by
    show Steps p.tables e below (s₁.setTop (mkF m 0 #[.val (.ref qa), .val (.int qp), .val (.long qc), .second, .unset, .unset, .unset, .unset, .unset] [])) t
    refine XS.lloadN X0.here hx rfl (hb hby d3_0) rfl ?_
    refine XS.lconst X0.here hx rfl (hb hby d3_1) ?_
    refine XS.lcmp X0.here hx rfl (hb hby d3_2) rfl ?_
    refine XS.ifYes X0.here hx rfl (pc0 := 3) (pc' := 20) rfl (hb hby d3_3) rfl ((if0 _ _).trans (flt (fun q => c1 ((lw_lt qc (0 : Int64)).mp q))).2.1) (by decide) (by decide) ?_
    refine XS.iloadN X0.here hx rfl (hb hby d3_20) rfl ?_
    refine XS.istore X0.here hx rfl (hb hby d3_21) rfl (l' := #[.val (.ref qa), .val (.int qp), .val (.long qc), .second, .val (.int qp), .unset, .unset, .unset, .unset]) rfl ?_
    show Steps p.tables e below (s₁.setTop (mkF m 23 #[.val (.ref qa), .val (.int qp), .val (.long qc), .second, .val (.int qp), .unset, .unset, .unset, .unset] [])) t
    refine XS.lconst X0.here hx rfl (hb hby d3_23) ?_
    refine XS.lstore X0.here hx rfl (hb hby d3_24) rfl (l' := #[.val (.ref qa), .val (.int qp), .val (.long qc), .second, .val (.int qp), .val (.long (0 : Int64)), .second, .unset, .unset]) rfl ?_
    refine XS.lload X0.here hx rfl (hb hby d3_26) rfl ?_
    refine XS.lloadN X0.here hx rfl (hb hby d3_28) rfl ?_
    refine XS.lcmp X0.here hx rfl (hb hby d3_29) rfl ?_
    refine XS.ifNo X0.here hx rfl (hb hby d3_30) rfl ((if0 _ _).trans (tlt ((lw_lt (0 : Int64) qc).mpr c2)).2.1) ?_
    show Steps p.tables e below (s₁.setTop (mkF m 33 #[.val (.ref qa), .val (.int qp), .val (.long qc), .second, .val (.int qp), .val (.long (0 : Int64)), .second, .unset, .unset] [])) t
    refine XS.aloadN X0.here hx rfl (hb hby d3_33) rfl rfl ?_
    refine XS.iload X0.here hx rfl (hb hby d3_34) rfl ?_
    show Steps p.tables e below (s₁.setTop (mkF m 36 #[.val (.ref qa), .val (.int qp), .val (.long qc), .second, .val (.int qp), .val (.long (0 : Int64)), .second, .unset, .unset] [(.int qp), (.ref qa)])) t
    refine X0.baloadBytes hx (j := qp) (v := (.int (qf (qp).toNatClampNeg))) (by rw [e0]; exact Ar3.1) (State.isArrayOf_alike hZ.alike Ar3.2.1) Ar3.2.2 hin3 hat3 (g := (mkF m 36 #[.val (.ref qa), .val (.int qp), .val (.long qc), .second, .val (.int qp), .val (.long (0 : Int64)), .second, .unset, .unset] [(.int qp), (.ref qa)])) rfl rfl (hb hby d3_36) _ ?_
    refine XS.sipush X0.here hx rfl (hb hby d3_37) ?_
    refine XS.iand X0.here hx rfl (hb hby d3_40) rfl ?_
    refine XS.istore X0.here hx rfl (hb hby d3_41) rfl (l' := #[.val (.ref qa), .val (.int qp), .val (.long qc), .second, .val (.int qp), .val (.long (0 : Int64)), .second, .val (.int ((qf (qp).toNatClampNeg) &&& (255 : Int32))), .unset]) rfl ?_
    show Steps p.tables e below (s₁.setTop (mkF m 43 #[.val (.ref qa), .val (.int qp), .val (.long qc), .second, .val (.int qp), .val (.long (0 : Int64)), .second, .val (.int ((qf (qp).toNatClampNeg) &&& (255 : Int32))), .unset] [])) t
    refine XS.iload X0.here hx rfl (hb hby d3_43) rfl ?_
    refine XS.sipush X0.here hx rfl (hb hby d3_45) ?_
    show Steps p.tables e below (s₁.setTop (mkF m 48 #[.val (.ref qa), .val (.int qp), .val (.long qc), .second, .val (.int qp), .val (.long (0 : Int64)), .second, .val (.int ((qf (qp).toNatClampNeg) &&& (255 : Int32))), .unset] [(.int (128 : Int32)), (.int ((qf (qp).toNatClampNeg) &&& (255 : Int32)))])) t
    exact k)
  obtain ⟨v14_l8, hv14_l8, P14⟩ : ∃ (v14_l8 : Int32), (v14_l8 = (if ((qf (qp).toNatClampNeg) &&& (255 : Int32)) < (128 : Int32) then (1 : Int32) else (if ((qf (qp).toNatClampNeg) &&& (255 : Int32)) < (224 : Int32) then (2 : Int32) else (if ((qf (qp).toNatClampNeg) &&& (255 : Int32)) < (240 : Int32) then (3 : Int32) else (4 : Int32))))) ∧ (own_Go p e below S0 (s₁.setTop (mkF m 88 #[.val (.ref qa), .val (.int qp), .val (.long qc), .second, .val (.int qp), .val (.long (0 : Int64)), .second, .val (.int ((qf (qp).toNatClampNeg) &&& (255 : Int32))), .val (.int v14_l8)] []))) := by
    by_cases c5 : ((qf (qp).toNatClampNeg) &&& (255 : Int32)) < (128 : Int32)
    · skip
      have P6 : own_Go p e below S0 (s₁.setTop (mkF m 88 #[.val (.ref qa), .val (.int qp), .val (.long qc), .second, .val (.int qp), .val (.long (0 : Int64)), .second, .val (.int ((qf (qp).toNatClampNeg) &&& (255 : Int32))), .val (.int (1 : Int32))] [])) := fun t k => P4 t (by
        show Steps p.tables e below (s₁.setTop (mkF m 48 #[.val (.ref qa), .val (.int qp), .val (.long qc), .second, .val (.int qp), .val (.long (0 : Int64)), .second, .val (.int ((qf (qp).toNatClampNeg) &&& (255 : Int32))), .unset] [(.int (128 : Int32)), (.int ((qf (qp).toNatClampNeg) &&& (255 : Int32)))])) t
        refine XS.icmpNo X0.here hx rfl (hb hby d3_48) rfl (tlt c5).2.1 ?_
        refine XS.iconst X0.here hx rfl (hb hby d3_51) ?_
        refine XS.istore X0.here hx rfl (hb hby d3_52) rfl (l' := #[.val (.ref qa), .val (.int qp), .val (.long qc), .second, .val (.int qp), .val (.long (0 : Int64)), .second, .val (.int ((qf (qp).toNatClampNeg) &&& (255 : Int32))), .val (.int (1 : Int32))]) rfl ?_
        refine XS.goto X0.here hx rfl (pc0 := 54) (pc' := 88) rfl (hb hby d3_54) (by decide) (by decide) ?_
        show Steps p.tables e below (s₁.setTop (mkF m 88 #[.val (.ref qa), .val (.int qp), .val (.long qc), .second, .val (.int qp), .val (.long (0 : Int64)), .second, .val (.int ((qf (qp).toNatClampNeg) &&& (255 : Int32))), .val (.int (1 : Int32))] [])) t
        exact k)
      exact ⟨(1 : Int32), (Eq.symm (if_pos c5)), P6⟩
    · skip
      have P7 : own_Go p e below S0 (s₁.setTop (mkF m 62 #[.val (.ref qa), .val (.int qp), .val (.long qc), .second, .val (.int qp), .val (.long (0 : Int64)), .second, .val (.int ((qf (qp).toNatClampNeg) &&& (255 : Int32))), .unset] [(.int (224 : Int32)), (.int ((qf (qp).toNatClampNeg) &&& (255 : Int32)))])) := fun t k => P4 t (by
        show Steps p.tables e below (s₁.setTop (mkF m 48 #[.val (.ref qa), .val (.int qp), .val (.long qc), .second, .val (.int qp), .val (.long (0 : Int64)), .second, .val (.int ((qf (qp).toNatClampNeg) &&& (255 : Int32))), .unset] [(.int (128 : Int32)), (.int ((qf (qp).toNatClampNeg) &&& (255 : Int32)))])) t
        refine XS.icmpYes X0.here hx rfl (pc0 := 48) (pc' := 57) rfl (hb hby d3_48) rfl (flt c5).2.1 (by decide) (by decide) ?_
        refine XS.iload X0.here hx rfl (hb hby d3_57) rfl ?_
        refine XS.sipush X0.here hx rfl (hb hby d3_59) ?_
        show Steps p.tables e below (s₁.setTop (mkF m 62 #[.val (.ref qa), .val (.int qp), .val (.long qc), .second, .val (.int qp), .val (.long (0 : Int64)), .second, .val (.int ((qf (qp).toNatClampNeg) &&& (255 : Int32))), .unset] [(.int (224 : Int32)), (.int ((qf (qp).toNatClampNeg) &&& (255 : Int32)))])) t
        exact k)
      by_cases c8 : ((qf (qp).toNatClampNeg) &&& (255 : Int32)) < (224 : Int32)
      · skip
        have P9 : own_Go p e below S0 (s₁.setTop (mkF m 88 #[.val (.ref qa), .val (.int qp), .val (.long qc), .second, .val (.int qp), .val (.long (0 : Int64)), .second, .val (.int ((qf (qp).toNatClampNeg) &&& (255 : Int32))), .val (.int (2 : Int32))] [])) := fun t k => P7 t (by
          show Steps p.tables e below (s₁.setTop (mkF m 62 #[.val (.ref qa), .val (.int qp), .val (.long qc), .second, .val (.int qp), .val (.long (0 : Int64)), .second, .val (.int ((qf (qp).toNatClampNeg) &&& (255 : Int32))), .unset] [(.int (224 : Int32)), (.int ((qf (qp).toNatClampNeg) &&& (255 : Int32)))])) t
          refine XS.icmpNo X0.here hx rfl (hb hby d3_62) rfl (tlt c8).2.1 ?_
          refine XS.iconst X0.here hx rfl (hb hby d3_65) ?_
          refine XS.istore X0.here hx rfl (hb hby d3_66) rfl (l' := #[.val (.ref qa), .val (.int qp), .val (.long qc), .second, .val (.int qp), .val (.long (0 : Int64)), .second, .val (.int ((qf (qp).toNatClampNeg) &&& (255 : Int32))), .val (.int (2 : Int32))]) rfl ?_
          refine XS.goto X0.here hx rfl (pc0 := 68) (pc' := 88) rfl (hb hby d3_68) (by decide) (by decide) ?_
          show Steps p.tables e below (s₁.setTop (mkF m 88 #[.val (.ref qa), .val (.int qp), .val (.long qc), .second, .val (.int qp), .val (.long (0 : Int64)), .second, .val (.int ((qf (qp).toNatClampNeg) &&& (255 : Int32))), .val (.int (2 : Int32))] [])) t
          exact k)
        exact ⟨(2 : Int32), (Eq.symm (Eq.trans (if_neg c5) (if_pos c8))), P9⟩
      · skip
        have P10 : own_Go p e below S0 (s₁.setTop (mkF m 76 #[.val (.ref qa), .val (.int qp), .val (.long qc), .second, .val (.int qp), .val (.long (0 : Int64)), .second, .val (.int ((qf (qp).toNatClampNeg) &&& (255 : Int32))), .unset] [(.int (240 : Int32)), (.int ((qf (qp).toNatClampNeg) &&& (255 : Int32)))])) := fun t k => P7 t (by
          show Steps p.tables e below (s₁.setTop (mkF m 62 #[.val (.ref qa), .val (.int qp), .val (.long qc), .second, .val (.int qp), .val (.long (0 : Int64)), .second, .val (.int ((qf (qp).toNatClampNeg) &&& (255 : Int32))), .unset] [(.int (224 : Int32)), (.int ((qf (qp).toNatClampNeg) &&& (255 : Int32)))])) t
          refine XS.icmpYes X0.here hx rfl (pc0 := 62) (pc' := 71) rfl (hb hby d3_62) rfl (flt c8).2.1 (by decide) (by decide) ?_
          refine XS.iload X0.here hx rfl (hb hby d3_71) rfl ?_
          refine XS.sipush X0.here hx rfl (hb hby d3_73) ?_
          show Steps p.tables e below (s₁.setTop (mkF m 76 #[.val (.ref qa), .val (.int qp), .val (.long qc), .second, .val (.int qp), .val (.long (0 : Int64)), .second, .val (.int ((qf (qp).toNatClampNeg) &&& (255 : Int32))), .unset] [(.int (240 : Int32)), (.int ((qf (qp).toNatClampNeg) &&& (255 : Int32)))])) t
          exact k)
        by_cases c11 : ((qf (qp).toNatClampNeg) &&& (255 : Int32)) < (240 : Int32)
        · skip
          have P12 : own_Go p e below S0 (s₁.setTop (mkF m 88 #[.val (.ref qa), .val (.int qp), .val (.long qc), .second, .val (.int qp), .val (.long (0 : Int64)), .second, .val (.int ((qf (qp).toNatClampNeg) &&& (255 : Int32))), .val (.int (3 : Int32))] [])) := fun t k => P10 t (by
            show Steps p.tables e below (s₁.setTop (mkF m 76 #[.val (.ref qa), .val (.int qp), .val (.long qc), .second, .val (.int qp), .val (.long (0 : Int64)), .second, .val (.int ((qf (qp).toNatClampNeg) &&& (255 : Int32))), .unset] [(.int (240 : Int32)), (.int ((qf (qp).toNatClampNeg) &&& (255 : Int32)))])) t
            refine XS.icmpNo X0.here hx rfl (hb hby d3_76) rfl (tlt c11).2.1 ?_
            refine XS.iconst X0.here hx rfl (hb hby d3_79) ?_
            refine XS.istore X0.here hx rfl (hb hby d3_80) rfl (l' := #[.val (.ref qa), .val (.int qp), .val (.long qc), .second, .val (.int qp), .val (.long (0 : Int64)), .second, .val (.int ((qf (qp).toNatClampNeg) &&& (255 : Int32))), .val (.int (3 : Int32))]) rfl ?_
            refine XS.goto X0.here hx rfl (pc0 := 82) (pc' := 88) rfl (hb hby d3_82) (by decide) (by decide) ?_
            show Steps p.tables e below (s₁.setTop (mkF m 88 #[.val (.ref qa), .val (.int qp), .val (.long qc), .second, .val (.int qp), .val (.long (0 : Int64)), .second, .val (.int ((qf (qp).toNatClampNeg) &&& (255 : Int32))), .val (.int (3 : Int32))] [])) t
            exact k)
          exact ⟨(3 : Int32), (Eq.symm (Eq.trans (if_neg c5) (Eq.trans (if_neg c8) (if_pos c11)))), P12⟩
        · skip
          have P13 : own_Go p e below S0 (s₁.setTop (mkF m 88 #[.val (.ref qa), .val (.int qp), .val (.long qc), .second, .val (.int qp), .val (.long (0 : Int64)), .second, .val (.int ((qf (qp).toNatClampNeg) &&& (255 : Int32))), .val (.int (4 : Int32))] [])) := fun t k => P10 t (by
            show Steps p.tables e below (s₁.setTop (mkF m 76 #[.val (.ref qa), .val (.int qp), .val (.long qc), .second, .val (.int qp), .val (.long (0 : Int64)), .second, .val (.int ((qf (qp).toNatClampNeg) &&& (255 : Int32))), .unset] [(.int (240 : Int32)), (.int ((qf (qp).toNatClampNeg) &&& (255 : Int32)))])) t
            refine XS.icmpYes X0.here hx rfl (pc0 := 76) (pc' := 85) rfl (hb hby d3_76) rfl (flt c11).2.1 (by decide) (by decide) ?_
            refine XS.iconst X0.here hx rfl (hb hby d3_85) ?_
            refine XS.istore X0.here hx rfl (hb hby d3_86) rfl (l' := #[.val (.ref qa), .val (.int qp), .val (.long qc), .second, .val (.int qp), .val (.long (0 : Int64)), .second, .val (.int ((qf (qp).toNatClampNeg) &&& (255 : Int32))), .val (.int (4 : Int32))]) rfl ?_
            show Steps p.tables e below (s₁.setTop (mkF m 88 #[.val (.ref qa), .val (.int qp), .val (.long qc), .second, .val (.int qp), .val (.long (0 : Int64)), .second, .val (.int ((qf (qp).toNatClampNeg) &&& (255 : Int32))), .val (.int (4 : Int32))] [])) t
            exact k)
          exact ⟨(4 : Int32), (Eq.symm (Eq.trans (if_neg c5) (Eq.trans (if_neg c8) (if_neg c11)))), P13⟩
  obtain rfl : l0 = v14_l8 := by rw [hv14_l8]; exact own_len hcl0
  have P15 : own_Go p e below S0 (s₁.setTop (mkF m 100 #[.val (.ref qa), .val (.int qp), .val (.long qc), .second, .val (.int (qp + l0)), .val (.long (0 : Int64)), .second, .val (.int ((qf (qp).toNatClampNeg) &&& (255 : Int32))), .val (.int l0)] [(.int (4 : Int32)), (.int l0), (.long (0 : Int64))])) := fun t k => P14 t (by
    show Steps p.tables e below (s₁.setTop (mkF m 88 #[.val (.ref qa), .val (.int qp), .val (.long qc), .second, .val (.int qp), .val (.long (0 : Int64)), .second, .val (.int ((qf (qp).toNatClampNeg) &&& (255 : Int32))), .val (.int l0)] [])) t
    refine XS.iload X0.here hx rfl (hb hby d3_88) rfl ?_
    refine XS.iload X0.here hx rfl (hb hby d3_90) rfl ?_
    refine XS.iadd X0.here hx rfl (hb hby d3_92) rfl ?_
    refine XS.istore X0.here hx rfl (hb hby d3_93) rfl (l' := #[.val (.ref qa), .val (.int qp), .val (.long qc), .second, .val (.int (qp + l0)), .val (.long (0 : Int64)), .second, .val (.int ((qf (qp).toNatClampNeg) &&& (255 : Int32))), .val (.int l0)]) rfl ?_
    refine XS.lload X0.here hx rfl (hb hby d3_95) rfl ?_
    refine XS.iload X0.here hx rfl (hb hby d3_97) rfl ?_
    show Steps p.tables e below (s₁.setTop (mkF m 99 #[.val (.ref qa), .val (.int qp), .val (.long qc), .second, .val (.int (qp + l0)), .val (.long (0 : Int64)), .second, .val (.int ((qf (qp).toNatClampNeg) &&& (255 : Int32))), .val (.int l0)] [(.int l0), (.long (0 : Int64))])) t
    refine XS.iconst X0.here hx rfl (hb hby d3_99) ?_
    show Steps p.tables e below (s₁.setTop (mkF m 100 #[.val (.ref qa), .val (.int qp), .val (.long qc), .second, .val (.int (qp + l0)), .val (.long (0 : Int64)), .second, .val (.int ((qf (qp).toNatClampNeg) &&& (255 : Int32))), .val (.int l0)] [(.int (4 : Int32)), (.int l0), (.long (0 : Int64))])) t
    exact k)
  obtain ⟨v19_s0, hv19_s0, P19⟩ : ∃ (v19_s0 : Int64), (v19_s0 = (if l0 = (4 : Int32) then (2 : Int64) else (1 : Int64))) ∧ (own_Go p e below S0 (s₁.setTop (mkF m 110 #[.val (.ref qa), .val (.int qp), .val (.long qc), .second, .val (.int (qp + l0)), .val (.long (0 : Int64)), .second, .val (.int ((qf (qp).toNatClampNeg) &&& (255 : Int32))), .val (.int l0)] [(.long v19_s0), (.long (0 : Int64))]))) := by
    by_cases c16 : l0 = (4 : Int32)
    · skip
      have P17 : own_Go p e below S0 (s₁.setTop (mkF m 110 #[.val (.ref qa), .val (.int qp), .val (.long qc), .second, .val (.int (qp + l0)), .val (.long (0 : Int64)), .second, .val (.int ((qf (qp).toNatClampNeg) &&& (255 : Int32))), .val (.int l0)] [(.long (2 : Int64)), (.long (0 : Int64))])) := fun t k => P15 t (by
        show Steps p.tables e below (s₁.setTop (mkF m 100 #[.val (.ref qa), .val (.int qp), .val (.long qc), .second, .val (.int (qp + l0)), .val (.long (0 : Int64)), .second, .val (.int ((qf (qp).toNatClampNeg) &&& (255 : Int32))), .val (.int l0)] [(.int (4 : Int32)), (.int l0), (.long (0 : Int64))])) t
        refine XS.icmpNo X0.here hx rfl (hb hby d3_100) rfl (teq c16).2 ?_
        show Steps p.tables e below (s₁.setTop (mkF m 103 #[.val (.ref qa), .val (.int qp), .val (.long qc), .second, .val (.int (qp + l0)), .val (.long (0 : Int64)), .second, .val (.int ((qf (qp).toNatClampNeg) &&& (255 : Int32))), .val (.int l0)] [(.long (0 : Int64))])) t
        refine X0.ldc2Long hx hown (mvT hZ (hw _ (List.mem_of_getElem? (i := 13) rfl))) (g := (mkF m 103 #[.val (.ref qa), .val (.int qp), .val (.long qc), .second, .val (.int (qp + l0)), .val (.long (0 : Int64)), .second, .val (.int ((qf (qp).toNatClampNeg) &&& (255 : Int32))), .val (.int l0)] [(.long (0 : Int64))])) rfl (hb hby d3_103) _ ?_
        refine XS.goto X0.here hx rfl (pc0 := 106) (pc' := 110) rfl (hb hby d3_106) (by decide) (by decide) ?_
        show Steps p.tables e below (s₁.setTop (mkF m 110 #[.val (.ref qa), .val (.int qp), .val (.long qc), .second, .val (.int (qp + l0)), .val (.long (0 : Int64)), .second, .val (.int ((qf (qp).toNatClampNeg) &&& (255 : Int32))), .val (.int l0)] [(.long (2 : Int64)), (.long (0 : Int64))])) t
        exact k)
      exact ⟨(2 : Int64), (Eq.symm (if_pos c16)), P17⟩
    · skip
      have P18 : own_Go p e below S0 (s₁.setTop (mkF m 110 #[.val (.ref qa), .val (.int qp), .val (.long qc), .second, .val (.int (qp + l0)), .val (.long (0 : Int64)), .second, .val (.int ((qf (qp).toNatClampNeg) &&& (255 : Int32))), .val (.int l0)] [(.long (1 : Int64)), (.long (0 : Int64))])) := fun t k => P15 t (by
        show Steps p.tables e below (s₁.setTop (mkF m 100 #[.val (.ref qa), .val (.int qp), .val (.long qc), .second, .val (.int (qp + l0)), .val (.long (0 : Int64)), .second, .val (.int ((qf (qp).toNatClampNeg) &&& (255 : Int32))), .val (.int l0)] [(.int (4 : Int32)), (.int l0), (.long (0 : Int64))])) t
        refine XS.icmpYes X0.here hx rfl (pc0 := 100) (pc' := 109) rfl (hb hby d3_100) rfl (feq c16).2 (by decide) (by decide) ?_
        refine XS.lconst X0.here hx rfl (hb hby d3_109) ?_
        show Steps p.tables e below (s₁.setTop (mkF m 110 #[.val (.ref qa), .val (.int qp), .val (.long qc), .second, .val (.int (qp + l0)), .val (.long (0 : Int64)), .second, .val (.int ((qf (qp).toNatClampNeg) &&& (255 : Int32))), .val (.int l0)] [(.long (1 : Int64)), (.long (0 : Int64))])) t
        exact k)
      exact ⟨(1 : Int64), (Eq.symm (if_neg c16)), P18⟩
  obtain rfl : u0 = v19_s0 := hu0.trans (Eq.symm hv19_s0)
  have c20 : ((0 : Int64) + u0) < qc := hlt1
  have hb21 : ¬ ((qp + l0) < 0) ∧ (qp + l0) < (16 : Int32) := hin1
  obtain ⟨cl21, Ar21, q21, Sz21, Hh21⟩ := id B_qa
  have hin21 : ¬ ((qp + l0) < 0 ∨ cl21.slots.size ≤ ((qp + l0)).toNatClampNeg) := own_bin Sz21 hb21
  have hat21 : cl21.slots[((qp + l0)).toNatClampNeg]? = some (.int (qf ((qp + l0)).toNatClampNeg)) := Hh21 _ (own_blt hb21)
  have P22 : own_Go p e below S0 (s₁.setTop (mkF m 48 #[.val (.ref qa), .val (.int qp), .val (.long qc), .second, .val (.int (qp + l0)), .val (.long ((0 : Int64) + u0)), .second, .val (.int ((qf ((qp + l0)).toNatClampNeg) &&& (255 : Int32))), .val (.int l0)] [(.int (128 : Int32)), (.int ((qf ((qp + l0)).toNatClampNeg) &&& (255 : Int32)))])) := fun t k => P19 t (by
    show Steps p.tables e below (s₁.setTop (mkF m 110 #[.val (.ref qa), .val (.int qp), .val (.long qc), .second, .val (.int (qp + l0)), .val (.long (0 : Int64)), .second, .val (.int ((qf (qp).toNatClampNeg) &&& (255 : Int32))), .val (.int l0)] [(.long u0), (.long (0 : Int64))])) t
    refine XS.ladd X0.here hx rfl (hb hby d3_110) rfl ?_
    refine XS.lstore X0.here hx rfl (hb hby d3_111) rfl (l' := #[.val (.ref qa), .val (.int qp), .val (.long qc), .second, .val (.int (qp + l0)), .val (.long ((0 : Int64) + u0)), .second, .val (.int ((qf (qp).toNatClampNeg) &&& (255 : Int32))), .val (.int l0)]) rfl ?_
    refine XS.goto X0.here hx rfl (pc0 := 113) (pc' := 26) rfl (hb hby d3_113) (by decide) (by decide) ?_
    refine XS.lload X0.here hx rfl (hb hby d3_26) rfl ?_
    refine XS.lloadN X0.here hx rfl (hb hby d3_28) rfl ?_
    refine XS.lcmp X0.here hx rfl (hb hby d3_29) rfl ?_
    show Steps p.tables e below (s₁.setTop (mkF m 30 #[.val (.ref qa), .val (.int qp), .val (.long qc), .second, .val (.int (qp + l0)), .val (.long ((0 : Int64) + u0)), .second, .val (.int ((qf (qp).toNatClampNeg) &&& (255 : Int32))), .val (.int l0)] [(.int (lcmpW ((0 : Int64) + u0) qc))])) t
    refine XS.ifNo X0.here hx rfl (hb hby d3_30) rfl ((if0 _ _).trans (tlt ((lw_lt ((0 : Int64) + u0) qc).mpr c20)).2.1) ?_
    refine XS.aloadN X0.here hx rfl (hb hby d3_33) rfl rfl ?_
    refine XS.iload X0.here hx rfl (hb hby d3_34) rfl ?_
    show Steps p.tables e below (s₁.setTop (mkF m 36 #[.val (.ref qa), .val (.int qp), .val (.long qc), .second, .val (.int (qp + l0)), .val (.long ((0 : Int64) + u0)), .second, .val (.int ((qf (qp).toNatClampNeg) &&& (255 : Int32))), .val (.int l0)] [(.int (qp + l0)), (.ref qa)])) t
    refine X0.baloadBytes hx (j := (qp + l0)) (v := (.int (qf ((qp + l0)).toNatClampNeg))) (by rw [e0]; exact Ar21.1) (State.isArrayOf_alike hZ.alike Ar21.2.1) Ar21.2.2 hin21 hat21 (g := (mkF m 36 #[.val (.ref qa), .val (.int qp), .val (.long qc), .second, .val (.int (qp + l0)), .val (.long ((0 : Int64) + u0)), .second, .val (.int ((qf (qp).toNatClampNeg) &&& (255 : Int32))), .val (.int l0)] [(.int (qp + l0)), (.ref qa)])) rfl rfl (hb hby d3_36) _ ?_
    refine XS.sipush X0.here hx rfl (hb hby d3_37) ?_
    refine XS.iand X0.here hx rfl (hb hby d3_40) rfl ?_
    show Steps p.tables e below (s₁.setTop (mkF m 41 #[.val (.ref qa), .val (.int qp), .val (.long qc), .second, .val (.int (qp + l0)), .val (.long ((0 : Int64) + u0)), .second, .val (.int ((qf (qp).toNatClampNeg) &&& (255 : Int32))), .val (.int l0)] [(.int ((qf ((qp + l0)).toNatClampNeg) &&& (255 : Int32)))])) t
    refine XS.istore X0.here hx rfl (hb hby d3_41) rfl (l' := #[.val (.ref qa), .val (.int qp), .val (.long qc), .second, .val (.int (qp + l0)), .val (.long ((0 : Int64) + u0)), .second, .val (.int ((qf ((qp + l0)).toNatClampNeg) &&& (255 : Int32))), .val (.int l0)]) rfl ?_
    refine XS.iload X0.here hx rfl (hb hby d3_43) rfl ?_
    refine XS.sipush X0.here hx rfl (hb hby d3_45) ?_
    show Steps p.tables e below (s₁.setTop (mkF m 48 #[.val (.ref qa), .val (.int qp), .val (.long qc), .second, .val (.int (qp + l0)), .val (.long ((0 : Int64) + u0)), .second, .val (.int ((qf ((qp + l0)).toNatClampNeg) &&& (255 : Int32))), .val (.int l0)] [(.int (128 : Int32)), (.int ((qf ((qp + l0)).toNatClampNeg) &&& (255 : Int32)))])) t
    exact k)
  obtain ⟨v32_l8, hv32_l8, P32⟩ : ∃ (v32_l8 : Int32), (v32_l8 = (if ((qf ((qp + l0)).toNatClampNeg) &&& (255 : Int32)) < (128 : Int32) then (1 : Int32) else (if ((qf ((qp + l0)).toNatClampNeg) &&& (255 : Int32)) < (224 : Int32) then (2 : Int32) else (if ((qf ((qp + l0)).toNatClampNeg) &&& (255 : Int32)) < (240 : Int32) then (3 : Int32) else (4 : Int32))))) ∧ (own_Go p e below S0 (s₁.setTop (mkF m 88 #[.val (.ref qa), .val (.int qp), .val (.long qc), .second, .val (.int (qp + l0)), .val (.long ((0 : Int64) + u0)), .second, .val (.int ((qf ((qp + l0)).toNatClampNeg) &&& (255 : Int32))), .val (.int v32_l8)] []))) := by
    by_cases c23 : ((qf ((qp + l0)).toNatClampNeg) &&& (255 : Int32)) < (128 : Int32)
    · skip
      have P24 : own_Go p e below S0 (s₁.setTop (mkF m 88 #[.val (.ref qa), .val (.int qp), .val (.long qc), .second, .val (.int (qp + l0)), .val (.long ((0 : Int64) + u0)), .second, .val (.int ((qf ((qp + l0)).toNatClampNeg) &&& (255 : Int32))), .val (.int (1 : Int32))] [])) := fun t k => P22 t (by
        show Steps p.tables e below (s₁.setTop (mkF m 48 #[.val (.ref qa), .val (.int qp), .val (.long qc), .second, .val (.int (qp + l0)), .val (.long ((0 : Int64) + u0)), .second, .val (.int ((qf ((qp + l0)).toNatClampNeg) &&& (255 : Int32))), .val (.int l0)] [(.int (128 : Int32)), (.int ((qf ((qp + l0)).toNatClampNeg) &&& (255 : Int32)))])) t
        refine XS.icmpNo X0.here hx rfl (hb hby d3_48) rfl (tlt c23).2.1 ?_
        refine XS.iconst X0.here hx rfl (hb hby d3_51) ?_
        refine XS.istore X0.here hx rfl (hb hby d3_52) rfl (l' := #[.val (.ref qa), .val (.int qp), .val (.long qc), .second, .val (.int (qp + l0)), .val (.long ((0 : Int64) + u0)), .second, .val (.int ((qf ((qp + l0)).toNatClampNeg) &&& (255 : Int32))), .val (.int (1 : Int32))]) rfl ?_
        refine XS.goto X0.here hx rfl (pc0 := 54) (pc' := 88) rfl (hb hby d3_54) (by decide) (by decide) ?_
        show Steps p.tables e below (s₁.setTop (mkF m 88 #[.val (.ref qa), .val (.int qp), .val (.long qc), .second, .val (.int (qp + l0)), .val (.long ((0 : Int64) + u0)), .second, .val (.int ((qf ((qp + l0)).toNatClampNeg) &&& (255 : Int32))), .val (.int (1 : Int32))] [])) t
        exact k)
      exact ⟨(1 : Int32), (Eq.symm (if_pos c23)), P24⟩
    · skip
      have P25 : own_Go p e below S0 (s₁.setTop (mkF m 62 #[.val (.ref qa), .val (.int qp), .val (.long qc), .second, .val (.int (qp + l0)), .val (.long ((0 : Int64) + u0)), .second, .val (.int ((qf ((qp + l0)).toNatClampNeg) &&& (255 : Int32))), .val (.int l0)] [(.int (224 : Int32)), (.int ((qf ((qp + l0)).toNatClampNeg) &&& (255 : Int32)))])) := fun t k => P22 t (by
        show Steps p.tables e below (s₁.setTop (mkF m 48 #[.val (.ref qa), .val (.int qp), .val (.long qc), .second, .val (.int (qp + l0)), .val (.long ((0 : Int64) + u0)), .second, .val (.int ((qf ((qp + l0)).toNatClampNeg) &&& (255 : Int32))), .val (.int l0)] [(.int (128 : Int32)), (.int ((qf ((qp + l0)).toNatClampNeg) &&& (255 : Int32)))])) t
        refine XS.icmpYes X0.here hx rfl (pc0 := 48) (pc' := 57) rfl (hb hby d3_48) rfl (flt c23).2.1 (by decide) (by decide) ?_
        refine XS.iload X0.here hx rfl (hb hby d3_57) rfl ?_
        refine XS.sipush X0.here hx rfl (hb hby d3_59) ?_
        show Steps p.tables e below (s₁.setTop (mkF m 62 #[.val (.ref qa), .val (.int qp), .val (.long qc), .second, .val (.int (qp + l0)), .val (.long ((0 : Int64) + u0)), .second, .val (.int ((qf ((qp + l0)).toNatClampNeg) &&& (255 : Int32))), .val (.int l0)] [(.int (224 : Int32)), (.int ((qf ((qp + l0)).toNatClampNeg) &&& (255 : Int32)))])) t
        exact k)
      by_cases c26 : ((qf ((qp + l0)).toNatClampNeg) &&& (255 : Int32)) < (224 : Int32)
      · skip
        have P27 : own_Go p e below S0 (s₁.setTop (mkF m 88 #[.val (.ref qa), .val (.int qp), .val (.long qc), .second, .val (.int (qp + l0)), .val (.long ((0 : Int64) + u0)), .second, .val (.int ((qf ((qp + l0)).toNatClampNeg) &&& (255 : Int32))), .val (.int (2 : Int32))] [])) := fun t k => P25 t (by
          show Steps p.tables e below (s₁.setTop (mkF m 62 #[.val (.ref qa), .val (.int qp), .val (.long qc), .second, .val (.int (qp + l0)), .val (.long ((0 : Int64) + u0)), .second, .val (.int ((qf ((qp + l0)).toNatClampNeg) &&& (255 : Int32))), .val (.int l0)] [(.int (224 : Int32)), (.int ((qf ((qp + l0)).toNatClampNeg) &&& (255 : Int32)))])) t
          refine XS.icmpNo X0.here hx rfl (hb hby d3_62) rfl (tlt c26).2.1 ?_
          refine XS.iconst X0.here hx rfl (hb hby d3_65) ?_
          refine XS.istore X0.here hx rfl (hb hby d3_66) rfl (l' := #[.val (.ref qa), .val (.int qp), .val (.long qc), .second, .val (.int (qp + l0)), .val (.long ((0 : Int64) + u0)), .second, .val (.int ((qf ((qp + l0)).toNatClampNeg) &&& (255 : Int32))), .val (.int (2 : Int32))]) rfl ?_
          refine XS.goto X0.here hx rfl (pc0 := 68) (pc' := 88) rfl (hb hby d3_68) (by decide) (by decide) ?_
          show Steps p.tables e below (s₁.setTop (mkF m 88 #[.val (.ref qa), .val (.int qp), .val (.long qc), .second, .val (.int (qp + l0)), .val (.long ((0 : Int64) + u0)), .second, .val (.int ((qf ((qp + l0)).toNatClampNeg) &&& (255 : Int32))), .val (.int (2 : Int32))] [])) t
          exact k)
        exact ⟨(2 : Int32), (Eq.symm (Eq.trans (if_neg c23) (if_pos c26))), P27⟩
      · skip
        have P28 : own_Go p e below S0 (s₁.setTop (mkF m 76 #[.val (.ref qa), .val (.int qp), .val (.long qc), .second, .val (.int (qp + l0)), .val (.long ((0 : Int64) + u0)), .second, .val (.int ((qf ((qp + l0)).toNatClampNeg) &&& (255 : Int32))), .val (.int l0)] [(.int (240 : Int32)), (.int ((qf ((qp + l0)).toNatClampNeg) &&& (255 : Int32)))])) := fun t k => P25 t (by
          show Steps p.tables e below (s₁.setTop (mkF m 62 #[.val (.ref qa), .val (.int qp), .val (.long qc), .second, .val (.int (qp + l0)), .val (.long ((0 : Int64) + u0)), .second, .val (.int ((qf ((qp + l0)).toNatClampNeg) &&& (255 : Int32))), .val (.int l0)] [(.int (224 : Int32)), (.int ((qf ((qp + l0)).toNatClampNeg) &&& (255 : Int32)))])) t
          refine XS.icmpYes X0.here hx rfl (pc0 := 62) (pc' := 71) rfl (hb hby d3_62) rfl (flt c26).2.1 (by decide) (by decide) ?_
          refine XS.iload X0.here hx rfl (hb hby d3_71) rfl ?_
          refine XS.sipush X0.here hx rfl (hb hby d3_73) ?_
          show Steps p.tables e below (s₁.setTop (mkF m 76 #[.val (.ref qa), .val (.int qp), .val (.long qc), .second, .val (.int (qp + l0)), .val (.long ((0 : Int64) + u0)), .second, .val (.int ((qf ((qp + l0)).toNatClampNeg) &&& (255 : Int32))), .val (.int l0)] [(.int (240 : Int32)), (.int ((qf ((qp + l0)).toNatClampNeg) &&& (255 : Int32)))])) t
          exact k)
        by_cases c29 : ((qf ((qp + l0)).toNatClampNeg) &&& (255 : Int32)) < (240 : Int32)
        · skip
          have P30 : own_Go p e below S0 (s₁.setTop (mkF m 88 #[.val (.ref qa), .val (.int qp), .val (.long qc), .second, .val (.int (qp + l0)), .val (.long ((0 : Int64) + u0)), .second, .val (.int ((qf ((qp + l0)).toNatClampNeg) &&& (255 : Int32))), .val (.int (3 : Int32))] [])) := fun t k => P28 t (by
            show Steps p.tables e below (s₁.setTop (mkF m 76 #[.val (.ref qa), .val (.int qp), .val (.long qc), .second, .val (.int (qp + l0)), .val (.long ((0 : Int64) + u0)), .second, .val (.int ((qf ((qp + l0)).toNatClampNeg) &&& (255 : Int32))), .val (.int l0)] [(.int (240 : Int32)), (.int ((qf ((qp + l0)).toNatClampNeg) &&& (255 : Int32)))])) t
            refine XS.icmpNo X0.here hx rfl (hb hby d3_76) rfl (tlt c29).2.1 ?_
            refine XS.iconst X0.here hx rfl (hb hby d3_79) ?_
            refine XS.istore X0.here hx rfl (hb hby d3_80) rfl (l' := #[.val (.ref qa), .val (.int qp), .val (.long qc), .second, .val (.int (qp + l0)), .val (.long ((0 : Int64) + u0)), .second, .val (.int ((qf ((qp + l0)).toNatClampNeg) &&& (255 : Int32))), .val (.int (3 : Int32))]) rfl ?_
            refine XS.goto X0.here hx rfl (pc0 := 82) (pc' := 88) rfl (hb hby d3_82) (by decide) (by decide) ?_
            show Steps p.tables e below (s₁.setTop (mkF m 88 #[.val (.ref qa), .val (.int qp), .val (.long qc), .second, .val (.int (qp + l0)), .val (.long ((0 : Int64) + u0)), .second, .val (.int ((qf ((qp + l0)).toNatClampNeg) &&& (255 : Int32))), .val (.int (3 : Int32))] [])) t
            exact k)
          exact ⟨(3 : Int32), (Eq.symm (Eq.trans (if_neg c23) (Eq.trans (if_neg c26) (if_pos c29)))), P30⟩
        · skip
          have P31 : own_Go p e below S0 (s₁.setTop (mkF m 88 #[.val (.ref qa), .val (.int qp), .val (.long qc), .second, .val (.int (qp + l0)), .val (.long ((0 : Int64) + u0)), .second, .val (.int ((qf ((qp + l0)).toNatClampNeg) &&& (255 : Int32))), .val (.int (4 : Int32))] [])) := fun t k => P28 t (by
            show Steps p.tables e below (s₁.setTop (mkF m 76 #[.val (.ref qa), .val (.int qp), .val (.long qc), .second, .val (.int (qp + l0)), .val (.long ((0 : Int64) + u0)), .second, .val (.int ((qf ((qp + l0)).toNatClampNeg) &&& (255 : Int32))), .val (.int l0)] [(.int (240 : Int32)), (.int ((qf ((qp + l0)).toNatClampNeg) &&& (255 : Int32)))])) t
            refine XS.icmpYes X0.here hx rfl (pc0 := 76) (pc' := 85) rfl (hb hby d3_76) rfl (flt c29).2.1 (by decide) (by decide) ?_
            refine XS.iconst X0.here hx rfl (hb hby d3_85) ?_
            refine XS.istore X0.here hx rfl (hb hby d3_86) rfl (l' := #[.val (.ref qa), .val (.int qp), .val (.long qc), .second, .val (.int (qp + l0)), .val (.long ((0 : Int64) + u0)), .second, .val (.int ((qf ((qp + l0)).toNatClampNeg) &&& (255 : Int32))), .val (.int (4 : Int32))]) rfl ?_
            show Steps p.tables e below (s₁.setTop (mkF m 88 #[.val (.ref qa), .val (.int qp), .val (.long qc), .second, .val (.int (qp + l0)), .val (.long ((0 : Int64) + u0)), .second, .val (.int ((qf ((qp + l0)).toNatClampNeg) &&& (255 : Int32))), .val (.int (4 : Int32))] [])) t
            exact k)
          exact ⟨(4 : Int32), (Eq.symm (Eq.trans (if_neg c23) (Eq.trans (if_neg c26) (if_neg c29)))), P31⟩
  obtain rfl : l1 = v32_l8 := by rw [hv32_l8]; exact own_len hcl1
  have P33 : own_Go p e below S0 (s₁.setTop (mkF m 100 #[.val (.ref qa), .val (.int qp), .val (.long qc), .second, .val (.int ((qp + l0) + l1)), .val (.long ((0 : Int64) + u0)), .second, .val (.int ((qf ((qp + l0)).toNatClampNeg) &&& (255 : Int32))), .val (.int l1)] [(.int (4 : Int32)), (.int l1), (.long ((0 : Int64) + u0))])) := fun t k => P32 t (by
    show Steps p.tables e below (s₁.setTop (mkF m 88 #[.val (.ref qa), .val (.int qp), .val (.long qc), .second, .val (.int (qp + l0)), .val (.long ((0 : Int64) + u0)), .second, .val (.int ((qf ((qp + l0)).toNatClampNeg) &&& (255 : Int32))), .val (.int l1)] [])) t
    refine XS.iload X0.here hx rfl (hb hby d3_88) rfl ?_
    refine XS.iload X0.here hx rfl (hb hby d3_90) rfl ?_
    refine XS.iadd X0.here hx rfl (hb hby d3_92) rfl ?_
    refine XS.istore X0.here hx rfl (hb hby d3_93) rfl (l' := #[.val (.ref qa), .val (.int qp), .val (.long qc), .second, .val (.int ((qp + l0) + l1)), .val (.long ((0 : Int64) + u0)), .second, .val (.int ((qf ((qp + l0)).toNatClampNeg) &&& (255 : Int32))), .val (.int l1)]) rfl ?_
    refine XS.lload X0.here hx rfl (hb hby d3_95) rfl ?_
    refine XS.iload X0.here hx rfl (hb hby d3_97) rfl ?_
    show Steps p.tables e below (s₁.setTop (mkF m 99 #[.val (.ref qa), .val (.int qp), .val (.long qc), .second, .val (.int ((qp + l0) + l1)), .val (.long ((0 : Int64) + u0)), .second, .val (.int ((qf ((qp + l0)).toNatClampNeg) &&& (255 : Int32))), .val (.int l1)] [(.int l1), (.long ((0 : Int64) + u0))])) t
    refine XS.iconst X0.here hx rfl (hb hby d3_99) ?_
    show Steps p.tables e below (s₁.setTop (mkF m 100 #[.val (.ref qa), .val (.int qp), .val (.long qc), .second, .val (.int ((qp + l0) + l1)), .val (.long ((0 : Int64) + u0)), .second, .val (.int ((qf ((qp + l0)).toNatClampNeg) &&& (255 : Int32))), .val (.int l1)] [(.int (4 : Int32)), (.int l1), (.long ((0 : Int64) + u0))])) t
    exact k)
  obtain ⟨v37_s0, hv37_s0, P37⟩ : ∃ (v37_s0 : Int64), (v37_s0 = (if l1 = (4 : Int32) then (2 : Int64) else (1 : Int64))) ∧ (own_Go p e below S0 (s₁.setTop (mkF m 110 #[.val (.ref qa), .val (.int qp), .val (.long qc), .second, .val (.int ((qp + l0) + l1)), .val (.long ((0 : Int64) + u0)), .second, .val (.int ((qf ((qp + l0)).toNatClampNeg) &&& (255 : Int32))), .val (.int l1)] [(.long v37_s0), (.long ((0 : Int64) + u0))]))) := by
    by_cases c34 : l1 = (4 : Int32)
    · skip
      have P35 : own_Go p e below S0 (s₁.setTop (mkF m 110 #[.val (.ref qa), .val (.int qp), .val (.long qc), .second, .val (.int ((qp + l0) + l1)), .val (.long ((0 : Int64) + u0)), .second, .val (.int ((qf ((qp + l0)).toNatClampNeg) &&& (255 : Int32))), .val (.int l1)] [(.long (2 : Int64)), (.long ((0 : Int64) + u0))])) := fun t k => P33 t (by
        show Steps p.tables e below (s₁.setTop (mkF m 100 #[.val (.ref qa), .val (.int qp), .val (.long qc), .second, .val (.int ((qp + l0) + l1)), .val (.long ((0 : Int64) + u0)), .second, .val (.int ((qf ((qp + l0)).toNatClampNeg) &&& (255 : Int32))), .val (.int l1)] [(.int (4 : Int32)), (.int l1), (.long ((0 : Int64) + u0))])) t
        refine XS.icmpNo X0.here hx rfl (hb hby d3_100) rfl (teq c34).2 ?_
        show Steps p.tables e below (s₁.setTop (mkF m 103 #[.val (.ref qa), .val (.int qp), .val (.long qc), .second, .val (.int ((qp + l0) + l1)), .val (.long ((0 : Int64) + u0)), .second, .val (.int ((qf ((qp + l0)).toNatClampNeg) &&& (255 : Int32))), .val (.int l1)] [(.long ((0 : Int64) + u0))])) t
        refine X0.ldc2Long hx hown (mvT hZ (hw _ (List.mem_of_getElem? (i := 13) rfl))) (g := (mkF m 103 #[.val (.ref qa), .val (.int qp), .val (.long qc), .second, .val (.int ((qp + l0) + l1)), .val (.long ((0 : Int64) + u0)), .second, .val (.int ((qf ((qp + l0)).toNatClampNeg) &&& (255 : Int32))), .val (.int l1)] [(.long ((0 : Int64) + u0))])) rfl (hb hby d3_103) _ ?_
        refine XS.goto X0.here hx rfl (pc0 := 106) (pc' := 110) rfl (hb hby d3_106) (by decide) (by decide) ?_
        show Steps p.tables e below (s₁.setTop (mkF m 110 #[.val (.ref qa), .val (.int qp), .val (.long qc), .second, .val (.int ((qp + l0) + l1)), .val (.long ((0 : Int64) + u0)), .second, .val (.int ((qf ((qp + l0)).toNatClampNeg) &&& (255 : Int32))), .val (.int l1)] [(.long (2 : Int64)), (.long ((0 : Int64) + u0))])) t
        exact k)
      exact ⟨(2 : Int64), (Eq.symm (if_pos c34)), P35⟩
    · skip
      have P36 : own_Go p e below S0 (s₁.setTop (mkF m 110 #[.val (.ref qa), .val (.int qp), .val (.long qc), .second, .val (.int ((qp + l0) + l1)), .val (.long ((0 : Int64) + u0)), .second, .val (.int ((qf ((qp + l0)).toNatClampNeg) &&& (255 : Int32))), .val (.int l1)] [(.long (1 : Int64)), (.long ((0 : Int64) + u0))])) := fun t k => P33 t (by
        show Steps p.tables e below (s₁.setTop (mkF m 100 #[.val (.ref qa), .val (.int qp), .val (.long qc), .second, .val (.int ((qp + l0) + l1)), .val (.long ((0 : Int64) + u0)), .second, .val (.int ((qf ((qp + l0)).toNatClampNeg) &&& (255 : Int32))), .val (.int l1)] [(.int (4 : Int32)), (.int l1), (.long ((0 : Int64) + u0))])) t
        refine XS.icmpYes X0.here hx rfl (pc0 := 100) (pc' := 109) rfl (hb hby d3_100) rfl (feq c34).2 (by decide) (by decide) ?_
        refine XS.lconst X0.here hx rfl (hb hby d3_109) ?_
        show Steps p.tables e below (s₁.setTop (mkF m 110 #[.val (.ref qa), .val (.int qp), .val (.long qc), .second, .val (.int ((qp + l0) + l1)), .val (.long ((0 : Int64) + u0)), .second, .val (.int ((qf ((qp + l0)).toNatClampNeg) &&& (255 : Int32))), .val (.int l1)] [(.long (1 : Int64)), (.long ((0 : Int64) + u0))])) t
        exact k)
      exact ⟨(1 : Int64), (Eq.symm (if_neg c34)), P36⟩
  obtain rfl : u1 = v37_s0 := hu1.trans (Eq.symm hv37_s0)
  have c38 : ¬ ((((0 : Int64) + u0) + u1) < qc) := hfin
  have P39 : own_Go p e below S0 (s₁.setTop (mkF m 118 #[.val (.ref qa), .val (.int qp), .val (.long qc), .second, .val (.int ((qp + l0) + l1)), .val (.long (((0 : Int64) + u0) + u1)), .second, .val (.int ((qf ((qp + l0)).toNatClampNeg) &&& (255 : Int32))), .val (.int l1)] [(.int ((qp + l0) + l1))])) := fun t k => P37 t (by
    show Steps p.tables e below (s₁.setTop (mkF m 110 #[.val (.ref qa), .val (.int qp), .val (.long qc), .second, .val (.int ((qp + l0) + l1)), .val (.long ((0 : Int64) + u0)), .second, .val (.int ((qf ((qp + l0)).toNatClampNeg) &&& (255 : Int32))), .val (.int l1)] [(.long u1), (.long ((0 : Int64) + u0))])) t
    refine XS.ladd X0.here hx rfl (hb hby d3_110) rfl ?_
    refine XS.lstore X0.here hx rfl (hb hby d3_111) rfl (l' := #[.val (.ref qa), .val (.int qp), .val (.long qc), .second, .val (.int ((qp + l0) + l1)), .val (.long (((0 : Int64) + u0) + u1)), .second, .val (.int ((qf ((qp + l0)).toNatClampNeg) &&& (255 : Int32))), .val (.int l1)]) rfl ?_
    refine XS.goto X0.here hx rfl (pc0 := 113) (pc' := 26) rfl (hb hby d3_113) (by decide) (by decide) ?_
    refine XS.lload X0.here hx rfl (hb hby d3_26) rfl ?_
    refine XS.lloadN X0.here hx rfl (hb hby d3_28) rfl ?_
    refine XS.lcmp X0.here hx rfl (hb hby d3_29) rfl ?_
    show Steps p.tables e below (s₁.setTop (mkF m 30 #[.val (.ref qa), .val (.int qp), .val (.long qc), .second, .val (.int ((qp + l0) + l1)), .val (.long (((0 : Int64) + u0) + u1)), .second, .val (.int ((qf ((qp + l0)).toNatClampNeg) &&& (255 : Int32))), .val (.int l1)] [(.int (lcmpW (((0 : Int64) + u0) + u1) qc))])) t
    refine XS.ifYes X0.here hx rfl (pc0 := 30) (pc' := 116) rfl (hb hby d3_30) rfl ((if0 _ _).trans (flt (fun q => c38 ((lw_lt (((0 : Int64) + u0) + u1) qc).mp q))).2.1) (by decide) (by decide) ?_
    refine XS.iload X0.here hx rfl (hb hby d3_116) rfl ?_
    show Steps p.tables e below (s₁.setTop (mkF m 118 #[.val (.ref qa), .val (.int qp), .val (.long qc), .second, .val (.int ((qp + l0) + l1)), .val (.long (((0 : Int64) + u0) + u1)), .second, .val (.int ((qf ((qp + l0)).toNatClampNeg) &&& (255 : Int32))), .val (.int l1)] [(.int ((qp + l0) + l1))])) t
    exact k)
  obtain ⟨fs, hr, hrun, hended, hW, hsame⟩ := X0.leave (v := some (.int ((qp + l0) + l1))) (fun h => by rw [Bd.returns] at h; cases h)
  refine ⟨_, _, own_from hS0 (P39 _ ?_), hrun, hended, _, _, rfl, ?_, ⟨_, rfl⟩, hW, hsame.mono (by decide) (by decide)⟩
  · show Steps p.tables e below (s₁.setTop (mkF m 118 #[.val (.ref qa), .val (.int qp), .val (.long qc), .second, .val (.int ((qp + l0) + l1)), .val (.long (((0 : Int64) + u0) + u1)), .second, .val (.int ((qf ((qp + l0)).toNatClampNeg) &&& (255 : Int32))), .val (.int l1)] [(.int ((qp + l0) + l1))])) _
    exact retI X0 hx Bd.returns (hb hby d3_118) hr
  · show Q3n2 Z qa qp qc qk qf l0 u0 l1 u1 h0 n0 _ s₁.heap _
    rw [e0]
    exact ⟨rfl, N0, rfl⟩
theorem ef_3n3 (m : MethodId) (qa : Addr) (qp : Int32) (qc : Int64) : entryFrame m #[(.ref qa), (.int qp), (.long qc)] 9 = mkF m 0 #[.val (.ref qa), .val (.int qp), .val (.long qc), .second, .unset, .unset, .unset, .unset, .unset] [] := by first | (simp [entryFrame, mkF, argsToLocals, Value.category]; done) | rfl
def Q3n3 (Z : State) (qa : Addr) (qp : Int32) (qc : Int64) (qk : ClassId) (qf : Nat → Int32) (l0 : Int32) (u0 : Int64) (l1 : Int32) (u1 : Int64) (l2 : Int32) (u2 : Int64) (h0 : Heap) (n0 : Nat) (v : Option Value) (h : Heap) (L : List Loc) : Prop := v = some (.int (((qp + l0) + l1) + l2)) ∧ Fr n0 L ∧ h = h0
set_option maxRecDepth 65536 in
set_option maxHeartbeats 40000000 in
theorem rm3n3 (l : Launch) (Z : State) (a0 : Array Value) (hw : ∀ d ∈ tables_1, d.before a0 Z = true) (ws : List Jvm.Cond) (qa : Addr) (qp : Int32) (qc : Int64) (qk : ClassId) (qf : Nat → Int32) (l0 : Int32) (u0 : Int64) (l1 : Int32) (u1 : Int64) (l2 : Int32) (u2 : Int64) (h0 : Heap) (n0 : Nat) (Z0 : n0 ≤ h0.size) (B_qa : own_Byt Z h0 qa qk qf) (hge : ¬ (qc < (0 : Int64))) (hlt0 : (0 : Int64) < qc) (hin0 : ¬ (qp < 0) ∧ qp < (16 : Int32)) (hcl0 : own_Cls (qf (qp).toNatClampNeg) l0) (hu0 : u0 = (if l0 = (4 : Int32) then (2 : Int64) else (1 : Int64))) (hlt1 : ((0 : Int64) + u0) < qc) (hin1 : ¬ ((qp + l0) < 0) ∧ (qp + l0) < (16 : Int32)) (hcl1 : own_Cls (qf ((qp + l0)).toNatClampNeg) l1) (hu1 : u1 = (if l1 = (4 : Int32) then (2 : Int64) else (1 : Int64))) (hlt2 : (((0 : Int64) + u0) + u1) < qc) (hin2 : ¬ (((qp + l0) + l1) < 0) ∧ ((qp + l0) + l1) < (16 : Int32)) (hcl2 : own_Cls (qf (((qp + l0) + l1)).toNatClampNeg) l2) (hu2 : u2 = (if l2 = (4 : Int32) then (2 : Int64) else (1 : Int64))) (hfin : ¬ (((((0 : Int64) + u0) + u1) + u2) < qc)) :
    MetFree l (⟨"com/example/strict_acl/strictacl/Utf8Text", "byteAfter", "([BIJ)I"⟩ : MethodName) (head1 (Jvm.Cond.code (⟨"com/example/strict_acl/strictacl/Utf8Text", "byteAfter", "([BIJ)I"⟩ : MethodName) prog_39_method_4_code 9 (some .int) :: ws) ({ frames := 0, cells := 0, slots := 0, locals := 0 } : Room)) (fun a U => a = #[(.ref qa), (.int qp), (.long qc)] ∧ Z.Warmed39 U.vm ∧ U.heap = h0) (fun _ _ _ _ _ => True) (fun _ U o U' => ∃ v L, o = .returned v ∧ Q3n3 Z qa qp qc qk qf l0 u0 l1 u1 l2 u2 h0 n0 v U'.heap L ∧ FrameEnd U o U' L ({ frames := 0, cells := 0, slots := 0, locals := 0 } : Room).cells ({ frames := 0, cells := 0, slots := 0, locals := 0 } : Room).slots) := by
  refine MetFree.of_bodySF (plainFor_of_name pn_3) hisR ?_
  intro p e s m args below meth c s₁ Bd hml0 hP hK
  obtain ⟨rfl, hZ, hh⟩ := hP
  have hx := Bd.exec
  have hby := Bd.bytes
  have hml : c.maxLocals = 9 := hml0
  have hown : s.vm.findClass "com/example/strict_acl/strictacl/Utf8Text" = some m.cls := findClass_of_methodNamed Bd.named
  have hnm := (name_of_methodNamed Bd.named Bd.method).1
  have X0 : Stand p l e ({ frames := 0, cells := 0, slots := 0, locals := 0 } : Room) s m #[(.ref qa), (.int qp), (.long qc)] below meth c s₁ [] 0 0 := Stand.of_body Bd
  have e0 : s₁.heap = h0 := by rw [← hh, Bd.state]; rfl
  have N0 := Fr.nil n0
  obtain ⟨S0, hS0⟩ : ∃ z, z = s₁.setTop (entryFrame m #[(.ref qa), (.int qp), (.long qc)] 9) := ⟨_, rfl⟩
  have P0 : own_Go p e below S0 (s₁.setTop (mkF m 0 #[.val (.ref qa), .val (.int qp), .val (.long qc), .second, .unset, .unset, .unset, .unset, .unset] [])) := fun t k => by rw [hS0]; exact castTop (ef_3n3 m qa qp qc) k
  have c1 : ¬ (qc < (0 : Int64)) := hge
  have c2 : (0 : Int64) < qc := hlt0
  have hb3 : ¬ (qp < 0) ∧ qp < (16 : Int32) := hin0
  obtain ⟨cl3, Ar3, q3, Sz3, Hh3⟩ := id B_qa
  have hin3 : ¬ (qp < 0 ∨ cl3.slots.size ≤ (qp).toNatClampNeg) := own_bin Sz3 hb3
  have hat3 : cl3.slots[(qp).toNatClampNeg]? = some (.int (qf (qp).toNatClampNeg)) := Hh3 _ (own_blt hb3)
  have P4 : own_Go p e below S0 (s₁.setTop (mkF m 48 #[.val (.ref qa), .val (.int qp), .val (.long qc), .second, .val (.int qp), .val (.long (0 : Int64)), .second, .val (.int ((qf (qp).toNatClampNeg) &&& (255 : Int32))), .unset] [(.int (128 : Int32)), (.int ((qf (qp).toNatClampNeg) &&& (255 : Int32)))])) := fun t k => P0 t (by
    show Steps p.tables e below (s₁.setTop (mkF m 0 #[.val (.ref qa), .val (.int qp), .val (.long qc), .second, .unset, .unset, .unset, .unset, .unset] [])) t
    refine XS.lloadN X0.here hx rfl (hb hby d3_0) rfl ?_
    refine XS.lconst X0.here hx rfl (hb hby d3_1) ?_
    refine XS.lcmp X0.here hx rfl (hb hby d3_2) rfl ?_
    refine XS.ifYes X0.here hx rfl (pc0 := 3) (pc' := 20) rfl (hb hby d3_3) rfl ((if0 _ _).trans (flt (fun q => c1 ((lw_lt qc (0 : Int64)).mp q))).2.1) (by decide) (by decide) ?_
    refine XS.iloadN X0.here hx rfl (hb hby d3_20) rfl ?_
    refine XS.istore X0.here hx rfl (hb hby d3_21) rfl (l' := #[.val (.ref qa), .val (.int qp), .val (.long qc), .second, .val (.int qp), .unset, .unset, .unset, .unset]) rfl ?_
    show Steps p.tables e below (s₁.setTop (mkF m 23 #[.val (.ref qa), .val (.int qp), .val (.long qc), .second, .val (.int qp), .unset, .unset, .unset, .unset] [])) t
    refine XS.lconst X0.here hx rfl (hb hby d3_23) ?_
    refine XS.lstore X0.here hx rfl (hb hby d3_24) rfl (l' := #[.val (.ref qa), .val (.int qp), .val (.long qc), .second, .val (.int qp), .val (.long (0 : Int64)), .second, .unset, .unset]) rfl ?_
    refine XS.lload X0.here hx rfl (hb hby d3_26) rfl ?_
    refine XS.lloadN X0.here hx rfl (hb hby d3_28) rfl ?_
    refine XS.lcmp X0.here hx rfl (hb hby d3_29) rfl ?_
    refine XS.ifNo X0.here hx rfl (hb hby d3_30) rfl ((if0 _ _).trans (tlt ((lw_lt (0 : Int64) qc).mpr c2)).2.1) ?_
    show Steps p.tables e below (s₁.setTop (mkF m 33 #[.val (.ref qa), .val (.int qp), .val (.long qc), .second, .val (.int qp), .val (.long (0 : Int64)), .second, .unset, .unset] [])) t
    refine XS.aloadN X0.here hx rfl (hb hby d3_33) rfl rfl ?_
    refine XS.iload X0.here hx rfl (hb hby d3_34) rfl ?_
    show Steps p.tables e below (s₁.setTop (mkF m 36 #[.val (.ref qa), .val (.int qp), .val (.long qc), .second, .val (.int qp), .val (.long (0 : Int64)), .second, .unset, .unset] [(.int qp), (.ref qa)])) t
    refine X0.baloadBytes hx (j := qp) (v := (.int (qf (qp).toNatClampNeg))) (by rw [e0]; exact Ar3.1) (State.isArrayOf_alike hZ.alike Ar3.2.1) Ar3.2.2 hin3 hat3 (g := (mkF m 36 #[.val (.ref qa), .val (.int qp), .val (.long qc), .second, .val (.int qp), .val (.long (0 : Int64)), .second, .unset, .unset] [(.int qp), (.ref qa)])) rfl rfl (hb hby d3_36) _ ?_
    refine XS.sipush X0.here hx rfl (hb hby d3_37) ?_
    refine XS.iand X0.here hx rfl (hb hby d3_40) rfl ?_
    refine XS.istore X0.here hx rfl (hb hby d3_41) rfl (l' := #[.val (.ref qa), .val (.int qp), .val (.long qc), .second, .val (.int qp), .val (.long (0 : Int64)), .second, .val (.int ((qf (qp).toNatClampNeg) &&& (255 : Int32))), .unset]) rfl ?_
    show Steps p.tables e below (s₁.setTop (mkF m 43 #[.val (.ref qa), .val (.int qp), .val (.long qc), .second, .val (.int qp), .val (.long (0 : Int64)), .second, .val (.int ((qf (qp).toNatClampNeg) &&& (255 : Int32))), .unset] [])) t
    refine XS.iload X0.here hx rfl (hb hby d3_43) rfl ?_
    refine XS.sipush X0.here hx rfl (hb hby d3_45) ?_
    show Steps p.tables e below (s₁.setTop (mkF m 48 #[.val (.ref qa), .val (.int qp), .val (.long qc), .second, .val (.int qp), .val (.long (0 : Int64)), .second, .val (.int ((qf (qp).toNatClampNeg) &&& (255 : Int32))), .unset] [(.int (128 : Int32)), (.int ((qf (qp).toNatClampNeg) &&& (255 : Int32)))])) t
    exact k)
  obtain ⟨v14_l8, hv14_l8, P14⟩ : ∃ (v14_l8 : Int32), (v14_l8 = (if ((qf (qp).toNatClampNeg) &&& (255 : Int32)) < (128 : Int32) then (1 : Int32) else (if ((qf (qp).toNatClampNeg) &&& (255 : Int32)) < (224 : Int32) then (2 : Int32) else (if ((qf (qp).toNatClampNeg) &&& (255 : Int32)) < (240 : Int32) then (3 : Int32) else (4 : Int32))))) ∧ (own_Go p e below S0 (s₁.setTop (mkF m 88 #[.val (.ref qa), .val (.int qp), .val (.long qc), .second, .val (.int qp), .val (.long (0 : Int64)), .second, .val (.int ((qf (qp).toNatClampNeg) &&& (255 : Int32))), .val (.int v14_l8)] []))) := by
    by_cases c5 : ((qf (qp).toNatClampNeg) &&& (255 : Int32)) < (128 : Int32)
    · skip
      have P6 : own_Go p e below S0 (s₁.setTop (mkF m 88 #[.val (.ref qa), .val (.int qp), .val (.long qc), .second, .val (.int qp), .val (.long (0 : Int64)), .second, .val (.int ((qf (qp).toNatClampNeg) &&& (255 : Int32))), .val (.int (1 : Int32))] [])) := fun t k => P4 t (by
        show Steps p.tables e below (s₁.setTop (mkF m 48 #[.val (.ref qa), .val (.int qp), .val (.long qc), .second, .val (.int qp), .val (.long (0 : Int64)), .second, .val (.int ((qf (qp).toNatClampNeg) &&& (255 : Int32))), .unset] [(.int (128 : Int32)), (.int ((qf (qp).toNatClampNeg) &&& (255 : Int32)))])) t
        refine XS.icmpNo X0.here hx rfl (hb hby d3_48) rfl (tlt c5).2.1 ?_
        refine XS.iconst X0.here hx rfl (hb hby d3_51) ?_
        refine XS.istore X0.here hx rfl (hb hby d3_52) rfl (l' := #[.val (.ref qa), .val (.int qp), .val (.long qc), .second, .val (.int qp), .val (.long (0 : Int64)), .second, .val (.int ((qf (qp).toNatClampNeg) &&& (255 : Int32))), .val (.int (1 : Int32))]) rfl ?_
        refine XS.goto X0.here hx rfl (pc0 := 54) (pc' := 88) rfl (hb hby d3_54) (by decide) (by decide) ?_
        show Steps p.tables e below (s₁.setTop (mkF m 88 #[.val (.ref qa), .val (.int qp), .val (.long qc), .second, .val (.int qp), .val (.long (0 : Int64)), .second, .val (.int ((qf (qp).toNatClampNeg) &&& (255 : Int32))), .val (.int (1 : Int32))] [])) t
        exact k)
      exact ⟨(1 : Int32), (Eq.symm (if_pos c5)), P6⟩
    · skip
      have P7 : own_Go p e below S0 (s₁.setTop (mkF m 62 #[.val (.ref qa), .val (.int qp), .val (.long qc), .second, .val (.int qp), .val (.long (0 : Int64)), .second, .val (.int ((qf (qp).toNatClampNeg) &&& (255 : Int32))), .unset] [(.int (224 : Int32)), (.int ((qf (qp).toNatClampNeg) &&& (255 : Int32)))])) := fun t k => P4 t (by
        show Steps p.tables e below (s₁.setTop (mkF m 48 #[.val (.ref qa), .val (.int qp), .val (.long qc), .second, .val (.int qp), .val (.long (0 : Int64)), .second, .val (.int ((qf (qp).toNatClampNeg) &&& (255 : Int32))), .unset] [(.int (128 : Int32)), (.int ((qf (qp).toNatClampNeg) &&& (255 : Int32)))])) t
        refine XS.icmpYes X0.here hx rfl (pc0 := 48) (pc' := 57) rfl (hb hby d3_48) rfl (flt c5).2.1 (by decide) (by decide) ?_
        refine XS.iload X0.here hx rfl (hb hby d3_57) rfl ?_
        refine XS.sipush X0.here hx rfl (hb hby d3_59) ?_
        show Steps p.tables e below (s₁.setTop (mkF m 62 #[.val (.ref qa), .val (.int qp), .val (.long qc), .second, .val (.int qp), .val (.long (0 : Int64)), .second, .val (.int ((qf (qp).toNatClampNeg) &&& (255 : Int32))), .unset] [(.int (224 : Int32)), (.int ((qf (qp).toNatClampNeg) &&& (255 : Int32)))])) t
        exact k)
      by_cases c8 : ((qf (qp).toNatClampNeg) &&& (255 : Int32)) < (224 : Int32)
      · skip
        have P9 : own_Go p e below S0 (s₁.setTop (mkF m 88 #[.val (.ref qa), .val (.int qp), .val (.long qc), .second, .val (.int qp), .val (.long (0 : Int64)), .second, .val (.int ((qf (qp).toNatClampNeg) &&& (255 : Int32))), .val (.int (2 : Int32))] [])) := fun t k => P7 t (by
          show Steps p.tables e below (s₁.setTop (mkF m 62 #[.val (.ref qa), .val (.int qp), .val (.long qc), .second, .val (.int qp), .val (.long (0 : Int64)), .second, .val (.int ((qf (qp).toNatClampNeg) &&& (255 : Int32))), .unset] [(.int (224 : Int32)), (.int ((qf (qp).toNatClampNeg) &&& (255 : Int32)))])) t
          refine XS.icmpNo X0.here hx rfl (hb hby d3_62) rfl (tlt c8).2.1 ?_
          refine XS.iconst X0.here hx rfl (hb hby d3_65) ?_
          refine XS.istore X0.here hx rfl (hb hby d3_66) rfl (l' := #[.val (.ref qa), .val (.int qp), .val (.long qc), .second, .val (.int qp), .val (.long (0 : Int64)), .second, .val (.int ((qf (qp).toNatClampNeg) &&& (255 : Int32))), .val (.int (2 : Int32))]) rfl ?_
          refine XS.goto X0.here hx rfl (pc0 := 68) (pc' := 88) rfl (hb hby d3_68) (by decide) (by decide) ?_
          show Steps p.tables e below (s₁.setTop (mkF m 88 #[.val (.ref qa), .val (.int qp), .val (.long qc), .second, .val (.int qp), .val (.long (0 : Int64)), .second, .val (.int ((qf (qp).toNatClampNeg) &&& (255 : Int32))), .val (.int (2 : Int32))] [])) t
          exact k)
        exact ⟨(2 : Int32), (Eq.symm (Eq.trans (if_neg c5) (if_pos c8))), P9⟩
      · skip
        have P10 : own_Go p e below S0 (s₁.setTop (mkF m 76 #[.val (.ref qa), .val (.int qp), .val (.long qc), .second, .val (.int qp), .val (.long (0 : Int64)), .second, .val (.int ((qf (qp).toNatClampNeg) &&& (255 : Int32))), .unset] [(.int (240 : Int32)), (.int ((qf (qp).toNatClampNeg) &&& (255 : Int32)))])) := fun t k => P7 t (by
          show Steps p.tables e below (s₁.setTop (mkF m 62 #[.val (.ref qa), .val (.int qp), .val (.long qc), .second, .val (.int qp), .val (.long (0 : Int64)), .second, .val (.int ((qf (qp).toNatClampNeg) &&& (255 : Int32))), .unset] [(.int (224 : Int32)), (.int ((qf (qp).toNatClampNeg) &&& (255 : Int32)))])) t
          refine XS.icmpYes X0.here hx rfl (pc0 := 62) (pc' := 71) rfl (hb hby d3_62) rfl (flt c8).2.1 (by decide) (by decide) ?_
          refine XS.iload X0.here hx rfl (hb hby d3_71) rfl ?_
          refine XS.sipush X0.here hx rfl (hb hby d3_73) ?_
          show Steps p.tables e below (s₁.setTop (mkF m 76 #[.val (.ref qa), .val (.int qp), .val (.long qc), .second, .val (.int qp), .val (.long (0 : Int64)), .second, .val (.int ((qf (qp).toNatClampNeg) &&& (255 : Int32))), .unset] [(.int (240 : Int32)), (.int ((qf (qp).toNatClampNeg) &&& (255 : Int32)))])) t
          exact k)
        by_cases c11 : ((qf (qp).toNatClampNeg) &&& (255 : Int32)) < (240 : Int32)
        · skip
          have P12 : own_Go p e below S0 (s₁.setTop (mkF m 88 #[.val (.ref qa), .val (.int qp), .val (.long qc), .second, .val (.int qp), .val (.long (0 : Int64)), .second, .val (.int ((qf (qp).toNatClampNeg) &&& (255 : Int32))), .val (.int (3 : Int32))] [])) := fun t k => P10 t (by
            show Steps p.tables e below (s₁.setTop (mkF m 76 #[.val (.ref qa), .val (.int qp), .val (.long qc), .second, .val (.int qp), .val (.long (0 : Int64)), .second, .val (.int ((qf (qp).toNatClampNeg) &&& (255 : Int32))), .unset] [(.int (240 : Int32)), (.int ((qf (qp).toNatClampNeg) &&& (255 : Int32)))])) t
            refine XS.icmpNo X0.here hx rfl (hb hby d3_76) rfl (tlt c11).2.1 ?_
            refine XS.iconst X0.here hx rfl (hb hby d3_79) ?_
            refine XS.istore X0.here hx rfl (hb hby d3_80) rfl (l' := #[.val (.ref qa), .val (.int qp), .val (.long qc), .second, .val (.int qp), .val (.long (0 : Int64)), .second, .val (.int ((qf (qp).toNatClampNeg) &&& (255 : Int32))), .val (.int (3 : Int32))]) rfl ?_
            refine XS.goto X0.here hx rfl (pc0 := 82) (pc' := 88) rfl (hb hby d3_82) (by decide) (by decide) ?_
            show Steps p.tables e below (s₁.setTop (mkF m 88 #[.val (.ref qa), .val (.int qp), .val (.long qc), .second, .val (.int qp), .val (.long (0 : Int64)), .second, .val (.int ((qf (qp).toNatClampNeg) &&& (255 : Int32))), .val (.int (3 : Int32))] [])) t
            exact k)
          exact ⟨(3 : Int32), (Eq.symm (Eq.trans (if_neg c5) (Eq.trans (if_neg c8) (if_pos c11)))), P12⟩
        · skip
          have P13 : own_Go p e below S0 (s₁.setTop (mkF m 88 #[.val (.ref qa), .val (.int qp), .val (.long qc), .second, .val (.int qp), .val (.long (0 : Int64)), .second, .val (.int ((qf (qp).toNatClampNeg) &&& (255 : Int32))), .val (.int (4 : Int32))] [])) := fun t k => P10 t (by
            show Steps p.tables e below (s₁.setTop (mkF m 76 #[.val (.ref qa), .val (.int qp), .val (.long qc), .second, .val (.int qp), .val (.long (0 : Int64)), .second, .val (.int ((qf (qp).toNatClampNeg) &&& (255 : Int32))), .unset] [(.int (240 : Int32)), (.int ((qf (qp).toNatClampNeg) &&& (255 : Int32)))])) t
            refine XS.icmpYes X0.here hx rfl (pc0 := 76) (pc' := 85) rfl (hb hby d3_76) rfl (flt c11).2.1 (by decide) (by decide) ?_
            refine XS.iconst X0.here hx rfl (hb hby d3_85) ?_
            refine XS.istore X0.here hx rfl (hb hby d3_86) rfl (l' := #[.val (.ref qa), .val (.int qp), .val (.long qc), .second, .val (.int qp), .val (.long (0 : Int64)), .second, .val (.int ((qf (qp).toNatClampNeg) &&& (255 : Int32))), .val (.int (4 : Int32))]) rfl ?_
            show Steps p.tables e below (s₁.setTop (mkF m 88 #[.val (.ref qa), .val (.int qp), .val (.long qc), .second, .val (.int qp), .val (.long (0 : Int64)), .second, .val (.int ((qf (qp).toNatClampNeg) &&& (255 : Int32))), .val (.int (4 : Int32))] [])) t
            exact k)
          exact ⟨(4 : Int32), (Eq.symm (Eq.trans (if_neg c5) (Eq.trans (if_neg c8) (if_neg c11)))), P13⟩
  obtain rfl : l0 = v14_l8 := by rw [hv14_l8]; exact own_len hcl0
  have P15 : own_Go p e below S0 (s₁.setTop (mkF m 100 #[.val (.ref qa), .val (.int qp), .val (.long qc), .second, .val (.int (qp + l0)), .val (.long (0 : Int64)), .second, .val (.int ((qf (qp).toNatClampNeg) &&& (255 : Int32))), .val (.int l0)] [(.int (4 : Int32)), (.int l0), (.long (0 : Int64))])) := fun t k => P14 t (by
    show Steps p.tables e below (s₁.setTop (mkF m 88 #[.val (.ref qa), .val (.int qp), .val (.long qc), .second, .val (.int qp), .val (.long (0 : Int64)), .second, .val (.int ((qf (qp).toNatClampNeg) &&& (255 : Int32))), .val (.int l0)] [])) t
    refine XS.iload X0.here hx rfl (hb hby d3_88) rfl ?_
    refine XS.iload X0.here hx rfl (hb hby d3_90) rfl ?_
    refine XS.iadd X0.here hx rfl (hb hby d3_92) rfl ?_
    refine XS.istore X0.here hx rfl (hb hby d3_93) rfl (l' := #[.val (.ref qa), .val (.int qp), .val (.long qc), .second, .val (.int (qp + l0)), .val (.long (0 : Int64)), .second, .val (.int ((qf (qp).toNatClampNeg) &&& (255 : Int32))), .val (.int l0)]) rfl ?_
    refine XS.lload X0.here hx rfl (hb hby d3_95) rfl ?_
    refine XS.iload X0.here hx rfl (hb hby d3_97) rfl ?_
    show Steps p.tables e below (s₁.setTop (mkF m 99 #[.val (.ref qa), .val (.int qp), .val (.long qc), .second, .val (.int (qp + l0)), .val (.long (0 : Int64)), .second, .val (.int ((qf (qp).toNatClampNeg) &&& (255 : Int32))), .val (.int l0)] [(.int l0), (.long (0 : Int64))])) t
    refine XS.iconst X0.here hx rfl (hb hby d3_99) ?_
    show Steps p.tables e below (s₁.setTop (mkF m 100 #[.val (.ref qa), .val (.int qp), .val (.long qc), .second, .val (.int (qp + l0)), .val (.long (0 : Int64)), .second, .val (.int ((qf (qp).toNatClampNeg) &&& (255 : Int32))), .val (.int l0)] [(.int (4 : Int32)), (.int l0), (.long (0 : Int64))])) t
    exact k)
  obtain ⟨v19_s0, hv19_s0, P19⟩ : ∃ (v19_s0 : Int64), (v19_s0 = (if l0 = (4 : Int32) then (2 : Int64) else (1 : Int64))) ∧ (own_Go p e below S0 (s₁.setTop (mkF m 110 #[.val (.ref qa), .val (.int qp), .val (.long qc), .second, .val (.int (qp + l0)), .val (.long (0 : Int64)), .second, .val (.int ((qf (qp).toNatClampNeg) &&& (255 : Int32))), .val (.int l0)] [(.long v19_s0), (.long (0 : Int64))]))) := by
    by_cases c16 : l0 = (4 : Int32)
    · skip
      have P17 : own_Go p e below S0 (s₁.setTop (mkF m 110 #[.val (.ref qa), .val (.int qp), .val (.long qc), .second, .val (.int (qp + l0)), .val (.long (0 : Int64)), .second, .val (.int ((qf (qp).toNatClampNeg) &&& (255 : Int32))), .val (.int l0)] [(.long (2 : Int64)), (.long (0 : Int64))])) := fun t k => P15 t (by
        show Steps p.tables e below (s₁.setTop (mkF m 100 #[.val (.ref qa), .val (.int qp), .val (.long qc), .second, .val (.int (qp + l0)), .val (.long (0 : Int64)), .second, .val (.int ((qf (qp).toNatClampNeg) &&& (255 : Int32))), .val (.int l0)] [(.int (4 : Int32)), (.int l0), (.long (0 : Int64))])) t
        refine XS.icmpNo X0.here hx rfl (hb hby d3_100) rfl (teq c16).2 ?_
        show Steps p.tables e below (s₁.setTop (mkF m 103 #[.val (.ref qa), .val (.int qp), .val (.long qc), .second, .val (.int (qp + l0)), .val (.long (0 : Int64)), .second, .val (.int ((qf (qp).toNatClampNeg) &&& (255 : Int32))), .val (.int l0)] [(.long (0 : Int64))])) t
        refine X0.ldc2Long hx hown (mvT hZ (hw _ (List.mem_of_getElem? (i := 13) rfl))) (g := (mkF m 103 #[.val (.ref qa), .val (.int qp), .val (.long qc), .second, .val (.int (qp + l0)), .val (.long (0 : Int64)), .second, .val (.int ((qf (qp).toNatClampNeg) &&& (255 : Int32))), .val (.int l0)] [(.long (0 : Int64))])) rfl (hb hby d3_103) _ ?_
        refine XS.goto X0.here hx rfl (pc0 := 106) (pc' := 110) rfl (hb hby d3_106) (by decide) (by decide) ?_
        show Steps p.tables e below (s₁.setTop (mkF m 110 #[.val (.ref qa), .val (.int qp), .val (.long qc), .second, .val (.int (qp + l0)), .val (.long (0 : Int64)), .second, .val (.int ((qf (qp).toNatClampNeg) &&& (255 : Int32))), .val (.int l0)] [(.long (2 : Int64)), (.long (0 : Int64))])) t
        exact k)
      exact ⟨(2 : Int64), (Eq.symm (if_pos c16)), P17⟩
    · skip
      have P18 : own_Go p e below S0 (s₁.setTop (mkF m 110 #[.val (.ref qa), .val (.int qp), .val (.long qc), .second, .val (.int (qp + l0)), .val (.long (0 : Int64)), .second, .val (.int ((qf (qp).toNatClampNeg) &&& (255 : Int32))), .val (.int l0)] [(.long (1 : Int64)), (.long (0 : Int64))])) := fun t k => P15 t (by
        show Steps p.tables e below (s₁.setTop (mkF m 100 #[.val (.ref qa), .val (.int qp), .val (.long qc), .second, .val (.int (qp + l0)), .val (.long (0 : Int64)), .second, .val (.int ((qf (qp).toNatClampNeg) &&& (255 : Int32))), .val (.int l0)] [(.int (4 : Int32)), (.int l0), (.long (0 : Int64))])) t
        refine XS.icmpYes X0.here hx rfl (pc0 := 100) (pc' := 109) rfl (hb hby d3_100) rfl (feq c16).2 (by decide) (by decide) ?_
        refine XS.lconst X0.here hx rfl (hb hby d3_109) ?_
        show Steps p.tables e below (s₁.setTop (mkF m 110 #[.val (.ref qa), .val (.int qp), .val (.long qc), .second, .val (.int (qp + l0)), .val (.long (0 : Int64)), .second, .val (.int ((qf (qp).toNatClampNeg) &&& (255 : Int32))), .val (.int l0)] [(.long (1 : Int64)), (.long (0 : Int64))])) t
        exact k)
      exact ⟨(1 : Int64), (Eq.symm (if_neg c16)), P18⟩
  obtain rfl : u0 = v19_s0 := hu0.trans (Eq.symm hv19_s0)
  have c20 : ((0 : Int64) + u0) < qc := hlt1
  have hb21 : ¬ ((qp + l0) < 0) ∧ (qp + l0) < (16 : Int32) := hin1
  obtain ⟨cl21, Ar21, q21, Sz21, Hh21⟩ := id B_qa
  have hin21 : ¬ ((qp + l0) < 0 ∨ cl21.slots.size ≤ ((qp + l0)).toNatClampNeg) := own_bin Sz21 hb21
  have hat21 : cl21.slots[((qp + l0)).toNatClampNeg]? = some (.int (qf ((qp + l0)).toNatClampNeg)) := Hh21 _ (own_blt hb21)
  have P22 : own_Go p e below S0 (s₁.setTop (mkF m 48 #[.val (.ref qa), .val (.int qp), .val (.long qc), .second, .val (.int (qp + l0)), .val (.long ((0 : Int64) + u0)), .second, .val (.int ((qf ((qp + l0)).toNatClampNeg) &&& (255 : Int32))), .val (.int l0)] [(.int (128 : Int32)), (.int ((qf ((qp + l0)).toNatClampNeg) &&& (255 : Int32)))])) := fun t k => P19 t (by
    show Steps p.tables e below (s₁.setTop (mkF m 110 #[.val (.ref qa), .val (.int qp), .val (.long qc), .second, .val (.int (qp + l0)), .val (.long (0 : Int64)), .second, .val (.int ((qf (qp).toNatClampNeg) &&& (255 : Int32))), .val (.int l0)] [(.long u0), (.long (0 : Int64))])) t
    refine XS.ladd X0.here hx rfl (hb hby d3_110) rfl ?_
    refine XS.lstore X0.here hx rfl (hb hby d3_111) rfl (l' := #[.val (.ref qa), .val (.int qp), .val (.long qc), .second, .val (.int (qp + l0)), .val (.long ((0 : Int64) + u0)), .second, .val (.int ((qf (qp).toNatClampNeg) &&& (255 : Int32))), .val (.int l0)]) rfl ?_
    refine XS.goto X0.here hx rfl (pc0 := 113) (pc' := 26) rfl (hb hby d3_113) (by decide) (by decide) ?_
    refine XS.lload X0.here hx rfl (hb hby d3_26) rfl ?_
    refine XS.lloadN X0.here hx rfl (hb hby d3_28) rfl ?_
    refine XS.lcmp X0.here hx rfl (hb hby d3_29) rfl ?_
    show Steps p.tables e below (s₁.setTop (mkF m 30 #[.val (.ref qa), .val (.int qp), .val (.long qc), .second, .val (.int (qp + l0)), .val (.long ((0 : Int64) + u0)), .second, .val (.int ((qf (qp).toNatClampNeg) &&& (255 : Int32))), .val (.int l0)] [(.int (lcmpW ((0 : Int64) + u0) qc))])) t
    refine XS.ifNo X0.here hx rfl (hb hby d3_30) rfl ((if0 _ _).trans (tlt ((lw_lt ((0 : Int64) + u0) qc).mpr c20)).2.1) ?_
    refine XS.aloadN X0.here hx rfl (hb hby d3_33) rfl rfl ?_
    refine XS.iload X0.here hx rfl (hb hby d3_34) rfl ?_
    show Steps p.tables e below (s₁.setTop (mkF m 36 #[.val (.ref qa), .val (.int qp), .val (.long qc), .second, .val (.int (qp + l0)), .val (.long ((0 : Int64) + u0)), .second, .val (.int ((qf (qp).toNatClampNeg) &&& (255 : Int32))), .val (.int l0)] [(.int (qp + l0)), (.ref qa)])) t
    refine X0.baloadBytes hx (j := (qp + l0)) (v := (.int (qf ((qp + l0)).toNatClampNeg))) (by rw [e0]; exact Ar21.1) (State.isArrayOf_alike hZ.alike Ar21.2.1) Ar21.2.2 hin21 hat21 (g := (mkF m 36 #[.val (.ref qa), .val (.int qp), .val (.long qc), .second, .val (.int (qp + l0)), .val (.long ((0 : Int64) + u0)), .second, .val (.int ((qf (qp).toNatClampNeg) &&& (255 : Int32))), .val (.int l0)] [(.int (qp + l0)), (.ref qa)])) rfl rfl (hb hby d3_36) _ ?_
    refine XS.sipush X0.here hx rfl (hb hby d3_37) ?_
    refine XS.iand X0.here hx rfl (hb hby d3_40) rfl ?_
    show Steps p.tables e below (s₁.setTop (mkF m 41 #[.val (.ref qa), .val (.int qp), .val (.long qc), .second, .val (.int (qp + l0)), .val (.long ((0 : Int64) + u0)), .second, .val (.int ((qf (qp).toNatClampNeg) &&& (255 : Int32))), .val (.int l0)] [(.int ((qf ((qp + l0)).toNatClampNeg) &&& (255 : Int32)))])) t
    refine XS.istore X0.here hx rfl (hb hby d3_41) rfl (l' := #[.val (.ref qa), .val (.int qp), .val (.long qc), .second, .val (.int (qp + l0)), .val (.long ((0 : Int64) + u0)), .second, .val (.int ((qf ((qp + l0)).toNatClampNeg) &&& (255 : Int32))), .val (.int l0)]) rfl ?_
    refine XS.iload X0.here hx rfl (hb hby d3_43) rfl ?_
    refine XS.sipush X0.here hx rfl (hb hby d3_45) ?_
    show Steps p.tables e below (s₁.setTop (mkF m 48 #[.val (.ref qa), .val (.int qp), .val (.long qc), .second, .val (.int (qp + l0)), .val (.long ((0 : Int64) + u0)), .second, .val (.int ((qf ((qp + l0)).toNatClampNeg) &&& (255 : Int32))), .val (.int l0)] [(.int (128 : Int32)), (.int ((qf ((qp + l0)).toNatClampNeg) &&& (255 : Int32)))])) t
    exact k)
  obtain ⟨v32_l8, hv32_l8, P32⟩ : ∃ (v32_l8 : Int32), (v32_l8 = (if ((qf ((qp + l0)).toNatClampNeg) &&& (255 : Int32)) < (128 : Int32) then (1 : Int32) else (if ((qf ((qp + l0)).toNatClampNeg) &&& (255 : Int32)) < (224 : Int32) then (2 : Int32) else (if ((qf ((qp + l0)).toNatClampNeg) &&& (255 : Int32)) < (240 : Int32) then (3 : Int32) else (4 : Int32))))) ∧ (own_Go p e below S0 (s₁.setTop (mkF m 88 #[.val (.ref qa), .val (.int qp), .val (.long qc), .second, .val (.int (qp + l0)), .val (.long ((0 : Int64) + u0)), .second, .val (.int ((qf ((qp + l0)).toNatClampNeg) &&& (255 : Int32))), .val (.int v32_l8)] []))) := by
    by_cases c23 : ((qf ((qp + l0)).toNatClampNeg) &&& (255 : Int32)) < (128 : Int32)
    · skip
      have P24 : own_Go p e below S0 (s₁.setTop (mkF m 88 #[.val (.ref qa), .val (.int qp), .val (.long qc), .second, .val (.int (qp + l0)), .val (.long ((0 : Int64) + u0)), .second, .val (.int ((qf ((qp + l0)).toNatClampNeg) &&& (255 : Int32))), .val (.int (1 : Int32))] [])) := fun t k => P22 t (by
        show Steps p.tables e below (s₁.setTop (mkF m 48 #[.val (.ref qa), .val (.int qp), .val (.long qc), .second, .val (.int (qp + l0)), .val (.long ((0 : Int64) + u0)), .second, .val (.int ((qf ((qp + l0)).toNatClampNeg) &&& (255 : Int32))), .val (.int l0)] [(.int (128 : Int32)), (.int ((qf ((qp + l0)).toNatClampNeg) &&& (255 : Int32)))])) t
        refine XS.icmpNo X0.here hx rfl (hb hby d3_48) rfl (tlt c23).2.1 ?_
        refine XS.iconst X0.here hx rfl (hb hby d3_51) ?_
        refine XS.istore X0.here hx rfl (hb hby d3_52) rfl (l' := #[.val (.ref qa), .val (.int qp), .val (.long qc), .second, .val (.int (qp + l0)), .val (.long ((0 : Int64) + u0)), .second, .val (.int ((qf ((qp + l0)).toNatClampNeg) &&& (255 : Int32))), .val (.int (1 : Int32))]) rfl ?_
        refine XS.goto X0.here hx rfl (pc0 := 54) (pc' := 88) rfl (hb hby d3_54) (by decide) (by decide) ?_
        show Steps p.tables e below (s₁.setTop (mkF m 88 #[.val (.ref qa), .val (.int qp), .val (.long qc), .second, .val (.int (qp + l0)), .val (.long ((0 : Int64) + u0)), .second, .val (.int ((qf ((qp + l0)).toNatClampNeg) &&& (255 : Int32))), .val (.int (1 : Int32))] [])) t
        exact k)
      exact ⟨(1 : Int32), (Eq.symm (if_pos c23)), P24⟩
    · skip
      have P25 : own_Go p e below S0 (s₁.setTop (mkF m 62 #[.val (.ref qa), .val (.int qp), .val (.long qc), .second, .val (.int (qp + l0)), .val (.long ((0 : Int64) + u0)), .second, .val (.int ((qf ((qp + l0)).toNatClampNeg) &&& (255 : Int32))), .val (.int l0)] [(.int (224 : Int32)), (.int ((qf ((qp + l0)).toNatClampNeg) &&& (255 : Int32)))])) := fun t k => P22 t (by
        show Steps p.tables e below (s₁.setTop (mkF m 48 #[.val (.ref qa), .val (.int qp), .val (.long qc), .second, .val (.int (qp + l0)), .val (.long ((0 : Int64) + u0)), .second, .val (.int ((qf ((qp + l0)).toNatClampNeg) &&& (255 : Int32))), .val (.int l0)] [(.int (128 : Int32)), (.int ((qf ((qp + l0)).toNatClampNeg) &&& (255 : Int32)))])) t
        refine XS.icmpYes X0.here hx rfl (pc0 := 48) (pc' := 57) rfl (hb hby d3_48) rfl (flt c23).2.1 (by decide) (by decide) ?_
        refine XS.iload X0.here hx rfl (hb hby d3_57) rfl ?_
        refine XS.sipush X0.here hx rfl (hb hby d3_59) ?_
        show Steps p.tables e below (s₁.setTop (mkF m 62 #[.val (.ref qa), .val (.int qp), .val (.long qc), .second, .val (.int (qp + l0)), .val (.long ((0 : Int64) + u0)), .second, .val (.int ((qf ((qp + l0)).toNatClampNeg) &&& (255 : Int32))), .val (.int l0)] [(.int (224 : Int32)), (.int ((qf ((qp + l0)).toNatClampNeg) &&& (255 : Int32)))])) t
        exact k)
      by_cases c26 : ((qf ((qp + l0)).toNatClampNeg) &&& (255 : Int32)) < (224 : Int32)
      · skip
        have P27 : own_Go p e below S0 (s₁.setTop (mkF m 88 #[.val (.ref qa), .val (.int qp), .val (.long qc), .second, .val (.int (qp + l0)), .val (.long ((0 : Int64) + u0)), .second, .val (.int ((qf ((qp + l0)).toNatClampNeg) &&& (255 : Int32))), .val (.int (2 : Int32))] [])) := fun t k => P25 t (by
          show Steps p.tables e below (s₁.setTop (mkF m 62 #[.val (.ref qa), .val (.int qp), .val (.long qc), .second, .val (.int (qp + l0)), .val (.long ((0 : Int64) + u0)), .second, .val (.int ((qf ((qp + l0)).toNatClampNeg) &&& (255 : Int32))), .val (.int l0)] [(.int (224 : Int32)), (.int ((qf ((qp + l0)).toNatClampNeg) &&& (255 : Int32)))])) t
          refine XS.icmpNo X0.here hx rfl (hb hby d3_62) rfl (tlt c26).2.1 ?_
          refine XS.iconst X0.here hx rfl (hb hby d3_65) ?_
          refine XS.istore X0.here hx rfl (hb hby d3_66) rfl (l' := #[.val (.ref qa), .val (.int qp), .val (.long qc), .second, .val (.int (qp + l0)), .val (.long ((0 : Int64) + u0)), .second, .val (.int ((qf ((qp + l0)).toNatClampNeg) &&& (255 : Int32))), .val (.int (2 : Int32))]) rfl ?_
          refine XS.goto X0.here hx rfl (pc0 := 68) (pc' := 88) rfl (hb hby d3_68) (by decide) (by decide) ?_
          show Steps p.tables e below (s₁.setTop (mkF m 88 #[.val (.ref qa), .val (.int qp), .val (.long qc), .second, .val (.int (qp + l0)), .val (.long ((0 : Int64) + u0)), .second, .val (.int ((qf ((qp + l0)).toNatClampNeg) &&& (255 : Int32))), .val (.int (2 : Int32))] [])) t
          exact k)
        exact ⟨(2 : Int32), (Eq.symm (Eq.trans (if_neg c23) (if_pos c26))), P27⟩
      · skip
        have P28 : own_Go p e below S0 (s₁.setTop (mkF m 76 #[.val (.ref qa), .val (.int qp), .val (.long qc), .second, .val (.int (qp + l0)), .val (.long ((0 : Int64) + u0)), .second, .val (.int ((qf ((qp + l0)).toNatClampNeg) &&& (255 : Int32))), .val (.int l0)] [(.int (240 : Int32)), (.int ((qf ((qp + l0)).toNatClampNeg) &&& (255 : Int32)))])) := fun t k => P25 t (by
          show Steps p.tables e below (s₁.setTop (mkF m 62 #[.val (.ref qa), .val (.int qp), .val (.long qc), .second, .val (.int (qp + l0)), .val (.long ((0 : Int64) + u0)), .second, .val (.int ((qf ((qp + l0)).toNatClampNeg) &&& (255 : Int32))), .val (.int l0)] [(.int (224 : Int32)), (.int ((qf ((qp + l0)).toNatClampNeg) &&& (255 : Int32)))])) t
          refine XS.icmpYes X0.here hx rfl (pc0 := 62) (pc' := 71) rfl (hb hby d3_62) rfl (flt c26).2.1 (by decide) (by decide) ?_
          refine XS.iload X0.here hx rfl (hb hby d3_71) rfl ?_
          refine XS.sipush X0.here hx rfl (hb hby d3_73) ?_
          show Steps p.tables e below (s₁.setTop (mkF m 76 #[.val (.ref qa), .val (.int qp), .val (.long qc), .second, .val (.int (qp + l0)), .val (.long ((0 : Int64) + u0)), .second, .val (.int ((qf ((qp + l0)).toNatClampNeg) &&& (255 : Int32))), .val (.int l0)] [(.int (240 : Int32)), (.int ((qf ((qp + l0)).toNatClampNeg) &&& (255 : Int32)))])) t
          exact k)
        by_cases c29 : ((qf ((qp + l0)).toNatClampNeg) &&& (255 : Int32)) < (240 : Int32)
        · skip
          have P30 : own_Go p e below S0 (s₁.setTop (mkF m 88 #[.val (.ref qa), .val (.int qp), .val (.long qc), .second, .val (.int (qp + l0)), .val (.long ((0 : Int64) + u0)), .second, .val (.int ((qf ((qp + l0)).toNatClampNeg) &&& (255 : Int32))), .val (.int (3 : Int32))] [])) := fun t k => P28 t (by
            show Steps p.tables e below (s₁.setTop (mkF m 76 #[.val (.ref qa), .val (.int qp), .val (.long qc), .second, .val (.int (qp + l0)), .val (.long ((0 : Int64) + u0)), .second, .val (.int ((qf ((qp + l0)).toNatClampNeg) &&& (255 : Int32))), .val (.int l0)] [(.int (240 : Int32)), (.int ((qf ((qp + l0)).toNatClampNeg) &&& (255 : Int32)))])) t
            refine XS.icmpNo X0.here hx rfl (hb hby d3_76) rfl (tlt c29).2.1 ?_
            refine XS.iconst X0.here hx rfl (hb hby d3_79) ?_
            refine XS.istore X0.here hx rfl (hb hby d3_80) rfl (l' := #[.val (.ref qa), .val (.int qp), .val (.long qc), .second, .val (.int (qp + l0)), .val (.long ((0 : Int64) + u0)), .second, .val (.int ((qf ((qp + l0)).toNatClampNeg) &&& (255 : Int32))), .val (.int (3 : Int32))]) rfl ?_
            refine XS.goto X0.here hx rfl (pc0 := 82) (pc' := 88) rfl (hb hby d3_82) (by decide) (by decide) ?_
            show Steps p.tables e below (s₁.setTop (mkF m 88 #[.val (.ref qa), .val (.int qp), .val (.long qc), .second, .val (.int (qp + l0)), .val (.long ((0 : Int64) + u0)), .second, .val (.int ((qf ((qp + l0)).toNatClampNeg) &&& (255 : Int32))), .val (.int (3 : Int32))] [])) t
            exact k)
          exact ⟨(3 : Int32), (Eq.symm (Eq.trans (if_neg c23) (Eq.trans (if_neg c26) (if_pos c29)))), P30⟩
        · skip
          have P31 : own_Go p e below S0 (s₁.setTop (mkF m 88 #[.val (.ref qa), .val (.int qp), .val (.long qc), .second, .val (.int (qp + l0)), .val (.long ((0 : Int64) + u0)), .second, .val (.int ((qf ((qp + l0)).toNatClampNeg) &&& (255 : Int32))), .val (.int (4 : Int32))] [])) := fun t k => P28 t (by
            show Steps p.tables e below (s₁.setTop (mkF m 76 #[.val (.ref qa), .val (.int qp), .val (.long qc), .second, .val (.int (qp + l0)), .val (.long ((0 : Int64) + u0)), .second, .val (.int ((qf ((qp + l0)).toNatClampNeg) &&& (255 : Int32))), .val (.int l0)] [(.int (240 : Int32)), (.int ((qf ((qp + l0)).toNatClampNeg) &&& (255 : Int32)))])) t
            refine XS.icmpYes X0.here hx rfl (pc0 := 76) (pc' := 85) rfl (hb hby d3_76) rfl (flt c29).2.1 (by decide) (by decide) ?_
            refine XS.iconst X0.here hx rfl (hb hby d3_85) ?_
            refine XS.istore X0.here hx rfl (hb hby d3_86) rfl (l' := #[.val (.ref qa), .val (.int qp), .val (.long qc), .second, .val (.int (qp + l0)), .val (.long ((0 : Int64) + u0)), .second, .val (.int ((qf ((qp + l0)).toNatClampNeg) &&& (255 : Int32))), .val (.int (4 : Int32))]) rfl ?_
            show Steps p.tables e below (s₁.setTop (mkF m 88 #[.val (.ref qa), .val (.int qp), .val (.long qc), .second, .val (.int (qp + l0)), .val (.long ((0 : Int64) + u0)), .second, .val (.int ((qf ((qp + l0)).toNatClampNeg) &&& (255 : Int32))), .val (.int (4 : Int32))] [])) t
            exact k)
          exact ⟨(4 : Int32), (Eq.symm (Eq.trans (if_neg c23) (Eq.trans (if_neg c26) (if_neg c29)))), P31⟩
  obtain rfl : l1 = v32_l8 := by rw [hv32_l8]; exact own_len hcl1
  have P33 : own_Go p e below S0 (s₁.setTop (mkF m 100 #[.val (.ref qa), .val (.int qp), .val (.long qc), .second, .val (.int ((qp + l0) + l1)), .val (.long ((0 : Int64) + u0)), .second, .val (.int ((qf ((qp + l0)).toNatClampNeg) &&& (255 : Int32))), .val (.int l1)] [(.int (4 : Int32)), (.int l1), (.long ((0 : Int64) + u0))])) := fun t k => P32 t (by
    show Steps p.tables e below (s₁.setTop (mkF m 88 #[.val (.ref qa), .val (.int qp), .val (.long qc), .second, .val (.int (qp + l0)), .val (.long ((0 : Int64) + u0)), .second, .val (.int ((qf ((qp + l0)).toNatClampNeg) &&& (255 : Int32))), .val (.int l1)] [])) t
    refine XS.iload X0.here hx rfl (hb hby d3_88) rfl ?_
    refine XS.iload X0.here hx rfl (hb hby d3_90) rfl ?_
    refine XS.iadd X0.here hx rfl (hb hby d3_92) rfl ?_
    refine XS.istore X0.here hx rfl (hb hby d3_93) rfl (l' := #[.val (.ref qa), .val (.int qp), .val (.long qc), .second, .val (.int ((qp + l0) + l1)), .val (.long ((0 : Int64) + u0)), .second, .val (.int ((qf ((qp + l0)).toNatClampNeg) &&& (255 : Int32))), .val (.int l1)]) rfl ?_
    refine XS.lload X0.here hx rfl (hb hby d3_95) rfl ?_
    refine XS.iload X0.here hx rfl (hb hby d3_97) rfl ?_
    show Steps p.tables e below (s₁.setTop (mkF m 99 #[.val (.ref qa), .val (.int qp), .val (.long qc), .second, .val (.int ((qp + l0) + l1)), .val (.long ((0 : Int64) + u0)), .second, .val (.int ((qf ((qp + l0)).toNatClampNeg) &&& (255 : Int32))), .val (.int l1)] [(.int l1), (.long ((0 : Int64) + u0))])) t
    refine XS.iconst X0.here hx rfl (hb hby d3_99) ?_
    show Steps p.tables e below (s₁.setTop (mkF m 100 #[.val (.ref qa), .val (.int qp), .val (.long qc), .second, .val (.int ((qp + l0) + l1)), .val (.long ((0 : Int64) + u0)), .second, .val (.int ((qf ((qp + l0)).toNatClampNeg) &&& (255 : Int32))), .val (.int l1)] [(.int (4 : Int32)), (.int l1), (.long ((0 : Int64) + u0))])) t
    exact k)
  obtain ⟨v37_s0, hv37_s0, P37⟩ : ∃ (v37_s0 : Int64), (v37_s0 = (if l1 = (4 : Int32) then (2 : Int64) else (1 : Int64))) ∧ (own_Go p e below S0 (s₁.setTop (mkF m 110 #[.val (.ref qa), .val (.int qp), .val (.long qc), .second, .val (.int ((qp + l0) + l1)), .val (.long ((0 : Int64) + u0)), .second, .val (.int ((qf ((qp + l0)).toNatClampNeg) &&& (255 : Int32))), .val (.int l1)] [(.long v37_s0), (.long ((0 : Int64) + u0))]))) := by
    by_cases c34 : l1 = (4 : Int32)
    · skip
      have P35 : own_Go p e below S0 (s₁.setTop (mkF m 110 #[.val (.ref qa), .val (.int qp), .val (.long qc), .second, .val (.int ((qp + l0) + l1)), .val (.long ((0 : Int64) + u0)), .second, .val (.int ((qf ((qp + l0)).toNatClampNeg) &&& (255 : Int32))), .val (.int l1)] [(.long (2 : Int64)), (.long ((0 : Int64) + u0))])) := fun t k => P33 t (by
        show Steps p.tables e below (s₁.setTop (mkF m 100 #[.val (.ref qa), .val (.int qp), .val (.long qc), .second, .val (.int ((qp + l0) + l1)), .val (.long ((0 : Int64) + u0)), .second, .val (.int ((qf ((qp + l0)).toNatClampNeg) &&& (255 : Int32))), .val (.int l1)] [(.int (4 : Int32)), (.int l1), (.long ((0 : Int64) + u0))])) t
        refine XS.icmpNo X0.here hx rfl (hb hby d3_100) rfl (teq c34).2 ?_
        show Steps p.tables e below (s₁.setTop (mkF m 103 #[.val (.ref qa), .val (.int qp), .val (.long qc), .second, .val (.int ((qp + l0) + l1)), .val (.long ((0 : Int64) + u0)), .second, .val (.int ((qf ((qp + l0)).toNatClampNeg) &&& (255 : Int32))), .val (.int l1)] [(.long ((0 : Int64) + u0))])) t
        refine X0.ldc2Long hx hown (mvT hZ (hw _ (List.mem_of_getElem? (i := 13) rfl))) (g := (mkF m 103 #[.val (.ref qa), .val (.int qp), .val (.long qc), .second, .val (.int ((qp + l0) + l1)), .val (.long ((0 : Int64) + u0)), .second, .val (.int ((qf ((qp + l0)).toNatClampNeg) &&& (255 : Int32))), .val (.int l1)] [(.long ((0 : Int64) + u0))])) rfl (hb hby d3_103) _ ?_
        refine XS.goto X0.here hx rfl (pc0 := 106) (pc' := 110) rfl (hb hby d3_106) (by decide) (by decide) ?_
        show Steps p.tables e below (s₁.setTop (mkF m 110 #[.val (.ref qa), .val (.int qp), .val (.long qc), .second, .val (.int ((qp + l0) + l1)), .val (.long ((0 : Int64) + u0)), .second, .val (.int ((qf ((qp + l0)).toNatClampNeg) &&& (255 : Int32))), .val (.int l1)] [(.long (2 : Int64)), (.long ((0 : Int64) + u0))])) t
        exact k)
      exact ⟨(2 : Int64), (Eq.symm (if_pos c34)), P35⟩
    · skip
      have P36 : own_Go p e below S0 (s₁.setTop (mkF m 110 #[.val (.ref qa), .val (.int qp), .val (.long qc), .second, .val (.int ((qp + l0) + l1)), .val (.long ((0 : Int64) + u0)), .second, .val (.int ((qf ((qp + l0)).toNatClampNeg) &&& (255 : Int32))), .val (.int l1)] [(.long (1 : Int64)), (.long ((0 : Int64) + u0))])) := fun t k => P33 t (by
        show Steps p.tables e below (s₁.setTop (mkF m 100 #[.val (.ref qa), .val (.int qp), .val (.long qc), .second, .val (.int ((qp + l0) + l1)), .val (.long ((0 : Int64) + u0)), .second, .val (.int ((qf ((qp + l0)).toNatClampNeg) &&& (255 : Int32))), .val (.int l1)] [(.int (4 : Int32)), (.int l1), (.long ((0 : Int64) + u0))])) t
        refine XS.icmpYes X0.here hx rfl (pc0 := 100) (pc' := 109) rfl (hb hby d3_100) rfl (feq c34).2 (by decide) (by decide) ?_
        refine XS.lconst X0.here hx rfl (hb hby d3_109) ?_
        show Steps p.tables e below (s₁.setTop (mkF m 110 #[.val (.ref qa), .val (.int qp), .val (.long qc), .second, .val (.int ((qp + l0) + l1)), .val (.long ((0 : Int64) + u0)), .second, .val (.int ((qf ((qp + l0)).toNatClampNeg) &&& (255 : Int32))), .val (.int l1)] [(.long (1 : Int64)), (.long ((0 : Int64) + u0))])) t
        exact k)
      exact ⟨(1 : Int64), (Eq.symm (if_neg c34)), P36⟩
  obtain rfl : u1 = v37_s0 := hu1.trans (Eq.symm hv37_s0)
  have c38 : (((0 : Int64) + u0) + u1) < qc := hlt2
  have hb39 : ¬ (((qp + l0) + l1) < 0) ∧ ((qp + l0) + l1) < (16 : Int32) := hin2
  obtain ⟨cl39, Ar39, q39, Sz39, Hh39⟩ := id B_qa
  have hin39 : ¬ (((qp + l0) + l1) < 0 ∨ cl39.slots.size ≤ (((qp + l0) + l1)).toNatClampNeg) := own_bin Sz39 hb39
  have hat39 : cl39.slots[(((qp + l0) + l1)).toNatClampNeg]? = some (.int (qf (((qp + l0) + l1)).toNatClampNeg)) := Hh39 _ (own_blt hb39)
  have P40 : own_Go p e below S0 (s₁.setTop (mkF m 48 #[.val (.ref qa), .val (.int qp), .val (.long qc), .second, .val (.int ((qp + l0) + l1)), .val (.long (((0 : Int64) + u0) + u1)), .second, .val (.int ((qf (((qp + l0) + l1)).toNatClampNeg) &&& (255 : Int32))), .val (.int l1)] [(.int (128 : Int32)), (.int ((qf (((qp + l0) + l1)).toNatClampNeg) &&& (255 : Int32)))])) := fun t k => P37 t (by
    show Steps p.tables e below (s₁.setTop (mkF m 110 #[.val (.ref qa), .val (.int qp), .val (.long qc), .second, .val (.int ((qp + l0) + l1)), .val (.long ((0 : Int64) + u0)), .second, .val (.int ((qf ((qp + l0)).toNatClampNeg) &&& (255 : Int32))), .val (.int l1)] [(.long u1), (.long ((0 : Int64) + u0))])) t
    refine XS.ladd X0.here hx rfl (hb hby d3_110) rfl ?_
    refine XS.lstore X0.here hx rfl (hb hby d3_111) rfl (l' := #[.val (.ref qa), .val (.int qp), .val (.long qc), .second, .val (.int ((qp + l0) + l1)), .val (.long (((0 : Int64) + u0) + u1)), .second, .val (.int ((qf ((qp + l0)).toNatClampNeg) &&& (255 : Int32))), .val (.int l1)]) rfl ?_
    refine XS.goto X0.here hx rfl (pc0 := 113) (pc' := 26) rfl (hb hby d3_113) (by decide) (by decide) ?_
    refine XS.lload X0.here hx rfl (hb hby d3_26) rfl ?_
    refine XS.lloadN X0.here hx rfl (hb hby d3_28) rfl ?_
    refine XS.lcmp X0.here hx rfl (hb hby d3_29) rfl ?_
    show Steps p.tables e below (s₁.setTop (mkF m 30 #[.val (.ref qa), .val (.int qp), .val (.long qc), .second, .val (.int ((qp + l0) + l1)), .val (.long (((0 : Int64) + u0) + u1)), .second, .val (.int ((qf ((qp + l0)).toNatClampNeg) &&& (255 : Int32))), .val (.int l1)] [(.int (lcmpW (((0 : Int64) + u0) + u1) qc))])) t
    refine XS.ifNo X0.here hx rfl (hb hby d3_30) rfl ((if0 _ _).trans (tlt ((lw_lt (((0 : Int64) + u0) + u1) qc).mpr c38)).2.1) ?_
    refine XS.aloadN X0.here hx rfl (hb hby d3_33) rfl rfl ?_
    refine XS.iload X0.here hx rfl (hb hby d3_34) rfl ?_
    show Steps p.tables e below (s₁.setTop (mkF m 36 #[.val (.ref qa), .val (.int qp), .val (.long qc), .second, .val (.int ((qp + l0) + l1)), .val (.long (((0 : Int64) + u0) + u1)), .second, .val (.int ((qf ((qp + l0)).toNatClampNeg) &&& (255 : Int32))), .val (.int l1)] [(.int ((qp + l0) + l1)), (.ref qa)])) t
    refine X0.baloadBytes hx (j := ((qp + l0) + l1)) (v := (.int (qf (((qp + l0) + l1)).toNatClampNeg))) (by rw [e0]; exact Ar39.1) (State.isArrayOf_alike hZ.alike Ar39.2.1) Ar39.2.2 hin39 hat39 (g := (mkF m 36 #[.val (.ref qa), .val (.int qp), .val (.long qc), .second, .val (.int ((qp + l0) + l1)), .val (.long (((0 : Int64) + u0) + u1)), .second, .val (.int ((qf ((qp + l0)).toNatClampNeg) &&& (255 : Int32))), .val (.int l1)] [(.int ((qp + l0) + l1)), (.ref qa)])) rfl rfl (hb hby d3_36) _ ?_
    refine XS.sipush X0.here hx rfl (hb hby d3_37) ?_
    refine XS.iand X0.here hx rfl (hb hby d3_40) rfl ?_
    show Steps p.tables e below (s₁.setTop (mkF m 41 #[.val (.ref qa), .val (.int qp), .val (.long qc), .second, .val (.int ((qp + l0) + l1)), .val (.long (((0 : Int64) + u0) + u1)), .second, .val (.int ((qf ((qp + l0)).toNatClampNeg) &&& (255 : Int32))), .val (.int l1)] [(.int ((qf (((qp + l0) + l1)).toNatClampNeg) &&& (255 : Int32)))])) t
    refine XS.istore X0.here hx rfl (hb hby d3_41) rfl (l' := #[.val (.ref qa), .val (.int qp), .val (.long qc), .second, .val (.int ((qp + l0) + l1)), .val (.long (((0 : Int64) + u0) + u1)), .second, .val (.int ((qf (((qp + l0) + l1)).toNatClampNeg) &&& (255 : Int32))), .val (.int l1)]) rfl ?_
    refine XS.iload X0.here hx rfl (hb hby d3_43) rfl ?_
    refine XS.sipush X0.here hx rfl (hb hby d3_45) ?_
    show Steps p.tables e below (s₁.setTop (mkF m 48 #[.val (.ref qa), .val (.int qp), .val (.long qc), .second, .val (.int ((qp + l0) + l1)), .val (.long (((0 : Int64) + u0) + u1)), .second, .val (.int ((qf (((qp + l0) + l1)).toNatClampNeg) &&& (255 : Int32))), .val (.int l1)] [(.int (128 : Int32)), (.int ((qf (((qp + l0) + l1)).toNatClampNeg) &&& (255 : Int32)))])) t
    exact k)
  obtain ⟨v50_l8, hv50_l8, P50⟩ : ∃ (v50_l8 : Int32), (v50_l8 = (if ((qf (((qp + l0) + l1)).toNatClampNeg) &&& (255 : Int32)) < (128 : Int32) then (1 : Int32) else (if ((qf (((qp + l0) + l1)).toNatClampNeg) &&& (255 : Int32)) < (224 : Int32) then (2 : Int32) else (if ((qf (((qp + l0) + l1)).toNatClampNeg) &&& (255 : Int32)) < (240 : Int32) then (3 : Int32) else (4 : Int32))))) ∧ (own_Go p e below S0 (s₁.setTop (mkF m 88 #[.val (.ref qa), .val (.int qp), .val (.long qc), .second, .val (.int ((qp + l0) + l1)), .val (.long (((0 : Int64) + u0) + u1)), .second, .val (.int ((qf (((qp + l0) + l1)).toNatClampNeg) &&& (255 : Int32))), .val (.int v50_l8)] []))) := by
    by_cases c41 : ((qf (((qp + l0) + l1)).toNatClampNeg) &&& (255 : Int32)) < (128 : Int32)
    · skip
      have P42 : own_Go p e below S0 (s₁.setTop (mkF m 88 #[.val (.ref qa), .val (.int qp), .val (.long qc), .second, .val (.int ((qp + l0) + l1)), .val (.long (((0 : Int64) + u0) + u1)), .second, .val (.int ((qf (((qp + l0) + l1)).toNatClampNeg) &&& (255 : Int32))), .val (.int (1 : Int32))] [])) := fun t k => P40 t (by
        show Steps p.tables e below (s₁.setTop (mkF m 48 #[.val (.ref qa), .val (.int qp), .val (.long qc), .second, .val (.int ((qp + l0) + l1)), .val (.long (((0 : Int64) + u0) + u1)), .second, .val (.int ((qf (((qp + l0) + l1)).toNatClampNeg) &&& (255 : Int32))), .val (.int l1)] [(.int (128 : Int32)), (.int ((qf (((qp + l0) + l1)).toNatClampNeg) &&& (255 : Int32)))])) t
        refine XS.icmpNo X0.here hx rfl (hb hby d3_48) rfl (tlt c41).2.1 ?_
        refine XS.iconst X0.here hx rfl (hb hby d3_51) ?_
        refine XS.istore X0.here hx rfl (hb hby d3_52) rfl (l' := #[.val (.ref qa), .val (.int qp), .val (.long qc), .second, .val (.int ((qp + l0) + l1)), .val (.long (((0 : Int64) + u0) + u1)), .second, .val (.int ((qf (((qp + l0) + l1)).toNatClampNeg) &&& (255 : Int32))), .val (.int (1 : Int32))]) rfl ?_
        refine XS.goto X0.here hx rfl (pc0 := 54) (pc' := 88) rfl (hb hby d3_54) (by decide) (by decide) ?_
        show Steps p.tables e below (s₁.setTop (mkF m 88 #[.val (.ref qa), .val (.int qp), .val (.long qc), .second, .val (.int ((qp + l0) + l1)), .val (.long (((0 : Int64) + u0) + u1)), .second, .val (.int ((qf (((qp + l0) + l1)).toNatClampNeg) &&& (255 : Int32))), .val (.int (1 : Int32))] [])) t
        exact k)
      exact ⟨(1 : Int32), (Eq.symm (if_pos c41)), P42⟩
    · skip
      have P43 : own_Go p e below S0 (s₁.setTop (mkF m 62 #[.val (.ref qa), .val (.int qp), .val (.long qc), .second, .val (.int ((qp + l0) + l1)), .val (.long (((0 : Int64) + u0) + u1)), .second, .val (.int ((qf (((qp + l0) + l1)).toNatClampNeg) &&& (255 : Int32))), .val (.int l1)] [(.int (224 : Int32)), (.int ((qf (((qp + l0) + l1)).toNatClampNeg) &&& (255 : Int32)))])) := fun t k => P40 t (by
        show Steps p.tables e below (s₁.setTop (mkF m 48 #[.val (.ref qa), .val (.int qp), .val (.long qc), .second, .val (.int ((qp + l0) + l1)), .val (.long (((0 : Int64) + u0) + u1)), .second, .val (.int ((qf (((qp + l0) + l1)).toNatClampNeg) &&& (255 : Int32))), .val (.int l1)] [(.int (128 : Int32)), (.int ((qf (((qp + l0) + l1)).toNatClampNeg) &&& (255 : Int32)))])) t
        refine XS.icmpYes X0.here hx rfl (pc0 := 48) (pc' := 57) rfl (hb hby d3_48) rfl (flt c41).2.1 (by decide) (by decide) ?_
        refine XS.iload X0.here hx rfl (hb hby d3_57) rfl ?_
        refine XS.sipush X0.here hx rfl (hb hby d3_59) ?_
        show Steps p.tables e below (s₁.setTop (mkF m 62 #[.val (.ref qa), .val (.int qp), .val (.long qc), .second, .val (.int ((qp + l0) + l1)), .val (.long (((0 : Int64) + u0) + u1)), .second, .val (.int ((qf (((qp + l0) + l1)).toNatClampNeg) &&& (255 : Int32))), .val (.int l1)] [(.int (224 : Int32)), (.int ((qf (((qp + l0) + l1)).toNatClampNeg) &&& (255 : Int32)))])) t
        exact k)
      by_cases c44 : ((qf (((qp + l0) + l1)).toNatClampNeg) &&& (255 : Int32)) < (224 : Int32)
      · skip
        have P45 : own_Go p e below S0 (s₁.setTop (mkF m 88 #[.val (.ref qa), .val (.int qp), .val (.long qc), .second, .val (.int ((qp + l0) + l1)), .val (.long (((0 : Int64) + u0) + u1)), .second, .val (.int ((qf (((qp + l0) + l1)).toNatClampNeg) &&& (255 : Int32))), .val (.int (2 : Int32))] [])) := fun t k => P43 t (by
          show Steps p.tables e below (s₁.setTop (mkF m 62 #[.val (.ref qa), .val (.int qp), .val (.long qc), .second, .val (.int ((qp + l0) + l1)), .val (.long (((0 : Int64) + u0) + u1)), .second, .val (.int ((qf (((qp + l0) + l1)).toNatClampNeg) &&& (255 : Int32))), .val (.int l1)] [(.int (224 : Int32)), (.int ((qf (((qp + l0) + l1)).toNatClampNeg) &&& (255 : Int32)))])) t
          refine XS.icmpNo X0.here hx rfl (hb hby d3_62) rfl (tlt c44).2.1 ?_
          refine XS.iconst X0.here hx rfl (hb hby d3_65) ?_
          refine XS.istore X0.here hx rfl (hb hby d3_66) rfl (l' := #[.val (.ref qa), .val (.int qp), .val (.long qc), .second, .val (.int ((qp + l0) + l1)), .val (.long (((0 : Int64) + u0) + u1)), .second, .val (.int ((qf (((qp + l0) + l1)).toNatClampNeg) &&& (255 : Int32))), .val (.int (2 : Int32))]) rfl ?_
          refine XS.goto X0.here hx rfl (pc0 := 68) (pc' := 88) rfl (hb hby d3_68) (by decide) (by decide) ?_
          show Steps p.tables e below (s₁.setTop (mkF m 88 #[.val (.ref qa), .val (.int qp), .val (.long qc), .second, .val (.int ((qp + l0) + l1)), .val (.long (((0 : Int64) + u0) + u1)), .second, .val (.int ((qf (((qp + l0) + l1)).toNatClampNeg) &&& (255 : Int32))), .val (.int (2 : Int32))] [])) t
          exact k)
        exact ⟨(2 : Int32), (Eq.symm (Eq.trans (if_neg c41) (if_pos c44))), P45⟩
      · skip
        have P46 : own_Go p e below S0 (s₁.setTop (mkF m 76 #[.val (.ref qa), .val (.int qp), .val (.long qc), .second, .val (.int ((qp + l0) + l1)), .val (.long (((0 : Int64) + u0) + u1)), .second, .val (.int ((qf (((qp + l0) + l1)).toNatClampNeg) &&& (255 : Int32))), .val (.int l1)] [(.int (240 : Int32)), (.int ((qf (((qp + l0) + l1)).toNatClampNeg) &&& (255 : Int32)))])) := fun t k => P43 t (by
          show Steps p.tables e below (s₁.setTop (mkF m 62 #[.val (.ref qa), .val (.int qp), .val (.long qc), .second, .val (.int ((qp + l0) + l1)), .val (.long (((0 : Int64) + u0) + u1)), .second, .val (.int ((qf (((qp + l0) + l1)).toNatClampNeg) &&& (255 : Int32))), .val (.int l1)] [(.int (224 : Int32)), (.int ((qf (((qp + l0) + l1)).toNatClampNeg) &&& (255 : Int32)))])) t
          refine XS.icmpYes X0.here hx rfl (pc0 := 62) (pc' := 71) rfl (hb hby d3_62) rfl (flt c44).2.1 (by decide) (by decide) ?_
          refine XS.iload X0.here hx rfl (hb hby d3_71) rfl ?_
          refine XS.sipush X0.here hx rfl (hb hby d3_73) ?_
          show Steps p.tables e below (s₁.setTop (mkF m 76 #[.val (.ref qa), .val (.int qp), .val (.long qc), .second, .val (.int ((qp + l0) + l1)), .val (.long (((0 : Int64) + u0) + u1)), .second, .val (.int ((qf (((qp + l0) + l1)).toNatClampNeg) &&& (255 : Int32))), .val (.int l1)] [(.int (240 : Int32)), (.int ((qf (((qp + l0) + l1)).toNatClampNeg) &&& (255 : Int32)))])) t
          exact k)
        by_cases c47 : ((qf (((qp + l0) + l1)).toNatClampNeg) &&& (255 : Int32)) < (240 : Int32)
        · skip
          have P48 : own_Go p e below S0 (s₁.setTop (mkF m 88 #[.val (.ref qa), .val (.int qp), .val (.long qc), .second, .val (.int ((qp + l0) + l1)), .val (.long (((0 : Int64) + u0) + u1)), .second, .val (.int ((qf (((qp + l0) + l1)).toNatClampNeg) &&& (255 : Int32))), .val (.int (3 : Int32))] [])) := fun t k => P46 t (by
            show Steps p.tables e below (s₁.setTop (mkF m 76 #[.val (.ref qa), .val (.int qp), .val (.long qc), .second, .val (.int ((qp + l0) + l1)), .val (.long (((0 : Int64) + u0) + u1)), .second, .val (.int ((qf (((qp + l0) + l1)).toNatClampNeg) &&& (255 : Int32))), .val (.int l1)] [(.int (240 : Int32)), (.int ((qf (((qp + l0) + l1)).toNatClampNeg) &&& (255 : Int32)))])) t
            refine XS.icmpNo X0.here hx rfl (hb hby d3_76) rfl (tlt c47).2.1 ?_
            refine XS.iconst X0.here hx rfl (hb hby d3_79) ?_
            refine XS.istore X0.here hx rfl (hb hby d3_80) rfl (l' := #[.val (.ref qa), .val (.int qp), .val (.long qc), .second, .val (.int ((qp + l0) + l1)), .val (.long (((0 : Int64) + u0) + u1)), .second, .val (.int ((qf (((qp + l0) + l1)).toNatClampNeg) &&& (255 : Int32))), .val (.int (3 : Int32))]) rfl ?_
            refine XS.goto X0.here hx rfl (pc0 := 82) (pc' := 88) rfl (hb hby d3_82) (by decide) (by decide) ?_
            show Steps p.tables e below (s₁.setTop (mkF m 88 #[.val (.ref qa), .val (.int qp), .val (.long qc), .second, .val (.int ((qp + l0) + l1)), .val (.long (((0 : Int64) + u0) + u1)), .second, .val (.int ((qf (((qp + l0) + l1)).toNatClampNeg) &&& (255 : Int32))), .val (.int (3 : Int32))] [])) t
            exact k)
          exact ⟨(3 : Int32), (Eq.symm (Eq.trans (if_neg c41) (Eq.trans (if_neg c44) (if_pos c47)))), P48⟩
        · skip
          have P49 : own_Go p e below S0 (s₁.setTop (mkF m 88 #[.val (.ref qa), .val (.int qp), .val (.long qc), .second, .val (.int ((qp + l0) + l1)), .val (.long (((0 : Int64) + u0) + u1)), .second, .val (.int ((qf (((qp + l0) + l1)).toNatClampNeg) &&& (255 : Int32))), .val (.int (4 : Int32))] [])) := fun t k => P46 t (by
            show Steps p.tables e below (s₁.setTop (mkF m 76 #[.val (.ref qa), .val (.int qp), .val (.long qc), .second, .val (.int ((qp + l0) + l1)), .val (.long (((0 : Int64) + u0) + u1)), .second, .val (.int ((qf (((qp + l0) + l1)).toNatClampNeg) &&& (255 : Int32))), .val (.int l1)] [(.int (240 : Int32)), (.int ((qf (((qp + l0) + l1)).toNatClampNeg) &&& (255 : Int32)))])) t
            refine XS.icmpYes X0.here hx rfl (pc0 := 76) (pc' := 85) rfl (hb hby d3_76) rfl (flt c47).2.1 (by decide) (by decide) ?_
            refine XS.iconst X0.here hx rfl (hb hby d3_85) ?_
            refine XS.istore X0.here hx rfl (hb hby d3_86) rfl (l' := #[.val (.ref qa), .val (.int qp), .val (.long qc), .second, .val (.int ((qp + l0) + l1)), .val (.long (((0 : Int64) + u0) + u1)), .second, .val (.int ((qf (((qp + l0) + l1)).toNatClampNeg) &&& (255 : Int32))), .val (.int (4 : Int32))]) rfl ?_
            show Steps p.tables e below (s₁.setTop (mkF m 88 #[.val (.ref qa), .val (.int qp), .val (.long qc), .second, .val (.int ((qp + l0) + l1)), .val (.long (((0 : Int64) + u0) + u1)), .second, .val (.int ((qf (((qp + l0) + l1)).toNatClampNeg) &&& (255 : Int32))), .val (.int (4 : Int32))] [])) t
            exact k)
          exact ⟨(4 : Int32), (Eq.symm (Eq.trans (if_neg c41) (Eq.trans (if_neg c44) (if_neg c47)))), P49⟩
  obtain rfl : l2 = v50_l8 := by rw [hv50_l8]; exact own_len hcl2
  have P51 : own_Go p e below S0 (s₁.setTop (mkF m 100 #[.val (.ref qa), .val (.int qp), .val (.long qc), .second, .val (.int (((qp + l0) + l1) + l2)), .val (.long (((0 : Int64) + u0) + u1)), .second, .val (.int ((qf (((qp + l0) + l1)).toNatClampNeg) &&& (255 : Int32))), .val (.int l2)] [(.int (4 : Int32)), (.int l2), (.long (((0 : Int64) + u0) + u1))])) := fun t k => P50 t (by
    show Steps p.tables e below (s₁.setTop (mkF m 88 #[.val (.ref qa), .val (.int qp), .val (.long qc), .second, .val (.int ((qp + l0) + l1)), .val (.long (((0 : Int64) + u0) + u1)), .second, .val (.int ((qf (((qp + l0) + l1)).toNatClampNeg) &&& (255 : Int32))), .val (.int l2)] [])) t
    refine XS.iload X0.here hx rfl (hb hby d3_88) rfl ?_
    refine XS.iload X0.here hx rfl (hb hby d3_90) rfl ?_
    refine XS.iadd X0.here hx rfl (hb hby d3_92) rfl ?_
    refine XS.istore X0.here hx rfl (hb hby d3_93) rfl (l' := #[.val (.ref qa), .val (.int qp), .val (.long qc), .second, .val (.int (((qp + l0) + l1) + l2)), .val (.long (((0 : Int64) + u0) + u1)), .second, .val (.int ((qf (((qp + l0) + l1)).toNatClampNeg) &&& (255 : Int32))), .val (.int l2)]) rfl ?_
    refine XS.lload X0.here hx rfl (hb hby d3_95) rfl ?_
    refine XS.iload X0.here hx rfl (hb hby d3_97) rfl ?_
    show Steps p.tables e below (s₁.setTop (mkF m 99 #[.val (.ref qa), .val (.int qp), .val (.long qc), .second, .val (.int (((qp + l0) + l1) + l2)), .val (.long (((0 : Int64) + u0) + u1)), .second, .val (.int ((qf (((qp + l0) + l1)).toNatClampNeg) &&& (255 : Int32))), .val (.int l2)] [(.int l2), (.long (((0 : Int64) + u0) + u1))])) t
    refine XS.iconst X0.here hx rfl (hb hby d3_99) ?_
    show Steps p.tables e below (s₁.setTop (mkF m 100 #[.val (.ref qa), .val (.int qp), .val (.long qc), .second, .val (.int (((qp + l0) + l1) + l2)), .val (.long (((0 : Int64) + u0) + u1)), .second, .val (.int ((qf (((qp + l0) + l1)).toNatClampNeg) &&& (255 : Int32))), .val (.int l2)] [(.int (4 : Int32)), (.int l2), (.long (((0 : Int64) + u0) + u1))])) t
    exact k)
  obtain ⟨v55_s0, hv55_s0, P55⟩ : ∃ (v55_s0 : Int64), (v55_s0 = (if l2 = (4 : Int32) then (2 : Int64) else (1 : Int64))) ∧ (own_Go p e below S0 (s₁.setTop (mkF m 110 #[.val (.ref qa), .val (.int qp), .val (.long qc), .second, .val (.int (((qp + l0) + l1) + l2)), .val (.long (((0 : Int64) + u0) + u1)), .second, .val (.int ((qf (((qp + l0) + l1)).toNatClampNeg) &&& (255 : Int32))), .val (.int l2)] [(.long v55_s0), (.long (((0 : Int64) + u0) + u1))]))) := by
    by_cases c52 : l2 = (4 : Int32)
    · skip
      have P53 : own_Go p e below S0 (s₁.setTop (mkF m 110 #[.val (.ref qa), .val (.int qp), .val (.long qc), .second, .val (.int (((qp + l0) + l1) + l2)), .val (.long (((0 : Int64) + u0) + u1)), .second, .val (.int ((qf (((qp + l0) + l1)).toNatClampNeg) &&& (255 : Int32))), .val (.int l2)] [(.long (2 : Int64)), (.long (((0 : Int64) + u0) + u1))])) := fun t k => P51 t (by
        show Steps p.tables e below (s₁.setTop (mkF m 100 #[.val (.ref qa), .val (.int qp), .val (.long qc), .second, .val (.int (((qp + l0) + l1) + l2)), .val (.long (((0 : Int64) + u0) + u1)), .second, .val (.int ((qf (((qp + l0) + l1)).toNatClampNeg) &&& (255 : Int32))), .val (.int l2)] [(.int (4 : Int32)), (.int l2), (.long (((0 : Int64) + u0) + u1))])) t
        refine XS.icmpNo X0.here hx rfl (hb hby d3_100) rfl (teq c52).2 ?_
        show Steps p.tables e below (s₁.setTop (mkF m 103 #[.val (.ref qa), .val (.int qp), .val (.long qc), .second, .val (.int (((qp + l0) + l1) + l2)), .val (.long (((0 : Int64) + u0) + u1)), .second, .val (.int ((qf (((qp + l0) + l1)).toNatClampNeg) &&& (255 : Int32))), .val (.int l2)] [(.long (((0 : Int64) + u0) + u1))])) t
        refine X0.ldc2Long hx hown (mvT hZ (hw _ (List.mem_of_getElem? (i := 13) rfl))) (g := (mkF m 103 #[.val (.ref qa), .val (.int qp), .val (.long qc), .second, .val (.int (((qp + l0) + l1) + l2)), .val (.long (((0 : Int64) + u0) + u1)), .second, .val (.int ((qf (((qp + l0) + l1)).toNatClampNeg) &&& (255 : Int32))), .val (.int l2)] [(.long (((0 : Int64) + u0) + u1))])) rfl (hb hby d3_103) _ ?_
        refine XS.goto X0.here hx rfl (pc0 := 106) (pc' := 110) rfl (hb hby d3_106) (by decide) (by decide) ?_
        show Steps p.tables e below (s₁.setTop (mkF m 110 #[.val (.ref qa), .val (.int qp), .val (.long qc), .second, .val (.int (((qp + l0) + l1) + l2)), .val (.long (((0 : Int64) + u0) + u1)), .second, .val (.int ((qf (((qp + l0) + l1)).toNatClampNeg) &&& (255 : Int32))), .val (.int l2)] [(.long (2 : Int64)), (.long (((0 : Int64) + u0) + u1))])) t
        exact k)
      exact ⟨(2 : Int64), (Eq.symm (if_pos c52)), P53⟩
    · skip
      have P54 : own_Go p e below S0 (s₁.setTop (mkF m 110 #[.val (.ref qa), .val (.int qp), .val (.long qc), .second, .val (.int (((qp + l0) + l1) + l2)), .val (.long (((0 : Int64) + u0) + u1)), .second, .val (.int ((qf (((qp + l0) + l1)).toNatClampNeg) &&& (255 : Int32))), .val (.int l2)] [(.long (1 : Int64)), (.long (((0 : Int64) + u0) + u1))])) := fun t k => P51 t (by
        show Steps p.tables e below (s₁.setTop (mkF m 100 #[.val (.ref qa), .val (.int qp), .val (.long qc), .second, .val (.int (((qp + l0) + l1) + l2)), .val (.long (((0 : Int64) + u0) + u1)), .second, .val (.int ((qf (((qp + l0) + l1)).toNatClampNeg) &&& (255 : Int32))), .val (.int l2)] [(.int (4 : Int32)), (.int l2), (.long (((0 : Int64) + u0) + u1))])) t
        refine XS.icmpYes X0.here hx rfl (pc0 := 100) (pc' := 109) rfl (hb hby d3_100) rfl (feq c52).2 (by decide) (by decide) ?_
        refine XS.lconst X0.here hx rfl (hb hby d3_109) ?_
        show Steps p.tables e below (s₁.setTop (mkF m 110 #[.val (.ref qa), .val (.int qp), .val (.long qc), .second, .val (.int (((qp + l0) + l1) + l2)), .val (.long (((0 : Int64) + u0) + u1)), .second, .val (.int ((qf (((qp + l0) + l1)).toNatClampNeg) &&& (255 : Int32))), .val (.int l2)] [(.long (1 : Int64)), (.long (((0 : Int64) + u0) + u1))])) t
        exact k)
      exact ⟨(1 : Int64), (Eq.symm (if_neg c52)), P54⟩
  obtain rfl : u2 = v55_s0 := hu2.trans (Eq.symm hv55_s0)
  have c56 : ¬ (((((0 : Int64) + u0) + u1) + u2) < qc) := hfin
  have P57 : own_Go p e below S0 (s₁.setTop (mkF m 118 #[.val (.ref qa), .val (.int qp), .val (.long qc), .second, .val (.int (((qp + l0) + l1) + l2)), .val (.long ((((0 : Int64) + u0) + u1) + u2)), .second, .val (.int ((qf (((qp + l0) + l1)).toNatClampNeg) &&& (255 : Int32))), .val (.int l2)] [(.int (((qp + l0) + l1) + l2))])) := fun t k => P55 t (by
    show Steps p.tables e below (s₁.setTop (mkF m 110 #[.val (.ref qa), .val (.int qp), .val (.long qc), .second, .val (.int (((qp + l0) + l1) + l2)), .val (.long (((0 : Int64) + u0) + u1)), .second, .val (.int ((qf (((qp + l0) + l1)).toNatClampNeg) &&& (255 : Int32))), .val (.int l2)] [(.long u2), (.long (((0 : Int64) + u0) + u1))])) t
    refine XS.ladd X0.here hx rfl (hb hby d3_110) rfl ?_
    refine XS.lstore X0.here hx rfl (hb hby d3_111) rfl (l' := #[.val (.ref qa), .val (.int qp), .val (.long qc), .second, .val (.int (((qp + l0) + l1) + l2)), .val (.long ((((0 : Int64) + u0) + u1) + u2)), .second, .val (.int ((qf (((qp + l0) + l1)).toNatClampNeg) &&& (255 : Int32))), .val (.int l2)]) rfl ?_
    refine XS.goto X0.here hx rfl (pc0 := 113) (pc' := 26) rfl (hb hby d3_113) (by decide) (by decide) ?_
    refine XS.lload X0.here hx rfl (hb hby d3_26) rfl ?_
    refine XS.lloadN X0.here hx rfl (hb hby d3_28) rfl ?_
    refine XS.lcmp X0.here hx rfl (hb hby d3_29) rfl ?_
    show Steps p.tables e below (s₁.setTop (mkF m 30 #[.val (.ref qa), .val (.int qp), .val (.long qc), .second, .val (.int (((qp + l0) + l1) + l2)), .val (.long ((((0 : Int64) + u0) + u1) + u2)), .second, .val (.int ((qf (((qp + l0) + l1)).toNatClampNeg) &&& (255 : Int32))), .val (.int l2)] [(.int (lcmpW ((((0 : Int64) + u0) + u1) + u2) qc))])) t
    refine XS.ifYes X0.here hx rfl (pc0 := 30) (pc' := 116) rfl (hb hby d3_30) rfl ((if0 _ _).trans (flt (fun q => c56 ((lw_lt ((((0 : Int64) + u0) + u1) + u2) qc).mp q))).2.1) (by decide) (by decide) ?_
    refine XS.iload X0.here hx rfl (hb hby d3_116) rfl ?_
    show Steps p.tables e below (s₁.setTop (mkF m 118 #[.val (.ref qa), .val (.int qp), .val (.long qc), .second, .val (.int (((qp + l0) + l1) + l2)), .val (.long ((((0 : Int64) + u0) + u1) + u2)), .second, .val (.int ((qf (((qp + l0) + l1)).toNatClampNeg) &&& (255 : Int32))), .val (.int l2)] [(.int (((qp + l0) + l1) + l2))])) t
    exact k)
  obtain ⟨fs, hr, hrun, hended, hW, hsame⟩ := X0.leave (v := some (.int (((qp + l0) + l1) + l2))) (fun h => by rw [Bd.returns] at h; cases h)
  refine ⟨_, _, own_from hS0 (P57 _ ?_), hrun, hended, _, _, rfl, ?_, ⟨_, rfl⟩, hW, hsame.mono (by decide) (by decide)⟩
  · show Steps p.tables e below (s₁.setTop (mkF m 118 #[.val (.ref qa), .val (.int qp), .val (.long qc), .second, .val (.int (((qp + l0) + l1) + l2)), .val (.long ((((0 : Int64) + u0) + u1) + u2)), .second, .val (.int ((qf (((qp + l0) + l1)).toNatClampNeg) &&& (255 : Int32))), .val (.int l2)] [(.int (((qp + l0) + l1) + l2))])) _
    exact retI X0 hx Bd.returns (hb hby d3_118) hr
  · show Q3n3 Z qa qp qc qk qf l0 u0 l1 u1 l2 u2 h0 n0 _ s₁.heap _
    rw [e0]
    exact ⟨rfl, N0, rfl⟩
theorem pd_0 : parseMethodDescriptor "([BII)V" = some ⟨[(.array .byte), .int, .int], none⟩ := by decide +kernel
theorem pd_1 : parseMethodDescriptor "([BIII)I" = some ⟨[(.array .byte), .int, .int, .int], some .int⟩ := by decide +kernel
theorem pd_2 : parseMethodDescriptor "([BIJ)I" = some ⟨[(.array .byte), .int, .long], some .int⟩ := by decide +kernel
theorem ef_0 (m : MethodId) (i0 : Int32) (i1 : Int32) (i2 : Int32) (i3 : Int32) (i4 : Int64) : entryFrame m #[(.int i0), (.int i1), (.int i2), (.int i3), (.long i4)] maxLocals = mkF m 0 #[.val (.int i0), .val (.int i1), .val (.int i2), .val (.int i3), .val (.long i4), .second, .unset, .unset, .unset, .unset, .unset, .unset, .unset, .unset, .unset, .unset, .unset, .unset, .unset, .unset, .unset, .unset, .unset, .unset] [] := by first | (simp [entryFrame, mkF, argsToLocals, Value.category, maxLocals]; done) | rfl
def Q0 (Z : State) (i0 : Int32) (i1 : Int32) (i2 : Int32) (i3 : Int32) (i4 : Int64) (h0 : Heap) (n0 : Nat) (v : Option Value) (h : Heap) (L : List Loc) : Prop := v = some (.int 1) ∧ Fr n0 L
set_option maxRecDepth 65536 in
set_option maxHeartbeats 40000000 in
theorem rm0 (l : Launch) (Z : State) (a0 : Array Value) (hw : ∀ d ∈ tables_1, d.before a0 Z = true) (ws : List Jvm.Cond) (i0 : Int32) (i1 : Int32) (i2 : Int32) (i3 : Int32) (i4 : Int64) (h0 : Heap) (n0 : Nat) (Z0 : n0 ≤ h0.size) :
    MetFree l x (head1 (Jvm.Cond.code x code maxLocals ret :: ws) room_1) (fun a U => a = #[(.int i0), (.int i1), (.int i2), (.int i3), (.long i4)] ∧ Z.Warmed39 U.vm ∧ U.heap = h0) (fun _ _ _ _ _ => True) (fun _ U o U' => ∃ v L, o = .returned v ∧ Q0 Z i0 i1 i2 i3 i4 h0 n0 v U'.heap L ∧ FrameEnd U o U' L room_1.cells room_1.slots) := by
  refine MetFree.of_bodySF (plainFor_of_name pn_1) hisR ?_
  intro p e s m args below meth c s₁ Bd hml0 hP hK
  obtain ⟨rfl, hZ, hh⟩ := hP
  have hx := Bd.exec
  have hby := Bd.bytes
  have hml : c.maxLocals = 24 := hml0
  have hown : s.vm.findClass "com/example/strict_acl/strictacl/Utf8TextByteAfterPinLaw" = some m.cls := findClass_of_methodNamed Bd.named
  have hnm := (name_of_methodNamed Bd.named Bd.method).1
  have X0 : Stand p l e room_1 s m #[(.int i0), (.int i1), (.int i2), (.int i3), (.long i4)] below meth c s₁ [] 0 0 := Stand.of_body Bd
  have e0 : s₁.heap = h0 := by rw [← hh, Bd.state]; rfl
  have N0 := Fr.nil n0
  obtain ⟨S0, hS0⟩ : ∃ z, z = s₁.setTop (entryFrame m #[(.int i0), (.int i1), (.int i2), (.int i3), (.long i4)] maxLocals) := ⟨_, rfl⟩
  have P0 : own_Go p e below S0 (s₁.setTop (mkF m 0 #[.val (.int i0), .val (.int i1), .val (.int i2), .val (.int i3), .val (.long i4), .second, .unset, .unset, .unset, .unset, .unset, .unset, .unset, .unset, .unset, .unset, .unset, .unset, .unset, .unset, .unset, .unset, .unset, .unset] [])) := fun t k => by rw [hS0]; exact castTop (ef_0 m i0 i1 i2 i3 i4) k
  have P1 : own_Go p e below S0 (s₁.setTop (mkF m 2 #[.val (.int i0), .val (.int i1), .val (.int i2), .val (.int i3), .val (.long i4), .second, .unset, .unset, .unset, .unset, .unset, .unset, .unset, .unset, .unset, .unset, .unset, .unset, .unset, .unset, .unset, .unset, .unset, .unset] [(.int (16 : Int32))])) := fun t k => P0 t (by
    show Steps p.tables e below (s₁.setTop (mkF m 0 #[.val (.int i0), .val (.int i1), .val (.int i2), .val (.int i3), .val (.long i4), .second, .unset, .unset, .unset, .unset, .unset, .unset, .unset, .unset, .unset, .unset, .unset, .unset, .unset, .unset, .unset, .unset, .unset, .unset] [])) t
    refine XS.bipush X0.here hx rfl (hb hby at_0) ?_
    show Steps p.tables e below (s₁.setTop (mkF m 2 #[.val (.int i0), .val (.int i1), .val (.int i2), .val (.int i3), .val (.long i4), .second, .unset, .unset, .unset, .unset, .unset, .unset, .unset, .unset, .unset, .unset, .unset, .unset, .unset, .unset, .unset, .unset, .unset, .unset] [(.int (16 : Int32))])) t
    exact k)
  obtain ⟨T2, h2, k2, X2, e2, E2, A2, st2⟩ := newP X0 hx hZ (hw _ (List.mem_of_getElem? (i := 0) rfl)) e0 (g := (mkF m 2 #[.val (.int i0), .val (.int i1), .val (.int i2), .val (.int i3), .val (.long i4), .second, .unset, .unset, .unset, .unset, .unset, .unset, .unset, .unset, .unset, .unset, .unset, .unset, .unset, .unset, .unset, .unset, .unset, .unset] [(.int (16 : Int32))])) rfl (hb hby at_2) rfl (by decide) (cap := 16) (by decide) (by decide) (by decide) (by decide)
  obtain ⟨b2, g2⟩ : ∃ z, z = h0.size := ⟨_, rfl⟩
  rw [← g2] at A2 st2
  have sz_b2 : h0.size ≤ b2 := Nat.le_of_eq g2.symm
  have g_b2 : n0 ≤ b2 := Nat.le_trans Z0 sz_b2
  have o_b2 : h0.size ≤ b2 := sz_b2
  have K2 : Keep h0 h2 [] := (Keep.refl h0 []).ext E2
  have V2 : own_Byt Z h2 b2 k2 (fun _ => (0 : Int32)) := own_ofNew (Arv.new A2 (by decide))
  have P2 : own_Go p e below S0 (T2.setTop (mkF m 4 #[.val (.int i0), .val (.int i1), .val (.int i2), .val (.int i3), .val (.long i4), .second, .unset, .unset, .unset, .unset, .unset, .unset, .unset, .unset, .unset, .unset, .unset, .unset, .unset, .unset, .unset, .unset, .unset, .unset] [(.ref b2)])) := fun t k => P1 t (st2 _ k)
  have P3 : own_Go p e below S0 (T2.setTop (mkF m 12 #[.val (.int i0), .val (.int i1), .val (.int i2), .val (.int i3), .val (.long i4), .second, .val (.ref b2), .unset, .unset, .unset, .unset, .unset, .unset, .unset, .unset, .unset, .unset, .unset, .unset, .unset, .unset, .unset, .unset, .unset] [(.int (i4.toInt32)), (.int (0 : Int32)), (.ref b2)])) := fun t k => P2 t (by
    show Steps p.tables e below (T2.setTop (mkF m 4 #[.val (.int i0), .val (.int i1), .val (.int i2), .val (.int i3), .val (.long i4), .second, .unset, .unset, .unset, .unset, .unset, .unset, .unset, .unset, .unset, .unset, .unset, .unset, .unset, .unset, .unset, .unset, .unset, .unset] [(.ref b2)])) t
    refine XS.astore X2.here hx rfl (hb hby at_4) rfl rfl (l' := #[.val (.int i0), .val (.int i1), .val (.int i2), .val (.int i3), .val (.long i4), .second, .val (.ref b2), .unset, .unset, .unset, .unset, .unset, .unset, .unset, .unset, .unset, .unset, .unset, .unset, .unset, .unset, .unset, .unset, .unset]) rfl ?_
    refine XS.aload X2.here hx rfl (hb hby at_6) rfl rfl ?_
    refine XS.iconst X2.here hx rfl (hb hby at_8) ?_
    refine XS.lload X2.here hx rfl (hb hby at_9) rfl ?_
    refine XS.l2i X2.here hx rfl (hb hby at_11) rfl ?_
    show Steps p.tables e below (T2.setTop (mkF m 12 #[.val (.int i0), .val (.int i1), .val (.int i2), .val (.int i3), .val (.long i4), .second, .val (.ref b2), .unset, .unset, .unset, .unset, .unset, .unset, .unset, .unset, .unset, .unset, .unset, .unset, .unset, .unset, .unset, .unset, .unset] [(.int (i4.toInt32)), (.int (0 : Int32)), (.ref b2)])) t
    exact k)
  obtain ⟨_, _, ⟨T4, L4, k4, n4⟩, -, X4, ⟨Lc4, hQ4, l4, y4, z4⟩, st4⟩ := Jvm.LawKit.callS X2 hx (y := (⟨"com/example/strict_acl/strictacl/Utf8TextByteAfterPinLaw", "fill", "([BII)V"⟩ : MethodName)) hown (mvT hZ (hw _ (List.mem_of_getElem? (i := 1) rfl))) (mvT hZ (hw _ (List.mem_of_getElem? (i := 2) rfl))) (mvT hZ (hw _ (List.mem_of_getElem? (i := 3) rfl))) (mvT hZ (hw _ (List.mem_of_getElem? (i := 4) rfl))) (by decide) (backOf (W := 0) (rm1a0 l Z a0 hw [] b2 (i4.toInt32) k2 (fun _ => (0 : Int32)) h2 n0 (Nat.le_trans Z0 K2.1) V2 g_b2) hZ (hw _ (List.mem_of_getElem? (i := 4) rfl)) (hw _ (List.mem_of_getElem? (i := 3) rfl)) (by decide) (by decide)) (g := (mkF m 12 #[.val (.int i0), .val (.int i1), .val (.int i2), .val (.int i3), .val (.long i4), .second, .val (.ref b2), .unset, .unset, .unset, .unset, .unset, .unset, .unset, .unset, .unset, .unset, .unset, .unset, .unset, .unset, .unset, .unset, .unset] [(.int (i4.toInt32)), (.int (0 : Int32)), (.ref b2)])) rfl (by rw [hml]; rfl) (argsL := [(.ref b2), (.int (0 : Int32)), (.int (i4.toInt32))]) (rest := []) (lenOf pd_0 rfl) rfl (by show 2 * 0 + _ ≤ _; exact Nat.le_of_eq rfl) (hb hby at_12) (fun _ _ => ⟨rfl, e2, (by decide : 1 + 0 ≤ _), (by decide : 16 + 0 ≤ _)⟩)
  dsimp only [Pt.U, Pt.locs, Pt.cells, Pt.slots] at X4 l4 y4 z4 st4 hQ4
  subst l4 y4 z4
  obtain ⟨f11_4, rfl, N4q, Kc4, F4_0⟩ := hQ4
  have N4 := Fr.app N0 N4q
  have K4 : Keep h0 T4.heap [] := Keep.trans K2 Kc4 (allS (Or.inr o_b2) all0)
  have P4 : own_Go p e below S0 (T4.setTop (mkF m 15 #[.val (.int i0), .val (.int i1), .val (.int i2), .val (.int i3), .val (.long i4), .second, .val (.ref b2), .unset, .unset, .unset, .unset, .unset, .unset, .unset, .unset, .unset, .unset, .unset, .unset, .unset, .unset, .unset, .unset, .unset] [])) := fun t k => P3 t (st4 _ k)
  have P5 : own_Go p e below S0 (T4.setTop (mkF m 24 #[.val (.int i0), .val (.int i1), .val (.int i2), .val (.int i3), .val (.long i4), .second, .val (.ref b2), .unset, .unset, .unset, .unset, .unset, .unset, .unset, .unset, .unset, .unset, .unset, .unset, .unset, .unset, .unset, .unset, .unset] [(.int (((i4.toUInt64 >>> ((32 : Int32) &&& 0x3f).toInt64.toUInt64).toInt64).toInt32)), (.int (4 : Int32)), (.ref b2)])) := fun t k => P4 t (by
    show Steps p.tables e below (T4.setTop (mkF m 15 #[.val (.int i0), .val (.int i1), .val (.int i2), .val (.int i3), .val (.long i4), .second, .val (.ref b2), .unset, .unset, .unset, .unset, .unset, .unset, .unset, .unset, .unset, .unset, .unset, .unset, .unset, .unset, .unset, .unset, .unset] [])) t
    refine XS.aload X4.here hx rfl (hb hby at_15) rfl rfl ?_
    refine XS.iconst X4.here hx rfl (hb hby at_17) ?_
    refine XS.lload X4.here hx rfl (hb hby at_18) rfl ?_
    refine XS.bipush X4.here hx rfl (hb hby at_20) ?_
    refine XS.lushr X4.here hx rfl (hb hby at_22) rfl ?_
    refine XS.l2i X4.here hx rfl (hb hby at_23) rfl ?_
    show Steps p.tables e below (T4.setTop (mkF m 24 #[.val (.int i0), .val (.int i1), .val (.int i2), .val (.int i3), .val (.long i4), .second, .val (.ref b2), .unset, .unset, .unset, .unset, .unset, .unset, .unset, .unset, .unset, .unset, .unset, .unset, .unset, .unset, .unset, .unset, .unset] [(.int (((i4.toUInt64 >>> ((32 : Int32) &&& 0x3f).toInt64.toUInt64).toInt64).toInt32)), (.int (4 : Int32)), (.ref b2)])) t
    exact k)
  obtain ⟨_, _, ⟨T6, L6, k6, n6⟩, -, X6, ⟨Lc6, hQ6, l6, y6, z6⟩, st6⟩ := Jvm.LawKit.callS X4 hx (y := (⟨"com/example/strict_acl/strictacl/Utf8TextByteAfterPinLaw", "fill", "([BII)V"⟩ : MethodName)) hown (mvT hZ (hw _ (List.mem_of_getElem? (i := 1) rfl))) (mvT hZ (hw _ (List.mem_of_getElem? (i := 2) rfl))) (mvT hZ (hw _ (List.mem_of_getElem? (i := 3) rfl))) (mvT hZ (hw _ (List.mem_of_getElem? (i := 4) rfl))) (by decide) (backOf (W := 0) (rm1a4 l Z a0 hw [] b2 (((i4.toUInt64 >>> ((32 : Int32) &&& 0x3f).toInt64.toUInt64).toInt64).toInt32) k2 f11_4 T4.heap n0 (Nat.le_trans Z0 K4.1) F4_0 g_b2) hZ (hw _ (List.mem_of_getElem? (i := 4) rfl)) (hw _ (List.mem_of_getElem? (i := 3) rfl)) (by decide) (by decide)) (g := (mkF m 24 #[.val (.int i0), .val (.int i1), .val (.int i2), .val (.int i3), .val (.long i4), .second, .val (.ref b2), .unset, .unset, .unset, .unset, .unset, .unset, .unset, .unset, .unset, .unset, .unset, .unset, .unset, .unset, .unset, .unset, .unset] [(.int (((i4.toUInt64 >>> ((32 : Int32) &&& 0x3f).toInt64.toUInt64).toInt64).toInt32)), (.int (4 : Int32)), (.ref b2)])) rfl (by rw [hml]; rfl) (argsL := [(.ref b2), (.int (4 : Int32)), (.int (((i4.toUInt64 >>> ((32 : Int32) &&& 0x3f).toInt64.toUInt64).toInt64).toInt32))]) (rest := []) (lenOf pd_0 rfl) rfl (by show 2 * 0 + _ ≤ _; exact Nat.le_of_eq rfl) (hb hby at_24) (fun _ _ => ⟨rfl, rfl, (by decide : 1 + 0 ≤ _), (by decide : 16 + 0 ≤ _)⟩)
  dsimp only [Pt.U, Pt.locs, Pt.cells, Pt.slots] at X6 l6 y6 z6 st6 hQ6
  subst l6 y6 z6
  obtain ⟨f11_6, rfl, N6q, Kc6, F6_0⟩ := hQ6
  have N6 := Fr.app N4 N6q
  have K6 : Keep h0 T6.heap [] := Keep.trans K4 Kc6 (allS (Or.inr o_b2) all0)
  have P6 : own_Go p e below S0 (T6.setTop (mkF m 27 #[.val (.int i0), .val (.int i1), .val (.int i2), .val (.int i3), .val (.long i4), .second, .val (.ref b2), .unset, .unset, .unset, .unset, .unset, .unset, .unset, .unset, .unset, .unset, .unset, .unset, .unset, .unset, .unset, .unset, .unset] [])) := fun t k => P5 t (st6 _ k)
  have P7 : own_Go p e below S0 (T6.setTop (mkF m 36 #[.val (.int i0), .val (.int i1), .val (.int i2), .val (.int i3), .val (.long i4), .second, .val (.ref b2), .unset, .unset, .unset, .unset, .unset, .unset, .unset, .unset, .unset, .unset, .unset, .unset, .unset, .unset, .unset, .unset, .unset] [(.int ((i4.toInt32) ^^^ i1)), (.int (8 : Int32)), (.ref b2)])) := fun t k => P6 t (by
    show Steps p.tables e below (T6.setTop (mkF m 27 #[.val (.int i0), .val (.int i1), .val (.int i2), .val (.int i3), .val (.long i4), .second, .val (.ref b2), .unset, .unset, .unset, .unset, .unset, .unset, .unset, .unset, .unset, .unset, .unset, .unset, .unset, .unset, .unset, .unset, .unset] [])) t
    refine XS.aload X6.here hx rfl (hb hby at_27) rfl rfl ?_
    refine XS.bipush X6.here hx rfl (hb hby at_29) ?_
    refine XS.lload X6.here hx rfl (hb hby at_31) rfl ?_
    refine XS.l2i X6.here hx rfl (hb hby at_33) rfl ?_
    refine XS.iloadN X6.here hx rfl (hb hby at_34) rfl ?_
    refine XS.ixor X6.here hx rfl (hb hby at_35) rfl ?_
    show Steps p.tables e below (T6.setTop (mkF m 36 #[.val (.int i0), .val (.int i1), .val (.int i2), .val (.int i3), .val (.long i4), .second, .val (.ref b2), .unset, .unset, .unset, .unset, .unset, .unset, .unset, .unset, .unset, .unset, .unset, .unset, .unset, .unset, .unset, .unset, .unset] [(.int ((i4.toInt32) ^^^ i1)), (.int (8 : Int32)), (.ref b2)])) t
    exact k)
  obtain ⟨_, _, ⟨T8, L8, k8, n8⟩, -, X8, ⟨Lc8, hQ8, l8, y8, z8⟩, st8⟩ := Jvm.LawKit.callS X6 hx (y := (⟨"com/example/strict_acl/strictacl/Utf8TextByteAfterPinLaw", "fill", "([BII)V"⟩ : MethodName)) hown (mvT hZ (hw _ (List.mem_of_getElem? (i := 1) rfl))) (mvT hZ (hw _ (List.mem_of_getElem? (i := 2) rfl))) (mvT hZ (hw _ (List.mem_of_getElem? (i := 3) rfl))) (mvT hZ (hw _ (List.mem_of_getElem? (i := 4) rfl))) (by decide) (backOf (W := 0) (rm1a8 l Z a0 hw [] b2 ((i4.toInt32) ^^^ i1) k2 f11_6 T6.heap n0 (Nat.le_trans Z0 K6.1) F6_0 g_b2) hZ (hw _ (List.mem_of_getElem? (i := 4) rfl)) (hw _ (List.mem_of_getElem? (i := 3) rfl)) (by decide) (by decide)) (g := (mkF m 36 #[.val (.int i0), .val (.int i1), .val (.int i2), .val (.int i3), .val (.long i4), .second, .val (.ref b2), .unset, .unset, .unset, .unset, .unset, .unset, .unset, .unset, .unset, .unset, .unset, .unset, .unset, .unset, .unset, .unset, .unset] [(.int ((i4.toInt32) ^^^ i1)), (.int (8 : Int32)), (.ref b2)])) rfl (by rw [hml]; rfl) (argsL := [(.ref b2), (.int (8 : Int32)), (.int ((i4.toInt32) ^^^ i1))]) (rest := []) (lenOf pd_0 rfl) rfl (by show 2 * 0 + _ ≤ _; exact Nat.le_of_eq rfl) (hb hby at_36) (fun _ _ => ⟨rfl, rfl, (by decide : 1 + 0 ≤ _), (by decide : 16 + 0 ≤ _)⟩)
  dsimp only [Pt.U, Pt.locs, Pt.cells, Pt.slots] at X8 l8 y8 z8 st8 hQ8
  subst l8 y8 z8
  obtain ⟨f11_8, rfl, N8q, Kc8, F8_0⟩ := hQ8
  have N8 := Fr.app N6 N8q
  have K8 : Keep h0 T8.heap [] := Keep.trans K6 Kc8 (allS (Or.inr o_b2) all0)
  have P8 : own_Go p e below S0 (T8.setTop (mkF m 39 #[.val (.int i0), .val (.int i1), .val (.int i2), .val (.int i3), .val (.long i4), .second, .val (.ref b2), .unset, .unset, .unset, .unset, .unset, .unset, .unset, .unset, .unset, .unset, .unset, .unset, .unset, .unset, .unset, .unset, .unset] [])) := fun t k => P7 t (st8 _ k)
  have P9 : own_Go p e below S0 (T8.setTop (mkF m 51 #[.val (.int i0), .val (.int i1), .val (.int i2), .val (.int i3), .val (.long i4), .second, .val (.ref b2), .unset, .unset, .unset, .unset, .unset, .unset, .unset, .unset, .unset, .unset, .unset, .unset, .unset, .unset, .unset, .unset, .unset] [(.int ((((i4.toUInt64 >>> ((32 : Int32) &&& 0x3f).toInt64.toUInt64).toInt64).toInt32) ^^^ i2)), (.int (12 : Int32)), (.ref b2)])) := fun t k => P8 t (by
    show Steps p.tables e below (T8.setTop (mkF m 39 #[.val (.int i0), .val (.int i1), .val (.int i2), .val (.int i3), .val (.long i4), .second, .val (.ref b2), .unset, .unset, .unset, .unset, .unset, .unset, .unset, .unset, .unset, .unset, .unset, .unset, .unset, .unset, .unset, .unset, .unset] [])) t
    refine XS.aload X8.here hx rfl (hb hby at_39) rfl rfl ?_
    refine XS.bipush X8.here hx rfl (hb hby at_41) ?_
    refine XS.lload X8.here hx rfl (hb hby at_43) rfl ?_
    refine XS.bipush X8.here hx rfl (hb hby at_45) ?_
    refine XS.lushr X8.here hx rfl (hb hby at_47) rfl ?_
    refine XS.l2i X8.here hx rfl (hb hby at_48) rfl ?_
    show Steps p.tables e below (T8.setTop (mkF m 49 #[.val (.int i0), .val (.int i1), .val (.int i2), .val (.int i3), .val (.long i4), .second, .val (.ref b2), .unset, .unset, .unset, .unset, .unset, .unset, .unset, .unset, .unset, .unset, .unset, .unset, .unset, .unset, .unset, .unset, .unset] [(.int (((i4.toUInt64 >>> ((32 : Int32) &&& 0x3f).toInt64.toUInt64).toInt64).toInt32)), (.int (12 : Int32)), (.ref b2)])) t
    refine XS.iloadN X8.here hx rfl (hb hby at_49) rfl ?_
    refine XS.ixor X8.here hx rfl (hb hby at_50) rfl ?_
    show Steps p.tables e below (T8.setTop (mkF m 51 #[.val (.int i0), .val (.int i1), .val (.int i2), .val (.int i3), .val (.long i4), .second, .val (.ref b2), .unset, .unset, .unset, .unset, .unset, .unset, .unset, .unset, .unset, .unset, .unset, .unset, .unset, .unset, .unset, .unset, .unset] [(.int ((((i4.toUInt64 >>> ((32 : Int32) &&& 0x3f).toInt64.toUInt64).toInt64).toInt32) ^^^ i2)), (.int (12 : Int32)), (.ref b2)])) t
    exact k)
  obtain ⟨_, _, ⟨T10, L10, k10, n10⟩, -, X10, ⟨Lc10, hQ10, l10, y10, z10⟩, st10⟩ := Jvm.LawKit.callS X8 hx (y := (⟨"com/example/strict_acl/strictacl/Utf8TextByteAfterPinLaw", "fill", "([BII)V"⟩ : MethodName)) hown (mvT hZ (hw _ (List.mem_of_getElem? (i := 1) rfl))) (mvT hZ (hw _ (List.mem_of_getElem? (i := 2) rfl))) (mvT hZ (hw _ (List.mem_of_getElem? (i := 3) rfl))) (mvT hZ (hw _ (List.mem_of_getElem? (i := 4) rfl))) (by decide) (backOf (W := 0) (rm1a12 l Z a0 hw [] b2 ((((i4.toUInt64 >>> ((32 : Int32) &&& 0x3f).toInt64.toUInt64).toInt64).toInt32) ^^^ i2) k2 f11_8 T8.heap n0 (Nat.le_trans Z0 K8.1) F8_0 g_b2) hZ (hw _ (List.mem_of_getElem? (i := 4) rfl)) (hw _ (List.mem_of_getElem? (i := 3) rfl)) (by decide) (by decide)) (g := (mkF m 51 #[.val (.int i0), .val (.int i1), .val (.int i2), .val (.int i3), .val (.long i4), .second, .val (.ref b2), .unset, .unset, .unset, .unset, .unset, .unset, .unset, .unset, .unset, .unset, .unset, .unset, .unset, .unset, .unset, .unset, .unset] [(.int ((((i4.toUInt64 >>> ((32 : Int32) &&& 0x3f).toInt64.toUInt64).toInt64).toInt32) ^^^ i2)), (.int (12 : Int32)), (.ref b2)])) rfl (by rw [hml]; rfl) (argsL := [(.ref b2), (.int (12 : Int32)), (.int ((((i4.toUInt64 >>> ((32 : Int32) &&& 0x3f).toInt64.toUInt64).toInt64).toInt32) ^^^ i2))]) (rest := []) (lenOf pd_0 rfl) rfl (by show 2 * 0 + _ ≤ _; exact Nat.le_of_eq rfl) (hb hby at_51) (fun _ _ => ⟨rfl, rfl, (by decide : 1 + 0 ≤ _), (by decide : 16 + 0 ≤ _)⟩)
  dsimp only [Pt.U, Pt.locs, Pt.cells, Pt.slots] at X10 l10 y10 z10 st10 hQ10
  subst l10 y10 z10
  obtain ⟨f11_10, rfl, N10q, Kc10, F10_0⟩ := hQ10
  have N10 := Fr.app N8 N10q
  have K10 : Keep h0 T10.heap [] := Keep.trans K8 Kc10 (allS (Or.inr o_b2) all0)
  have P10 : own_Go p e below S0 (T10.setTop (mkF m 54 #[.val (.int i0), .val (.int i1), .val (.int i2), .val (.int i3), .val (.long i4), .second, .val (.ref b2), .unset, .unset, .unset, .unset, .unset, .unset, .unset, .unset, .unset, .unset, .unset, .unset, .unset, .unset, .unset, .unset, .unset] [])) := fun t k => P9 t (st10 _ k)
  have hp00 : 0 ≤ ((i0 &&& (3 : Int32))).toInt ∧ ((i0 &&& (3 : Int32))).toInt ≤ 3 := own_fr _
  have P11 : own_Go p e below S0 (T10.setTop (mkF m 96 #[.val (.int i0), .val (.int i1), .val (.int i2), .val (.int i3), .val (.long i4), .second, .val (.ref b2), .val (.int (i0 &&& (3 : Int32))), .val (.int (((i0.toUInt32 >>> ((2 : Int32) &&& 31).toUInt32).toInt32) &&& (3 : Int32))), .val (.int (((i0.toUInt32 >>> ((4 : Int32) &&& 31).toUInt32).toInt32) &&& (3 : Int32))), .val (.int (((i0.toUInt32 >>> ((6 : Int32) &&& 31).toUInt32).toInt32) &&& (3 : Int32))), .val (.int (((i0.toUInt32 >>> ((8 : Int32) &&& 31).toUInt32).toInt32) &&& (3 : Int32))), .unset, .unset, .unset, .unset, .unset, .unset, .unset, .unset, .unset, .unset, .unset, .unset] [(.int i1), (.int (((i0.toUInt32 >>> ((2 : Int32) &&& 31).toUInt32).toInt32) &&& (3 : Int32))), (.int (i0 &&& (3 : Int32))), (.ref b2)])) := fun t k => P10 t (by
    show Steps p.tables e below (T10.setTop (mkF m 54 #[.val (.int i0), .val (.int i1), .val (.int i2), .val (.int i3), .val (.long i4), .second, .val (.ref b2), .unset, .unset, .unset, .unset, .unset, .unset, .unset, .unset, .unset, .unset, .unset, .unset, .unset, .unset, .unset, .unset, .unset] [])) t
    refine XS.iloadN X10.here hx rfl (hb hby at_54) rfl ?_
    refine XS.iconst X10.here hx rfl (hb hby at_55) ?_
    refine XS.iand X10.here hx rfl (hb hby at_56) rfl ?_
    refine XS.istore X10.here hx rfl (hb hby at_57) rfl (l' := #[.val (.int i0), .val (.int i1), .val (.int i2), .val (.int i3), .val (.long i4), .second, .val (.ref b2), .val (.int (i0 &&& (3 : Int32))), .unset, .unset, .unset, .unset, .unset, .unset, .unset, .unset, .unset, .unset, .unset, .unset, .unset, .unset, .unset, .unset]) rfl ?_
    refine XS.iloadN X10.here hx rfl (hb hby at_59) rfl ?_
    refine XS.iconst X10.here hx rfl (hb hby at_60) ?_
    show Steps p.tables e below (T10.setTop (mkF m 61 #[.val (.int i0), .val (.int i1), .val (.int i2), .val (.int i3), .val (.long i4), .second, .val (.ref b2), .val (.int (i0 &&& (3 : Int32))), .unset, .unset, .unset, .unset, .unset, .unset, .unset, .unset, .unset, .unset, .unset, .unset, .unset, .unset, .unset, .unset] [(.int (2 : Int32)), (.int i0)])) t
    refine XS.iushr X10.here hx rfl (hb hby at_61) rfl ?_
    refine XS.iconst X10.here hx rfl (hb hby at_62) ?_
    refine XS.iand X10.here hx rfl (hb hby at_63) rfl ?_
    refine XS.istore X10.here hx rfl (hb hby at_64) rfl (l' := #[.val (.int i0), .val (.int i1), .val (.int i2), .val (.int i3), .val (.long i4), .second, .val (.ref b2), .val (.int (i0 &&& (3 : Int32))), .val (.int (((i0.toUInt32 >>> ((2 : Int32) &&& 31).toUInt32).toInt32) &&& (3 : Int32))), .unset, .unset, .unset, .unset, .unset, .unset, .unset, .unset, .unset, .unset, .unset, .unset, .unset, .unset, .unset]) rfl ?_
    refine XS.iloadN X10.here hx rfl (hb hby at_66) rfl ?_
    refine XS.iconst X10.here hx rfl (hb hby at_67) ?_
    show Steps p.tables e below (T10.setTop (mkF m 68 #[.val (.int i0), .val (.int i1), .val (.int i2), .val (.int i3), .val (.long i4), .second, .val (.ref b2), .val (.int (i0 &&& (3 : Int32))), .val (.int (((i0.toUInt32 >>> ((2 : Int32) &&& 31).toUInt32).toInt32) &&& (3 : Int32))), .unset, .unset, .unset, .unset, .unset, .unset, .unset, .unset, .unset, .unset, .unset, .unset, .unset, .unset, .unset] [(.int (4 : Int32)), (.int i0)])) t
    refine XS.iushr X10.here hx rfl (hb hby at_68) rfl ?_
    refine XS.iconst X10.here hx rfl (hb hby at_69) ?_
    refine XS.iand X10.here hx rfl (hb hby at_70) rfl ?_
    refine XS.istore X10.here hx rfl (hb hby at_71) rfl (l' := #[.val (.int i0), .val (.int i1), .val (.int i2), .val (.int i3), .val (.long i4), .second, .val (.ref b2), .val (.int (i0 &&& (3 : Int32))), .val (.int (((i0.toUInt32 >>> ((2 : Int32) &&& 31).toUInt32).toInt32) &&& (3 : Int32))), .val (.int (((i0.toUInt32 >>> ((4 : Int32) &&& 31).toUInt32).toInt32) &&& (3 : Int32))), .unset, .unset, .unset, .unset, .unset, .unset, .unset, .unset, .unset, .unset, .unset, .unset, .unset, .unset]) rfl ?_
    refine XS.iloadN X10.here hx rfl (hb hby at_73) rfl ?_
    refine XS.bipush X10.here hx rfl (hb hby at_74) ?_
    show Steps p.tables e below (T10.setTop (mkF m 76 #[.val (.int i0), .val (.int i1), .val (.int i2), .val (.int i3), .val (.long i4), .second, .val (.ref b2), .val (.int (i0 &&& (3 : Int32))), .val (.int (((i0.toUInt32 >>> ((2 : Int32) &&& 31).toUInt32).toInt32) &&& (3 : Int32))), .val (.int (((i0.toUInt32 >>> ((4 : Int32) &&& 31).toUInt32).toInt32) &&& (3 : Int32))), .unset, .unset, .unset, .unset, .unset, .unset, .unset, .unset, .unset, .unset, .unset, .unset, .unset, .unset] [(.int (6 : Int32)), (.int i0)])) t
    refine XS.iushr X10.here hx rfl (hb hby at_76) rfl ?_
    refine XS.iconst X10.here hx rfl (hb hby at_77) ?_
    refine XS.iand X10.here hx rfl (hb hby at_78) rfl ?_
    refine XS.istore X10.here hx rfl (hb hby at_79) rfl (l' := #[.val (.int i0), .val (.int i1), .val (.int i2), .val (.int i3), .val (.long i4), .second, .val (.ref b2), .val (.int (i0 &&& (3 : Int32))), .val (.int (((i0.toUInt32 >>> ((2 : Int32) &&& 31).toUInt32).toInt32) &&& (3 : Int32))), .val (.int (((i0.toUInt32 >>> ((4 : Int32) &&& 31).toUInt32).toInt32) &&& (3 : Int32))), .val (.int (((i0.toUInt32 >>> ((6 : Int32) &&& 31).toUInt32).toInt32) &&& (3 : Int32))), .unset, .unset, .unset, .unset, .unset, .unset, .unset, .unset, .unset, .unset, .unset, .unset, .unset]) rfl ?_
    refine XS.iloadN X10.here hx rfl (hb hby at_81) rfl ?_
    refine XS.bipush X10.here hx rfl (hb hby at_82) ?_
    show Steps p.tables e below (T10.setTop (mkF m 84 #[.val (.int i0), .val (.int i1), .val (.int i2), .val (.int i3), .val (.long i4), .second, .val (.ref b2), .val (.int (i0 &&& (3 : Int32))), .val (.int (((i0.toUInt32 >>> ((2 : Int32) &&& 31).toUInt32).toInt32) &&& (3 : Int32))), .val (.int (((i0.toUInt32 >>> ((4 : Int32) &&& 31).toUInt32).toInt32) &&& (3 : Int32))), .val (.int (((i0.toUInt32 >>> ((6 : Int32) &&& 31).toUInt32).toInt32) &&& (3 : Int32))), .unset, .unset, .unset, .unset, .unset, .unset, .unset, .unset, .unset, .unset, .unset, .unset, .unset] [(.int (8 : Int32)), (.int i0)])) t
    refine XS.iushr X10.here hx rfl (hb hby at_84) rfl ?_
    refine XS.iconst X10.here hx rfl (hb hby at_85) ?_
    refine XS.iand X10.here hx rfl (hb hby at_86) rfl ?_
    refine XS.istore X10.here hx rfl (hb hby at_87) rfl (l' := #[.val (.int i0), .val (.int i1), .val (.int i2), .val (.int i3), .val (.long i4), .second, .val (.ref b2), .val (.int (i0 &&& (3 : Int32))), .val (.int (((i0.toUInt32 >>> ((2 : Int32) &&& 31).toUInt32).toInt32) &&& (3 : Int32))), .val (.int (((i0.toUInt32 >>> ((4 : Int32) &&& 31).toUInt32).toInt32) &&& (3 : Int32))), .val (.int (((i0.toUInt32 >>> ((6 : Int32) &&& 31).toUInt32).toInt32) &&& (3 : Int32))), .val (.int (((i0.toUInt32 >>> ((8 : Int32) &&& 31).toUInt32).toInt32) &&& (3 : Int32))), .unset, .unset, .unset, .unset, .unset, .unset, .unset, .unset, .unset, .unset, .unset, .unset]) rfl ?_
    refine XS.aload X10.here hx rfl (hb hby at_89) rfl rfl ?_
    refine XS.iload X10.here hx rfl (hb hby at_91) rfl ?_
    show Steps p.tables e below (T10.setTop (mkF m 93 #[.val (.int i0), .val (.int i1), .val (.int i2), .val (.int i3), .val (.long i4), .second, .val (.ref b2), .val (.int (i0 &&& (3 : Int32))), .val (.int (((i0.toUInt32 >>> ((2 : Int32) &&& 31).toUInt32).toInt32) &&& (3 : Int32))), .val (.int (((i0.toUInt32 >>> ((4 : Int32) &&& 31).toUInt32).toInt32) &&& (3 : Int32))), .val (.int (((i0.toUInt32 >>> ((6 : Int32) &&& 31).toUInt32).toInt32) &&& (3 : Int32))), .val (.int (((i0.toUInt32 >>> ((8 : Int32) &&& 31).toUInt32).toInt32) &&& (3 : Int32))), .unset, .unset, .unset, .unset, .unset, .unset, .unset, .unset, .unset, .unset, .unset, .unset] [(.int (i0 &&& (3 : Int32))), (.ref b2)])) t
    refine XS.iload X10.here hx rfl (hb hby at_93) rfl ?_
    refine XS.iloadN X10.here hx rfl (hb hby at_95) rfl ?_
    show Steps p.tables e below (T10.setTop (mkF m 96 #[.val (.int i0), .val (.int i1), .val (.int i2), .val (.int i3), .val (.long i4), .second, .val (.ref b2), .val (.int (i0 &&& (3 : Int32))), .val (.int (((i0.toUInt32 >>> ((2 : Int32) &&& 31).toUInt32).toInt32) &&& (3 : Int32))), .val (.int (((i0.toUInt32 >>> ((4 : Int32) &&& 31).toUInt32).toInt32) &&& (3 : Int32))), .val (.int (((i0.toUInt32 >>> ((6 : Int32) &&& 31).toUInt32).toInt32) &&& (3 : Int32))), .val (.int (((i0.toUInt32 >>> ((8 : Int32) &&& 31).toUInt32).toInt32) &&& (3 : Int32))), .unset, .unset, .unset, .unset, .unset, .unset, .unset, .unset, .unset, .unset, .unset, .unset] [(.int i1), (.int (((i0.toUInt32 >>> ((2 : Int32) &&& 31).toUInt32).toInt32) &&& (3 : Int32))), (.int (i0 &&& (3 : Int32))), (.ref b2)])) t
    exact k)
  obtain ⟨_, _, ⟨T12, L12, k12, n12⟩, -, X12, ⟨Lc12, hQ12, l12, y12, z12⟩, st12⟩ := Jvm.LawKit.callS X10 hx (y := (⟨"com/example/strict_acl/strictacl/Utf8TextByteAfterPinLaw", "put", "([BIII)I"⟩ : MethodName)) hown (mvT hZ (hw _ (List.mem_of_getElem? (i := 5) rfl))) (mvT hZ (hw _ (List.mem_of_getElem? (i := 6) rfl))) (mvT hZ (hw _ (List.mem_of_getElem? (i := 3) rfl))) (mvT hZ (hw _ (List.mem_of_getElem? (i := 7) rfl))) (by decide) (backOf (W := 0) (rm2 l Z a0 hw [] b2 (i0 &&& (3 : Int32)) (((i0.toUInt32 >>> ((2 : Int32) &&& 31).toUInt32).toInt32) &&& (3 : Int32)) i1 k2 f11_10 T10.heap n0 (Nat.le_trans Z0 K10.1) F10_0 (by omega) g_b2) hZ (hw _ (List.mem_of_getElem? (i := 7) rfl)) (hw _ (List.mem_of_getElem? (i := 3) rfl)) (by decide) (by decide)) (g := (mkF m 96 #[.val (.int i0), .val (.int i1), .val (.int i2), .val (.int i3), .val (.long i4), .second, .val (.ref b2), .val (.int (i0 &&& (3 : Int32))), .val (.int (((i0.toUInt32 >>> ((2 : Int32) &&& 31).toUInt32).toInt32) &&& (3 : Int32))), .val (.int (((i0.toUInt32 >>> ((4 : Int32) &&& 31).toUInt32).toInt32) &&& (3 : Int32))), .val (.int (((i0.toUInt32 >>> ((6 : Int32) &&& 31).toUInt32).toInt32) &&& (3 : Int32))), .val (.int (((i0.toUInt32 >>> ((8 : Int32) &&& 31).toUInt32).toInt32) &&& (3 : Int32))), .unset, .unset, .unset, .unset, .unset, .unset, .unset, .unset, .unset, .unset, .unset, .unset] [(.int i1), (.int (((i0.toUInt32 >>> ((2 : Int32) &&& 31).toUInt32).toInt32) &&& (3 : Int32))), (.int (i0 &&& (3 : Int32))), (.ref b2)])) rfl (by rw [hml]; rfl) (argsL := [(.ref b2), (.int (i0 &&& (3 : Int32))), (.int (((i0.toUInt32 >>> ((2 : Int32) &&& 31).toUInt32).toInt32) &&& (3 : Int32))), (.int i1)]) (rest := []) (lenOf pd_1 rfl) rfl (by show 2 * 0 + _ ≤ _; exact Nat.le_of_eq rfl) (hb hby at_96) (fun _ _ => ⟨rfl, rfl, (by decide : 1 + 0 ≤ _), (by decide : 16 + 0 ≤ _)⟩)
  dsimp only [Pt.U, Pt.locs, Pt.cells, Pt.slots] at X12 l12 y12 z12 st12 hQ12
  subst l12 y12 z12
  obtain ⟨fo_12, lo_12, rfl, N12q, Kc12, F12_0, F12_1⟩ := hQ12
  have N12 := Fr.app N10 N12q
  have K12 : Keep h0 T12.heap [] := Keep.trans K10 Kc12 (allS (Or.inr o_b2) all0)
  have P12 : own_Go p e below S0 (T12.setTop (mkF m 99 #[.val (.int i0), .val (.int i1), .val (.int i2), .val (.int i3), .val (.long i4), .second, .val (.ref b2), .val (.int (i0 &&& (3 : Int32))), .val (.int (((i0.toUInt32 >>> ((2 : Int32) &&& 31).toUInt32).toInt32) &&& (3 : Int32))), .val (.int (((i0.toUInt32 >>> ((4 : Int32) &&& 31).toUInt32).toInt32) &&& (3 : Int32))), .val (.int (((i0.toUInt32 >>> ((6 : Int32) &&& 31).toUInt32).toInt32) &&& (3 : Int32))), .val (.int (((i0.toUInt32 >>> ((8 : Int32) &&& 31).toUInt32).toInt32) &&& (3 : Int32))), .unset, .unset, .unset, .unset, .unset, .unset, .unset, .unset, .unset, .unset, .unset, .unset] [(.int lo_12)])) := fun t k => P11 t (st12 _ k)
  have hp0 : 0 ≤ ((i0 &&& (3 : Int32))).toInt ∧ ((i0 &&& (3 : Int32))).toInt ≤ 3 := own_fr _
  have hl0 := own_l F12_1.2
  have hp1 : ((i0 &&& (3 : Int32)) + lo_12).toInt = ((i0 &&& (3 : Int32))).toInt + (lo_12).toInt := own_padd (by omega) (by omega)
  have P13 : own_Go p e below S0 (T12.setTop (mkF m 111 #[.val (.int i0), .val (.int i1), .val (.int i2), .val (.int i3), .val (.long i4), .second, .val (.ref b2), .val (.int (i0 &&& (3 : Int32))), .val (.int (((i0.toUInt32 >>> ((2 : Int32) &&& 31).toUInt32).toInt32) &&& (3 : Int32))), .val (.int (((i0.toUInt32 >>> ((4 : Int32) &&& 31).toUInt32).toInt32) &&& (3 : Int32))), .val (.int (((i0.toUInt32 >>> ((6 : Int32) &&& 31).toUInt32).toInt32) &&& (3 : Int32))), .val (.int (((i0.toUInt32 >>> ((8 : Int32) &&& 31).toUInt32).toInt32) &&& (3 : Int32))), .val (.int lo_12), .unset, .unset, .unset, .unset, .unset, .unset, .unset, .unset, .unset, .unset, .unset] [(.int i2), (.int (((i0.toUInt32 >>> ((4 : Int32) &&& 31).toUInt32).toInt32) &&& (3 : Int32))), (.int ((i0 &&& (3 : Int32)) + lo_12)), (.ref b2)])) := fun t k => P12 t (by
    show Steps p.tables e below (T12.setTop (mkF m 99 #[.val (.int i0), .val (.int i1), .val (.int i2), .val (.int i3), .val (.long i4), .second, .val (.ref b2), .val (.int (i0 &&& (3 : Int32))), .val (.int (((i0.toUInt32 >>> ((2 : Int32) &&& 31).toUInt32).toInt32) &&& (3 : Int32))), .val (.int (((i0.toUInt32 >>> ((4 : Int32) &&& 31).toUInt32).toInt32) &&& (3 : Int32))), .val (.int (((i0.toUInt32 >>> ((6 : Int32) &&& 31).toUInt32).toInt32) &&& (3 : Int32))), .val (.int (((i0.toUInt32 >>> ((8 : Int32) &&& 31).toUInt32).toInt32) &&& (3 : Int32))), .unset, .unset, .unset, .unset, .unset, .unset, .unset, .unset, .unset, .unset, .unset, .unset] [(.int lo_12)])) t
    refine XS.istore X12.here hx rfl (hb hby at_99) rfl (l' := #[.val (.int i0), .val (.int i1), .val (.int i2), .val (.int i3), .val (.long i4), .second, .val (.ref b2), .val (.int (i0 &&& (3 : Int32))), .val (.int (((i0.toUInt32 >>> ((2 : Int32) &&& 31).toUInt32).toInt32) &&& (3 : Int32))), .val (.int (((i0.toUInt32 >>> ((4 : Int32) &&& 31).toUInt32).toInt32) &&& (3 : Int32))), .val (.int (((i0.toUInt32 >>> ((6 : Int32) &&& 31).toUInt32).toInt32) &&& (3 : Int32))), .val (.int (((i0.toUInt32 >>> ((8 : Int32) &&& 31).toUInt32).toInt32) &&& (3 : Int32))), .val (.int lo_12), .unset, .unset, .unset, .unset, .unset, .unset, .unset, .unset, .unset, .unset, .unset]) rfl ?_
    refine XS.aload X12.here hx rfl (hb hby at_101) rfl rfl ?_
    refine XS.iload X12.here hx rfl (hb hby at_103) rfl ?_
    refine XS.iload X12.here hx rfl (hb hby at_105) rfl ?_
    refine XS.iadd X12.here hx rfl (hb hby at_107) rfl ?_
    refine XS.iload X12.here hx rfl (hb hby at_108) rfl ?_
    show Steps p.tables e below (T12.setTop (mkF m 110 #[.val (.int i0), .val (.int i1), .val (.int i2), .val (.int i3), .val (.long i4), .second, .val (.ref b2), .val (.int (i0 &&& (3 : Int32))), .val (.int (((i0.toUInt32 >>> ((2 : Int32) &&& 31).toUInt32).toInt32) &&& (3 : Int32))), .val (.int (((i0.toUInt32 >>> ((4 : Int32) &&& 31).toUInt32).toInt32) &&& (3 : Int32))), .val (.int (((i0.toUInt32 >>> ((6 : Int32) &&& 31).toUInt32).toInt32) &&& (3 : Int32))), .val (.int (((i0.toUInt32 >>> ((8 : Int32) &&& 31).toUInt32).toInt32) &&& (3 : Int32))), .val (.int lo_12), .unset, .unset, .unset, .unset, .unset, .unset, .unset, .unset, .unset, .unset, .unset] [(.int (((i0.toUInt32 >>> ((4 : Int32) &&& 31).toUInt32).toInt32) &&& (3 : Int32))), (.int ((i0 &&& (3 : Int32)) + lo_12)), (.ref b2)])) t
    refine XS.iloadN X12.here hx rfl (hb hby at_110) rfl ?_
    show Steps p.tables e below (T12.setTop (mkF m 111 #[.val (.int i0), .val (.int i1), .val (.int i2), .val (.int i3), .val (.long i4), .second, .val (.ref b2), .val (.int (i0 &&& (3 : Int32))), .val (.int (((i0.toUInt32 >>> ((2 : Int32) &&& 31).toUInt32).toInt32) &&& (3 : Int32))), .val (.int (((i0.toUInt32 >>> ((4 : Int32) &&& 31).toUInt32).toInt32) &&& (3 : Int32))), .val (.int (((i0.toUInt32 >>> ((6 : Int32) &&& 31).toUInt32).toInt32) &&& (3 : Int32))), .val (.int (((i0.toUInt32 >>> ((8 : Int32) &&& 31).toUInt32).toInt32) &&& (3 : Int32))), .val (.int lo_12), .unset, .unset, .unset, .unset, .unset, .unset, .unset, .unset, .unset, .unset, .unset] [(.int i2), (.int (((i0.toUInt32 >>> ((4 : Int32) &&& 31).toUInt32).toInt32) &&& (3 : Int32))), (.int ((i0 &&& (3 : Int32)) + lo_12)), (.ref b2)])) t
    exact k)
  obtain ⟨_, _, ⟨T14, L14, k14, n14⟩, -, X14, ⟨Lc14, hQ14, l14, y14, z14⟩, st14⟩ := Jvm.LawKit.callS X12 hx (y := (⟨"com/example/strict_acl/strictacl/Utf8TextByteAfterPinLaw", "put", "([BIII)I"⟩ : MethodName)) hown (mvT hZ (hw _ (List.mem_of_getElem? (i := 5) rfl))) (mvT hZ (hw _ (List.mem_of_getElem? (i := 6) rfl))) (mvT hZ (hw _ (List.mem_of_getElem? (i := 3) rfl))) (mvT hZ (hw _ (List.mem_of_getElem? (i := 7) rfl))) (by decide) (backOf (W := 0) (rm2 l Z a0 hw [] b2 ((i0 &&& (3 : Int32)) + lo_12) (((i0.toUInt32 >>> ((4 : Int32) &&& 31).toUInt32).toInt32) &&& (3 : Int32)) i2 k2 fo_12 T12.heap n0 (Nat.le_trans Z0 K12.1) F12_0 (by omega) g_b2) hZ (hw _ (List.mem_of_getElem? (i := 7) rfl)) (hw _ (List.mem_of_getElem? (i := 3) rfl)) (by decide) (by decide)) (g := (mkF m 111 #[.val (.int i0), .val (.int i1), .val (.int i2), .val (.int i3), .val (.long i4), .second, .val (.ref b2), .val (.int (i0 &&& (3 : Int32))), .val (.int (((i0.toUInt32 >>> ((2 : Int32) &&& 31).toUInt32).toInt32) &&& (3 : Int32))), .val (.int (((i0.toUInt32 >>> ((4 : Int32) &&& 31).toUInt32).toInt32) &&& (3 : Int32))), .val (.int (((i0.toUInt32 >>> ((6 : Int32) &&& 31).toUInt32).toInt32) &&& (3 : Int32))), .val (.int (((i0.toUInt32 >>> ((8 : Int32) &&& 31).toUInt32).toInt32) &&& (3 : Int32))), .val (.int lo_12), .unset, .unset, .unset, .unset, .unset, .unset, .unset, .unset, .unset, .unset, .unset] [(.int i2), (.int (((i0.toUInt32 >>> ((4 : Int32) &&& 31).toUInt32).toInt32) &&& (3 : Int32))), (.int ((i0 &&& (3 : Int32)) + lo_12)), (.ref b2)])) rfl (by rw [hml]; rfl) (argsL := [(.ref b2), (.int ((i0 &&& (3 : Int32)) + lo_12)), (.int (((i0.toUInt32 >>> ((4 : Int32) &&& 31).toUInt32).toInt32) &&& (3 : Int32))), (.int i2)]) (rest := []) (lenOf pd_1 rfl) rfl (by show 2 * 0 + _ ≤ _; exact Nat.le_of_eq rfl) (hb hby at_111) (fun _ _ => ⟨rfl, rfl, (by decide : 1 + 0 ≤ _), (by decide : 16 + 0 ≤ _)⟩)
  dsimp only [Pt.U, Pt.locs, Pt.cells, Pt.slots] at X14 l14 y14 z14 st14 hQ14
  subst l14 y14 z14
  obtain ⟨fo_14, lo_14, rfl, N14q, Kc14, F14_0, F14_1⟩ := hQ14
  have N14 := Fr.app N12 N14q
  have K14 : Keep h0 T14.heap [] := Keep.trans K12 Kc14 (allS (Or.inr o_b2) all0)
  have P14 : own_Go p e below S0 (T14.setTop (mkF m 114 #[.val (.int i0), .val (.int i1), .val (.int i2), .val (.int i3), .val (.long i4), .second, .val (.ref b2), .val (.int (i0 &&& (3 : Int32))), .val (.int (((i0.toUInt32 >>> ((2 : Int32) &&& 31).toUInt32).toInt32) &&& (3 : Int32))), .val (.int (((i0.toUInt32 >>> ((4 : Int32) &&& 31).toUInt32).toInt32) &&& (3 : Int32))), .val (.int (((i0.toUInt32 >>> ((6 : Int32) &&& 31).toUInt32).toInt32) &&& (3 : Int32))), .val (.int (((i0.toUInt32 >>> ((8 : Int32) &&& 31).toUInt32).toInt32) &&& (3 : Int32))), .val (.int lo_12), .unset, .unset, .unset, .unset, .unset, .unset, .unset, .unset, .unset, .unset, .unset] [(.int lo_14)])) := fun t k => P13 t (st14 _ k)
  have hl1 := own_l F14_1.2
  have hp2 : (((i0 &&& (3 : Int32)) + lo_12) + lo_14).toInt = ((i0 &&& (3 : Int32)) + lo_12).toInt + (lo_14).toInt := own_padd (by omega) (by omega)
  have P15 : own_Go p e below S0 (T14.setTop (mkF m 129 #[.val (.int i0), .val (.int i1), .val (.int i2), .val (.int i3), .val (.long i4), .second, .val (.ref b2), .val (.int (i0 &&& (3 : Int32))), .val (.int (((i0.toUInt32 >>> ((2 : Int32) &&& 31).toUInt32).toInt32) &&& (3 : Int32))), .val (.int (((i0.toUInt32 >>> ((4 : Int32) &&& 31).toUInt32).toInt32) &&& (3 : Int32))), .val (.int (((i0.toUInt32 >>> ((6 : Int32) &&& 31).toUInt32).toInt32) &&& (3 : Int32))), .val (.int (((i0.toUInt32 >>> ((8 : Int32) &&& 31).toUInt32).toInt32) &&& (3 : Int32))), .val (.int lo_12), .val (.int lo_14), .unset, .unset, .unset, .unset, .unset, .unset, .unset, .unset, .unset, .unset] [(.int i3), (.int (((i0.toUInt32 >>> ((6 : Int32) &&& 31).toUInt32).toInt32) &&& (3 : Int32))), (.int (((i0 &&& (3 : Int32)) + lo_12) + lo_14)), (.ref b2)])) := fun t k => P14 t (by
    show Steps p.tables e below (T14.setTop (mkF m 114 #[.val (.int i0), .val (.int i1), .val (.int i2), .val (.int i3), .val (.long i4), .second, .val (.ref b2), .val (.int (i0 &&& (3 : Int32))), .val (.int (((i0.toUInt32 >>> ((2 : Int32) &&& 31).toUInt32).toInt32) &&& (3 : Int32))), .val (.int (((i0.toUInt32 >>> ((4 : Int32) &&& 31).toUInt32).toInt32) &&& (3 : Int32))), .val (.int (((i0.toUInt32 >>> ((6 : Int32) &&& 31).toUInt32).toInt32) &&& (3 : Int32))), .val (.int (((i0.toUInt32 >>> ((8 : Int32) &&& 31).toUInt32).toInt32) &&& (3 : Int32))), .val (.int lo_12), .unset, .unset, .unset, .unset, .unset, .unset, .unset, .unset, .unset, .unset, .unset] [(.int lo_14)])) t
    refine XS.istore X14.here hx rfl (hb hby at_114) rfl (l' := #[.val (.int i0), .val (.int i1), .val (.int i2), .val (.int i3), .val (.long i4), .second, .val (.ref b2), .val (.int (i0 &&& (3 : Int32))), .val (.int (((i0.toUInt32 >>> ((2 : Int32) &&& 31).toUInt32).toInt32) &&& (3 : Int32))), .val (.int (((i0.toUInt32 >>> ((4 : Int32) &&& 31).toUInt32).toInt32) &&& (3 : Int32))), .val (.int (((i0.toUInt32 >>> ((6 : Int32) &&& 31).toUInt32).toInt32) &&& (3 : Int32))), .val (.int (((i0.toUInt32 >>> ((8 : Int32) &&& 31).toUInt32).toInt32) &&& (3 : Int32))), .val (.int lo_12), .val (.int lo_14), .unset, .unset, .unset, .unset, .unset, .unset, .unset, .unset, .unset, .unset]) rfl ?_
    refine XS.aload X14.here hx rfl (hb hby at_116) rfl rfl ?_
    refine XS.iload X14.here hx rfl (hb hby at_118) rfl ?_
    refine XS.iload X14.here hx rfl (hb hby at_120) rfl ?_
    refine XS.iadd X14.here hx rfl (hb hby at_122) rfl ?_
    refine XS.iload X14.here hx rfl (hb hby at_123) rfl ?_
    show Steps p.tables e below (T14.setTop (mkF m 125 #[.val (.int i0), .val (.int i1), .val (.int i2), .val (.int i3), .val (.long i4), .second, .val (.ref b2), .val (.int (i0 &&& (3 : Int32))), .val (.int (((i0.toUInt32 >>> ((2 : Int32) &&& 31).toUInt32).toInt32) &&& (3 : Int32))), .val (.int (((i0.toUInt32 >>> ((4 : Int32) &&& 31).toUInt32).toInt32) &&& (3 : Int32))), .val (.int (((i0.toUInt32 >>> ((6 : Int32) &&& 31).toUInt32).toInt32) &&& (3 : Int32))), .val (.int (((i0.toUInt32 >>> ((8 : Int32) &&& 31).toUInt32).toInt32) &&& (3 : Int32))), .val (.int lo_12), .val (.int lo_14), .unset, .unset, .unset, .unset, .unset, .unset, .unset, .unset, .unset, .unset] [(.int lo_14), (.int ((i0 &&& (3 : Int32)) + lo_12)), (.ref b2)])) t
    refine XS.iadd X14.here hx rfl (hb hby at_125) rfl ?_
    refine XS.iload X14.here hx rfl (hb hby at_126) rfl ?_
    refine XS.iloadN X14.here hx rfl (hb hby at_128) rfl ?_
    show Steps p.tables e below (T14.setTop (mkF m 129 #[.val (.int i0), .val (.int i1), .val (.int i2), .val (.int i3), .val (.long i4), .second, .val (.ref b2), .val (.int (i0 &&& (3 : Int32))), .val (.int (((i0.toUInt32 >>> ((2 : Int32) &&& 31).toUInt32).toInt32) &&& (3 : Int32))), .val (.int (((i0.toUInt32 >>> ((4 : Int32) &&& 31).toUInt32).toInt32) &&& (3 : Int32))), .val (.int (((i0.toUInt32 >>> ((6 : Int32) &&& 31).toUInt32).toInt32) &&& (3 : Int32))), .val (.int (((i0.toUInt32 >>> ((8 : Int32) &&& 31).toUInt32).toInt32) &&& (3 : Int32))), .val (.int lo_12), .val (.int lo_14), .unset, .unset, .unset, .unset, .unset, .unset, .unset, .unset, .unset, .unset] [(.int i3), (.int (((i0.toUInt32 >>> ((6 : Int32) &&& 31).toUInt32).toInt32) &&& (3 : Int32))), (.int (((i0 &&& (3 : Int32)) + lo_12) + lo_14)), (.ref b2)])) t
    exact k)
  obtain ⟨_, _, ⟨T16, L16, k16, n16⟩, -, X16, ⟨Lc16, hQ16, l16, y16, z16⟩, st16⟩ := Jvm.LawKit.callS X14 hx (y := (⟨"com/example/strict_acl/strictacl/Utf8TextByteAfterPinLaw", "put", "([BIII)I"⟩ : MethodName)) hown (mvT hZ (hw _ (List.mem_of_getElem? (i := 5) rfl))) (mvT hZ (hw _ (List.mem_of_getElem? (i := 6) rfl))) (mvT hZ (hw _ (List.mem_of_getElem? (i := 3) rfl))) (mvT hZ (hw _ (List.mem_of_getElem? (i := 7) rfl))) (by decide) (backOf (W := 0) (rm2 l Z a0 hw [] b2 (((i0 &&& (3 : Int32)) + lo_12) + lo_14) (((i0.toUInt32 >>> ((6 : Int32) &&& 31).toUInt32).toInt32) &&& (3 : Int32)) i3 k2 fo_14 T14.heap n0 (Nat.le_trans Z0 K14.1) F14_0 (by omega) g_b2) hZ (hw _ (List.mem_of_getElem? (i := 7) rfl)) (hw _ (List.mem_of_getElem? (i := 3) rfl)) (by decide) (by decide)) (g := (mkF m 129 #[.val (.int i0), .val (.int i1), .val (.int i2), .val (.int i3), .val (.long i4), .second, .val (.ref b2), .val (.int (i0 &&& (3 : Int32))), .val (.int (((i0.toUInt32 >>> ((2 : Int32) &&& 31).toUInt32).toInt32) &&& (3 : Int32))), .val (.int (((i0.toUInt32 >>> ((4 : Int32) &&& 31).toUInt32).toInt32) &&& (3 : Int32))), .val (.int (((i0.toUInt32 >>> ((6 : Int32) &&& 31).toUInt32).toInt32) &&& (3 : Int32))), .val (.int (((i0.toUInt32 >>> ((8 : Int32) &&& 31).toUInt32).toInt32) &&& (3 : Int32))), .val (.int lo_12), .val (.int lo_14), .unset, .unset, .unset, .unset, .unset, .unset, .unset, .unset, .unset, .unset] [(.int i3), (.int (((i0.toUInt32 >>> ((6 : Int32) &&& 31).toUInt32).toInt32) &&& (3 : Int32))), (.int (((i0 &&& (3 : Int32)) + lo_12) + lo_14)), (.ref b2)])) rfl (by rw [hml]; rfl) (argsL := [(.ref b2), (.int (((i0 &&& (3 : Int32)) + lo_12) + lo_14)), (.int (((i0.toUInt32 >>> ((6 : Int32) &&& 31).toUInt32).toInt32) &&& (3 : Int32))), (.int i3)]) (rest := []) (lenOf pd_1 rfl) rfl (by show 2 * 0 + _ ≤ _; exact Nat.le_of_eq rfl) (hb hby at_129) (fun _ _ => ⟨rfl, rfl, (by decide : 1 + 0 ≤ _), (by decide : 16 + 0 ≤ _)⟩)
  dsimp only [Pt.U, Pt.locs, Pt.cells, Pt.slots] at X16 l16 y16 z16 st16 hQ16
  subst l16 y16 z16
  obtain ⟨fo_16, lo_16, rfl, N16q, Kc16, F16_0, F16_1⟩ := hQ16
  have N16 := Fr.app N14 N16q
  have K16 : Keep h0 T16.heap [] := Keep.trans K14 Kc16 (allS (Or.inr o_b2) all0)
  have P16 : own_Go p e below S0 (T16.setTop (mkF m 132 #[.val (.int i0), .val (.int i1), .val (.int i2), .val (.int i3), .val (.long i4), .second, .val (.ref b2), .val (.int (i0 &&& (3 : Int32))), .val (.int (((i0.toUInt32 >>> ((2 : Int32) &&& 31).toUInt32).toInt32) &&& (3 : Int32))), .val (.int (((i0.toUInt32 >>> ((4 : Int32) &&& 31).toUInt32).toInt32) &&& (3 : Int32))), .val (.int (((i0.toUInt32 >>> ((6 : Int32) &&& 31).toUInt32).toInt32) &&& (3 : Int32))), .val (.int (((i0.toUInt32 >>> ((8 : Int32) &&& 31).toUInt32).toInt32) &&& (3 : Int32))), .val (.int lo_12), .val (.int lo_14), .unset, .unset, .unset, .unset, .unset, .unset, .unset, .unset, .unset, .unset] [(.int lo_16)])) := fun t k => P15 t (st16 _ k)
  have hl2 := own_l F16_1.2
  have P17 : own_Go p e below S0 (T16.setTop (mkF m 137 #[.val (.int i0), .val (.int i1), .val (.int i2), .val (.int i3), .val (.long i4), .second, .val (.ref b2), .val (.int (i0 &&& (3 : Int32))), .val (.int (((i0.toUInt32 >>> ((2 : Int32) &&& 31).toUInt32).toInt32) &&& (3 : Int32))), .val (.int (((i0.toUInt32 >>> ((4 : Int32) &&& 31).toUInt32).toInt32) &&& (3 : Int32))), .val (.int (((i0.toUInt32 >>> ((6 : Int32) &&& 31).toUInt32).toInt32) &&& (3 : Int32))), .val (.int (((i0.toUInt32 >>> ((8 : Int32) &&& 31).toUInt32).toInt32) &&& (3 : Int32))), .val (.int lo_12), .val (.int lo_14), .val (.int lo_16), .unset, .unset, .unset, .unset, .unset, .unset, .unset, .unset, .unset] [(.int (4 : Int32)), (.int lo_12)])) := fun t k => P16 t (by
    show Steps p.tables e below (T16.setTop (mkF m 132 #[.val (.int i0), .val (.int i1), .val (.int i2), .val (.int i3), .val (.long i4), .second, .val (.ref b2), .val (.int (i0 &&& (3 : Int32))), .val (.int (((i0.toUInt32 >>> ((2 : Int32) &&& 31).toUInt32).toInt32) &&& (3 : Int32))), .val (.int (((i0.toUInt32 >>> ((4 : Int32) &&& 31).toUInt32).toInt32) &&& (3 : Int32))), .val (.int (((i0.toUInt32 >>> ((6 : Int32) &&& 31).toUInt32).toInt32) &&& (3 : Int32))), .val (.int (((i0.toUInt32 >>> ((8 : Int32) &&& 31).toUInt32).toInt32) &&& (3 : Int32))), .val (.int lo_12), .val (.int lo_14), .unset, .unset, .unset, .unset, .unset, .unset, .unset, .unset, .unset, .unset] [(.int lo_16)])) t
    refine XS.istore X16.here hx rfl (hb hby at_132) rfl (l' := #[.val (.int i0), .val (.int i1), .val (.int i2), .val (.int i3), .val (.long i4), .second, .val (.ref b2), .val (.int (i0 &&& (3 : Int32))), .val (.int (((i0.toUInt32 >>> ((2 : Int32) &&& 31).toUInt32).toInt32) &&& (3 : Int32))), .val (.int (((i0.toUInt32 >>> ((4 : Int32) &&& 31).toUInt32).toInt32) &&& (3 : Int32))), .val (.int (((i0.toUInt32 >>> ((6 : Int32) &&& 31).toUInt32).toInt32) &&& (3 : Int32))), .val (.int (((i0.toUInt32 >>> ((8 : Int32) &&& 31).toUInt32).toInt32) &&& (3 : Int32))), .val (.int lo_12), .val (.int lo_14), .val (.int lo_16), .unset, .unset, .unset, .unset, .unset, .unset, .unset, .unset, .unset]) rfl ?_
    refine XS.iload X16.here hx rfl (hb hby at_134) rfl ?_
    refine XS.iconst X16.here hx rfl (hb hby at_136) ?_
    show Steps p.tables e below (T16.setTop (mkF m 137 #[.val (.int i0), .val (.int i1), .val (.int i2), .val (.int i3), .val (.long i4), .second, .val (.ref b2), .val (.int (i0 &&& (3 : Int32))), .val (.int (((i0.toUInt32 >>> ((2 : Int32) &&& 31).toUInt32).toInt32) &&& (3 : Int32))), .val (.int (((i0.toUInt32 >>> ((4 : Int32) &&& 31).toUInt32).toInt32) &&& (3 : Int32))), .val (.int (((i0.toUInt32 >>> ((6 : Int32) &&& 31).toUInt32).toInt32) &&& (3 : Int32))), .val (.int (((i0.toUInt32 >>> ((8 : Int32) &&& 31).toUInt32).toInt32) &&& (3 : Int32))), .val (.int lo_12), .val (.int lo_14), .val (.int lo_16), .unset, .unset, .unset, .unset, .unset, .unset, .unset, .unset, .unset] [(.int (4 : Int32)), (.int lo_12)])) t
    exact k)
  obtain ⟨v21_s0, hv21_s0, P21⟩ : ∃ (v21_s0 : Int64), (v21_s0 = (if lo_12 = (4 : Int32) then (2 : Int64) else (1 : Int64))) ∧ (own_Go p e below S0 (T16.setTop (mkF m 147 #[.val (.int i0), .val (.int i1), .val (.int i2), .val (.int i3), .val (.long i4), .second, .val (.ref b2), .val (.int (i0 &&& (3 : Int32))), .val (.int (((i0.toUInt32 >>> ((2 : Int32) &&& 31).toUInt32).toInt32) &&& (3 : Int32))), .val (.int (((i0.toUInt32 >>> ((4 : Int32) &&& 31).toUInt32).toInt32) &&& (3 : Int32))), .val (.int (((i0.toUInt32 >>> ((6 : Int32) &&& 31).toUInt32).toInt32) &&& (3 : Int32))), .val (.int (((i0.toUInt32 >>> ((8 : Int32) &&& 31).toUInt32).toInt32) &&& (3 : Int32))), .val (.int lo_12), .val (.int lo_14), .val (.int lo_16), .unset, .unset, .unset, .unset, .unset, .unset, .unset, .unset, .unset] [(.long v21_s0)]))) := by
    by_cases c18 : lo_12 = (4 : Int32)
    · skip
      have P19 : own_Go p e below S0 (T16.setTop (mkF m 147 #[.val (.int i0), .val (.int i1), .val (.int i2), .val (.int i3), .val (.long i4), .second, .val (.ref b2), .val (.int (i0 &&& (3 : Int32))), .val (.int (((i0.toUInt32 >>> ((2 : Int32) &&& 31).toUInt32).toInt32) &&& (3 : Int32))), .val (.int (((i0.toUInt32 >>> ((4 : Int32) &&& 31).toUInt32).toInt32) &&& (3 : Int32))), .val (.int (((i0.toUInt32 >>> ((6 : Int32) &&& 31).toUInt32).toInt32) &&& (3 : Int32))), .val (.int (((i0.toUInt32 >>> ((8 : Int32) &&& 31).toUInt32).toInt32) &&& (3 : Int32))), .val (.int lo_12), .val (.int lo_14), .val (.int lo_16), .unset, .unset, .unset, .unset, .unset, .unset, .unset, .unset, .unset] [(.long (2 : Int64))])) := fun t k => P17 t (by
        show Steps p.tables e below (T16.setTop (mkF m 137 #[.val (.int i0), .val (.int i1), .val (.int i2), .val (.int i3), .val (.long i4), .second, .val (.ref b2), .val (.int (i0 &&& (3 : Int32))), .val (.int (((i0.toUInt32 >>> ((2 : Int32) &&& 31).toUInt32).toInt32) &&& (3 : Int32))), .val (.int (((i0.toUInt32 >>> ((4 : Int32) &&& 31).toUInt32).toInt32) &&& (3 : Int32))), .val (.int (((i0.toUInt32 >>> ((6 : Int32) &&& 31).toUInt32).toInt32) &&& (3 : Int32))), .val (.int (((i0.toUInt32 >>> ((8 : Int32) &&& 31).toUInt32).toInt32) &&& (3 : Int32))), .val (.int lo_12), .val (.int lo_14), .val (.int lo_16), .unset, .unset, .unset, .unset, .unset, .unset, .unset, .unset, .unset] [(.int (4 : Int32)), (.int lo_12)])) t
        refine XS.icmpNo X16.here hx rfl (hb hby at_137) rfl (teq c18).2 ?_
        show Steps p.tables e below (T16.setTop (mkF m 140 #[.val (.int i0), .val (.int i1), .val (.int i2), .val (.int i3), .val (.long i4), .second, .val (.ref b2), .val (.int (i0 &&& (3 : Int32))), .val (.int (((i0.toUInt32 >>> ((2 : Int32) &&& 31).toUInt32).toInt32) &&& (3 : Int32))), .val (.int (((i0.toUInt32 >>> ((4 : Int32) &&& 31).toUInt32).toInt32) &&& (3 : Int32))), .val (.int (((i0.toUInt32 >>> ((6 : Int32) &&& 31).toUInt32).toInt32) &&& (3 : Int32))), .val (.int (((i0.toUInt32 >>> ((8 : Int32) &&& 31).toUInt32).toInt32) &&& (3 : Int32))), .val (.int lo_12), .val (.int lo_14), .val (.int lo_16), .unset, .unset, .unset, .unset, .unset, .unset, .unset, .unset, .unset] [])) t
        refine X16.ldc2Long hx hown (mvT hZ (hw _ (List.mem_of_getElem? (i := 12) rfl))) (g := (mkF m 140 #[.val (.int i0), .val (.int i1), .val (.int i2), .val (.int i3), .val (.long i4), .second, .val (.ref b2), .val (.int (i0 &&& (3 : Int32))), .val (.int (((i0.toUInt32 >>> ((2 : Int32) &&& 31).toUInt32).toInt32) &&& (3 : Int32))), .val (.int (((i0.toUInt32 >>> ((4 : Int32) &&& 31).toUInt32).toInt32) &&& (3 : Int32))), .val (.int (((i0.toUInt32 >>> ((6 : Int32) &&& 31).toUInt32).toInt32) &&& (3 : Int32))), .val (.int (((i0.toUInt32 >>> ((8 : Int32) &&& 31).toUInt32).toInt32) &&& (3 : Int32))), .val (.int lo_12), .val (.int lo_14), .val (.int lo_16), .unset, .unset, .unset, .unset, .unset, .unset, .unset, .unset, .unset] [])) rfl (hb hby at_140) _ ?_
        refine XS.goto X16.here hx rfl (pc0 := 143) (pc' := 147) rfl (hb hby at_143) (by decide) (by decide) ?_
        show Steps p.tables e below (T16.setTop (mkF m 147 #[.val (.int i0), .val (.int i1), .val (.int i2), .val (.int i3), .val (.long i4), .second, .val (.ref b2), .val (.int (i0 &&& (3 : Int32))), .val (.int (((i0.toUInt32 >>> ((2 : Int32) &&& 31).toUInt32).toInt32) &&& (3 : Int32))), .val (.int (((i0.toUInt32 >>> ((4 : Int32) &&& 31).toUInt32).toInt32) &&& (3 : Int32))), .val (.int (((i0.toUInt32 >>> ((6 : Int32) &&& 31).toUInt32).toInt32) &&& (3 : Int32))), .val (.int (((i0.toUInt32 >>> ((8 : Int32) &&& 31).toUInt32).toInt32) &&& (3 : Int32))), .val (.int lo_12), .val (.int lo_14), .val (.int lo_16), .unset, .unset, .unset, .unset, .unset, .unset, .unset, .unset, .unset] [(.long (2 : Int64))])) t
        exact k)
      exact ⟨(2 : Int64), (Eq.symm (if_pos c18)), P19⟩
    · skip
      have P20 : own_Go p e below S0 (T16.setTop (mkF m 147 #[.val (.int i0), .val (.int i1), .val (.int i2), .val (.int i3), .val (.long i4), .second, .val (.ref b2), .val (.int (i0 &&& (3 : Int32))), .val (.int (((i0.toUInt32 >>> ((2 : Int32) &&& 31).toUInt32).toInt32) &&& (3 : Int32))), .val (.int (((i0.toUInt32 >>> ((4 : Int32) &&& 31).toUInt32).toInt32) &&& (3 : Int32))), .val (.int (((i0.toUInt32 >>> ((6 : Int32) &&& 31).toUInt32).toInt32) &&& (3 : Int32))), .val (.int (((i0.toUInt32 >>> ((8 : Int32) &&& 31).toUInt32).toInt32) &&& (3 : Int32))), .val (.int lo_12), .val (.int lo_14), .val (.int lo_16), .unset, .unset, .unset, .unset, .unset, .unset, .unset, .unset, .unset] [(.long (1 : Int64))])) := fun t k => P17 t (by
        show Steps p.tables e below (T16.setTop (mkF m 137 #[.val (.int i0), .val (.int i1), .val (.int i2), .val (.int i3), .val (.long i4), .second, .val (.ref b2), .val (.int (i0 &&& (3 : Int32))), .val (.int (((i0.toUInt32 >>> ((2 : Int32) &&& 31).toUInt32).toInt32) &&& (3 : Int32))), .val (.int (((i0.toUInt32 >>> ((4 : Int32) &&& 31).toUInt32).toInt32) &&& (3 : Int32))), .val (.int (((i0.toUInt32 >>> ((6 : Int32) &&& 31).toUInt32).toInt32) &&& (3 : Int32))), .val (.int (((i0.toUInt32 >>> ((8 : Int32) &&& 31).toUInt32).toInt32) &&& (3 : Int32))), .val (.int lo_12), .val (.int lo_14), .val (.int lo_16), .unset, .unset, .unset, .unset, .unset, .unset, .unset, .unset, .unset] [(.int (4 : Int32)), (.int lo_12)])) t
        refine XS.icmpYes X16.here hx rfl (pc0 := 137) (pc' := 146) rfl (hb hby at_137) rfl (feq c18).2 (by decide) (by decide) ?_
        refine XS.lconst X16.here hx rfl (hb hby at_146) ?_
        show Steps p.tables e below (T16.setTop (mkF m 147 #[.val (.int i0), .val (.int i1), .val (.int i2), .val (.int i3), .val (.long i4), .second, .val (.ref b2), .val (.int (i0 &&& (3 : Int32))), .val (.int (((i0.toUInt32 >>> ((2 : Int32) &&& 31).toUInt32).toInt32) &&& (3 : Int32))), .val (.int (((i0.toUInt32 >>> ((4 : Int32) &&& 31).toUInt32).toInt32) &&& (3 : Int32))), .val (.int (((i0.toUInt32 >>> ((6 : Int32) &&& 31).toUInt32).toInt32) &&& (3 : Int32))), .val (.int (((i0.toUInt32 >>> ((8 : Int32) &&& 31).toUInt32).toInt32) &&& (3 : Int32))), .val (.int lo_12), .val (.int lo_14), .val (.int lo_16), .unset, .unset, .unset, .unset, .unset, .unset, .unset, .unset, .unset] [(.long (1 : Int64))])) t
        exact k)
      exact ⟨(1 : Int64), (Eq.symm (if_neg c18)), P20⟩
  have P22 : own_Go p e below S0 (T16.setTop (mkF m 152 #[.val (.int i0), .val (.int i1), .val (.int i2), .val (.int i3), .val (.long i4), .second, .val (.ref b2), .val (.int (i0 &&& (3 : Int32))), .val (.int (((i0.toUInt32 >>> ((2 : Int32) &&& 31).toUInt32).toInt32) &&& (3 : Int32))), .val (.int (((i0.toUInt32 >>> ((4 : Int32) &&& 31).toUInt32).toInt32) &&& (3 : Int32))), .val (.int (((i0.toUInt32 >>> ((6 : Int32) &&& 31).toUInt32).toInt32) &&& (3 : Int32))), .val (.int (((i0.toUInt32 >>> ((8 : Int32) &&& 31).toUInt32).toInt32) &&& (3 : Int32))), .val (.int lo_12), .val (.int lo_14), .val (.int lo_16), .val (.long v21_s0), .second, .unset, .unset, .unset, .unset, .unset, .unset, .unset] [(.int (4 : Int32)), (.int lo_14)])) := fun t k => P21 t (by
    show Steps p.tables e below (T16.setTop (mkF m 147 #[.val (.int i0), .val (.int i1), .val (.int i2), .val (.int i3), .val (.long i4), .second, .val (.ref b2), .val (.int (i0 &&& (3 : Int32))), .val (.int (((i0.toUInt32 >>> ((2 : Int32) &&& 31).toUInt32).toInt32) &&& (3 : Int32))), .val (.int (((i0.toUInt32 >>> ((4 : Int32) &&& 31).toUInt32).toInt32) &&& (3 : Int32))), .val (.int (((i0.toUInt32 >>> ((6 : Int32) &&& 31).toUInt32).toInt32) &&& (3 : Int32))), .val (.int (((i0.toUInt32 >>> ((8 : Int32) &&& 31).toUInt32).toInt32) &&& (3 : Int32))), .val (.int lo_12), .val (.int lo_14), .val (.int lo_16), .unset, .unset, .unset, .unset, .unset, .unset, .unset, .unset, .unset] [(.long v21_s0)])) t
    refine XS.lstore X16.here hx rfl (hb hby at_147) rfl (l' := #[.val (.int i0), .val (.int i1), .val (.int i2), .val (.int i3), .val (.long i4), .second, .val (.ref b2), .val (.int (i0 &&& (3 : Int32))), .val (.int (((i0.toUInt32 >>> ((2 : Int32) &&& 31).toUInt32).toInt32) &&& (3 : Int32))), .val (.int (((i0.toUInt32 >>> ((4 : Int32) &&& 31).toUInt32).toInt32) &&& (3 : Int32))), .val (.int (((i0.toUInt32 >>> ((6 : Int32) &&& 31).toUInt32).toInt32) &&& (3 : Int32))), .val (.int (((i0.toUInt32 >>> ((8 : Int32) &&& 31).toUInt32).toInt32) &&& (3 : Int32))), .val (.int lo_12), .val (.int lo_14), .val (.int lo_16), .val (.long v21_s0), .second, .unset, .unset, .unset, .unset, .unset, .unset, .unset]) rfl ?_
    refine XS.iload X16.here hx rfl (hb hby at_149) rfl ?_
    refine XS.iconst X16.here hx rfl (hb hby at_151) ?_
    show Steps p.tables e below (T16.setTop (mkF m 152 #[.val (.int i0), .val (.int i1), .val (.int i2), .val (.int i3), .val (.long i4), .second, .val (.ref b2), .val (.int (i0 &&& (3 : Int32))), .val (.int (((i0.toUInt32 >>> ((2 : Int32) &&& 31).toUInt32).toInt32) &&& (3 : Int32))), .val (.int (((i0.toUInt32 >>> ((4 : Int32) &&& 31).toUInt32).toInt32) &&& (3 : Int32))), .val (.int (((i0.toUInt32 >>> ((6 : Int32) &&& 31).toUInt32).toInt32) &&& (3 : Int32))), .val (.int (((i0.toUInt32 >>> ((8 : Int32) &&& 31).toUInt32).toInt32) &&& (3 : Int32))), .val (.int lo_12), .val (.int lo_14), .val (.int lo_16), .val (.long v21_s0), .second, .unset, .unset, .unset, .unset, .unset, .unset, .unset] [(.int (4 : Int32)), (.int lo_14)])) t
    exact k)
  obtain ⟨v26_s0, hv26_s0, P26⟩ : ∃ (v26_s0 : Int64), (v26_s0 = (if lo_14 = (4 : Int32) then (2 : Int64) else (1 : Int64))) ∧ (own_Go p e below S0 (T16.setTop (mkF m 162 #[.val (.int i0), .val (.int i1), .val (.int i2), .val (.int i3), .val (.long i4), .second, .val (.ref b2), .val (.int (i0 &&& (3 : Int32))), .val (.int (((i0.toUInt32 >>> ((2 : Int32) &&& 31).toUInt32).toInt32) &&& (3 : Int32))), .val (.int (((i0.toUInt32 >>> ((4 : Int32) &&& 31).toUInt32).toInt32) &&& (3 : Int32))), .val (.int (((i0.toUInt32 >>> ((6 : Int32) &&& 31).toUInt32).toInt32) &&& (3 : Int32))), .val (.int (((i0.toUInt32 >>> ((8 : Int32) &&& 31).toUInt32).toInt32) &&& (3 : Int32))), .val (.int lo_12), .val (.int lo_14), .val (.int lo_16), .val (.long v21_s0), .second, .unset, .unset, .unset, .unset, .unset, .unset, .unset] [(.long v26_s0)]))) := by
    by_cases c23 : lo_14 = (4 : Int32)
    · skip
      have P24 : own_Go p e below S0 (T16.setTop (mkF m 162 #[.val (.int i0), .val (.int i1), .val (.int i2), .val (.int i3), .val (.long i4), .second, .val (.ref b2), .val (.int (i0 &&& (3 : Int32))), .val (.int (((i0.toUInt32 >>> ((2 : Int32) &&& 31).toUInt32).toInt32) &&& (3 : Int32))), .val (.int (((i0.toUInt32 >>> ((4 : Int32) &&& 31).toUInt32).toInt32) &&& (3 : Int32))), .val (.int (((i0.toUInt32 >>> ((6 : Int32) &&& 31).toUInt32).toInt32) &&& (3 : Int32))), .val (.int (((i0.toUInt32 >>> ((8 : Int32) &&& 31).toUInt32).toInt32) &&& (3 : Int32))), .val (.int lo_12), .val (.int lo_14), .val (.int lo_16), .val (.long v21_s0), .second, .unset, .unset, .unset, .unset, .unset, .unset, .unset] [(.long (2 : Int64))])) := fun t k => P22 t (by
        show Steps p.tables e below (T16.setTop (mkF m 152 #[.val (.int i0), .val (.int i1), .val (.int i2), .val (.int i3), .val (.long i4), .second, .val (.ref b2), .val (.int (i0 &&& (3 : Int32))), .val (.int (((i0.toUInt32 >>> ((2 : Int32) &&& 31).toUInt32).toInt32) &&& (3 : Int32))), .val (.int (((i0.toUInt32 >>> ((4 : Int32) &&& 31).toUInt32).toInt32) &&& (3 : Int32))), .val (.int (((i0.toUInt32 >>> ((6 : Int32) &&& 31).toUInt32).toInt32) &&& (3 : Int32))), .val (.int (((i0.toUInt32 >>> ((8 : Int32) &&& 31).toUInt32).toInt32) &&& (3 : Int32))), .val (.int lo_12), .val (.int lo_14), .val (.int lo_16), .val (.long v21_s0), .second, .unset, .unset, .unset, .unset, .unset, .unset, .unset] [(.int (4 : Int32)), (.int lo_14)])) t
        refine XS.icmpNo X16.here hx rfl (hb hby at_152) rfl (teq c23).2 ?_
        show Steps p.tables e below (T16.setTop (mkF m 155 #[.val (.int i0), .val (.int i1), .val (.int i2), .val (.int i3), .val (.long i4), .second, .val (.ref b2), .val (.int (i0 &&& (3 : Int32))), .val (.int (((i0.toUInt32 >>> ((2 : Int32) &&& 31).toUInt32).toInt32) &&& (3 : Int32))), .val (.int (((i0.toUInt32 >>> ((4 : Int32) &&& 31).toUInt32).toInt32) &&& (3 : Int32))), .val (.int (((i0.toUInt32 >>> ((6 : Int32) &&& 31).toUInt32).toInt32) &&& (3 : Int32))), .val (.int (((i0.toUInt32 >>> ((8 : Int32) &&& 31).toUInt32).toInt32) &&& (3 : Int32))), .val (.int lo_12), .val (.int lo_14), .val (.int lo_16), .val (.long v21_s0), .second, .unset, .unset, .unset, .unset, .unset, .unset, .unset] [])) t
        refine X16.ldc2Long hx hown (mvT hZ (hw _ (List.mem_of_getElem? (i := 12) rfl))) (g := (mkF m 155 #[.val (.int i0), .val (.int i1), .val (.int i2), .val (.int i3), .val (.long i4), .second, .val (.ref b2), .val (.int (i0 &&& (3 : Int32))), .val (.int (((i0.toUInt32 >>> ((2 : Int32) &&& 31).toUInt32).toInt32) &&& (3 : Int32))), .val (.int (((i0.toUInt32 >>> ((4 : Int32) &&& 31).toUInt32).toInt32) &&& (3 : Int32))), .val (.int (((i0.toUInt32 >>> ((6 : Int32) &&& 31).toUInt32).toInt32) &&& (3 : Int32))), .val (.int (((i0.toUInt32 >>> ((8 : Int32) &&& 31).toUInt32).toInt32) &&& (3 : Int32))), .val (.int lo_12), .val (.int lo_14), .val (.int lo_16), .val (.long v21_s0), .second, .unset, .unset, .unset, .unset, .unset, .unset, .unset] [])) rfl (hb hby at_155) _ ?_
        refine XS.goto X16.here hx rfl (pc0 := 158) (pc' := 162) rfl (hb hby at_158) (by decide) (by decide) ?_
        show Steps p.tables e below (T16.setTop (mkF m 162 #[.val (.int i0), .val (.int i1), .val (.int i2), .val (.int i3), .val (.long i4), .second, .val (.ref b2), .val (.int (i0 &&& (3 : Int32))), .val (.int (((i0.toUInt32 >>> ((2 : Int32) &&& 31).toUInt32).toInt32) &&& (3 : Int32))), .val (.int (((i0.toUInt32 >>> ((4 : Int32) &&& 31).toUInt32).toInt32) &&& (3 : Int32))), .val (.int (((i0.toUInt32 >>> ((6 : Int32) &&& 31).toUInt32).toInt32) &&& (3 : Int32))), .val (.int (((i0.toUInt32 >>> ((8 : Int32) &&& 31).toUInt32).toInt32) &&& (3 : Int32))), .val (.int lo_12), .val (.int lo_14), .val (.int lo_16), .val (.long v21_s0), .second, .unset, .unset, .unset, .unset, .unset, .unset, .unset] [(.long (2 : Int64))])) t
        exact k)
      exact ⟨(2 : Int64), (Eq.symm (if_pos c23)), P24⟩
    · skip
      have P25 : own_Go p e below S0 (T16.setTop (mkF m 162 #[.val (.int i0), .val (.int i1), .val (.int i2), .val (.int i3), .val (.long i4), .second, .val (.ref b2), .val (.int (i0 &&& (3 : Int32))), .val (.int (((i0.toUInt32 >>> ((2 : Int32) &&& 31).toUInt32).toInt32) &&& (3 : Int32))), .val (.int (((i0.toUInt32 >>> ((4 : Int32) &&& 31).toUInt32).toInt32) &&& (3 : Int32))), .val (.int (((i0.toUInt32 >>> ((6 : Int32) &&& 31).toUInt32).toInt32) &&& (3 : Int32))), .val (.int (((i0.toUInt32 >>> ((8 : Int32) &&& 31).toUInt32).toInt32) &&& (3 : Int32))), .val (.int lo_12), .val (.int lo_14), .val (.int lo_16), .val (.long v21_s0), .second, .unset, .unset, .unset, .unset, .unset, .unset, .unset] [(.long (1 : Int64))])) := fun t k => P22 t (by
        show Steps p.tables e below (T16.setTop (mkF m 152 #[.val (.int i0), .val (.int i1), .val (.int i2), .val (.int i3), .val (.long i4), .second, .val (.ref b2), .val (.int (i0 &&& (3 : Int32))), .val (.int (((i0.toUInt32 >>> ((2 : Int32) &&& 31).toUInt32).toInt32) &&& (3 : Int32))), .val (.int (((i0.toUInt32 >>> ((4 : Int32) &&& 31).toUInt32).toInt32) &&& (3 : Int32))), .val (.int (((i0.toUInt32 >>> ((6 : Int32) &&& 31).toUInt32).toInt32) &&& (3 : Int32))), .val (.int (((i0.toUInt32 >>> ((8 : Int32) &&& 31).toUInt32).toInt32) &&& (3 : Int32))), .val (.int lo_12), .val (.int lo_14), .val (.int lo_16), .val (.long v21_s0), .second, .unset, .unset, .unset, .unset, .unset, .unset, .unset] [(.int (4 : Int32)), (.int lo_14)])) t
        refine XS.icmpYes X16.here hx rfl (pc0 := 152) (pc' := 161) rfl (hb hby at_152) rfl (feq c23).2 (by decide) (by decide) ?_
        refine XS.lconst X16.here hx rfl (hb hby at_161) ?_
        show Steps p.tables e below (T16.setTop (mkF m 162 #[.val (.int i0), .val (.int i1), .val (.int i2), .val (.int i3), .val (.long i4), .second, .val (.ref b2), .val (.int (i0 &&& (3 : Int32))), .val (.int (((i0.toUInt32 >>> ((2 : Int32) &&& 31).toUInt32).toInt32) &&& (3 : Int32))), .val (.int (((i0.toUInt32 >>> ((4 : Int32) &&& 31).toUInt32).toInt32) &&& (3 : Int32))), .val (.int (((i0.toUInt32 >>> ((6 : Int32) &&& 31).toUInt32).toInt32) &&& (3 : Int32))), .val (.int (((i0.toUInt32 >>> ((8 : Int32) &&& 31).toUInt32).toInt32) &&& (3 : Int32))), .val (.int lo_12), .val (.int lo_14), .val (.int lo_16), .val (.long v21_s0), .second, .unset, .unset, .unset, .unset, .unset, .unset, .unset] [(.long (1 : Int64))])) t
        exact k)
      exact ⟨(1 : Int64), (Eq.symm (if_neg c23)), P25⟩
  have P27 : own_Go p e below S0 (T16.setTop (mkF m 167 #[.val (.int i0), .val (.int i1), .val (.int i2), .val (.int i3), .val (.long i4), .second, .val (.ref b2), .val (.int (i0 &&& (3 : Int32))), .val (.int (((i0.toUInt32 >>> ((2 : Int32) &&& 31).toUInt32).toInt32) &&& (3 : Int32))), .val (.int (((i0.toUInt32 >>> ((4 : Int32) &&& 31).toUInt32).toInt32) &&& (3 : Int32))), .val (.int (((i0.toUInt32 >>> ((6 : Int32) &&& 31).toUInt32).toInt32) &&& (3 : Int32))), .val (.int (((i0.toUInt32 >>> ((8 : Int32) &&& 31).toUInt32).toInt32) &&& (3 : Int32))), .val (.int lo_12), .val (.int lo_14), .val (.int lo_16), .val (.long v21_s0), .second, .val (.long v26_s0), .second, .unset, .unset, .unset, .unset, .unset] [(.int (4 : Int32)), (.int lo_16)])) := fun t k => P26 t (by
    show Steps p.tables e below (T16.setTop (mkF m 162 #[.val (.int i0), .val (.int i1), .val (.int i2), .val (.int i3), .val (.long i4), .second, .val (.ref b2), .val (.int (i0 &&& (3 : Int32))), .val (.int (((i0.toUInt32 >>> ((2 : Int32) &&& 31).toUInt32).toInt32) &&& (3 : Int32))), .val (.int (((i0.toUInt32 >>> ((4 : Int32) &&& 31).toUInt32).toInt32) &&& (3 : Int32))), .val (.int (((i0.toUInt32 >>> ((6 : Int32) &&& 31).toUInt32).toInt32) &&& (3 : Int32))), .val (.int (((i0.toUInt32 >>> ((8 : Int32) &&& 31).toUInt32).toInt32) &&& (3 : Int32))), .val (.int lo_12), .val (.int lo_14), .val (.int lo_16), .val (.long v21_s0), .second, .unset, .unset, .unset, .unset, .unset, .unset, .unset] [(.long v26_s0)])) t
    refine XS.lstore X16.here hx rfl (hb hby at_162) rfl (l' := #[.val (.int i0), .val (.int i1), .val (.int i2), .val (.int i3), .val (.long i4), .second, .val (.ref b2), .val (.int (i0 &&& (3 : Int32))), .val (.int (((i0.toUInt32 >>> ((2 : Int32) &&& 31).toUInt32).toInt32) &&& (3 : Int32))), .val (.int (((i0.toUInt32 >>> ((4 : Int32) &&& 31).toUInt32).toInt32) &&& (3 : Int32))), .val (.int (((i0.toUInt32 >>> ((6 : Int32) &&& 31).toUInt32).toInt32) &&& (3 : Int32))), .val (.int (((i0.toUInt32 >>> ((8 : Int32) &&& 31).toUInt32).toInt32) &&& (3 : Int32))), .val (.int lo_12), .val (.int lo_14), .val (.int lo_16), .val (.long v21_s0), .second, .val (.long v26_s0), .second, .unset, .unset, .unset, .unset, .unset]) rfl ?_
    refine XS.iload X16.here hx rfl (hb hby at_164) rfl ?_
    refine XS.iconst X16.here hx rfl (hb hby at_166) ?_
    show Steps p.tables e below (T16.setTop (mkF m 167 #[.val (.int i0), .val (.int i1), .val (.int i2), .val (.int i3), .val (.long i4), .second, .val (.ref b2), .val (.int (i0 &&& (3 : Int32))), .val (.int (((i0.toUInt32 >>> ((2 : Int32) &&& 31).toUInt32).toInt32) &&& (3 : Int32))), .val (.int (((i0.toUInt32 >>> ((4 : Int32) &&& 31).toUInt32).toInt32) &&& (3 : Int32))), .val (.int (((i0.toUInt32 >>> ((6 : Int32) &&& 31).toUInt32).toInt32) &&& (3 : Int32))), .val (.int (((i0.toUInt32 >>> ((8 : Int32) &&& 31).toUInt32).toInt32) &&& (3 : Int32))), .val (.int lo_12), .val (.int lo_14), .val (.int lo_16), .val (.long v21_s0), .second, .val (.long v26_s0), .second, .unset, .unset, .unset, .unset, .unset] [(.int (4 : Int32)), (.int lo_16)])) t
    exact k)
  obtain ⟨v31_s0, hv31_s0, P31⟩ : ∃ (v31_s0 : Int64), (v31_s0 = (if lo_16 = (4 : Int32) then (2 : Int64) else (1 : Int64))) ∧ (own_Go p e below S0 (T16.setTop (mkF m 177 #[.val (.int i0), .val (.int i1), .val (.int i2), .val (.int i3), .val (.long i4), .second, .val (.ref b2), .val (.int (i0 &&& (3 : Int32))), .val (.int (((i0.toUInt32 >>> ((2 : Int32) &&& 31).toUInt32).toInt32) &&& (3 : Int32))), .val (.int (((i0.toUInt32 >>> ((4 : Int32) &&& 31).toUInt32).toInt32) &&& (3 : Int32))), .val (.int (((i0.toUInt32 >>> ((6 : Int32) &&& 31).toUInt32).toInt32) &&& (3 : Int32))), .val (.int (((i0.toUInt32 >>> ((8 : Int32) &&& 31).toUInt32).toInt32) &&& (3 : Int32))), .val (.int lo_12), .val (.int lo_14), .val (.int lo_16), .val (.long v21_s0), .second, .val (.long v26_s0), .second, .unset, .unset, .unset, .unset, .unset] [(.long v31_s0)]))) := by
    by_cases c28 : lo_16 = (4 : Int32)
    · skip
      have P29 : own_Go p e below S0 (T16.setTop (mkF m 177 #[.val (.int i0), .val (.int i1), .val (.int i2), .val (.int i3), .val (.long i4), .second, .val (.ref b2), .val (.int (i0 &&& (3 : Int32))), .val (.int (((i0.toUInt32 >>> ((2 : Int32) &&& 31).toUInt32).toInt32) &&& (3 : Int32))), .val (.int (((i0.toUInt32 >>> ((4 : Int32) &&& 31).toUInt32).toInt32) &&& (3 : Int32))), .val (.int (((i0.toUInt32 >>> ((6 : Int32) &&& 31).toUInt32).toInt32) &&& (3 : Int32))), .val (.int (((i0.toUInt32 >>> ((8 : Int32) &&& 31).toUInt32).toInt32) &&& (3 : Int32))), .val (.int lo_12), .val (.int lo_14), .val (.int lo_16), .val (.long v21_s0), .second, .val (.long v26_s0), .second, .unset, .unset, .unset, .unset, .unset] [(.long (2 : Int64))])) := fun t k => P27 t (by
        show Steps p.tables e below (T16.setTop (mkF m 167 #[.val (.int i0), .val (.int i1), .val (.int i2), .val (.int i3), .val (.long i4), .second, .val (.ref b2), .val (.int (i0 &&& (3 : Int32))), .val (.int (((i0.toUInt32 >>> ((2 : Int32) &&& 31).toUInt32).toInt32) &&& (3 : Int32))), .val (.int (((i0.toUInt32 >>> ((4 : Int32) &&& 31).toUInt32).toInt32) &&& (3 : Int32))), .val (.int (((i0.toUInt32 >>> ((6 : Int32) &&& 31).toUInt32).toInt32) &&& (3 : Int32))), .val (.int (((i0.toUInt32 >>> ((8 : Int32) &&& 31).toUInt32).toInt32) &&& (3 : Int32))), .val (.int lo_12), .val (.int lo_14), .val (.int lo_16), .val (.long v21_s0), .second, .val (.long v26_s0), .second, .unset, .unset, .unset, .unset, .unset] [(.int (4 : Int32)), (.int lo_16)])) t
        refine XS.icmpNo X16.here hx rfl (hb hby at_167) rfl (teq c28).2 ?_
        show Steps p.tables e below (T16.setTop (mkF m 170 #[.val (.int i0), .val (.int i1), .val (.int i2), .val (.int i3), .val (.long i4), .second, .val (.ref b2), .val (.int (i0 &&& (3 : Int32))), .val (.int (((i0.toUInt32 >>> ((2 : Int32) &&& 31).toUInt32).toInt32) &&& (3 : Int32))), .val (.int (((i0.toUInt32 >>> ((4 : Int32) &&& 31).toUInt32).toInt32) &&& (3 : Int32))), .val (.int (((i0.toUInt32 >>> ((6 : Int32) &&& 31).toUInt32).toInt32) &&& (3 : Int32))), .val (.int (((i0.toUInt32 >>> ((8 : Int32) &&& 31).toUInt32).toInt32) &&& (3 : Int32))), .val (.int lo_12), .val (.int lo_14), .val (.int lo_16), .val (.long v21_s0), .second, .val (.long v26_s0), .second, .unset, .unset, .unset, .unset, .unset] [])) t
        refine X16.ldc2Long hx hown (mvT hZ (hw _ (List.mem_of_getElem? (i := 12) rfl))) (g := (mkF m 170 #[.val (.int i0), .val (.int i1), .val (.int i2), .val (.int i3), .val (.long i4), .second, .val (.ref b2), .val (.int (i0 &&& (3 : Int32))), .val (.int (((i0.toUInt32 >>> ((2 : Int32) &&& 31).toUInt32).toInt32) &&& (3 : Int32))), .val (.int (((i0.toUInt32 >>> ((4 : Int32) &&& 31).toUInt32).toInt32) &&& (3 : Int32))), .val (.int (((i0.toUInt32 >>> ((6 : Int32) &&& 31).toUInt32).toInt32) &&& (3 : Int32))), .val (.int (((i0.toUInt32 >>> ((8 : Int32) &&& 31).toUInt32).toInt32) &&& (3 : Int32))), .val (.int lo_12), .val (.int lo_14), .val (.int lo_16), .val (.long v21_s0), .second, .val (.long v26_s0), .second, .unset, .unset, .unset, .unset, .unset] [])) rfl (hb hby at_170) _ ?_
        refine XS.goto X16.here hx rfl (pc0 := 173) (pc' := 177) rfl (hb hby at_173) (by decide) (by decide) ?_
        show Steps p.tables e below (T16.setTop (mkF m 177 #[.val (.int i0), .val (.int i1), .val (.int i2), .val (.int i3), .val (.long i4), .second, .val (.ref b2), .val (.int (i0 &&& (3 : Int32))), .val (.int (((i0.toUInt32 >>> ((2 : Int32) &&& 31).toUInt32).toInt32) &&& (3 : Int32))), .val (.int (((i0.toUInt32 >>> ((4 : Int32) &&& 31).toUInt32).toInt32) &&& (3 : Int32))), .val (.int (((i0.toUInt32 >>> ((6 : Int32) &&& 31).toUInt32).toInt32) &&& (3 : Int32))), .val (.int (((i0.toUInt32 >>> ((8 : Int32) &&& 31).toUInt32).toInt32) &&& (3 : Int32))), .val (.int lo_12), .val (.int lo_14), .val (.int lo_16), .val (.long v21_s0), .second, .val (.long v26_s0), .second, .unset, .unset, .unset, .unset, .unset] [(.long (2 : Int64))])) t
        exact k)
      exact ⟨(2 : Int64), (Eq.symm (if_pos c28)), P29⟩
    · skip
      have P30 : own_Go p e below S0 (T16.setTop (mkF m 177 #[.val (.int i0), .val (.int i1), .val (.int i2), .val (.int i3), .val (.long i4), .second, .val (.ref b2), .val (.int (i0 &&& (3 : Int32))), .val (.int (((i0.toUInt32 >>> ((2 : Int32) &&& 31).toUInt32).toInt32) &&& (3 : Int32))), .val (.int (((i0.toUInt32 >>> ((4 : Int32) &&& 31).toUInt32).toInt32) &&& (3 : Int32))), .val (.int (((i0.toUInt32 >>> ((6 : Int32) &&& 31).toUInt32).toInt32) &&& (3 : Int32))), .val (.int (((i0.toUInt32 >>> ((8 : Int32) &&& 31).toUInt32).toInt32) &&& (3 : Int32))), .val (.int lo_12), .val (.int lo_14), .val (.int lo_16), .val (.long v21_s0), .second, .val (.long v26_s0), .second, .unset, .unset, .unset, .unset, .unset] [(.long (1 : Int64))])) := fun t k => P27 t (by
        show Steps p.tables e below (T16.setTop (mkF m 167 #[.val (.int i0), .val (.int i1), .val (.int i2), .val (.int i3), .val (.long i4), .second, .val (.ref b2), .val (.int (i0 &&& (3 : Int32))), .val (.int (((i0.toUInt32 >>> ((2 : Int32) &&& 31).toUInt32).toInt32) &&& (3 : Int32))), .val (.int (((i0.toUInt32 >>> ((4 : Int32) &&& 31).toUInt32).toInt32) &&& (3 : Int32))), .val (.int (((i0.toUInt32 >>> ((6 : Int32) &&& 31).toUInt32).toInt32) &&& (3 : Int32))), .val (.int (((i0.toUInt32 >>> ((8 : Int32) &&& 31).toUInt32).toInt32) &&& (3 : Int32))), .val (.int lo_12), .val (.int lo_14), .val (.int lo_16), .val (.long v21_s0), .second, .val (.long v26_s0), .second, .unset, .unset, .unset, .unset, .unset] [(.int (4 : Int32)), (.int lo_16)])) t
        refine XS.icmpYes X16.here hx rfl (pc0 := 167) (pc' := 176) rfl (hb hby at_167) rfl (feq c28).2 (by decide) (by decide) ?_
        refine XS.lconst X16.here hx rfl (hb hby at_176) ?_
        show Steps p.tables e below (T16.setTop (mkF m 177 #[.val (.int i0), .val (.int i1), .val (.int i2), .val (.int i3), .val (.long i4), .second, .val (.ref b2), .val (.int (i0 &&& (3 : Int32))), .val (.int (((i0.toUInt32 >>> ((2 : Int32) &&& 31).toUInt32).toInt32) &&& (3 : Int32))), .val (.int (((i0.toUInt32 >>> ((4 : Int32) &&& 31).toUInt32).toInt32) &&& (3 : Int32))), .val (.int (((i0.toUInt32 >>> ((6 : Int32) &&& 31).toUInt32).toInt32) &&& (3 : Int32))), .val (.int (((i0.toUInt32 >>> ((8 : Int32) &&& 31).toUInt32).toInt32) &&& (3 : Int32))), .val (.int lo_12), .val (.int lo_14), .val (.int lo_16), .val (.long v21_s0), .second, .val (.long v26_s0), .second, .unset, .unset, .unset, .unset, .unset] [(.long (1 : Int64))])) t
        exact k)
      exact ⟨(1 : Int64), (Eq.symm (if_neg c28)), P30⟩
  have hU0 := own_u hv21_s0
  have hU1 := own_u hv26_s0
  have hU2 := own_u hv31_s0
  have hs0 : ((0 : Int64) + v21_s0).toInt = (v21_s0).toInt := by rw [own_a64 (by decide) (by omega), own_z64]; omega
  have hs1 : (((0 : Int64) + v21_s0) + v26_s0).toInt = (v21_s0).toInt + (v26_s0).toInt := by rw [own_a64 (by omega) (by omega), hs0]
  have hs2 : ((((0 : Int64) + v21_s0) + v26_s0) + v31_s0).toInt = (v21_s0).toInt + (v26_s0).toInt + (v31_s0).toInt := by rw [own_a64 (by omega) (by omega), hs1]
  have hs3 : (v21_s0 + v26_s0).toInt = (v21_s0).toInt + (v26_s0).toInt := own_a64 (by omega) (by omega)
  have hs4 : ((v21_s0 + v26_s0) + v31_s0).toInt = (v21_s0).toInt + (v26_s0).toInt + (v31_s0).toInt := by rw [own_a64 (by omega) (by omega), hs3]
  have hz := own_z64
  have P32 : own_Go p e below S0 (T16.setTop (mkF m 181 #[.val (.int i0), .val (.int i1), .val (.int i2), .val (.int i3), .val (.long i4), .second, .val (.ref b2), .val (.int (i0 &&& (3 : Int32))), .val (.int (((i0.toUInt32 >>> ((2 : Int32) &&& 31).toUInt32).toInt32) &&& (3 : Int32))), .val (.int (((i0.toUInt32 >>> ((4 : Int32) &&& 31).toUInt32).toInt32) &&& (3 : Int32))), .val (.int (((i0.toUInt32 >>> ((6 : Int32) &&& 31).toUInt32).toInt32) &&& (3 : Int32))), .val (.int (((i0.toUInt32 >>> ((8 : Int32) &&& 31).toUInt32).toInt32) &&& (3 : Int32))), .val (.int lo_12), .val (.int lo_14), .val (.int lo_16), .val (.long v21_s0), .second, .val (.long v26_s0), .second, .val (.long v31_s0), .second, .unset, .unset, .unset] [(.int (((i0.toUInt32 >>> ((8 : Int32) &&& 31).toUInt32).toInt32) &&& (3 : Int32)))])) := fun t k => P31 t (by
    show Steps p.tables e below (T16.setTop (mkF m 177 #[.val (.int i0), .val (.int i1), .val (.int i2), .val (.int i3), .val (.long i4), .second, .val (.ref b2), .val (.int (i0 &&& (3 : Int32))), .val (.int (((i0.toUInt32 >>> ((2 : Int32) &&& 31).toUInt32).toInt32) &&& (3 : Int32))), .val (.int (((i0.toUInt32 >>> ((4 : Int32) &&& 31).toUInt32).toInt32) &&& (3 : Int32))), .val (.int (((i0.toUInt32 >>> ((6 : Int32) &&& 31).toUInt32).toInt32) &&& (3 : Int32))), .val (.int (((i0.toUInt32 >>> ((8 : Int32) &&& 31).toUInt32).toInt32) &&& (3 : Int32))), .val (.int lo_12), .val (.int lo_14), .val (.int lo_16), .val (.long v21_s0), .second, .val (.long v26_s0), .second, .unset, .unset, .unset, .unset, .unset] [(.long v31_s0)])) t
    refine XS.lstore X16.here hx rfl (hb hby at_177) rfl (l' := #[.val (.int i0), .val (.int i1), .val (.int i2), .val (.int i3), .val (.long i4), .second, .val (.ref b2), .val (.int (i0 &&& (3 : Int32))), .val (.int (((i0.toUInt32 >>> ((2 : Int32) &&& 31).toUInt32).toInt32) &&& (3 : Int32))), .val (.int (((i0.toUInt32 >>> ((4 : Int32) &&& 31).toUInt32).toInt32) &&& (3 : Int32))), .val (.int (((i0.toUInt32 >>> ((6 : Int32) &&& 31).toUInt32).toInt32) &&& (3 : Int32))), .val (.int (((i0.toUInt32 >>> ((8 : Int32) &&& 31).toUInt32).toInt32) &&& (3 : Int32))), .val (.int lo_12), .val (.int lo_14), .val (.int lo_16), .val (.long v21_s0), .second, .val (.long v26_s0), .second, .val (.long v31_s0), .second, .unset, .unset, .unset]) rfl ?_
    refine XS.iload X16.here hx rfl (hb hby at_179) rfl ?_
    show Steps p.tables e below (T16.setTop (mkF m 181 #[.val (.int i0), .val (.int i1), .val (.int i2), .val (.int i3), .val (.long i4), .second, .val (.ref b2), .val (.int (i0 &&& (3 : Int32))), .val (.int (((i0.toUInt32 >>> ((2 : Int32) &&& 31).toUInt32).toInt32) &&& (3 : Int32))), .val (.int (((i0.toUInt32 >>> ((4 : Int32) &&& 31).toUInt32).toInt32) &&& (3 : Int32))), .val (.int (((i0.toUInt32 >>> ((6 : Int32) &&& 31).toUInt32).toInt32) &&& (3 : Int32))), .val (.int (((i0.toUInt32 >>> ((8 : Int32) &&& 31).toUInt32).toInt32) &&& (3 : Int32))), .val (.int lo_12), .val (.int lo_14), .val (.int lo_16), .val (.long v21_s0), .second, .val (.long v26_s0), .second, .val (.long v31_s0), .second, .unset, .unset, .unset] [(.int (((i0.toUInt32 >>> ((8 : Int32) &&& 31).toUInt32).toInt32) &&& (3 : Int32)))])) t
    exact k)
  by_cases c33 : (((i0.toUInt32 >>> ((8 : Int32) &&& 31).toUInt32).toInt32) &&& (3 : Int32)) = (0 : Int32)
  · skip
    have P34 : own_Go p e below S0 (T16.setTop (mkF m 269 #[.val (.int i0), .val (.int i1), .val (.int i2), .val (.int i3), .val (.long i4), .second, .val (.ref b2), .val (.int (i0 &&& (3 : Int32))), .val (.int (((i0.toUInt32 >>> ((2 : Int32) &&& 31).toUInt32).toInt32) &&& (3 : Int32))), .val (.int (((i0.toUInt32 >>> ((4 : Int32) &&& 31).toUInt32).toInt32) &&& (3 : Int32))), .val (.int (((i0.toUInt32 >>> ((6 : Int32) &&& 31).toUInt32).toInt32) &&& (3 : Int32))), .val (.int (((i0.toUInt32 >>> ((8 : Int32) &&& 31).toUInt32).toInt32) &&& (3 : Int32))), .val (.int lo_12), .val (.int lo_14), .val (.int lo_16), .val (.long v21_s0), .second, .val (.long v26_s0), .second, .val (.long v31_s0), .second, .val (.long (0 : Int64)), .second, .val (.int (i0 &&& (3 : Int32)))] [(.long (0 : Int64)), (.int (i0 &&& (3 : Int32))), (.ref b2)])) := fun t k => P32 t (by
      show Steps p.tables e below (T16.setTop (mkF m 181 #[.val (.int i0), .val (.int i1), .val (.int i2), .val (.int i3), .val (.long i4), .second, .val (.ref b2), .val (.int (i0 &&& (3 : Int32))), .val (.int (((i0.toUInt32 >>> ((2 : Int32) &&& 31).toUInt32).toInt32) &&& (3 : Int32))), .val (.int (((i0.toUInt32 >>> ((4 : Int32) &&& 31).toUInt32).toInt32) &&& (3 : Int32))), .val (.int (((i0.toUInt32 >>> ((6 : Int32) &&& 31).toUInt32).toInt32) &&& (3 : Int32))), .val (.int (((i0.toUInt32 >>> ((8 : Int32) &&& 31).toUInt32).toInt32) &&& (3 : Int32))), .val (.int lo_12), .val (.int lo_14), .val (.int lo_16), .val (.long v21_s0), .second, .val (.long v26_s0), .second, .val (.long v31_s0), .second, .unset, .unset, .unset] [(.int (((i0.toUInt32 >>> ((8 : Int32) &&& 31).toUInt32).toInt32) &&& (3 : Int32)))])) t
      refine XS.ifNo X16.here hx rfl (hb hby at_181) rfl ((if0 _ _).trans (teq c33).2) ?_
      refine XS.lconst X16.here hx rfl (hb hby at_184) ?_
      refine XS.lstore X16.here hx rfl (hb hby at_185) rfl (l' := #[.val (.int i0), .val (.int i1), .val (.int i2), .val (.int i3), .val (.long i4), .second, .val (.ref b2), .val (.int (i0 &&& (3 : Int32))), .val (.int (((i0.toUInt32 >>> ((2 : Int32) &&& 31).toUInt32).toInt32) &&& (3 : Int32))), .val (.int (((i0.toUInt32 >>> ((4 : Int32) &&& 31).toUInt32).toInt32) &&& (3 : Int32))), .val (.int (((i0.toUInt32 >>> ((6 : Int32) &&& 31).toUInt32).toInt32) &&& (3 : Int32))), .val (.int (((i0.toUInt32 >>> ((8 : Int32) &&& 31).toUInt32).toInt32) &&& (3 : Int32))), .val (.int lo_12), .val (.int lo_14), .val (.int lo_16), .val (.long v21_s0), .second, .val (.long v26_s0), .second, .val (.long v31_s0), .second, .val (.long (0 : Int64)), .second, .unset]) rfl ?_
      refine XS.iload X16.here hx rfl (hb hby at_187) rfl ?_
      refine XS.istore X16.here hx rfl (hb hby at_189) rfl (l' := #[.val (.int i0), .val (.int i1), .val (.int i2), .val (.int i3), .val (.long i4), .second, .val (.ref b2), .val (.int (i0 &&& (3 : Int32))), .val (.int (((i0.toUInt32 >>> ((2 : Int32) &&& 31).toUInt32).toInt32) &&& (3 : Int32))), .val (.int (((i0.toUInt32 >>> ((4 : Int32) &&& 31).toUInt32).toInt32) &&& (3 : Int32))), .val (.int (((i0.toUInt32 >>> ((6 : Int32) &&& 31).toUInt32).toInt32) &&& (3 : Int32))), .val (.int (((i0.toUInt32 >>> ((8 : Int32) &&& 31).toUInt32).toInt32) &&& (3 : Int32))), .val (.int lo_12), .val (.int lo_14), .val (.int lo_16), .val (.long v21_s0), .second, .val (.long v26_s0), .second, .val (.long v31_s0), .second, .val (.long (0 : Int64)), .second, .val (.int (i0 &&& (3 : Int32)))]) rfl ?_
      refine XS.goto X16.here hx rfl (pc0 := 191) (pc' := 263) rfl (hb hby at_191) (by decide) (by decide) ?_
      show Steps p.tables e below (T16.setTop (mkF m 263 #[.val (.int i0), .val (.int i1), .val (.int i2), .val (.int i3), .val (.long i4), .second, .val (.ref b2), .val (.int (i0 &&& (3 : Int32))), .val (.int (((i0.toUInt32 >>> ((2 : Int32) &&& 31).toUInt32).toInt32) &&& (3 : Int32))), .val (.int (((i0.toUInt32 >>> ((4 : Int32) &&& 31).toUInt32).toInt32) &&& (3 : Int32))), .val (.int (((i0.toUInt32 >>> ((6 : Int32) &&& 31).toUInt32).toInt32) &&& (3 : Int32))), .val (.int (((i0.toUInt32 >>> ((8 : Int32) &&& 31).toUInt32).toInt32) &&& (3 : Int32))), .val (.int lo_12), .val (.int lo_14), .val (.int lo_16), .val (.long v21_s0), .second, .val (.long v26_s0), .second, .val (.long v31_s0), .second, .val (.long (0 : Int64)), .second, .val (.int (i0 &&& (3 : Int32)))] [])) t
      refine XS.aload X16.here hx rfl (hb hby at_263) rfl rfl ?_
      refine XS.iload X16.here hx rfl (hb hby at_265) rfl ?_
      refine XS.lload X16.here hx rfl (hb hby at_267) rfl ?_
      show Steps p.tables e below (T16.setTop (mkF m 269 #[.val (.int i0), .val (.int i1), .val (.int i2), .val (.int i3), .val (.long i4), .second, .val (.ref b2), .val (.int (i0 &&& (3 : Int32))), .val (.int (((i0.toUInt32 >>> ((2 : Int32) &&& 31).toUInt32).toInt32) &&& (3 : Int32))), .val (.int (((i0.toUInt32 >>> ((4 : Int32) &&& 31).toUInt32).toInt32) &&& (3 : Int32))), .val (.int (((i0.toUInt32 >>> ((6 : Int32) &&& 31).toUInt32).toInt32) &&& (3 : Int32))), .val (.int (((i0.toUInt32 >>> ((8 : Int32) &&& 31).toUInt32).toInt32) &&& (3 : Int32))), .val (.int lo_12), .val (.int lo_14), .val (.int lo_16), .val (.long v21_s0), .second, .val (.long v26_s0), .second, .val (.long v31_s0), .second, .val (.long (0 : Int64)), .second, .val (.int (i0 &&& (3 : Int32)))] [(.long (0 : Int64)), (.int (i0 &&& (3 : Int32))), (.ref b2)])) t
      exact k)
    obtain ⟨_, _, ⟨T35, L35, k35, n35⟩, -, X35, ⟨Lc35, hQ35, l35, y35, z35⟩, st35⟩ := Jvm.LawKit.callS X16 hx (y := (⟨"com/example/strict_acl/strictacl/Utf8Text", "byteAfter", "([BIJ)I"⟩ : MethodName)) hown (mvT hZ (hw _ (List.mem_of_getElem? (i := 8) rfl))) (mvT hZ (hw _ (List.mem_of_getElem? (i := 9) rfl))) (mvT hZ (hw _ (List.mem_of_getElem? (i := 10) rfl))) (mvT hZ (hw _ (List.mem_of_getElem? (i := 11) rfl))) (by decide) (backOf (W := 0) (rm3n0 l Z a0 hw [] b2 (i0 &&& (3 : Int32)) (0 : Int64) k2 fo_16 T16.heap n0 (Nat.le_trans Z0 K16.1) F16_0 (by rw [own_lt64, own_z64]; omega) (by rw [own_lt64]; omega)) hZ (hw _ (List.mem_of_getElem? (i := 11) rfl)) (hw _ (List.mem_of_getElem? (i := 10) rfl)) (by decide) (by decide)) (g := (mkF m 269 #[.val (.int i0), .val (.int i1), .val (.int i2), .val (.int i3), .val (.long i4), .second, .val (.ref b2), .val (.int (i0 &&& (3 : Int32))), .val (.int (((i0.toUInt32 >>> ((2 : Int32) &&& 31).toUInt32).toInt32) &&& (3 : Int32))), .val (.int (((i0.toUInt32 >>> ((4 : Int32) &&& 31).toUInt32).toInt32) &&& (3 : Int32))), .val (.int (((i0.toUInt32 >>> ((6 : Int32) &&& 31).toUInt32).toInt32) &&& (3 : Int32))), .val (.int (((i0.toUInt32 >>> ((8 : Int32) &&& 31).toUInt32).toInt32) &&& (3 : Int32))), .val (.int lo_12), .val (.int lo_14), .val (.int lo_16), .val (.long v21_s0), .second, .val (.long v26_s0), .second, .val (.long v31_s0), .second, .val (.long (0 : Int64)), .second, .val (.int (i0 &&& (3 : Int32)))] [(.long (0 : Int64)), (.int (i0 &&& (3 : Int32))), (.ref b2)])) rfl (by rw [hml]; rfl) (argsL := [(.ref b2), (.int (i0 &&& (3 : Int32))), (.long (0 : Int64))]) (rest := []) (lenOf pd_2 rfl) rfl (by show 2 * 0 + _ ≤ _; exact Nat.le_of_eq rfl) (hb hby at_269) (fun _ _ => ⟨rfl, rfl, (by decide : 1 + 0 ≤ _), (by decide : 16 + 0 ≤ _)⟩)
    dsimp only [Pt.U, Pt.locs, Pt.cells, Pt.slots] at X35 l35 y35 z35 st35 hQ35
    subst l35 y35 z35
    obtain ⟨rfl, N35q, e35⟩ := hQ35
    have N35 := Fr.app N16 N35q
    have P35 : own_Go p e below S0 (T35.setTop (mkF m 272 #[.val (.int i0), .val (.int i1), .val (.int i2), .val (.int i3), .val (.long i4), .second, .val (.ref b2), .val (.int (i0 &&& (3 : Int32))), .val (.int (((i0.toUInt32 >>> ((2 : Int32) &&& 31).toUInt32).toInt32) &&& (3 : Int32))), .val (.int (((i0.toUInt32 >>> ((4 : Int32) &&& 31).toUInt32).toInt32) &&& (3 : Int32))), .val (.int (((i0.toUInt32 >>> ((6 : Int32) &&& 31).toUInt32).toInt32) &&& (3 : Int32))), .val (.int (((i0.toUInt32 >>> ((8 : Int32) &&& 31).toUInt32).toInt32) &&& (3 : Int32))), .val (.int lo_12), .val (.int lo_14), .val (.int lo_16), .val (.long v21_s0), .second, .val (.long v26_s0), .second, .val (.long v31_s0), .second, .val (.long (0 : Int64)), .second, .val (.int (i0 &&& (3 : Int32)))] [(.int (i0 &&& (3 : Int32)))])) := fun t k => P34 t (st35 _ k)
    have P36 : own_Go p e below S0 (T35.setTop (mkF m 282 #[.val (.int i0), .val (.int i1), .val (.int i2), .val (.int i3), .val (.long i4), .second, .val (.ref b2), .val (.int (i0 &&& (3 : Int32))), .val (.int (((i0.toUInt32 >>> ((2 : Int32) &&& 31).toUInt32).toInt32) &&& (3 : Int32))), .val (.int (((i0.toUInt32 >>> ((4 : Int32) &&& 31).toUInt32).toInt32) &&& (3 : Int32))), .val (.int (((i0.toUInt32 >>> ((6 : Int32) &&& 31).toUInt32).toInt32) &&& (3 : Int32))), .val (.int (((i0.toUInt32 >>> ((8 : Int32) &&& 31).toUInt32).toInt32) &&& (3 : Int32))), .val (.int lo_12), .val (.int lo_14), .val (.int lo_16), .val (.long v21_s0), .second, .val (.long v26_s0), .second, .val (.long v31_s0), .second, .val (.long (0 : Int64)), .second, .val (.int (i0 &&& (3 : Int32)))] [(.int (1 : Int32))])) := fun t k => P35 t (by
      show Steps p.tables e below (T35.setTop (mkF m 272 #[.val (.int i0), .val (.int i1), .val (.int i2), .val (.int i3), .val (.long i4), .second, .val (.ref b2), .val (.int (i0 &&& (3 : Int32))), .val (.int (((i0.toUInt32 >>> ((2 : Int32) &&& 31).toUInt32).toInt32) &&& (3 : Int32))), .val (.int (((i0.toUInt32 >>> ((4 : Int32) &&& 31).toUInt32).toInt32) &&& (3 : Int32))), .val (.int (((i0.toUInt32 >>> ((6 : Int32) &&& 31).toUInt32).toInt32) &&& (3 : Int32))), .val (.int (((i0.toUInt32 >>> ((8 : Int32) &&& 31).toUInt32).toInt32) &&& (3 : Int32))), .val (.int lo_12), .val (.int lo_14), .val (.int lo_16), .val (.long v21_s0), .second, .val (.long v26_s0), .second, .val (.long v31_s0), .second, .val (.long (0 : Int64)), .second, .val (.int (i0 &&& (3 : Int32)))] [(.int (i0 &&& (3 : Int32)))])) t
      refine XS.iload X35.here hx rfl (hb hby at_272) rfl ?_
      refine XS.icmpNo X35.here hx rfl (hb hby at_274) rfl (teq rfl).2 ?_
      refine XS.iconst X35.here hx rfl (hb hby at_277) ?_
      refine XS.goto X35.here hx rfl (pc0 := 278) (pc' := 282) rfl (hb hby at_278) (by decide) (by decide) ?_
      show Steps p.tables e below (T35.setTop (mkF m 282 #[.val (.int i0), .val (.int i1), .val (.int i2), .val (.int i3), .val (.long i4), .second, .val (.ref b2), .val (.int (i0 &&& (3 : Int32))), .val (.int (((i0.toUInt32 >>> ((2 : Int32) &&& 31).toUInt32).toInt32) &&& (3 : Int32))), .val (.int (((i0.toUInt32 >>> ((4 : Int32) &&& 31).toUInt32).toInt32) &&& (3 : Int32))), .val (.int (((i0.toUInt32 >>> ((6 : Int32) &&& 31).toUInt32).toInt32) &&& (3 : Int32))), .val (.int (((i0.toUInt32 >>> ((8 : Int32) &&& 31).toUInt32).toInt32) &&& (3 : Int32))), .val (.int lo_12), .val (.int lo_14), .val (.int lo_16), .val (.long v21_s0), .second, .val (.long v26_s0), .second, .val (.long v31_s0), .second, .val (.long (0 : Int64)), .second, .val (.int (i0 &&& (3 : Int32)))] [(.int (1 : Int32))])) t
      exact k)
    obtain ⟨fs, hr, hrun, hended, hW, hsame⟩ := X35.leave (v := some (.int (1 : Int32))) (fun h => by rw [Bd.returns] at h; cases h)
    refine ⟨_, _, own_from hS0 (P36 _ ?_), hrun, hended, _, _, rfl, ?_, ⟨_, rfl⟩, hW, hsame.mono (by decide) (by decide)⟩
    · show Steps p.tables e below (T35.setTop (mkF m 282 #[.val (.int i0), .val (.int i1), .val (.int i2), .val (.int i3), .val (.long i4), .second, .val (.ref b2), .val (.int (i0 &&& (3 : Int32))), .val (.int (((i0.toUInt32 >>> ((2 : Int32) &&& 31).toUInt32).toInt32) &&& (3 : Int32))), .val (.int (((i0.toUInt32 >>> ((4 : Int32) &&& 31).toUInt32).toInt32) &&& (3 : Int32))), .val (.int (((i0.toUInt32 >>> ((6 : Int32) &&& 31).toUInt32).toInt32) &&& (3 : Int32))), .val (.int (((i0.toUInt32 >>> ((8 : Int32) &&& 31).toUInt32).toInt32) &&& (3 : Int32))), .val (.int lo_12), .val (.int lo_14), .val (.int lo_16), .val (.long v21_s0), .second, .val (.long v26_s0), .second, .val (.long v31_s0), .second, .val (.long (0 : Int64)), .second, .val (.int (i0 &&& (3 : Int32)))] [(.int (1 : Int32))])) _
      exact retN X35 hx (t := .boolean) Bd.returns (by simp) (hb hby at_282) hr
    · show Q0 Z i0 i1 i2 i3 i4 h0 n0 _ T35.heap _
      rw [e35]
      exact ⟨rfl, N35⟩
  · skip
    have P37 : own_Go p e below S0 (T16.setTop (mkF m 197 #[.val (.int i0), .val (.int i1), .val (.int i2), .val (.int i3), .val (.long i4), .second, .val (.ref b2), .val (.int (i0 &&& (3 : Int32))), .val (.int (((i0.toUInt32 >>> ((2 : Int32) &&& 31).toUInt32).toInt32) &&& (3 : Int32))), .val (.int (((i0.toUInt32 >>> ((4 : Int32) &&& 31).toUInt32).toInt32) &&& (3 : Int32))), .val (.int (((i0.toUInt32 >>> ((6 : Int32) &&& 31).toUInt32).toInt32) &&& (3 : Int32))), .val (.int (((i0.toUInt32 >>> ((8 : Int32) &&& 31).toUInt32).toInt32) &&& (3 : Int32))), .val (.int lo_12), .val (.int lo_14), .val (.int lo_16), .val (.long v21_s0), .second, .val (.long v26_s0), .second, .val (.long v31_s0), .second, .unset, .unset, .unset] [(.int (1 : Int32)), (.int (((i0.toUInt32 >>> ((8 : Int32) &&& 31).toUInt32).toInt32) &&& (3 : Int32)))])) := fun t k => P32 t (by
      show Steps p.tables e below (T16.setTop (mkF m 181 #[.val (.int i0), .val (.int i1), .val (.int i2), .val (.int i3), .val (.long i4), .second, .val (.ref b2), .val (.int (i0 &&& (3 : Int32))), .val (.int (((i0.toUInt32 >>> ((2 : Int32) &&& 31).toUInt32).toInt32) &&& (3 : Int32))), .val (.int (((i0.toUInt32 >>> ((4 : Int32) &&& 31).toUInt32).toInt32) &&& (3 : Int32))), .val (.int (((i0.toUInt32 >>> ((6 : Int32) &&& 31).toUInt32).toInt32) &&& (3 : Int32))), .val (.int (((i0.toUInt32 >>> ((8 : Int32) &&& 31).toUInt32).toInt32) &&& (3 : Int32))), .val (.int lo_12), .val (.int lo_14), .val (.int lo_16), .val (.long v21_s0), .second, .val (.long v26_s0), .second, .val (.long v31_s0), .second, .unset, .unset, .unset] [(.int (((i0.toUInt32 >>> ((8 : Int32) &&& 31).toUInt32).toInt32) &&& (3 : Int32)))])) t
      refine XS.ifYes X16.here hx rfl (pc0 := 181) (pc' := 194) rfl (hb hby at_181) rfl ((if0 _ _).trans (feq c33).2) (by decide) (by decide) ?_
      refine XS.iload X16.here hx rfl (hb hby at_194) rfl ?_
      refine XS.iconst X16.here hx rfl (hb hby at_196) ?_
      show Steps p.tables e below (T16.setTop (mkF m 197 #[.val (.int i0), .val (.int i1), .val (.int i2), .val (.int i3), .val (.long i4), .second, .val (.ref b2), .val (.int (i0 &&& (3 : Int32))), .val (.int (((i0.toUInt32 >>> ((2 : Int32) &&& 31).toUInt32).toInt32) &&& (3 : Int32))), .val (.int (((i0.toUInt32 >>> ((4 : Int32) &&& 31).toUInt32).toInt32) &&& (3 : Int32))), .val (.int (((i0.toUInt32 >>> ((6 : Int32) &&& 31).toUInt32).toInt32) &&& (3 : Int32))), .val (.int (((i0.toUInt32 >>> ((8 : Int32) &&& 31).toUInt32).toInt32) &&& (3 : Int32))), .val (.int lo_12), .val (.int lo_14), .val (.int lo_16), .val (.long v21_s0), .second, .val (.long v26_s0), .second, .val (.long v31_s0), .second, .unset, .unset, .unset] [(.int (1 : Int32)), (.int (((i0.toUInt32 >>> ((8 : Int32) &&& 31).toUInt32).toInt32) &&& (3 : Int32)))])) t
      exact k)
    by_cases c38 : (((i0.toUInt32 >>> ((8 : Int32) &&& 31).toUInt32).toInt32) &&& (3 : Int32)) = (1 : Int32)
    · skip
      have P39 : own_Go p e below S0 (T16.setTop (mkF m 269 #[.val (.int i0), .val (.int i1), .val (.int i2), .val (.int i3), .val (.long i4), .second, .val (.ref b2), .val (.int (i0 &&& (3 : Int32))), .val (.int (((i0.toUInt32 >>> ((2 : Int32) &&& 31).toUInt32).toInt32) &&& (3 : Int32))), .val (.int (((i0.toUInt32 >>> ((4 : Int32) &&& 31).toUInt32).toInt32) &&& (3 : Int32))), .val (.int (((i0.toUInt32 >>> ((6 : Int32) &&& 31).toUInt32).toInt32) &&& (3 : Int32))), .val (.int (((i0.toUInt32 >>> ((8 : Int32) &&& 31).toUInt32).toInt32) &&& (3 : Int32))), .val (.int lo_12), .val (.int lo_14), .val (.int lo_16), .val (.long v21_s0), .second, .val (.long v26_s0), .second, .val (.long v31_s0), .second, .val (.long v21_s0), .second, .val (.int ((i0 &&& (3 : Int32)) + lo_12))] [(.long v21_s0), (.int (i0 &&& (3 : Int32))), (.ref b2)])) := fun t k => P37 t (by
        show Steps p.tables e below (T16.setTop (mkF m 197 #[.val (.int i0), .val (.int i1), .val (.int i2), .val (.int i3), .val (.long i4), .second, .val (.ref b2), .val (.int (i0 &&& (3 : Int32))), .val (.int (((i0.toUInt32 >>> ((2 : Int32) &&& 31).toUInt32).toInt32) &&& (3 : Int32))), .val (.int (((i0.toUInt32 >>> ((4 : Int32) &&& 31).toUInt32).toInt32) &&& (3 : Int32))), .val (.int (((i0.toUInt32 >>> ((6 : Int32) &&& 31).toUInt32).toInt32) &&& (3 : Int32))), .val (.int (((i0.toUInt32 >>> ((8 : Int32) &&& 31).toUInt32).toInt32) &&& (3 : Int32))), .val (.int lo_12), .val (.int lo_14), .val (.int lo_16), .val (.long v21_s0), .second, .val (.long v26_s0), .second, .val (.long v31_s0), .second, .unset, .unset, .unset] [(.int (1 : Int32)), (.int (((i0.toUInt32 >>> ((8 : Int32) &&& 31).toUInt32).toInt32) &&& (3 : Int32)))])) t
        refine XS.icmpNo X16.here hx rfl (hb hby at_197) rfl (teq c38).2 ?_
        refine XS.lload X16.here hx rfl (hb hby at_200) rfl ?_
        refine XS.lstore X16.here hx rfl (hb hby at_202) rfl (l' := #[.val (.int i0), .val (.int i1), .val (.int i2), .val (.int i3), .val (.long i4), .second, .val (.ref b2), .val (.int (i0 &&& (3 : Int32))), .val (.int (((i0.toUInt32 >>> ((2 : Int32) &&& 31).toUInt32).toInt32) &&& (3 : Int32))), .val (.int (((i0.toUInt32 >>> ((4 : Int32) &&& 31).toUInt32).toInt32) &&& (3 : Int32))), .val (.int (((i0.toUInt32 >>> ((6 : Int32) &&& 31).toUInt32).toInt32) &&& (3 : Int32))), .val (.int (((i0.toUInt32 >>> ((8 : Int32) &&& 31).toUInt32).toInt32) &&& (3 : Int32))), .val (.int lo_12), .val (.int lo_14), .val (.int lo_16), .val (.long v21_s0), .second, .val (.long v26_s0), .second, .val (.long v31_s0), .second, .val (.long v21_s0), .second, .unset]) rfl ?_
        refine XS.iload X16.here hx rfl (hb hby at_204) rfl ?_
        refine XS.iload X16.here hx rfl (hb hby at_206) rfl ?_
        refine XS.iadd X16.here hx rfl (hb hby at_208) rfl ?_
        show Steps p.tables e below (T16.setTop (mkF m 209 #[.val (.int i0), .val (.int i1), .val (.int i2), .val (.int i3), .val (.long i4), .second, .val (.ref b2), .val (.int (i0 &&& (3 : Int32))), .val (.int (((i0.toUInt32 >>> ((2 : Int32) &&& 31).toUInt32).toInt32) &&& (3 : Int32))), .val (.int (((i0.toUInt32 >>> ((4 : Int32) &&& 31).toUInt32).toInt32) &&& (3 : Int32))), .val (.int (((i0.toUInt32 >>> ((6 : Int32) &&& 31).toUInt32).toInt32) &&& (3 : Int32))), .val (.int (((i0.toUInt32 >>> ((8 : Int32) &&& 31).toUInt32).toInt32) &&& (3 : Int32))), .val (.int lo_12), .val (.int lo_14), .val (.int lo_16), .val (.long v21_s0), .second, .val (.long v26_s0), .second, .val (.long v31_s0), .second, .val (.long v21_s0), .second, .unset] [(.int ((i0 &&& (3 : Int32)) + lo_12))])) t
        refine XS.istore X16.here hx rfl (hb hby at_209) rfl (l' := #[.val (.int i0), .val (.int i1), .val (.int i2), .val (.int i3), .val (.long i4), .second, .val (.ref b2), .val (.int (i0 &&& (3 : Int32))), .val (.int (((i0.toUInt32 >>> ((2 : Int32) &&& 31).toUInt32).toInt32) &&& (3 : Int32))), .val (.int (((i0.toUInt32 >>> ((4 : Int32) &&& 31).toUInt32).toInt32) &&& (3 : Int32))), .val (.int (((i0.toUInt32 >>> ((6 : Int32) &&& 31).toUInt32).toInt32) &&& (3 : Int32))), .val (.int (((i0.toUInt32 >>> ((8 : Int32) &&& 31).toUInt32).toInt32) &&& (3 : Int32))), .val (.int lo_12), .val (.int lo_14), .val (.int lo_16), .val (.long v21_s0), .second, .val (.long v26_s0), .second, .val (.long v31_s0), .second, .val (.long v21_s0), .second, .val (.int ((i0 &&& (3 : Int32)) + lo_12))]) rfl ?_
        refine XS.goto X16.here hx rfl (pc0 := 211) (pc' := 263) rfl (hb hby at_211) (by decide) (by decide) ?_
        refine XS.aload X16.here hx rfl (hb hby at_263) rfl rfl ?_
        refine XS.iload X16.here hx rfl (hb hby at_265) rfl ?_
        refine XS.lload X16.here hx rfl (hb hby at_267) rfl ?_
        show Steps p.tables e below (T16.setTop (mkF m 269 #[.val (.int i0), .val (.int i1), .val (.int i2), .val (.int i3), .val (.long i4), .second, .val (.ref b2), .val (.int (i0 &&& (3 : Int32))), .val (.int (((i0.toUInt32 >>> ((2 : Int32) &&& 31).toUInt32).toInt32) &&& (3 : Int32))), .val (.int (((i0.toUInt32 >>> ((4 : Int32) &&& 31).toUInt32).toInt32) &&& (3 : Int32))), .val (.int (((i0.toUInt32 >>> ((6 : Int32) &&& 31).toUInt32).toInt32) &&& (3 : Int32))), .val (.int (((i0.toUInt32 >>> ((8 : Int32) &&& 31).toUInt32).toInt32) &&& (3 : Int32))), .val (.int lo_12), .val (.int lo_14), .val (.int lo_16), .val (.long v21_s0), .second, .val (.long v26_s0), .second, .val (.long v31_s0), .second, .val (.long v21_s0), .second, .val (.int ((i0 &&& (3 : Int32)) + lo_12))] [(.long v21_s0), (.int (i0 &&& (3 : Int32))), (.ref b2)])) t
        exact k)
      obtain ⟨_, _, ⟨T40, L40, k40, n40⟩, -, X40, ⟨Lc40, hQ40, l40, y40, z40⟩, st40⟩ := Jvm.LawKit.callS X16 hx (y := (⟨"com/example/strict_acl/strictacl/Utf8Text", "byteAfter", "([BIJ)I"⟩ : MethodName)) hown (mvT hZ (hw _ (List.mem_of_getElem? (i := 8) rfl))) (mvT hZ (hw _ (List.mem_of_getElem? (i := 9) rfl))) (mvT hZ (hw _ (List.mem_of_getElem? (i := 10) rfl))) (mvT hZ (hw _ (List.mem_of_getElem? (i := 11) rfl))) (by decide) (backOf (W := 0) (rm3n1 l Z a0 hw [] b2 (i0 &&& (3 : Int32)) v21_s0 k2 fo_16 lo_12 v21_s0 T16.heap n0 (Nat.le_trans Z0 K16.1) F16_0 (by rw [own_lt64, own_z64]; omega) (by rw [own_lt64]; omega) (own_inb (by omega)) (by rw [F16_1.1 _ (own_natlt (by omega) (by omega)), F14_1.1 _ (own_natlt (by omega) (by omega))]; exact F12_1.2) hv21_s0 (by rw [own_lt64]; omega)) hZ (hw _ (List.mem_of_getElem? (i := 11) rfl)) (hw _ (List.mem_of_getElem? (i := 10) rfl)) (by decide) (by decide)) (g := (mkF m 269 #[.val (.int i0), .val (.int i1), .val (.int i2), .val (.int i3), .val (.long i4), .second, .val (.ref b2), .val (.int (i0 &&& (3 : Int32))), .val (.int (((i0.toUInt32 >>> ((2 : Int32) &&& 31).toUInt32).toInt32) &&& (3 : Int32))), .val (.int (((i0.toUInt32 >>> ((4 : Int32) &&& 31).toUInt32).toInt32) &&& (3 : Int32))), .val (.int (((i0.toUInt32 >>> ((6 : Int32) &&& 31).toUInt32).toInt32) &&& (3 : Int32))), .val (.int (((i0.toUInt32 >>> ((8 : Int32) &&& 31).toUInt32).toInt32) &&& (3 : Int32))), .val (.int lo_12), .val (.int lo_14), .val (.int lo_16), .val (.long v21_s0), .second, .val (.long v26_s0), .second, .val (.long v31_s0), .second, .val (.long v21_s0), .second, .val (.int ((i0 &&& (3 : Int32)) + lo_12))] [(.long v21_s0), (.int (i0 &&& (3 : Int32))), (.ref b2)])) rfl (by rw [hml]; rfl) (argsL := [(.ref b2), (.int (i0 &&& (3 : Int32))), (.long v21_s0)]) (rest := []) (lenOf pd_2 rfl) rfl (by show 2 * 0 + _ ≤ _; exact Nat.le_of_eq rfl) (hb hby at_269) (fun _ _ => ⟨rfl, rfl, (by decide : 1 + 0 ≤ _), (by decide : 16 + 0 ≤ _)⟩)
      dsimp only [Pt.U, Pt.locs, Pt.cells, Pt.slots] at X40 l40 y40 z40 st40 hQ40
      subst l40 y40 z40
      obtain ⟨rfl, N40q, e40⟩ := hQ40
      have N40 := Fr.app N16 N40q
      have P40 : own_Go p e below S0 (T40.setTop (mkF m 272 #[.val (.int i0), .val (.int i1), .val (.int i2), .val (.int i3), .val (.long i4), .second, .val (.ref b2), .val (.int (i0 &&& (3 : Int32))), .val (.int (((i0.toUInt32 >>> ((2 : Int32) &&& 31).toUInt32).toInt32) &&& (3 : Int32))), .val (.int (((i0.toUInt32 >>> ((4 : Int32) &&& 31).toUInt32).toInt32) &&& (3 : Int32))), .val (.int (((i0.toUInt32 >>> ((6 : Int32) &&& 31).toUInt32).toInt32) &&& (3 : Int32))), .val (.int (((i0.toUInt32 >>> ((8 : Int32) &&& 31).toUInt32).toInt32) &&& (3 : Int32))), .val (.int lo_12), .val (.int lo_14), .val (.int lo_16), .val (.long v21_s0), .second, .val (.long v26_s0), .second, .val (.long v31_s0), .second, .val (.long v21_s0), .second, .val (.int ((i0 &&& (3 : Int32)) + lo_12))] [(.int ((i0 &&& (3 : Int32)) + lo_12))])) := fun t k => P39 t (st40 _ k)
      have P41 : own_Go p e below S0 (T40.setTop (mkF m 282 #[.val (.int i0), .val (.int i1), .val (.int i2), .val (.int i3), .val (.long i4), .second, .val (.ref b2), .val (.int (i0 &&& (3 : Int32))), .val (.int (((i0.toUInt32 >>> ((2 : Int32) &&& 31).toUInt32).toInt32) &&& (3 : Int32))), .val (.int (((i0.toUInt32 >>> ((4 : Int32) &&& 31).toUInt32).toInt32) &&& (3 : Int32))), .val (.int (((i0.toUInt32 >>> ((6 : Int32) &&& 31).toUInt32).toInt32) &&& (3 : Int32))), .val (.int (((i0.toUInt32 >>> ((8 : Int32) &&& 31).toUInt32).toInt32) &&& (3 : Int32))), .val (.int lo_12), .val (.int lo_14), .val (.int lo_16), .val (.long v21_s0), .second, .val (.long v26_s0), .second, .val (.long v31_s0), .second, .val (.long v21_s0), .second, .val (.int ((i0 &&& (3 : Int32)) + lo_12))] [(.int (1 : Int32))])) := fun t k => P40 t (by
        show Steps p.tables e below (T40.setTop (mkF m 272 #[.val (.int i0), .val (.int i1), .val (.int i2), .val (.int i3), .val (.long i4), .second, .val (.ref b2), .val (.int (i0 &&& (3 : Int32))), .val (.int (((i0.toUInt32 >>> ((2 : Int32) &&& 31).toUInt32).toInt32) &&& (3 : Int32))), .val (.int (((i0.toUInt32 >>> ((4 : Int32) &&& 31).toUInt32).toInt32) &&& (3 : Int32))), .val (.int (((i0.toUInt32 >>> ((6 : Int32) &&& 31).toUInt32).toInt32) &&& (3 : Int32))), .val (.int (((i0.toUInt32 >>> ((8 : Int32) &&& 31).toUInt32).toInt32) &&& (3 : Int32))), .val (.int lo_12), .val (.int lo_14), .val (.int lo_16), .val (.long v21_s0), .second, .val (.long v26_s0), .second, .val (.long v31_s0), .second, .val (.long v21_s0), .second, .val (.int ((i0 &&& (3 : Int32)) + lo_12))] [(.int ((i0 &&& (3 : Int32)) + lo_12))])) t
        refine XS.iload X40.here hx rfl (hb hby at_272) rfl ?_
        refine XS.icmpNo X40.here hx rfl (hb hby at_274) rfl (teq rfl).2 ?_
        refine XS.iconst X40.here hx rfl (hb hby at_277) ?_
        refine XS.goto X40.here hx rfl (pc0 := 278) (pc' := 282) rfl (hb hby at_278) (by decide) (by decide) ?_
        show Steps p.tables e below (T40.setTop (mkF m 282 #[.val (.int i0), .val (.int i1), .val (.int i2), .val (.int i3), .val (.long i4), .second, .val (.ref b2), .val (.int (i0 &&& (3 : Int32))), .val (.int (((i0.toUInt32 >>> ((2 : Int32) &&& 31).toUInt32).toInt32) &&& (3 : Int32))), .val (.int (((i0.toUInt32 >>> ((4 : Int32) &&& 31).toUInt32).toInt32) &&& (3 : Int32))), .val (.int (((i0.toUInt32 >>> ((6 : Int32) &&& 31).toUInt32).toInt32) &&& (3 : Int32))), .val (.int (((i0.toUInt32 >>> ((8 : Int32) &&& 31).toUInt32).toInt32) &&& (3 : Int32))), .val (.int lo_12), .val (.int lo_14), .val (.int lo_16), .val (.long v21_s0), .second, .val (.long v26_s0), .second, .val (.long v31_s0), .second, .val (.long v21_s0), .second, .val (.int ((i0 &&& (3 : Int32)) + lo_12))] [(.int (1 : Int32))])) t
        exact k)
      obtain ⟨fs, hr, hrun, hended, hW, hsame⟩ := X40.leave (v := some (.int (1 : Int32))) (fun h => by rw [Bd.returns] at h; cases h)
      refine ⟨_, _, own_from hS0 (P41 _ ?_), hrun, hended, _, _, rfl, ?_, ⟨_, rfl⟩, hW, hsame.mono (by decide) (by decide)⟩
      · show Steps p.tables e below (T40.setTop (mkF m 282 #[.val (.int i0), .val (.int i1), .val (.int i2), .val (.int i3), .val (.long i4), .second, .val (.ref b2), .val (.int (i0 &&& (3 : Int32))), .val (.int (((i0.toUInt32 >>> ((2 : Int32) &&& 31).toUInt32).toInt32) &&& (3 : Int32))), .val (.int (((i0.toUInt32 >>> ((4 : Int32) &&& 31).toUInt32).toInt32) &&& (3 : Int32))), .val (.int (((i0.toUInt32 >>> ((6 : Int32) &&& 31).toUInt32).toInt32) &&& (3 : Int32))), .val (.int (((i0.toUInt32 >>> ((8 : Int32) &&& 31).toUInt32).toInt32) &&& (3 : Int32))), .val (.int lo_12), .val (.int lo_14), .val (.int lo_16), .val (.long v21_s0), .second, .val (.long v26_s0), .second, .val (.long v31_s0), .second, .val (.long v21_s0), .second, .val (.int ((i0 &&& (3 : Int32)) + lo_12))] [(.int (1 : Int32))])) _
        exact retN X40 hx (t := .boolean) Bd.returns (by simp) (hb hby at_282) hr
      · show Q0 Z i0 i1 i2 i3 i4 h0 n0 _ T40.heap _
        rw [e40]
        exact ⟨rfl, N40⟩
    · skip
      have P42 : own_Go p e below S0 (T16.setTop (mkF m 217 #[.val (.int i0), .val (.int i1), .val (.int i2), .val (.int i3), .val (.long i4), .second, .val (.ref b2), .val (.int (i0 &&& (3 : Int32))), .val (.int (((i0.toUInt32 >>> ((2 : Int32) &&& 31).toUInt32).toInt32) &&& (3 : Int32))), .val (.int (((i0.toUInt32 >>> ((4 : Int32) &&& 31).toUInt32).toInt32) &&& (3 : Int32))), .val (.int (((i0.toUInt32 >>> ((6 : Int32) &&& 31).toUInt32).toInt32) &&& (3 : Int32))), .val (.int (((i0.toUInt32 >>> ((8 : Int32) &&& 31).toUInt32).toInt32) &&& (3 : Int32))), .val (.int lo_12), .val (.int lo_14), .val (.int lo_16), .val (.long v21_s0), .second, .val (.long v26_s0), .second, .val (.long v31_s0), .second, .unset, .unset, .unset] [(.int (2 : Int32)), (.int (((i0.toUInt32 >>> ((8 : Int32) &&& 31).toUInt32).toInt32) &&& (3 : Int32)))])) := fun t k => P37 t (by
        show Steps p.tables e below (T16.setTop (mkF m 197 #[.val (.int i0), .val (.int i1), .val (.int i2), .val (.int i3), .val (.long i4), .second, .val (.ref b2), .val (.int (i0 &&& (3 : Int32))), .val (.int (((i0.toUInt32 >>> ((2 : Int32) &&& 31).toUInt32).toInt32) &&& (3 : Int32))), .val (.int (((i0.toUInt32 >>> ((4 : Int32) &&& 31).toUInt32).toInt32) &&& (3 : Int32))), .val (.int (((i0.toUInt32 >>> ((6 : Int32) &&& 31).toUInt32).toInt32) &&& (3 : Int32))), .val (.int (((i0.toUInt32 >>> ((8 : Int32) &&& 31).toUInt32).toInt32) &&& (3 : Int32))), .val (.int lo_12), .val (.int lo_14), .val (.int lo_16), .val (.long v21_s0), .second, .val (.long v26_s0), .second, .val (.long v31_s0), .second, .unset, .unset, .unset] [(.int (1 : Int32)), (.int (((i0.toUInt32 >>> ((8 : Int32) &&& 31).toUInt32).toInt32) &&& (3 : Int32)))])) t
        refine XS.icmpYes X16.here hx rfl (pc0 := 197) (pc' := 214) rfl (hb hby at_197) rfl (feq c38).2 (by decide) (by decide) ?_
        refine XS.iload X16.here hx rfl (hb hby at_214) rfl ?_
        refine XS.iconst X16.here hx rfl (hb hby at_216) ?_
        show Steps p.tables e below (T16.setTop (mkF m 217 #[.val (.int i0), .val (.int i1), .val (.int i2), .val (.int i3), .val (.long i4), .second, .val (.ref b2), .val (.int (i0 &&& (3 : Int32))), .val (.int (((i0.toUInt32 >>> ((2 : Int32) &&& 31).toUInt32).toInt32) &&& (3 : Int32))), .val (.int (((i0.toUInt32 >>> ((4 : Int32) &&& 31).toUInt32).toInt32) &&& (3 : Int32))), .val (.int (((i0.toUInt32 >>> ((6 : Int32) &&& 31).toUInt32).toInt32) &&& (3 : Int32))), .val (.int (((i0.toUInt32 >>> ((8 : Int32) &&& 31).toUInt32).toInt32) &&& (3 : Int32))), .val (.int lo_12), .val (.int lo_14), .val (.int lo_16), .val (.long v21_s0), .second, .val (.long v26_s0), .second, .val (.long v31_s0), .second, .unset, .unset, .unset] [(.int (2 : Int32)), (.int (((i0.toUInt32 >>> ((8 : Int32) &&& 31).toUInt32).toInt32) &&& (3 : Int32)))])) t
        exact k)
      by_cases c43 : (((i0.toUInt32 >>> ((8 : Int32) &&& 31).toUInt32).toInt32) &&& (3 : Int32)) = (2 : Int32)
      · skip
        have P44 : own_Go p e below S0 (T16.setTop (mkF m 269 #[.val (.int i0), .val (.int i1), .val (.int i2), .val (.int i3), .val (.long i4), .second, .val (.ref b2), .val (.int (i0 &&& (3 : Int32))), .val (.int (((i0.toUInt32 >>> ((2 : Int32) &&& 31).toUInt32).toInt32) &&& (3 : Int32))), .val (.int (((i0.toUInt32 >>> ((4 : Int32) &&& 31).toUInt32).toInt32) &&& (3 : Int32))), .val (.int (((i0.toUInt32 >>> ((6 : Int32) &&& 31).toUInt32).toInt32) &&& (3 : Int32))), .val (.int (((i0.toUInt32 >>> ((8 : Int32) &&& 31).toUInt32).toInt32) &&& (3 : Int32))), .val (.int lo_12), .val (.int lo_14), .val (.int lo_16), .val (.long v21_s0), .second, .val (.long v26_s0), .second, .val (.long v31_s0), .second, .val (.long (v21_s0 + v26_s0)), .second, .val (.int (((i0 &&& (3 : Int32)) + lo_12) + lo_14))] [(.long (v21_s0 + v26_s0)), (.int (i0 &&& (3 : Int32))), (.ref b2)])) := fun t k => P42 t (by
          show Steps p.tables e below (T16.setTop (mkF m 217 #[.val (.int i0), .val (.int i1), .val (.int i2), .val (.int i3), .val (.long i4), .second, .val (.ref b2), .val (.int (i0 &&& (3 : Int32))), .val (.int (((i0.toUInt32 >>> ((2 : Int32) &&& 31).toUInt32).toInt32) &&& (3 : Int32))), .val (.int (((i0.toUInt32 >>> ((4 : Int32) &&& 31).toUInt32).toInt32) &&& (3 : Int32))), .val (.int (((i0.toUInt32 >>> ((6 : Int32) &&& 31).toUInt32).toInt32) &&& (3 : Int32))), .val (.int (((i0.toUInt32 >>> ((8 : Int32) &&& 31).toUInt32).toInt32) &&& (3 : Int32))), .val (.int lo_12), .val (.int lo_14), .val (.int lo_16), .val (.long v21_s0), .second, .val (.long v26_s0), .second, .val (.long v31_s0), .second, .unset, .unset, .unset] [(.int (2 : Int32)), (.int (((i0.toUInt32 >>> ((8 : Int32) &&& 31).toUInt32).toInt32) &&& (3 : Int32)))])) t
          refine XS.icmpNo X16.here hx rfl (hb hby at_217) rfl (teq c43).2 ?_
          refine XS.lload X16.here hx rfl (hb hby at_220) rfl ?_
          refine XS.lload X16.here hx rfl (hb hby at_222) rfl ?_
          refine XS.ladd X16.here hx rfl (hb hby at_224) rfl ?_
          refine XS.lstore X16.here hx rfl (hb hby at_225) rfl (l' := #[.val (.int i0), .val (.int i1), .val (.int i2), .val (.int i3), .val (.long i4), .second, .val (.ref b2), .val (.int (i0 &&& (3 : Int32))), .val (.int (((i0.toUInt32 >>> ((2 : Int32) &&& 31).toUInt32).toInt32) &&& (3 : Int32))), .val (.int (((i0.toUInt32 >>> ((4 : Int32) &&& 31).toUInt32).toInt32) &&& (3 : Int32))), .val (.int (((i0.toUInt32 >>> ((6 : Int32) &&& 31).toUInt32).toInt32) &&& (3 : Int32))), .val (.int (((i0.toUInt32 >>> ((8 : Int32) &&& 31).toUInt32).toInt32) &&& (3 : Int32))), .val (.int lo_12), .val (.int lo_14), .val (.int lo_16), .val (.long v21_s0), .second, .val (.long v26_s0), .second, .val (.long v31_s0), .second, .val (.long (v21_s0 + v26_s0)), .second, .unset]) rfl ?_
          refine XS.iload X16.here hx rfl (hb hby at_227) rfl ?_
          show Steps p.tables e below (T16.setTop (mkF m 229 #[.val (.int i0), .val (.int i1), .val (.int i2), .val (.int i3), .val (.long i4), .second, .val (.ref b2), .val (.int (i0 &&& (3 : Int32))), .val (.int (((i0.toUInt32 >>> ((2 : Int32) &&& 31).toUInt32).toInt32) &&& (3 : Int32))), .val (.int (((i0.toUInt32 >>> ((4 : Int32) &&& 31).toUInt32).toInt32) &&& (3 : Int32))), .val (.int (((i0.toUInt32 >>> ((6 : Int32) &&& 31).toUInt32).toInt32) &&& (3 : Int32))), .val (.int (((i0.toUInt32 >>> ((8 : Int32) &&& 31).toUInt32).toInt32) &&& (3 : Int32))), .val (.int lo_12), .val (.int lo_14), .val (.int lo_16), .val (.long v21_s0), .second, .val (.long v26_s0), .second, .val (.long v31_s0), .second, .val (.long (v21_s0 + v26_s0)), .second, .unset] [(.int (i0 &&& (3 : Int32)))])) t
          refine XS.iload X16.here hx rfl (hb hby at_229) rfl ?_
          refine XS.iadd X16.here hx rfl (hb hby at_231) rfl ?_
          refine XS.iload X16.here hx rfl (hb hby at_232) rfl ?_
          refine XS.iadd X16.here hx rfl (hb hby at_234) rfl ?_
          refine XS.istore X16.here hx rfl (hb hby at_235) rfl (l' := #[.val (.int i0), .val (.int i1), .val (.int i2), .val (.int i3), .val (.long i4), .second, .val (.ref b2), .val (.int (i0 &&& (3 : Int32))), .val (.int (((i0.toUInt32 >>> ((2 : Int32) &&& 31).toUInt32).toInt32) &&& (3 : Int32))), .val (.int (((i0.toUInt32 >>> ((4 : Int32) &&& 31).toUInt32).toInt32) &&& (3 : Int32))), .val (.int (((i0.toUInt32 >>> ((6 : Int32) &&& 31).toUInt32).toInt32) &&& (3 : Int32))), .val (.int (((i0.toUInt32 >>> ((8 : Int32) &&& 31).toUInt32).toInt32) &&& (3 : Int32))), .val (.int lo_12), .val (.int lo_14), .val (.int lo_16), .val (.long v21_s0), .second, .val (.long v26_s0), .second, .val (.long v31_s0), .second, .val (.long (v21_s0 + v26_s0)), .second, .val (.int (((i0 &&& (3 : Int32)) + lo_12) + lo_14))]) rfl ?_
          refine XS.goto X16.here hx rfl (pc0 := 237) (pc' := 263) rfl (hb hby at_237) (by decide) (by decide) ?_
          show Steps p.tables e below (T16.setTop (mkF m 263 #[.val (.int i0), .val (.int i1), .val (.int i2), .val (.int i3), .val (.long i4), .second, .val (.ref b2), .val (.int (i0 &&& (3 : Int32))), .val (.int (((i0.toUInt32 >>> ((2 : Int32) &&& 31).toUInt32).toInt32) &&& (3 : Int32))), .val (.int (((i0.toUInt32 >>> ((4 : Int32) &&& 31).toUInt32).toInt32) &&& (3 : Int32))), .val (.int (((i0.toUInt32 >>> ((6 : Int32) &&& 31).toUInt32).toInt32) &&& (3 : Int32))), .val (.int (((i0.toUInt32 >>> ((8 : Int32) &&& 31).toUInt32).toInt32) &&& (3 : Int32))), .val (.int lo_12), .val (.int lo_14), .val (.int lo_16), .val (.long v21_s0), .second, .val (.long v26_s0), .second, .val (.long v31_s0), .second, .val (.long (v21_s0 + v26_s0)), .second, .val (.int (((i0 &&& (3 : Int32)) + lo_12) + lo_14))] [])) t
          refine XS.aload X16.here hx rfl (hb hby at_263) rfl rfl ?_
          refine XS.iload X16.here hx rfl (hb hby at_265) rfl ?_
          refine XS.lload X16.here hx rfl (hb hby at_267) rfl ?_
          show Steps p.tables e below (T16.setTop (mkF m 269 #[.val (.int i0), .val (.int i1), .val (.int i2), .val (.int i3), .val (.long i4), .second, .val (.ref b2), .val (.int (i0 &&& (3 : Int32))), .val (.int (((i0.toUInt32 >>> ((2 : Int32) &&& 31).toUInt32).toInt32) &&& (3 : Int32))), .val (.int (((i0.toUInt32 >>> ((4 : Int32) &&& 31).toUInt32).toInt32) &&& (3 : Int32))), .val (.int (((i0.toUInt32 >>> ((6 : Int32) &&& 31).toUInt32).toInt32) &&& (3 : Int32))), .val (.int (((i0.toUInt32 >>> ((8 : Int32) &&& 31).toUInt32).toInt32) &&& (3 : Int32))), .val (.int lo_12), .val (.int lo_14), .val (.int lo_16), .val (.long v21_s0), .second, .val (.long v26_s0), .second, .val (.long v31_s0), .second, .val (.long (v21_s0 + v26_s0)), .second, .val (.int (((i0 &&& (3 : Int32)) + lo_12) + lo_14))] [(.long (v21_s0 + v26_s0)), (.int (i0 &&& (3 : Int32))), (.ref b2)])) t
          exact k)
        obtain ⟨_, _, ⟨T45, L45, k45, n45⟩, -, X45, ⟨Lc45, hQ45, l45, y45, z45⟩, st45⟩ := Jvm.LawKit.callS X16 hx (y := (⟨"com/example/strict_acl/strictacl/Utf8Text", "byteAfter", "([BIJ)I"⟩ : MethodName)) hown (mvT hZ (hw _ (List.mem_of_getElem? (i := 8) rfl))) (mvT hZ (hw _ (List.mem_of_getElem? (i := 9) rfl))) (mvT hZ (hw _ (List.mem_of_getElem? (i := 10) rfl))) (mvT hZ (hw _ (List.mem_of_getElem? (i := 11) rfl))) (by decide) (backOf (W := 0) (rm3n2 l Z a0 hw [] b2 (i0 &&& (3 : Int32)) (v21_s0 + v26_s0) k2 fo_16 lo_12 v21_s0 lo_14 v26_s0 T16.heap n0 (Nat.le_trans Z0 K16.1) F16_0 (by rw [own_lt64, own_z64]; omega) (by rw [own_lt64]; omega) (own_inb (by omega)) (by rw [F16_1.1 _ (own_natlt (by omega) (by omega)), F14_1.1 _ (own_natlt (by omega) (by omega))]; exact F12_1.2) hv21_s0 (by rw [own_lt64]; omega) (own_inb (by omega)) (by rw [F16_1.1 _ (own_natlt (by omega) (by omega))]; exact F14_1.2) hv26_s0 (by rw [own_lt64]; omega)) hZ (hw _ (List.mem_of_getElem? (i := 11) rfl)) (hw _ (List.mem_of_getElem? (i := 10) rfl)) (by decide) (by decide)) (g := (mkF m 269 #[.val (.int i0), .val (.int i1), .val (.int i2), .val (.int i3), .val (.long i4), .second, .val (.ref b2), .val (.int (i0 &&& (3 : Int32))), .val (.int (((i0.toUInt32 >>> ((2 : Int32) &&& 31).toUInt32).toInt32) &&& (3 : Int32))), .val (.int (((i0.toUInt32 >>> ((4 : Int32) &&& 31).toUInt32).toInt32) &&& (3 : Int32))), .val (.int (((i0.toUInt32 >>> ((6 : Int32) &&& 31).toUInt32).toInt32) &&& (3 : Int32))), .val (.int (((i0.toUInt32 >>> ((8 : Int32) &&& 31).toUInt32).toInt32) &&& (3 : Int32))), .val (.int lo_12), .val (.int lo_14), .val (.int lo_16), .val (.long v21_s0), .second, .val (.long v26_s0), .second, .val (.long v31_s0), .second, .val (.long (v21_s0 + v26_s0)), .second, .val (.int (((i0 &&& (3 : Int32)) + lo_12) + lo_14))] [(.long (v21_s0 + v26_s0)), (.int (i0 &&& (3 : Int32))), (.ref b2)])) rfl (by rw [hml]; rfl) (argsL := [(.ref b2), (.int (i0 &&& (3 : Int32))), (.long (v21_s0 + v26_s0))]) (rest := []) (lenOf pd_2 rfl) rfl (by show 2 * 0 + _ ≤ _; exact Nat.le_of_eq rfl) (hb hby at_269) (fun _ _ => ⟨rfl, rfl, (by decide : 1 + 0 ≤ _), (by decide : 16 + 0 ≤ _)⟩)
        dsimp only [Pt.U, Pt.locs, Pt.cells, Pt.slots] at X45 l45 y45 z45 st45 hQ45
        subst l45 y45 z45
        obtain ⟨rfl, N45q, e45⟩ := hQ45
        have N45 := Fr.app N16 N45q
        have P45 : own_Go p e below S0 (T45.setTop (mkF m 272 #[.val (.int i0), .val (.int i1), .val (.int i2), .val (.int i3), .val (.long i4), .second, .val (.ref b2), .val (.int (i0 &&& (3 : Int32))), .val (.int (((i0.toUInt32 >>> ((2 : Int32) &&& 31).toUInt32).toInt32) &&& (3 : Int32))), .val (.int (((i0.toUInt32 >>> ((4 : Int32) &&& 31).toUInt32).toInt32) &&& (3 : Int32))), .val (.int (((i0.toUInt32 >>> ((6 : Int32) &&& 31).toUInt32).toInt32) &&& (3 : Int32))), .val (.int (((i0.toUInt32 >>> ((8 : Int32) &&& 31).toUInt32).toInt32) &&& (3 : Int32))), .val (.int lo_12), .val (.int lo_14), .val (.int lo_16), .val (.long v21_s0), .second, .val (.long v26_s0), .second, .val (.long v31_s0), .second, .val (.long (v21_s0 + v26_s0)), .second, .val (.int (((i0 &&& (3 : Int32)) + lo_12) + lo_14))] [(.int (((i0 &&& (3 : Int32)) + lo_12) + lo_14))])) := fun t k => P44 t (st45 _ k)
        have P46 : own_Go p e below S0 (T45.setTop (mkF m 282 #[.val (.int i0), .val (.int i1), .val (.int i2), .val (.int i3), .val (.long i4), .second, .val (.ref b2), .val (.int (i0 &&& (3 : Int32))), .val (.int (((i0.toUInt32 >>> ((2 : Int32) &&& 31).toUInt32).toInt32) &&& (3 : Int32))), .val (.int (((i0.toUInt32 >>> ((4 : Int32) &&& 31).toUInt32).toInt32) &&& (3 : Int32))), .val (.int (((i0.toUInt32 >>> ((6 : Int32) &&& 31).toUInt32).toInt32) &&& (3 : Int32))), .val (.int (((i0.toUInt32 >>> ((8 : Int32) &&& 31).toUInt32).toInt32) &&& (3 : Int32))), .val (.int lo_12), .val (.int lo_14), .val (.int lo_16), .val (.long v21_s0), .second, .val (.long v26_s0), .second, .val (.long v31_s0), .second, .val (.long (v21_s0 + v26_s0)), .second, .val (.int (((i0 &&& (3 : Int32)) + lo_12) + lo_14))] [(.int (1 : Int32))])) := fun t k => P45 t (by
          show Steps p.tables e below (T45.setTop (mkF m 272 #[.val (.int i0), .val (.int i1), .val (.int i2), .val (.int i3), .val (.long i4), .second, .val (.ref b2), .val (.int (i0 &&& (3 : Int32))), .val (.int (((i0.toUInt32 >>> ((2 : Int32) &&& 31).toUInt32).toInt32) &&& (3 : Int32))), .val (.int (((i0.toUInt32 >>> ((4 : Int32) &&& 31).toUInt32).toInt32) &&& (3 : Int32))), .val (.int (((i0.toUInt32 >>> ((6 : Int32) &&& 31).toUInt32).toInt32) &&& (3 : Int32))), .val (.int (((i0.toUInt32 >>> ((8 : Int32) &&& 31).toUInt32).toInt32) &&& (3 : Int32))), .val (.int lo_12), .val (.int lo_14), .val (.int lo_16), .val (.long v21_s0), .second, .val (.long v26_s0), .second, .val (.long v31_s0), .second, .val (.long (v21_s0 + v26_s0)), .second, .val (.int (((i0 &&& (3 : Int32)) + lo_12) + lo_14))] [(.int (((i0 &&& (3 : Int32)) + lo_12) + lo_14))])) t
          refine XS.iload X45.here hx rfl (hb hby at_272) rfl ?_
          refine XS.icmpNo X45.here hx rfl (hb hby at_274) rfl (teq rfl).2 ?_
          refine XS.iconst X45.here hx rfl (hb hby at_277) ?_
          refine XS.goto X45.here hx rfl (pc0 := 278) (pc' := 282) rfl (hb hby at_278) (by decide) (by decide) ?_
          show Steps p.tables e below (T45.setTop (mkF m 282 #[.val (.int i0), .val (.int i1), .val (.int i2), .val (.int i3), .val (.long i4), .second, .val (.ref b2), .val (.int (i0 &&& (3 : Int32))), .val (.int (((i0.toUInt32 >>> ((2 : Int32) &&& 31).toUInt32).toInt32) &&& (3 : Int32))), .val (.int (((i0.toUInt32 >>> ((4 : Int32) &&& 31).toUInt32).toInt32) &&& (3 : Int32))), .val (.int (((i0.toUInt32 >>> ((6 : Int32) &&& 31).toUInt32).toInt32) &&& (3 : Int32))), .val (.int (((i0.toUInt32 >>> ((8 : Int32) &&& 31).toUInt32).toInt32) &&& (3 : Int32))), .val (.int lo_12), .val (.int lo_14), .val (.int lo_16), .val (.long v21_s0), .second, .val (.long v26_s0), .second, .val (.long v31_s0), .second, .val (.long (v21_s0 + v26_s0)), .second, .val (.int (((i0 &&& (3 : Int32)) + lo_12) + lo_14))] [(.int (1 : Int32))])) t
          exact k)
        obtain ⟨fs, hr, hrun, hended, hW, hsame⟩ := X45.leave (v := some (.int (1 : Int32))) (fun h => by rw [Bd.returns] at h; cases h)
        refine ⟨_, _, own_from hS0 (P46 _ ?_), hrun, hended, _, _, rfl, ?_, ⟨_, rfl⟩, hW, hsame.mono (by decide) (by decide)⟩
        · show Steps p.tables e below (T45.setTop (mkF m 282 #[.val (.int i0), .val (.int i1), .val (.int i2), .val (.int i3), .val (.long i4), .second, .val (.ref b2), .val (.int (i0 &&& (3 : Int32))), .val (.int (((i0.toUInt32 >>> ((2 : Int32) &&& 31).toUInt32).toInt32) &&& (3 : Int32))), .val (.int (((i0.toUInt32 >>> ((4 : Int32) &&& 31).toUInt32).toInt32) &&& (3 : Int32))), .val (.int (((i0.toUInt32 >>> ((6 : Int32) &&& 31).toUInt32).toInt32) &&& (3 : Int32))), .val (.int (((i0.toUInt32 >>> ((8 : Int32) &&& 31).toUInt32).toInt32) &&& (3 : Int32))), .val (.int lo_12), .val (.int lo_14), .val (.int lo_16), .val (.long v21_s0), .second, .val (.long v26_s0), .second, .val (.long v31_s0), .second, .val (.long (v21_s0 + v26_s0)), .second, .val (.int (((i0 &&& (3 : Int32)) + lo_12) + lo_14))] [(.int (1 : Int32))])) _
          exact retN X45 hx (t := .boolean) Bd.returns (by simp) (hb hby at_282) hr
        · show Q0 Z i0 i1 i2 i3 i4 h0 n0 _ T45.heap _
          rw [e45]
          exact ⟨rfl, N45⟩
      · skip
        have P47 : own_Go p e below S0 (T16.setTop (mkF m 269 #[.val (.int i0), .val (.int i1), .val (.int i2), .val (.int i3), .val (.long i4), .second, .val (.ref b2), .val (.int (i0 &&& (3 : Int32))), .val (.int (((i0.toUInt32 >>> ((2 : Int32) &&& 31).toUInt32).toInt32) &&& (3 : Int32))), .val (.int (((i0.toUInt32 >>> ((4 : Int32) &&& 31).toUInt32).toInt32) &&& (3 : Int32))), .val (.int (((i0.toUInt32 >>> ((6 : Int32) &&& 31).toUInt32).toInt32) &&& (3 : Int32))), .val (.int (((i0.toUInt32 >>> ((8 : Int32) &&& 31).toUInt32).toInt32) &&& (3 : Int32))), .val (.int lo_12), .val (.int lo_14), .val (.int lo_16), .val (.long v21_s0), .second, .val (.long v26_s0), .second, .val (.long v31_s0), .second, .val (.long ((v21_s0 + v26_s0) + v31_s0)), .second, .val (.int ((((i0 &&& (3 : Int32)) + lo_12) + lo_14) + lo_16))] [(.long ((v21_s0 + v26_s0) + v31_s0)), (.int (i0 &&& (3 : Int32))), (.ref b2)])) := fun t k => P42 t (by
          show Steps p.tables e below (T16.setTop (mkF m 217 #[.val (.int i0), .val (.int i1), .val (.int i2), .val (.int i3), .val (.long i4), .second, .val (.ref b2), .val (.int (i0 &&& (3 : Int32))), .val (.int (((i0.toUInt32 >>> ((2 : Int32) &&& 31).toUInt32).toInt32) &&& (3 : Int32))), .val (.int (((i0.toUInt32 >>> ((4 : Int32) &&& 31).toUInt32).toInt32) &&& (3 : Int32))), .val (.int (((i0.toUInt32 >>> ((6 : Int32) &&& 31).toUInt32).toInt32) &&& (3 : Int32))), .val (.int (((i0.toUInt32 >>> ((8 : Int32) &&& 31).toUInt32).toInt32) &&& (3 : Int32))), .val (.int lo_12), .val (.int lo_14), .val (.int lo_16), .val (.long v21_s0), .second, .val (.long v26_s0), .second, .val (.long v31_s0), .second, .unset, .unset, .unset] [(.int (2 : Int32)), (.int (((i0.toUInt32 >>> ((8 : Int32) &&& 31).toUInt32).toInt32) &&& (3 : Int32)))])) t
          refine XS.icmpYes X16.here hx rfl (pc0 := 217) (pc' := 240) rfl (hb hby at_217) rfl (feq c43).2 (by decide) (by decide) ?_
          refine XS.lload X16.here hx rfl (hb hby at_240) rfl ?_
          refine XS.lload X16.here hx rfl (hb hby at_242) rfl ?_
          refine XS.ladd X16.here hx rfl (hb hby at_244) rfl ?_
          refine XS.lload X16.here hx rfl (hb hby at_245) rfl ?_
          refine XS.ladd X16.here hx rfl (hb hby at_247) rfl ?_
          show Steps p.tables e below (T16.setTop (mkF m 248 #[.val (.int i0), .val (.int i1), .val (.int i2), .val (.int i3), .val (.long i4), .second, .val (.ref b2), .val (.int (i0 &&& (3 : Int32))), .val (.int (((i0.toUInt32 >>> ((2 : Int32) &&& 31).toUInt32).toInt32) &&& (3 : Int32))), .val (.int (((i0.toUInt32 >>> ((4 : Int32) &&& 31).toUInt32).toInt32) &&& (3 : Int32))), .val (.int (((i0.toUInt32 >>> ((6 : Int32) &&& 31).toUInt32).toInt32) &&& (3 : Int32))), .val (.int (((i0.toUInt32 >>> ((8 : Int32) &&& 31).toUInt32).toInt32) &&& (3 : Int32))), .val (.int lo_12), .val (.int lo_14), .val (.int lo_16), .val (.long v21_s0), .second, .val (.long v26_s0), .second, .val (.long v31_s0), .second, .unset, .unset, .unset] [(.long ((v21_s0 + v26_s0) + v31_s0))])) t
          refine XS.lstore X16.here hx rfl (hb hby at_248) rfl (l' := #[.val (.int i0), .val (.int i1), .val (.int i2), .val (.int i3), .val (.long i4), .second, .val (.ref b2), .val (.int (i0 &&& (3 : Int32))), .val (.int (((i0.toUInt32 >>> ((2 : Int32) &&& 31).toUInt32).toInt32) &&& (3 : Int32))), .val (.int (((i0.toUInt32 >>> ((4 : Int32) &&& 31).toUInt32).toInt32) &&& (3 : Int32))), .val (.int (((i0.toUInt32 >>> ((6 : Int32) &&& 31).toUInt32).toInt32) &&& (3 : Int32))), .val (.int (((i0.toUInt32 >>> ((8 : Int32) &&& 31).toUInt32).toInt32) &&& (3 : Int32))), .val (.int lo_12), .val (.int lo_14), .val (.int lo_16), .val (.long v21_s0), .second, .val (.long v26_s0), .second, .val (.long v31_s0), .second, .val (.long ((v21_s0 + v26_s0) + v31_s0)), .second, .unset]) rfl ?_
          refine XS.iload X16.here hx rfl (hb hby at_250) rfl ?_
          refine XS.iload X16.here hx rfl (hb hby at_252) rfl ?_
          refine XS.iadd X16.here hx rfl (hb hby at_254) rfl ?_
          refine XS.iload X16.here hx rfl (hb hby at_255) rfl ?_
          refine XS.iadd X16.here hx rfl (hb hby at_257) rfl ?_
          show Steps p.tables e below (T16.setTop (mkF m 258 #[.val (.int i0), .val (.int i1), .val (.int i2), .val (.int i3), .val (.long i4), .second, .val (.ref b2), .val (.int (i0 &&& (3 : Int32))), .val (.int (((i0.toUInt32 >>> ((2 : Int32) &&& 31).toUInt32).toInt32) &&& (3 : Int32))), .val (.int (((i0.toUInt32 >>> ((4 : Int32) &&& 31).toUInt32).toInt32) &&& (3 : Int32))), .val (.int (((i0.toUInt32 >>> ((6 : Int32) &&& 31).toUInt32).toInt32) &&& (3 : Int32))), .val (.int (((i0.toUInt32 >>> ((8 : Int32) &&& 31).toUInt32).toInt32) &&& (3 : Int32))), .val (.int lo_12), .val (.int lo_14), .val (.int lo_16), .val (.long v21_s0), .second, .val (.long v26_s0), .second, .val (.long v31_s0), .second, .val (.long ((v21_s0 + v26_s0) + v31_s0)), .second, .unset] [(.int (((i0 &&& (3 : Int32)) + lo_12) + lo_14))])) t
          refine XS.iload X16.here hx rfl (hb hby at_258) rfl ?_
          refine XS.iadd X16.here hx rfl (hb hby at_260) rfl ?_
          refine XS.istore X16.here hx rfl (hb hby at_261) rfl (l' := #[.val (.int i0), .val (.int i1), .val (.int i2), .val (.int i3), .val (.long i4), .second, .val (.ref b2), .val (.int (i0 &&& (3 : Int32))), .val (.int (((i0.toUInt32 >>> ((2 : Int32) &&& 31).toUInt32).toInt32) &&& (3 : Int32))), .val (.int (((i0.toUInt32 >>> ((4 : Int32) &&& 31).toUInt32).toInt32) &&& (3 : Int32))), .val (.int (((i0.toUInt32 >>> ((6 : Int32) &&& 31).toUInt32).toInt32) &&& (3 : Int32))), .val (.int (((i0.toUInt32 >>> ((8 : Int32) &&& 31).toUInt32).toInt32) &&& (3 : Int32))), .val (.int lo_12), .val (.int lo_14), .val (.int lo_16), .val (.long v21_s0), .second, .val (.long v26_s0), .second, .val (.long v31_s0), .second, .val (.long ((v21_s0 + v26_s0) + v31_s0)), .second, .val (.int ((((i0 &&& (3 : Int32)) + lo_12) + lo_14) + lo_16))]) rfl ?_
          refine XS.aload X16.here hx rfl (hb hby at_263) rfl rfl ?_
          refine XS.iload X16.here hx rfl (hb hby at_265) rfl ?_
          refine XS.lload X16.here hx rfl (hb hby at_267) rfl ?_
          show Steps p.tables e below (T16.setTop (mkF m 269 #[.val (.int i0), .val (.int i1), .val (.int i2), .val (.int i3), .val (.long i4), .second, .val (.ref b2), .val (.int (i0 &&& (3 : Int32))), .val (.int (((i0.toUInt32 >>> ((2 : Int32) &&& 31).toUInt32).toInt32) &&& (3 : Int32))), .val (.int (((i0.toUInt32 >>> ((4 : Int32) &&& 31).toUInt32).toInt32) &&& (3 : Int32))), .val (.int (((i0.toUInt32 >>> ((6 : Int32) &&& 31).toUInt32).toInt32) &&& (3 : Int32))), .val (.int (((i0.toUInt32 >>> ((8 : Int32) &&& 31).toUInt32).toInt32) &&& (3 : Int32))), .val (.int lo_12), .val (.int lo_14), .val (.int lo_16), .val (.long v21_s0), .second, .val (.long v26_s0), .second, .val (.long v31_s0), .second, .val (.long ((v21_s0 + v26_s0) + v31_s0)), .second, .val (.int ((((i0 &&& (3 : Int32)) + lo_12) + lo_14) + lo_16))] [(.long ((v21_s0 + v26_s0) + v31_s0)), (.int (i0 &&& (3 : Int32))), (.ref b2)])) t
          exact k)
        obtain ⟨_, _, ⟨T48, L48, k48, n48⟩, -, X48, ⟨Lc48, hQ48, l48, y48, z48⟩, st48⟩ := Jvm.LawKit.callS X16 hx (y := (⟨"com/example/strict_acl/strictacl/Utf8Text", "byteAfter", "([BIJ)I"⟩ : MethodName)) hown (mvT hZ (hw _ (List.mem_of_getElem? (i := 8) rfl))) (mvT hZ (hw _ (List.mem_of_getElem? (i := 9) rfl))) (mvT hZ (hw _ (List.mem_of_getElem? (i := 10) rfl))) (mvT hZ (hw _ (List.mem_of_getElem? (i := 11) rfl))) (by decide) (backOf (W := 0) (rm3n3 l Z a0 hw [] b2 (i0 &&& (3 : Int32)) ((v21_s0 + v26_s0) + v31_s0) k2 fo_16 lo_12 v21_s0 lo_14 v26_s0 lo_16 v31_s0 T16.heap n0 (Nat.le_trans Z0 K16.1) F16_0 (by rw [own_lt64, own_z64]; omega) (by rw [own_lt64]; omega) (own_inb (by omega)) (by rw [F16_1.1 _ (own_natlt (by omega) (by omega)), F14_1.1 _ (own_natlt (by omega) (by omega))]; exact F12_1.2) hv21_s0 (by rw [own_lt64]; omega) (own_inb (by omega)) (by rw [F16_1.1 _ (own_natlt (by omega) (by omega))]; exact F14_1.2) hv26_s0 (by rw [own_lt64]; omega) (own_inb (by omega)) (by exact F16_1.2) hv31_s0 (by rw [own_lt64]; omega)) hZ (hw _ (List.mem_of_getElem? (i := 11) rfl)) (hw _ (List.mem_of_getElem? (i := 10) rfl)) (by decide) (by decide)) (g := (mkF m 269 #[.val (.int i0), .val (.int i1), .val (.int i2), .val (.int i3), .val (.long i4), .second, .val (.ref b2), .val (.int (i0 &&& (3 : Int32))), .val (.int (((i0.toUInt32 >>> ((2 : Int32) &&& 31).toUInt32).toInt32) &&& (3 : Int32))), .val (.int (((i0.toUInt32 >>> ((4 : Int32) &&& 31).toUInt32).toInt32) &&& (3 : Int32))), .val (.int (((i0.toUInt32 >>> ((6 : Int32) &&& 31).toUInt32).toInt32) &&& (3 : Int32))), .val (.int (((i0.toUInt32 >>> ((8 : Int32) &&& 31).toUInt32).toInt32) &&& (3 : Int32))), .val (.int lo_12), .val (.int lo_14), .val (.int lo_16), .val (.long v21_s0), .second, .val (.long v26_s0), .second, .val (.long v31_s0), .second, .val (.long ((v21_s0 + v26_s0) + v31_s0)), .second, .val (.int ((((i0 &&& (3 : Int32)) + lo_12) + lo_14) + lo_16))] [(.long ((v21_s0 + v26_s0) + v31_s0)), (.int (i0 &&& (3 : Int32))), (.ref b2)])) rfl (by rw [hml]; rfl) (argsL := [(.ref b2), (.int (i0 &&& (3 : Int32))), (.long ((v21_s0 + v26_s0) + v31_s0))]) (rest := []) (lenOf pd_2 rfl) rfl (by show 2 * 0 + _ ≤ _; exact Nat.le_of_eq rfl) (hb hby at_269) (fun _ _ => ⟨rfl, rfl, (by decide : 1 + 0 ≤ _), (by decide : 16 + 0 ≤ _)⟩)
        dsimp only [Pt.U, Pt.locs, Pt.cells, Pt.slots] at X48 l48 y48 z48 st48 hQ48
        subst l48 y48 z48
        obtain ⟨rfl, N48q, e48⟩ := hQ48
        have N48 := Fr.app N16 N48q
        have P48 : own_Go p e below S0 (T48.setTop (mkF m 272 #[.val (.int i0), .val (.int i1), .val (.int i2), .val (.int i3), .val (.long i4), .second, .val (.ref b2), .val (.int (i0 &&& (3 : Int32))), .val (.int (((i0.toUInt32 >>> ((2 : Int32) &&& 31).toUInt32).toInt32) &&& (3 : Int32))), .val (.int (((i0.toUInt32 >>> ((4 : Int32) &&& 31).toUInt32).toInt32) &&& (3 : Int32))), .val (.int (((i0.toUInt32 >>> ((6 : Int32) &&& 31).toUInt32).toInt32) &&& (3 : Int32))), .val (.int (((i0.toUInt32 >>> ((8 : Int32) &&& 31).toUInt32).toInt32) &&& (3 : Int32))), .val (.int lo_12), .val (.int lo_14), .val (.int lo_16), .val (.long v21_s0), .second, .val (.long v26_s0), .second, .val (.long v31_s0), .second, .val (.long ((v21_s0 + v26_s0) + v31_s0)), .second, .val (.int ((((i0 &&& (3 : Int32)) + lo_12) + lo_14) + lo_16))] [(.int ((((i0 &&& (3 : Int32)) + lo_12) + lo_14) + lo_16))])) := fun t k => P47 t (st48 _ k)
        have P49 : own_Go p e below S0 (T48.setTop (mkF m 282 #[.val (.int i0), .val (.int i1), .val (.int i2), .val (.int i3), .val (.long i4), .second, .val (.ref b2), .val (.int (i0 &&& (3 : Int32))), .val (.int (((i0.toUInt32 >>> ((2 : Int32) &&& 31).toUInt32).toInt32) &&& (3 : Int32))), .val (.int (((i0.toUInt32 >>> ((4 : Int32) &&& 31).toUInt32).toInt32) &&& (3 : Int32))), .val (.int (((i0.toUInt32 >>> ((6 : Int32) &&& 31).toUInt32).toInt32) &&& (3 : Int32))), .val (.int (((i0.toUInt32 >>> ((8 : Int32) &&& 31).toUInt32).toInt32) &&& (3 : Int32))), .val (.int lo_12), .val (.int lo_14), .val (.int lo_16), .val (.long v21_s0), .second, .val (.long v26_s0), .second, .val (.long v31_s0), .second, .val (.long ((v21_s0 + v26_s0) + v31_s0)), .second, .val (.int ((((i0 &&& (3 : Int32)) + lo_12) + lo_14) + lo_16))] [(.int (1 : Int32))])) := fun t k => P48 t (by
          show Steps p.tables e below (T48.setTop (mkF m 272 #[.val (.int i0), .val (.int i1), .val (.int i2), .val (.int i3), .val (.long i4), .second, .val (.ref b2), .val (.int (i0 &&& (3 : Int32))), .val (.int (((i0.toUInt32 >>> ((2 : Int32) &&& 31).toUInt32).toInt32) &&& (3 : Int32))), .val (.int (((i0.toUInt32 >>> ((4 : Int32) &&& 31).toUInt32).toInt32) &&& (3 : Int32))), .val (.int (((i0.toUInt32 >>> ((6 : Int32) &&& 31).toUInt32).toInt32) &&& (3 : Int32))), .val (.int (((i0.toUInt32 >>> ((8 : Int32) &&& 31).toUInt32).toInt32) &&& (3 : Int32))), .val (.int lo_12), .val (.int lo_14), .val (.int lo_16), .val (.long v21_s0), .second, .val (.long v26_s0), .second, .val (.long v31_s0), .second, .val (.long ((v21_s0 + v26_s0) + v31_s0)), .second, .val (.int ((((i0 &&& (3 : Int32)) + lo_12) + lo_14) + lo_16))] [(.int ((((i0 &&& (3 : Int32)) + lo_12) + lo_14) + lo_16))])) t
          refine XS.iload X48.here hx rfl (hb hby at_272) rfl ?_
          refine XS.icmpNo X48.here hx rfl (hb hby at_274) rfl (teq rfl).2 ?_
          refine XS.iconst X48.here hx rfl (hb hby at_277) ?_
          refine XS.goto X48.here hx rfl (pc0 := 278) (pc' := 282) rfl (hb hby at_278) (by decide) (by decide) ?_
          show Steps p.tables e below (T48.setTop (mkF m 282 #[.val (.int i0), .val (.int i1), .val (.int i2), .val (.int i3), .val (.long i4), .second, .val (.ref b2), .val (.int (i0 &&& (3 : Int32))), .val (.int (((i0.toUInt32 >>> ((2 : Int32) &&& 31).toUInt32).toInt32) &&& (3 : Int32))), .val (.int (((i0.toUInt32 >>> ((4 : Int32) &&& 31).toUInt32).toInt32) &&& (3 : Int32))), .val (.int (((i0.toUInt32 >>> ((6 : Int32) &&& 31).toUInt32).toInt32) &&& (3 : Int32))), .val (.int (((i0.toUInt32 >>> ((8 : Int32) &&& 31).toUInt32).toInt32) &&& (3 : Int32))), .val (.int lo_12), .val (.int lo_14), .val (.int lo_16), .val (.long v21_s0), .second, .val (.long v26_s0), .second, .val (.long v31_s0), .second, .val (.long ((v21_s0 + v26_s0) + v31_s0)), .second, .val (.int ((((i0 &&& (3 : Int32)) + lo_12) + lo_14) + lo_16))] [(.int (1 : Int32))])) t
          exact k)
        obtain ⟨fs, hr, hrun, hended, hW, hsame⟩ := X48.leave (v := some (.int (1 : Int32))) (fun h => by rw [Bd.returns] at h; cases h)
        refine ⟨_, _, own_from hS0 (P49 _ ?_), hrun, hended, _, _, rfl, ?_, ⟨_, rfl⟩, hW, hsame.mono (by decide) (by decide)⟩
        · show Steps p.tables e below (T48.setTop (mkF m 282 #[.val (.int i0), .val (.int i1), .val (.int i2), .val (.int i3), .val (.long i4), .second, .val (.ref b2), .val (.int (i0 &&& (3 : Int32))), .val (.int (((i0.toUInt32 >>> ((2 : Int32) &&& 31).toUInt32).toInt32) &&& (3 : Int32))), .val (.int (((i0.toUInt32 >>> ((4 : Int32) &&& 31).toUInt32).toInt32) &&& (3 : Int32))), .val (.int (((i0.toUInt32 >>> ((6 : Int32) &&& 31).toUInt32).toInt32) &&& (3 : Int32))), .val (.int (((i0.toUInt32 >>> ((8 : Int32) &&& 31).toUInt32).toInt32) &&& (3 : Int32))), .val (.int lo_12), .val (.int lo_14), .val (.int lo_16), .val (.long v21_s0), .second, .val (.long v26_s0), .second, .val (.long v31_s0), .second, .val (.long ((v21_s0 + v26_s0) + v31_s0)), .second, .val (.int ((((i0 &&& (3 : Int32)) + lo_12) + lo_14) + lo_16))] [(.int (1 : Int32))])) _
          exact retN X48 hx (t := .boolean) Bd.returns (by simp) (hb hby at_282) hr
        · show Q0 Z i0 i1 i2 i3 i4 h0 n0 _ T48.heap _
          rw [e48]
          exact ⟨rfl, N48⟩
set_option maxRecDepth 65536 in
set_option maxHeartbeats 40000000 in
theorem comes_1 {Post : Tables → Env → Array Value → State → Outcome → State → Prop} (hpost : ∀ tb e args s v u, (limb_1_1.after args s (.returned v) u = true ∧ limb_1_2.after args s (.returned v) u = true ∧ True) → FrameEnd s (.returned v) u (Jvm.fieldLocs frame_1_writes args s ++ Jvm.arrayLocs frame_1_arrays args s ++ Jvm.staticLocs frame_1_statics s) 16 128 → Post tb e args s (.returned v) u) :
    ArmFor flags0 classFile x code maxLocals ret World_1 tables_1 room_1 Calls_1 rest_1 Pre_1 Post := by
  intro l hfl _ _ p e ha hc hk s m args below hf hA hF happ hP
  obtain ⟨hcalls, hrest, hpre⟩ := hP
  obtain ⟨-, -, -, hnamed, -, -, -, hat⟩ := (Spec.applies_iff hf).mp happ
  obtain ⟨hg, hn⟩ := and_e (Cond.before_iff.mp (show (Jvm.Cond.and given_1 narrow_1).before args s = true from hpre))
  obtain ⟨ga1, gb1⟩ := and_e hg
  obtain ⟨ga2, gb2⟩ := and_e gb1
  obtain ⟨ga3, gb3⟩ := and_e gb2
  obtain ⟨ga4, gb4⟩ := and_e gb3
  obtain ⟨ga5, gb5⟩ := and_e gb4
  obtain ⟨w0, w1, w2, w3, w4, rfl⟩ : ∃ w0 w1 w2 w3 w4 : Value, args = #[w0, w1, w2, w3, w4] := by
    have hs : args.size = 5 := by simpa [Cond.value, given_1] using ga1
    obtain ⟨L⟩ := args
    match L, hs with
    | [w0, w1, w2, w3, w4], _ => exact ⟨w0, w1, w2, w3, w4, rfl⟩
  have hw := fun d (hd : d ∈ tables_1) => atoms_spec (ws := Jvm.Cond.code x code maxLocals ret :: tables_1) hat d (List.mem_cons_of_mem _ hd)
  have hfit : Fit s := fun {y c} hc i hi => by
    obtain ⟨ha, rfl⟩ := Array.getElem?_eq_some_iff.mp hc
    have q := List.all_eq_true.mp ((Array.all_eq_true_iff_forall_mem.mp hF) _ (Array.getElem_mem ha)) i (List.mem_range.mpr hi)
    simpa [Array.getElem?_eq_getElem hi] using q
  obtain ⟨i0, ei0⟩ := is_v ga2
  obtain rfl : w0 = (.int i0) := Option.some.inj ei0
  obtain ⟨i1, ei1⟩ := is_v ga3
  obtain rfl : w1 = (.int i1) := Option.some.inj ei1
  obtain ⟨i2, ei2⟩ := is_v ga4
  obtain rfl : w2 = (.int i2) := Option.some.inj ei2
  obtain ⟨i3, ei3⟩ := is_v ga5
  obtain rfl : w3 = (.int i3) := Option.some.inj ei3
  obtain ⟨i4, ei4⟩ := isL_v gb5
  obtain rfl : w4 = (.long i4) := Option.some.inj ei4
  obtain ⟨n, o, h1, h2, h3, _, L, rfl, ⟨rfl, N⟩, hq⟩ := rm0 l s _ hw tables_1 i0 i1 i2 i3 i4 s.heap s.heap.size (Nat.le_refl _) p e ha hc hk s m _ below hf ((Spec.applies_iff_loose hf).mp happ).1 ⟨rfl, State.Warmed39.refl s, rfl⟩ trivial
  refine ⟨n, _, h1, h2, h3, hpost _ _ _ _ _ _ ⟨Cond.after_iff.mpr rfl, Cond.after_iff.mpr (eq_i res_at (Term.int_eval (1)) rfl), trivial⟩ ⟨hq.1, hq.2.1, (hq.2.2.sift fun y hy => Or.inr (N y hy)).mono (by decide) (by decide)⟩⟩
theorem main_1_1 : Claimed_1_1 := comes_1 fun _ _ _ _ _ _ h hF => ⟨h.1, hF⟩
theorem main_1_2 : Claimed_1_2 := comes_1 fun _ _ _ _ _ _ h hF => ⟨h.2.1, hF⟩
end Jvm.Pilot.@@N@@
namespace Jvm.Pilot.@@N@@
open Jvm Jvm.ClassFile Sem Op Lib Jvm.Free Jvm.Stand Jvm.Pilot.@@N@@.Jvm.D
/-! MADE BY PROGRAM (witnessworld.py) out of the Statement's table words and the real class files: 9 classes; the members and pool entries that the words name. The judged class is class 1, her method 1. -/
namespace start1
open Jvm.ClassFile
def u (s : String) : CpInfo := .utf8 (stringToUtf16 s)
/-- a pool by its gaps: so many unusable entries, then the entry; so many at the end -/
def gap : Nat → List CpInfo → List CpInfo
  | 0, r => r
  | n + 1, r => .unusable :: gap n r
def poolList (es : List (Nat × CpInfo)) (last : Nat) : List CpInfo := es.foldr (fun e r => gap e.1 (e.2 :: r)) (gap last [])
def pool (es : List (Nat × CpInfo)) (last : Nat) : Array CpInfo := ⟨poolList es last⟩
def fileOf (pool : Array CpInfo) (this : Nat) (attrs : Array Attribute := #[]) (ms : Array MethodInfo := #[]) (fl : Nat := 33) (sup : Nat := 0) (ifs : Array Nat := #[]) (fds : Array FieldInfo := #[]) : ClassFile where
  minorVersion := 0
  majorVersion := 65
  constantPool := pool
  accessFlags := fl
  thisClass := this
  superClass := sup
  interfaces := ifs
  fields := fds
  methods := ms
  attributes := attrs
def plain (name : String) (sup : Option ClassId) : Class where
  name := name
  kind := .ordinary
  loader := none
  accessFlags := 33
  super := sup
  interfaces := #[]
  cf := none
  fields := #[]
  methods := #[]
  instanceTypes := #[]
  staticTypes := #[]
  resolved := #[]
  callSites := []
  init := .initialized
  statics := none
  mirror := none

def pool0 : Array CpInfo := pool [(5, u "<init>"), (0, u "()V"), (1, .class_ 10), (1, u "java/lang/Object")] 113

def k0m0 : Method := { name := "<init>", desc := "()V", sig := { parameters := [], returnType := none }, accessFlags := 1, code := none }
/-- java/lang/Object -/
def k0 : Class := { plain "java/lang/Object" none with
  accessFlags := 33
  interfaces := #[]
  cf := some (fileOf pool0 8 #[] #[{ accessFlags := 1, nameIndex := 5, descriptorIndex := 6, attributes := #[] }] 33 0 #[] #[])
  fields := #[]
  methods := #[k0m0]
  instanceTypes := #[]
  staticTypes := #[]
  resolved := Array.replicate 124 none
  statics := none }

def pool1 : Array CpInfo := pool [(2, .class_ 4), (1, u "java/lang/Object"), (0, u "<init>"), (0, u "()V"), (0, .methodref 8 9), (0, .class_ 10), (0, .nameAndType 11 12), (0, u "com/example/strict_acl/strictacl/Utf8TextByteAfterPinLaw"), (0, u "fill"), (0, u "([BII)V"), (0, .methodref 8 14), (0, .nameAndType 15 16), (0, u "put"), (0, u "([BIII)I"), (0, .long 2), (1, .methodref 20 21), (0, .class_ 22), (0, .nameAndType 23 24), (0, u "com/example/strict_acl/strictacl/Utf8Text"), (0, u "byteAfter"), (0, u "([BIJ)I"), (2, u "law"), (0, u "(IIIIJ)Z")] 5

def k1m0 : Method := { name := "<init>", desc := "()V", sig := { parameters := [], returnType := none }, accessFlags := 1, code := none }
def k1c1 : Code := { maxStack := 5, maxLocals := 24, code := code, exceptionTable := #[], attributes := #[] }
def k1m1 : Method := { name := "law", desc := "(IIIIJ)Z", sig := { parameters := [.int, .int, .int, .int, .long], returnType := some .boolean }, accessFlags := 9, code := some k1c1 }
def k1c2 : Code := { maxStack := 4, maxLocals := 3, code := method_3_code, exceptionTable := #[], attributes := #[] }
def k1m2 : Method := { name := "fill", desc := "([BII)V", sig := { parameters := [(.array .byte), .int, .int], returnType := none }, accessFlags := 10, code := some k1c2 }
def k1c3 : Code := { maxStack := 5, maxLocals := 8, code := method_4_code, exceptionTable := #[], attributes := #[] }
def k1m3 : Method := { name := "put", desc := "([BIII)I", sig := { parameters := [(.array .byte), .int, .int, .int], returnType := some .int }, accessFlags := 10, code := some k1c3 }
/-- com/example/strict_acl/strictacl/Utf8TextByteAfterPinLaw -/
def k1 : Class := { plain "com/example/strict_acl/strictacl/Utf8TextByteAfterPinLaw" (some 0) with
  accessFlags := 49
  interfaces := #[]
  cf := some (fileOf pool1 8 #[] #[{ accessFlags := 1, nameIndex := 5, descriptorIndex := 6, attributes := #[] }, { accessFlags := 9, nameIndex := 27, descriptorIndex := 28, attributes := #[] }, { accessFlags := 10, nameIndex := 11, descriptorIndex := 12, attributes := #[] }, { accessFlags := 10, nameIndex := 15, descriptorIndex := 16, attributes := #[] }] 49 2 #[] #[])
  fields := #[]
  methods := #[k1m0, k1m1, k1m2, k1m3]
  instanceTypes := #[]
  staticTypes := #[]
  resolved := Array.replicate 34 none
  statics := none }

def pool2 : Array CpInfo := pool [(2, .class_ 4), (1, u "java/lang/Object"), (0, u "<init>"), (0, u "()V"), (3, .class_ 12), (1, u "com/example/strict_acl/strictacl/Utf8Text"), (32, .long 2), (62, u "NOT_UTF8"), (0, u "Ljava/lang/String;"), (8, u "byteAfter"), (0, u "([BIJ)I")] 22

def k2m0 : Method := { name := "<init>", desc := "()V", sig := { parameters := [], returnType := none }, accessFlags := 2, code := none }
def k2c1 : Code := { maxStack := 4, maxLocals := 9, code := prog_39_method_4_code, exceptionTable := #[], attributes := #[] }
def k2m1 : Method := { name := "byteAfter", desc := "([BIJ)I", sig := { parameters := [(.array .byte), .int, .long], returnType := some .int }, accessFlags := 8, code := some k2c1 }
/-- com/example/strict_acl/strictacl/Utf8Text -/
def k2 : Class := { plain "com/example/strict_acl/strictacl/Utf8Text" (some 0) with
  accessFlags := 48
  interfaces := #[]
  cf := some (fileOf pool2 10 #[] #[{ accessFlags := 2, nameIndex := 5, descriptorIndex := 6, attributes := #[] }, { accessFlags := 8, nameIndex := 118, descriptorIndex := 119, attributes := #[] }] 48 2 #[] #[{ accessFlags := 24, nameIndex := 108, descriptorIndex := 109, attributes := #[] }])
  fields := #[{ name := "NOT_UTF8", type := (.object "java/lang/String"), accessFlags := 24, slot := 0, constantValue := 0 }]
  methods := #[k2m0, k2m1]
  instanceTypes := #[]
  staticTypes := #[(.object "java/lang/String")]
  resolved := Array.replicate 142 none
  statics := none }

def pool3 : Array CpInfo := pool [(1, u "java/lang/Cloneable"), (0, .class_ 1), (0, u "java/lang/Object"), (0, .class_ 3)] 3

/-- java/lang/Cloneable -/
def k3 : Class := { plain "java/lang/Cloneable" (some 0) with
  accessFlags := 1537
  interfaces := #[]
  cf := some (fileOf pool3 2 #[] #[] 1537 4 #[] #[])
  fields := #[]
  methods := #[]
  instanceTypes := #[]
  staticTypes := #[]
  resolved := Array.replicate 8 none
  statics := none }

def pool4 : Array CpInfo := pool [(1, u "java/io/Serializable"), (0, .class_ 1), (0, u "java/lang/Object"), (0, .class_ 3)] 3

/-- java/io/Serializable -/
def k4 : Class := { plain "java/io/Serializable" (some 0) with
  accessFlags := 1537
  interfaces := #[]
  cf := some (fileOf pool4 2 #[] #[] 1537 4 #[] #[])
  fields := #[]
  methods := #[]
  instanceTypes := #[]
  staticTypes := #[]
  resolved := Array.replicate 8 none
  statics := none }

/-- the primitive byte -/
def k5 : Class := { plain "byte" none with kind := .primitive 'B', accessFlags := 0x411 }
/-- [B -/
def k6 : Class := { plain "[B" (some 0) with kind := .array 5 .byte, interfaces := #[3, 4], accessFlags := 1041 }

/-- the primitive int -/
def k7 : Class := { plain "int" none with kind := .primitive 'I', accessFlags := 0x411 }
/-- [I -/
def k8 : Class := { plain "[I" (some 0) with kind := .array 7 .int, interfaces := #[3, 4], accessFlags := 1041 }

def heap : Heap := #[]
def classes : Array Class := #[k0, k1, k2, k3, k4, k5, k6, k7, k8]
def interned : List (Array UInt16 × Addr) := []
def slotsUsed : Nat := 0
def theMethod : MethodId := ⟨1, 1⟩
def args0 : Array Value := #[.int 5, .int 3, .int 6, .int 6, .long 6]
def aboutOver (below : List Frame) : State where
  vm := { classes := classes, interned := interned.toArray }
  heap := heap
  slotsUsed := slotsUsed
  threads := #[{ frames := .invoking theMethod args0 :: below }]
def below0 : List Frame := [.native { method := ⟨0, 0⟩, args := #[] }]
def about1 : State := aboutOver below0
def p0 : Program := .bare "" "" ""
def e0 : Env := launch0.env 0 0 0
theorem w_frames : about1.frames = Frame.invoking theMethod args0 :: below0 := rfl
set_option maxRecDepth 65536 in
theorem w_args : argsFit about1.vm theMethod args0 = true := by decide +kernel
set_option maxRecDepth 65536 in
theorem w_heap : heapFits about1 = true := by decide +kernel
set_option maxRecDepth 65536 in
theorem w_runnable : about1.curStatus? = some .runnable := by decide +kernel
set_option maxRecDepth 65536 in
theorem w_alone : about1.alone = true := by decide +kernel
set_option maxRecDepth 65536 in
theorem w_named : about1.methodNamed? x = some theMethod := by decide +kernel
set_option maxRecDepth 65536 in
theorem w_hears : about1.hears theMethod below0 = true := by decide +kernel
set_option maxRecDepth 65536 in
theorem w_ripe : about1.ripe theMethod args0 below0 = true := by decide +kernel
theorem w_running : about1.status = .running := rfl
set_option maxRecDepth 65536 in
theorem w_room : about1.hasRoom e0.platform room_1 = true :=
  launch0.hasRoom_least _ room_1 (by decide +kernel) (by decide +kernel) (by decide +kernel) (by decide +kernel) (by decide +kernel) (by decide +kernel)
theorem allAtoms_all (ts : List Jvm.Cond) (a : Array Jvm.Value) (st : Jvm.State) : (allAtoms ts).before a st = ts.all (fun c => c.before a st) := by
  induction ts with
  | nil => rfl
  | cons c t ih =>
    show (Jvm.Cond.and c (allAtoms t)).before a st = _
    rw [Jvm.Cond.before_and, ih, List.all_cons]
def words1 : List Jvm.Cond := Jvm.Cond.code x code maxLocals ret :: tables_1
/-- a 'code' word, met by the world's own term for the bytes: nothing is compared byte by byte -/
theorem code_word {y : MethodName} {bytes : ByteArray} {mx : Nat} {rt : Option FieldType} {a : Array Value} {s : State} {m : MethodId} {meth : Method} {c : Code} (h1 : s.methodNamed? y = some m) (h2 : s.vm.method? m = some meth) (h3 : meth.code = some c) (h4 : c.code = bytes)
    (h5 : (c.maxLocals == mx && c.exceptionTable.isEmpty && decide (c.maxStack ≤ mostOperands) && decide (meth.sig.returnType = rt) && !meth.locks && decide (parseMethodDescriptor y.desc = some meth.sig)) = true) : (Jvm.Cond.code y bytes mx rt).before a s = true := by
  simp only [Bool.and_eq_true, beq_iff_eq, Bool.not_eq_true', decide_eq_true_eq] at h5
  obtain ⟨⟨⟨⟨⟨g1, g2⟩, g3⟩, g4⟩, g5⟩, g6⟩ := h5
  simp [Cond.before, Cond.holds, Cond.value, h1, h2, h3, h4, g1, g2, g3, g4, g5, g6]
def isCode : Jvm.Cond → Bool
  | .code _ _ _ _ => true
  | _ => false
theorem all_split {L : List Jvm.Cond} {P : Jvm.Cond → Bool} (h1 : L.all (fun c => isCode c || P c) = true) (h2 : ∀ c ∈ L.filter isCode, P c = true) : L.all P = true := by
  refine List.all_eq_true.mpr fun c hc => ?_
  have h := List.all_eq_true.mp h1 c hc
  rcases Bool.eq_false_or_eq_true (isCode c) with hi | hi
  · exact h2 c (List.mem_filter.mpr ⟨hc, hi⟩)
  · simpa [hi] using h
set_option maxRecDepth 65536 in
theorem w_c0 : (Jvm.Cond.code x code maxLocals ret).before args0 about1 = true := code_word (m := ⟨1, 1⟩) (meth := k1m1) (c := k1c1) (by decide +kernel) rfl rfl rfl (by decide +kernel)
set_option maxRecDepth 65536 in
theorem w_c1 : (Jvm.Cond.code ({ cls := "com/example/strict_acl/strictacl/Utf8TextByteAfterPinLaw", name := "fill", desc := "([BII)V" } : Jvm.MethodName) method_3_code (3 : Nat) (Option.none : Option Jvm.ClassFile.FieldType)).before args0 about1 = true := code_word (m := ⟨1, 2⟩) (meth := k1m2) (c := k1c2) (by decide +kernel) rfl rfl rfl (by decide +kernel)
set_option maxRecDepth 65536 in
theorem w_c2 : (Jvm.Cond.code ({ cls := "com/example/strict_acl/strictacl/Utf8TextByteAfterPinLaw", name := "put", desc := "([BIII)I" } : Jvm.MethodName) method_4_code (8 : Nat) (Option.some Jvm.ClassFile.FieldType.int)).before args0 about1 = true := code_word (m := ⟨1, 3⟩) (meth := k1m3) (c := k1c3) (by decide +kernel) rfl rfl rfl (by decide +kernel)
set_option maxRecDepth 65536 in
theorem w_c3 : (Jvm.Cond.code ({ cls := "com/example/strict_acl/strictacl/Utf8Text", name := "byteAfter", desc := "([BIJ)I" } : Jvm.MethodName) prog_39_method_4_code (9 : Nat) (Option.some Jvm.ClassFile.FieldType.int)).before args0 about1 = true := code_word (m := ⟨2, 1⟩) (meth := k2m1) (c := k2c1) (by decide +kernel) rfl rfl rfl (by decide +kernel)
def codes1 : List Jvm.Cond := [Jvm.Cond.code x code maxLocals ret, Jvm.Cond.code ({ cls := "com/example/strict_acl/strictacl/Utf8TextByteAfterPinLaw", name := "fill", desc := "([BII)V" } : Jvm.MethodName) method_3_code (3 : Nat) (Option.none : Option Jvm.ClassFile.FieldType), Jvm.Cond.code ({ cls := "com/example/strict_acl/strictacl/Utf8TextByteAfterPinLaw", name := "put", desc := "([BIII)I" } : Jvm.MethodName) method_4_code (8 : Nat) (Option.some Jvm.ClassFile.FieldType.int), Jvm.Cond.code ({ cls := "com/example/strict_acl/strictacl/Utf8Text", name := "byteAfter", desc := "([BIJ)I" } : Jvm.MethodName) prog_39_method_4_code (9 : Nat) (Option.some Jvm.ClassFile.FieldType.int)]
set_option maxRecDepth 65536 in
theorem codes_eq : words1.filter isCode = codes1 := rfl
theorem w_codes : ∀ c ∈ words1.filter isCode, c.before args0 about1 = true := by
  rw [codes_eq]
  intro c hc
  simp only [codes1, List.mem_cons, List.not_mem_nil, or_false] at hc
  rcases hc with rfl | rfl | rfl | rfl
  · exact w_c0
  · exact w_c1
  · exact w_c2
  · exact w_c3
set_option maxRecDepth 65536 in
theorem w_t1 : words1.all (fun c => isCode c || c.before args0 about1) = true := by decide +kernel
theorem w_tables : (allAtoms (Jvm.Cond.code x code maxLocals ret :: tables_1)).before args0 about1 = true := by
  rw [allAtoms_all]
  show words1.all (fun c => c.before args0 about1) = true
  refine all_split ?_ w_codes
  rw [w_t1]
set_option maxRecDepth 65536 in
theorem w_case : (Jvm.Cond.and given_1 narrow_1).before args0 about1 = true := by decide +kernel
theorem w_applies : (headSpec (Jvm.Cond.code x code maxLocals ret :: tables_1) room_1).applies x e0.platform about1 = true :=
  (Spec.applies_iff w_frames).mpr ⟨w_running, w_runnable, w_alone, w_named, w_hears, w_ripe, w_room, w_tables⟩
theorem atStart : AtStart classFile x code maxLocals ret World_1 tables_1 room_1 Calls_1 rest_1 Pre_1 launch0 p0 e0 about1 theMethod args0 below0 :=
  ⟨lists_1, trivial, launch0.admits_env _ _ _, launch0.least_env, fairChoices_fair.cas, fairChoices_fair.clock, w_frames, w_args, w_heap, w_applies, trivial, trivial, w_case⟩
end start1
theorem witness_1 : WitnessClaimed_1 := ⟨start1.p0, start1.e0, start1.about1, start1.theMethod, start1.args0, start1.below0, start1.atStart⟩
end Jvm.Pilot.@@N@@
