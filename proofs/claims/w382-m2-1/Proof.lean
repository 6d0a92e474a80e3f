import JvmDerived
import JvmDerived.Pilot.@@N@@Statement
import JvmDerived.Pilot.@@N@@Code
set_option linter.unusedVariables false
set_option linter.unusedSimpArgs false
@@BLOCK:NumsL.lean.txt@@
namespace Jvm.RoadKit
open Sem ClassFile Op Lib Jvm.Stand Jvm.Free Jvm.LawKit
section New
variable {p : Program} {l : Launch} {e : Env} {R : Room} {s : State} {m : MethodId} {args : Array Value} {below : List Frame} {meth : Method} {c : Code} {T : State} {locs : List Loc} {cells slots : Nat}
theorem retI (X : Stand p l e R s m args below meth c T locs cells slots) (hx : p.tables.exec = Jvm.exec) {pc : Nat} {Ls : Array Slot} {z : Int32} {rest : List Value} (hret : meth.sig.returnType = some .int) (hd : decode c.code pc = .ok (.ireturn, 1)) {fs : List Frame}
    (hl : ∀ (f : JFrame) (acts : List Action), f.method = m → f.locked = none → f.entered = [] → (doReturn e (T.setTop f) acts (some (.int z))).1 = T.setFrames fs) : Steps p.tables e below (T.setTop (mkF m pc Ls (.int z :: rest))) (T.setFrames fs) := by
  have hm' : T.vm.method? m = some meth := X.method'
  have hn : narrow .int (.int z) = .int z := rfl
  show Steps p.tables e below (T.setTop { method := m, pc := pc, locals := Ls, stack := _ :: rest, locked := none }) _
  jvm_step X.here [X.here.top, hx, hd, hm', hret, hn]
  first | (intro acts; rw [hl _ acts rfl rfl rfl]) | rw [hl _ _ rfl rfl rfl]
  exact Steps.refl _
end New
theorem own_dia {tb : Tables} {e : Env} {below : List Frame} {T tgt : State} {g : JFrame} {A : Type} {u v : A} (q : Prop) [Decidable q] (f : A → JFrame)
    (h1 : q → Steps tb e below (T.setTop (f u)) tgt → Steps tb e below (T.setTop g) tgt) (h0 : ¬ q → Steps tb e below (T.setTop (f v)) tgt → Steps tb e below (T.setTop g) tgt)
    (k : Steps tb e below (T.setTop (f (if q then u else v))) tgt) : Steps tb e below (T.setTop g) tgt := by
  by_cases hq : q
  · rw [if_pos hq] at k; exact h1 hq k
  · rw [if_neg hq] at k; exact h0 hq k
theorem own_cast {tb : Tables} {e : Env} {below : List Frame} {T tgt : State} {A : Type} {u v : A} (f : A → JFrame) (h : u = v) (k : Steps tb e below (T.setTop (f v)) tgt) : Steps tb e below (T.setTop (f u)) tgt := h ▸ k
theorem own_llt {x y : Int64} (h : x < y) : ifCond.holds .lt (lcmpW x y) = true ∧ ifCond.holds .ge (lcmpW x y) = false := by
  rw [if0, if0]; exact ⟨(tlt ((lw_lt x y).mpr h)).1, (tlt ((lw_lt x y).mpr h)).2.1⟩
theorem own_lge {x y : Int64} (h : ¬ x < y) : ifCond.holds .lt (lcmpW x y) = false ∧ ifCond.holds .ge (lcmpW x y) = true := by
  rw [if0, if0]; exact ⟨(flt fun q => h ((lw_lt x y).mp q)).1, (flt fun q => h ((lw_lt x y).mp q)).2.1⟩
theorem own_lgt {x y : Int64} (h : y < x) : ifCond.holds .gt (lcmpW x y) = true ∧ ifCond.holds .le (lcmpW x y) = false := by
  rw [if0, if0]; exact ⟨(tlt ((lw_gt x y).mpr h)).2.2.1, (tlt ((lw_gt x y).mpr h)).2.2.2⟩
theorem own_lle {x y : Int64} (h : ¬ y < x) : ifCond.holds .gt (lcmpW x y) = false ∧ ifCond.holds .le (lcmpW x y) = true := by
  rw [if0, if0]; exact ⟨(flt fun q => h ((lw_gt x y).mp q)).2.2.1, (flt fun q => h ((lw_gt x y).mp q)).2.2.2⟩
theorem own_leq {x y : Int64} (h : x = y) : ifCond.holds .eq (lcmpW x y) = true ∧ ifCond.holds .ne (lcmpW x y) = false := by
  rw [if0, if0]; exact ⟨(teq ((lw_eq x y).mpr h)).1, (teq ((lw_eq x y).mpr h)).2⟩
theorem own_lne {x y : Int64} (h : ¬ x = y) : ifCond.holds .eq (lcmpW x y) = false ∧ ifCond.holds .ne (lcmpW x y) = true := by
  rw [if0, if0]; exact ⟨(feq fun q => h ((lw_eq x y).mp q)).1, (feq fun q => h ((lw_eq x y).mp q)).2⟩
theorem own_bt {q : Prop} [Decidable q] (h : q) : ifCond.holds .ne (if q then (1 : Int32) else (0 : Int32)) = true ∧ ifCond.holds .eq (if q then (1 : Int32) else (0 : Int32)) = false := by
  rw [if_pos h]; exact ⟨rfl, rfl⟩
theorem own_bf {q : Prop} [Decidable q] (h : ¬ q) : ifCond.holds .ne (if q then (1 : Int32) else (0 : Int32)) = false ∧ ifCond.holds .eq (if q then (1 : Int32) else (0 : Int32)) = true := by
  rw [if_neg h]; exact ⟨rfl, rfl⟩
theorem own_ct {q : Prop} [Decidable q] (h : q) : ifCond.holds .ne (if q then (0 : Int32) else (1 : Int32)) = false ∧ ifCond.holds .eq (if q then (0 : Int32) else (1 : Int32)) = true := by
  rw [if_pos h]; exact ⟨rfl, rfl⟩
theorem own_cf {q : Prop} [Decidable q] (h : ¬ q) : ifCond.holds .ne (if q then (0 : Int32) else (1 : Int32)) = true ∧ ifCond.holds .eq (if q then (0 : Int32) else (1 : Int32)) = false := by
  rw [if_neg h]; exact ⟨rfl, rfl⟩
theorem own_b01 {q : Prop} [Decidable q] {x y : Int32} (hx : x = 0 ∨ x = 1) (hy : y = 0 ∨ y = 1) : (if q then x else y) = 0 ∨ (if q then x else y) = 1 := by
  split <;> assumption
def Arf (Z : State) (h : Heap) (a : Addr) (ty : FieldType) (n : Int32) (f : Nat → Value) : Prop :=
  ∃ c : Cell, Arr Z h a c ty ∧ c.slots.size = n.toNatClampNeg ∧ ¬ n < 0 ∧ ∀ i, i < n.toNatClampNeg → c.slots[i]? = some (f i)
theorem Arf.lt {Z : State} {h : Heap} {a : Addr} {ty : FieldType} {n : Int32} {f : Nat → Value} (F : Arf Z h a ty n f) : a < h.size := by
  obtain ⟨c, A, -⟩ := F; exact A.lt
theorem Arf.ext {Z : State} {h h' : Heap} {a : Addr} {ty : FieldType} {n : Int32} {f : Nat → Value} (F : Arf Z h a ty n f) (E : Ext h h') : Arf Z h' a ty n f := by
  obtain ⟨c, A, r⟩ := F; exact ⟨c, A.ext E, r⟩
theorem Arf.other {Z : State} {h h' : Heap} {a b : Addr} {sl : Nat} {v : Value} {ty : FieldType} {n : Int32} {f : Nat → Value} (F : Arf Z h b ty n f) (W : Wr h h' a sl v) (q : b ≠ a) : Arf Z h' b ty n f := by
  obtain ⟨c, A, r⟩ := F; exact ⟨c, A.other W q, r⟩
theorem Arf.keep {Z : State} {h h' : Heap} {a : Addr} {ws : List Addr} {ty : FieldType} {n : Int32} {f : Nat → Value} (F : Arf Z h a ty n f) (K : Keep h h' ws) (q : a ∉ ws) : Arf Z h' a ty n f := by
  obtain ⟨c, A, r⟩ := F; exact ⟨c, ⟨K.2.1 a c A.1 q, A.2⟩, r⟩
theorem own_arf_new {Z : State} {h : Heap} {a : Addr} {k : ClassId} {ty : FieldType} {z : Int32} (A : Arr Z h a (newA k ty z) ty) (q : ¬ z < 0) : Arf Z h a ty z (fun _ => defaultValue ty) :=
  ⟨_, A, sz_new _ _ _, q, fun i hi => by simp [newA, hi]⟩
theorem own_arf_set {Z : State} {h h' : Heap} {a : Addr} {ty : FieldType} {n : Int32} {f : Nat → Value} {j : Nat} {v : Value} (F : Arf Z h a ty n f) (W : Wr h h' a j v) : Arf Z h' a ty n (fun i => if i = j then v else f i) := by
  obtain ⟨c, A, S, M, H⟩ := F
  refine ⟨_, A.same W, by rw [sz_set]; exact S, M, fun i hi => ?_⟩
  show _ = some (if i = j then v else f i)
  by_cases u : i = j
  · subst u; rw [if_pos rfl]; rw [← S] at hi; simp [Cell.setSlot, hi]
  · rw [if_neg u]; have := H i hi; simp only [Cell.setSlot]; rw [Array.getElem?_setIfInBounds_ne (Ne.symm u)]; exact this
theorem own_arf_fn {Z : State} {h : Heap} {a : Addr} {ty : FieldType} {n : Int32} {f g : Nat → Value} (F : Arf Z h a ty n f) (q : ∀ i, i < n.toNatClampNeg → f i = g i) : Arf Z h a ty n g := by
  obtain ⟨c, A, S, M, H⟩ := F
  exact ⟨c, A, S, M, fun i hi => by rw [← q i hi]; exact H i hi⟩
theorem own_arf_setI {Z : State} {h h' : Heap} {a : Addr} {ty : FieldType} {n : Int32} {f : Nat → Int32} {j : Nat} {v : Int32} (F : Arf Z h a ty n (fun i => Value.int (f i))) (W : Wr h h' a j (.int v)) : Arf Z h' a ty n (fun i => Value.int (if i = j then v else f i)) :=
  own_arf_fn (own_arf_set F W) fun i _ => by by_cases u : i = j <;> simp [u]
theorem own_arf_setL {Z : State} {h h' : Heap} {a : Addr} {ty : FieldType} {n : Int32} {f : Nat → Int64} {j : Nat} {v : Int64} (F : Arf Z h a ty n (fun i => Value.long (f i))) (W : Wr h h' a j (.long v)) : Arf Z h' a ty n (fun i => Value.long (if i = j then v else f i)) :=
  own_arf_fn (own_arf_set F W) fun i _ => by by_cases u : i = j <;> simp [u]
theorem own_arf_at {c : Cell} {n j : Int32} {f : Nat → Value} (H : ∀ i, i < n.toNatClampNeg → c.slots[i]? = some (f i)) (S : c.slots.size = n.toNatClampNeg) (q : ¬ (j < 0 ∨ c.slots.size ≤ j.toNatClampNeg)) : c.slots[j.toNatClampNeg]? = some (f j.toNatClampNeg) :=
  H _ (by rw [← S]; exact Nat.lt_of_not_le fun y => q (Or.inr y))
theorem own_nb {x : Int32} (h : x = 0 ∨ x = 1) : nar .boolean x = x := by
  rcases h with rfl | rfl <;> rfl
end Jvm.RoadKit
namespace Jvm.Pilot.@@N@@
open Jvm Jvm.ClassFile Sem Op Lib Jvm.Free Jvm.Stand Jvm.LawKit Jvm.RoadKit Bundle Jvm.Pilot.@@N@@.Jvm.D

def own_fit (f : Nat → Int32) : Prop := ∀ i, fits .byte (.int (f i)) = true
theorem own_fitc {Z : State} {h : Heap} {a : Addr} {c : Cell} {n : Int32} {f : Nat → Int32} (A : Arr Z h a c .byte) (S : c.slots.size = n.toNatClampNeg) (H : ∀ i, i < n.toNatClampNeg → c.slots[i]? = some (Value.int (f i))) (q : own_fit f) : FitC Z c :=
  fitC_of A fun i hi v hv => by rw [H i (by rw [← S]; exact hi)] at hv; cases hv; exact q i
def own_Key (Z : State) (h : Heap) (t : Addr) (nm ne : Int32) : Prop :=
  ∃ (c1 c2 : Addr) (f1 f2 : Nat → Int32), Fld Z h t "com/example/chainvouch/chainvouch/rsa/RsaKey" "modulus" "[B" (.ref c1) ∧ Fld Z h t "com/example/chainvouch/chainvouch/rsa/RsaKey" "exponent" "[B" (.ref c2) ∧ Arf Z h c1 .byte nm (fun i => Value.int (f1 i)) ∧ Arf Z h c2 .byte ne (fun i => Value.int (f2 i))
theorem own_fit0 : own_fit (fun _ => (0 : Int32)) := fun _ => rfl
theorem own_fit1 {f : Nat → Int32} (q : own_fit f) (j : Nat) (x : Int32) : own_fit (fun i => if i = j then nar .byte x else f i) := fun i => by
  show fits .byte (.int (if i = j then nar .byte x else f i)) = true
  by_cases h : i = j
  · rw [if_pos h]; exact fits_nar_byte x
  · rw [if_neg h]; exact q i

theorem d1_0 : decode prog_49_method_1_code 0 = .ok (.aload_n 0, 1) := by decide +kernel
theorem d1_1 : decode prog_49_method_1_code 1 = .ok (.invokespecial 1, 3) := by decide +kernel
theorem d1_4 : decode prog_49_method_1_code 4 = .ok (.aload_n 0, 1) := by decide +kernel
theorem d1_5 : decode prog_49_method_1_code 5 = .ok (.aload_n 1, 1) := by decide +kernel
theorem d1_6 : decode prog_49_method_1_code 6 = .ok (.invokevirtual 7, 3) := by decide +kernel
theorem d1_9 : decode prog_49_method_1_code 9 = .ok (.checkcast 8, 3) := by decide +kernel
theorem d1_12 : decode prog_49_method_1_code 12 = .ok (.putfield 13, 3) := by decide +kernel
theorem d1_15 : decode prog_49_method_1_code 15 = .ok (.aload_n 0, 1) := by decide +kernel
theorem d1_16 : decode prog_49_method_1_code 16 = .ok (.aload_n 2, 1) := by decide +kernel
theorem d1_17 : decode prog_49_method_1_code 17 = .ok (.invokevirtual 7, 3) := by decide +kernel
theorem d1_20 : decode prog_49_method_1_code 20 = .ok (.checkcast 8, 3) := by decide +kernel
theorem d1_23 : decode prog_49_method_1_code 23 = .ok (.putfield 18, 3) := by decide +kernel
theorem d1_26 : decode prog_49_method_1_code 26 = .ok (.return_, 1) := by decide +kernel
theorem pn_1 : plainName "com/example/chainvouch/chainvouch/rsa/RsaKey" = true := by first | (simp [plainName, overriddenIn]; done) | decide +kernel
theorem ef_1 (m : MethodId) (va : Addr) (vb : Addr) (vc : Addr) : entryFrame m #[(.ref va), (.ref vb), (.ref vc)] 3 = mkF m 0 #[.val (.ref va), .val (.ref vb), .val (.ref vc)] [] := by first | (simp [entryFrame, mkF, argsToLocals, Value.category]; done) | rfl
def Q1 (Z : State) (va : Addr) (vb : Addr) (vc : Addr) (nm : Int32) (ne : Int32) (fm : Nat → Int32) (fe : Nat → Int32) (h0 : Heap) (n0 : Nat) (v : Option Value) (h : Heap) (L : List Loc) : Prop := v = none ∧ Fr n0 L ∧ n0 ≤ h.size ∧ Exa Z h va "com/example/chainvouch/chainvouch/rsa/RsaKey" ∧ own_Key Z h va nm ne
set_option maxRecDepth 65536 in
set_option maxHeartbeats 40000000 in
theorem rm1 (l : Launch) (Z : State) (a0 : Array Value) (hw : ∀ d ∈ tables_1, d.before a0 Z = true) (ws : List Jvm.Cond) (va : Addr) (vb : Addr) (vc : Addr) (nm : Int32) (ne : Int32) (fm : Nat → Int32) (fe : Nat → Int32) (h0 : Heap) (n0 : Nat) (Z0 : n0 ≤ h0.size) (E_va : Exa Z h0 va "com/example/chainvouch/chainvouch/rsa/RsaKey") (g_va : n0 ≤ va) (F_va_modulus : Fld Z h0 va "com/example/chainvouch/chainvouch/rsa/RsaKey" "modulus" "[B" .null) (F_va_exponent : Fld Z h0 va "com/example/chainvouch/chainvouch/rsa/RsaKey" "exponent" "[B" .null) (V_vb : Arf Z h0 vb .byte nm (fun i => Value.int (fm i))) (E_vb : Exa Z h0 vb "[B") (V_vc : Arf Z h0 vc .byte ne (fun i => Value.int (fe i))) (E_vc : Exa Z h0 vc "[B") (ne_vb_va : vb ≠ va) (ne_vc_va : vc ≠ va) (ne_vb_vc : vb ≠ vc) (hf1 : own_fit fm) (hf2 : own_fit fe) (hc1 : nm.toNatClampNeg ≤ 31) (hc2 : ne.toNatClampNeg ≤ 31) :
    MetFree l (⟨"com/example/chainvouch/chainvouch/rsa/RsaKey", "<init>", "([B[B)V"⟩ : MethodName) (head1 (Jvm.Cond.code (⟨"com/example/chainvouch/chainvouch/rsa/RsaKey", "<init>", "([B[B)V"⟩ : MethodName) prog_49_method_1_code 3 none :: ws) ({ frames := 1, cells := 2, slots := 62, locals := 15 } : Room)) (fun a U => a = #[(.ref va), (.ref vb), (.ref vc)] ∧ Z.Warmed39 U.vm ∧ U.heap = h0) (fun _ _ _ _ _ => True) (fun _ U o U' => ∃ v L, o = .returned v ∧ Q1 Z va vb vc nm ne fm fe h0 n0 v U'.heap L ∧ FrameEnd U o U' L ({ frames := 1, cells := 2, slots := 62, locals := 15 } : Room).cells ({ frames := 1, cells := 2, slots := 62, locals := 15 } : Room).slots) := by
  refine MetFree.of_bodySF (plainFor_of_name pn_1) hisR ?_
  intro p e s m args below meth c s₁ Bd hml0 hP hK
  obtain ⟨rfl, hZ, hh⟩ := hP
  have hx := Bd.exec
  have hby := Bd.bytes
  have hml : c.maxLocals = 3 := hml0
  have hown : s.vm.findClass "com/example/chainvouch/chainvouch/rsa/RsaKey" = some m.cls := findClass_of_methodNamed Bd.named
  have hnm := (name_of_methodNamed Bd.named Bd.method).1
  have X0 : Stand p l e ({ frames := 1, cells := 2, slots := 62, locals := 15 } : Room) s m #[(.ref va), (.ref vb), (.ref vc)] below meth c s₁ [] 0 0 := Stand.of_body Bd
  have e0 : s₁.heap = h0 := by rw [← hh, Bd.state]; rfl
  have N0 := Fr.nil n0
  have pre0 : ∀ t, Steps p.tables e below (s₁.setTop (mkF m 0 #[.val (.ref va), .val (.ref vb), .val (.ref vc)] [])) t → Steps p.tables e below (s₁.setTop (entryFrame m #[(.ref va), (.ref vb), (.ref vc)] 3)) t := fun t k => castTop (ef_1 m va vb vc) k
  obtain ⟨T1, X1, e1, st1⟩ := initO X0 hx hZ hown (hw _ (List.mem_of_getElem? (i := 7) rfl)) (hw _ (List.mem_of_getElem? (i := 8) rfl)) (hw _ (List.mem_of_getElem? (i := 9) rfl)) e0 (g := (mkF m 1 #[.val (.ref va), .val (.ref vb), .val (.ref vc)] [(.ref va)])) rfl (by rw [hml]; rfl) rfl (hb hby d1_1) (by decide) (W := 0) (by show 2 * 0 + _ ≤ _; exact Nat.le_of_eq rfl) (by decide)
  have Vo3 := V_vb
  obtain ⟨cl3, Ar3, S3, M3, H3⟩ := Vo3
  obtain ⟨T2, h2, X2, e2, E2, A2, Ex2, st2⟩ := cloneA X1 hx hZ hown (hw _ (List.mem_of_getElem? (i := 10) rfl)) (hw _ (List.mem_of_getElem? (i := 11) rfl)) (hw _ (List.mem_of_getElem? (i := 15) rfl)) (hw _ (List.mem_of_getElem? (i := 13) rfl)) (hw _ (List.mem_of_getElem? (i := 14) rfl)) (hw _ (List.mem_of_getElem? (i := 16) rfl)) e1 Ar3 E_vb (own_fitc Ar3 S3 H3 hf1) (g := (mkF m 6 #[.val (.ref va), .val (.ref vb), .val (.ref vc)] [(.ref vb), (.ref va)])) rfl (by rw [hml]; rfl) rfl (hb hby d1_6) (by decide) (W := 1) (cap := 31) (by show 2 * 0 + _ ≤ _; exact Nat.le_of_eq rfl) (by decide) (by rw [S3]; exact hc1) (by decide) (by decide)
  obtain ⟨b2, g2⟩ : ∃ z, z = h0.size := ⟨_, rfl⟩
  rw [← g2] at A2 Ex2 st2
  have ne_va_b2 : va ≠ b2 := Nat.ne_of_lt (Nat.lt_of_lt_of_le E_va.lt (Nat.le_of_eq g2.symm))
  have ne_vb_b2 : vb ≠ b2 := Nat.ne_of_lt (Nat.lt_of_lt_of_le V_vb.lt (Nat.le_of_eq g2.symm))
  have ne_vc_b2 : vc ≠ b2 := Nat.ne_of_lt (Nat.lt_of_lt_of_le V_vc.lt (Nat.le_of_eq g2.symm))
  have g_b2 : n0 ≤ b2 := Nat.le_trans Z0 (Nat.le_of_eq g2.symm)
  have Z4 : n0 ≤ h2.size := Nat.le_trans Z0 E2.1
  have E5_va := E_va.ext E2
  have F6_va_modulus := F_va_modulus.ext E2
  have F7_va_exponent := F_va_exponent.ext E2
  have V8_vb := V_vb.ext E2
  have E9_vb := E_vb.ext E2
  have V10_vc := V_vc.ext E2
  have E11_vc := E_vc.ext E2
  have V_b2 : Arf Z h2 b2 .byte nm (fun i => Value.int (fm i)) := ⟨cloneOf cl3, A2, S3, M3, H3⟩
  obtain ⟨T12, X12, e12, st12⟩ := castY X2 hx hZ hown (hw _ (List.mem_of_getElem? (i := 17) rfl)) e2 (Ins.self Ex2) (g := (mkF m 9 #[.val (.ref va), .val (.ref vb), .val (.ref vc)] [(.ref b2), (.ref va)])) rfl rfl (hb hby d1_9)
  obtain ⟨T13, h13, X13, e13, W13, st13⟩ := putF X12 hx hZ hown (host := "") (Or.inl (hw _ (List.mem_of_getElem? (i := 19) rfl))) Via.refl e12 F6_va_modulus E5_va (Or.inr ⟨(hw _ (List.mem_of_getElem? (i := 20) rfl)), rfl, hnm⟩) (hw _ (List.mem_of_getElem? (i := 2) rfl)) (ty := (.array .byte)) (by decide) rfl rfl (g := (mkF m 12 #[.val (.ref va), .val (.ref vb), .val (.ref vc)] [(.ref b2), (.ref va)])) rfl rfl (hb hby d1_12)
  have Z14 : n0 ≤ h13.size := Nat.le_trans Z4 (Keep.of_wr W13).1
  have E15_va := E5_va.wr W13
  have F17_va_exponent := F7_va_exponent.other W13 (Or.inr (slot_ne (Or.inr (hw _ (List.mem_of_getElem? (i := 22) rfl))) (Or.inr (hw _ (List.mem_of_getElem? (i := 20) rfl))) (by decide) (t := (.array .byte)) (t' := (.array .byte)) (by decide) (by decide)))
  have V18_vb := V8_vb.other W13 ne_vb_va
  have E19_vb := E9_vb.wr W13
  have V20_vc := V10_vc.other W13 ne_vc_va
  have E21_vc := E11_vc.wr W13
  have E22_b2 := Ex2.wr W13
  have V23_b2 := V_b2.other W13 (Ne.symm ne_va_b2)
  have Fw13 := F6_va_modulus.same W13
  have N13 := Fr.snoc X13 N0 g_va
  have Vo25 := V20_vc
  obtain ⟨cl25, Ar25, S25, M25, H25⟩ := Vo25
  obtain ⟨T24, h24, X24, e24, E24, A24, Ex24, st24⟩ := cloneA X13 hx hZ hown (hw _ (List.mem_of_getElem? (i := 10) rfl)) (hw _ (List.mem_of_getElem? (i := 11) rfl)) (hw _ (List.mem_of_getElem? (i := 15) rfl)) (hw _ (List.mem_of_getElem? (i := 13) rfl)) (hw _ (List.mem_of_getElem? (i := 14) rfl)) (hw _ (List.mem_of_getElem? (i := 16) rfl)) e13 Ar25 E21_vc (own_fitc Ar25 S25 H25 hf2) (g := (mkF m 17 #[.val (.ref va), .val (.ref vb), .val (.ref vc)] [(.ref vc), (.ref va)])) rfl (by rw [hml]; rfl) rfl (hb hby d1_17) (by decide) (W := 1) (cap := 31) (by show 2 * 0 + _ ≤ _; exact Nat.le_of_eq rfl) (by decide) (by rw [S25]; exact hc2) (by decide) (by decide)
  obtain ⟨b24, g24⟩ : ∃ z, z = h13.size := ⟨_, rfl⟩
  rw [← g24] at A24 Ex24 st24
  have ne_b2_b24 : b2 ≠ b24 := Nat.ne_of_lt (Nat.lt_of_lt_of_le E22_b2.lt (Nat.le_of_eq g24.symm))
  have ne_va_b24 : va ≠ b24 := Nat.ne_of_lt (Nat.lt_of_lt_of_le E15_va.lt (Nat.le_of_eq g24.symm))
  have ne_vb_b24 : vb ≠ b24 := Nat.ne_of_lt (Nat.lt_of_lt_of_le V18_vb.lt (Nat.le_of_eq g24.symm))
  have ne_vc_b24 : vc ≠ b24 := Nat.ne_of_lt (Nat.lt_of_lt_of_le V20_vc.lt (Nat.le_of_eq g24.symm))
  have g_b24 : n0 ≤ b24 := Nat.le_trans Z14 (Nat.le_of_eq g24.symm)
  have Z26 : n0 ≤ h24.size := Nat.le_trans Z14 E24.1
  have E27_va := E15_va.ext E24
  have F28_va_modulus := Fw13.ext E24
  have F29_va_exponent := F17_va_exponent.ext E24
  have V30_vb := V18_vb.ext E24
  have E31_vb := E19_vb.ext E24
  have V32_vc := V20_vc.ext E24
  have E33_vc := E21_vc.ext E24
  have E34_b2 := E22_b2.ext E24
  have V35_b2 := V23_b2.ext E24
  have V_b24 : Arf Z h24 b24 .byte ne (fun i => Value.int (fe i)) := ⟨cloneOf cl25, A24, S25, M25, H25⟩
  obtain ⟨T36, X36, e36, st36⟩ := castY X24 hx hZ hown (hw _ (List.mem_of_getElem? (i := 17) rfl)) e24 (Ins.self Ex24) (g := (mkF m 20 #[.val (.ref va), .val (.ref vb), .val (.ref vc)] [(.ref b24), (.ref va)])) rfl rfl (hb hby d1_20)
  obtain ⟨T37, h37, X37, e37, W37, st37⟩ := putF X36 hx hZ hown (host := "") (Or.inl (hw _ (List.mem_of_getElem? (i := 21) rfl))) Via.refl e36 F29_va_exponent E27_va (Or.inr ⟨(hw _ (List.mem_of_getElem? (i := 22) rfl)), rfl, hnm⟩) (hw _ (List.mem_of_getElem? (i := 2) rfl)) (ty := (.array .byte)) (by decide) rfl rfl (g := (mkF m 23 #[.val (.ref va), .val (.ref vb), .val (.ref vc)] [(.ref b24), (.ref va)])) rfl rfl (hb hby d1_23)
  have Z38 : n0 ≤ h37.size := Nat.le_trans Z26 (Keep.of_wr W37).1
  have E39_va := E27_va.wr W37
  have F40_va_modulus := F28_va_modulus.other W37 (Or.inr (slot_ne (Or.inr (hw _ (List.mem_of_getElem? (i := 20) rfl))) (Or.inr (hw _ (List.mem_of_getElem? (i := 22) rfl))) (by decide) (t := (.array .byte)) (t' := (.array .byte)) (by decide) (by decide)))
  have V42_vb := V30_vb.other W37 ne_vb_va
  have E43_vb := E31_vb.wr W37
  have V44_vc := V32_vc.other W37 ne_vc_va
  have E45_vc := E33_vc.wr W37
  have E46_b2 := E34_b2.wr W37
  have V47_b2 := V35_b2.other W37 (Ne.symm ne_va_b2)
  have E48_b24 := Ex24.wr W37
  have V49_b24 := V_b24.other W37 (Ne.symm ne_va_b24)
  have Fw37 := F29_va_exponent.same W37
  have N37 := Fr.snoc X37 N13 g_va
  obtain ⟨fs, hr, hrun, hended, hW, hsame⟩ := X37.leave (v := none) (fun _ => rfl)
  refine ⟨_, _, pre0 _ ?_, hrun, hended, _, _, rfl, ?_, ⟨_, rfl⟩, hW, hsame.mono (by decide) (by decide)⟩
  · show Steps p.tables e below (s₁.setTop (mkF m 0 #[.val (.ref va), .val (.ref vb), .val (.ref vc)] [])) _
    refine XS.aloadN X0.here hx rfl (hb hby d1_0) rfl rfl ?_
    show Steps p.tables e below (s₁.setTop (mkF m 1 #[.val (.ref va), .val (.ref vb), .val (.ref vc)] [(.ref va)])) _
    refine st1 _ ?_
    show Steps p.tables e below (T1.setTop (mkF m 4 #[.val (.ref va), .val (.ref vb), .val (.ref vc)] [])) _
    refine XS.aloadN X1.here hx rfl (hb hby d1_4) rfl rfl ?_
    show Steps p.tables e below (T1.setTop (mkF m 5 #[.val (.ref va), .val (.ref vb), .val (.ref vc)] [(.ref va)])) _
    refine XS.aloadN X1.here hx rfl (hb hby d1_5) rfl rfl ?_
    show Steps p.tables e below (T1.setTop (mkF m 6 #[.val (.ref va), .val (.ref vb), .val (.ref vc)] [(.ref vb), (.ref va)])) _
    refine st2 _ ?_
    show Steps p.tables e below (T2.setTop (mkF m 9 #[.val (.ref va), .val (.ref vb), .val (.ref vc)] [(.ref b2), (.ref va)])) _
    refine st12 _ ?_
    show Steps p.tables e below (T12.setTop (mkF m 12 #[.val (.ref va), .val (.ref vb), .val (.ref vc)] [(.ref b2), (.ref va)])) _
    refine st13 _ ?_
    show Steps p.tables e below (T13.setTop (mkF m 15 #[.val (.ref va), .val (.ref vb), .val (.ref vc)] [])) _
    refine XS.aloadN X13.here hx rfl (hb hby d1_15) rfl rfl ?_
    show Steps p.tables e below (T13.setTop (mkF m 16 #[.val (.ref va), .val (.ref vb), .val (.ref vc)] [(.ref va)])) _
    refine XS.aloadN X13.here hx rfl (hb hby d1_16) rfl rfl ?_
    show Steps p.tables e below (T13.setTop (mkF m 17 #[.val (.ref va), .val (.ref vb), .val (.ref vc)] [(.ref vc), (.ref va)])) _
    refine st24 _ ?_
    show Steps p.tables e below (T24.setTop (mkF m 20 #[.val (.ref va), .val (.ref vb), .val (.ref vc)] [(.ref b24), (.ref va)])) _
    refine st36 _ ?_
    show Steps p.tables e below (T36.setTop (mkF m 23 #[.val (.ref va), .val (.ref vb), .val (.ref vc)] [(.ref b24), (.ref va)])) _
    refine st37 _ ?_
    show Steps p.tables e below (T37.setTop (mkF m 26 #[.val (.ref va), .val (.ref vb), .val (.ref vc)] [])) _
    exact X37.returnOut hx Bd.returns (hb hby d1_26) hr
  · show Q1 Z va vb vc nm ne fm fe h0 n0 _ T37.heap _
    rw [e37]
    exact ⟨rfl, N37, Z38, E39_va, ⟨b2, b24, _, _, F40_va_modulus, Fw37, V47_b2, V49_b24⟩⟩
theorem d3_0 : decode prog_49_method_4_code 0 = .ok (.aload_n 0, 1) := by decide +kernel
theorem d3_1 : decode prog_49_method_4_code 1 = .ok (.getfield 13, 3) := by decide +kernel
theorem d3_4 : decode prog_49_method_4_code 4 = .ok (.arraylength, 1) := by decide +kernel
theorem d3_5 : decode prog_49_method_4_code 5 = .ok (.aload_n 0, 1) := by decide +kernel
theorem d3_6 : decode prog_49_method_4_code 6 = .ok (.getfield 18, 3) := by decide +kernel
theorem d3_9 : decode prog_49_method_4_code 9 = .ok (.arraylength, 1) := by decide +kernel
theorem d3_10 : decode prog_49_method_4_code 10 = .ok (.iadd, 1) := by decide +kernel
theorem d3_11 : decode prog_49_method_4_code 11 = .ok (.ireturn, 1) := by decide +kernel
theorem pn_3 : plainName "com/example/chainvouch/chainvouch/rsa/RsaKey" = true := by first | (simp [plainName, overriddenIn]; done) | decide +kernel
theorem ef_3 (m : MethodId) (va : Addr) : entryFrame m #[(.ref va)] 1 = mkF m 0 #[.val (.ref va)] [] := by first | (simp [entryFrame, mkF, argsToLocals, Value.category]; done) | rfl
def F3 (nm : Int32) (ne : Int32) : Int32 := (nm + ne)
def Q3 (Z : State) (va : Addr) (nm : Int32) (ne : Int32) (h0 : Heap) (n0 : Nat) (v : Option Value) (h : Heap) (L : List Loc) : Prop := v = some (.int (F3 nm ne)) ∧ Fr n0 L ∧ h = h0
set_option maxRecDepth 65536 in
set_option maxHeartbeats 40000000 in
theorem rm3 (l : Launch) (Z : State) (a0 : Array Value) (hw : ∀ d ∈ tables_1, d.before a0 Z = true) (ws : List Jvm.Cond) (va : Addr) (nm : Int32) (ne : Int32) (h0 : Heap) (n0 : Nat) (Z0 : n0 ≤ h0.size) (HK : own_Key Z h0 va nm ne) :
    MetFree l (⟨"com/example/chainvouch/chainvouch/rsa/RsaKey", "length", "()I"⟩ : MethodName) (head1 (Jvm.Cond.code (⟨"com/example/chainvouch/chainvouch/rsa/RsaKey", "length", "()I"⟩ : MethodName) prog_49_method_4_code 1 (some .int) :: ws) ({ frames := 0, cells := 0, slots := 0, locals := 0 } : Room)) (fun a U => a = #[(.ref va)] ∧ Z.Warmed39 U.vm ∧ U.heap = h0) (fun _ _ _ _ _ => True) (fun _ U o U' => ∃ v L, o = .returned v ∧ Q3 Z va nm ne h0 n0 v U'.heap L ∧ FrameEnd U o U' L ({ frames := 0, cells := 0, slots := 0, locals := 0 } : Room).cells ({ frames := 0, cells := 0, slots := 0, locals := 0 } : Room).slots) := by
  refine MetFree.of_bodySF (plainFor_of_name pn_3) hisR ?_
  intro p e s m args below meth c s₁ Bd hml0 hP hK
  obtain ⟨rfl, hZ, hh⟩ := hP
  have hx := Bd.exec
  have hby := Bd.bytes
  have hml : c.maxLocals = 1 := hml0
  have hown : s.vm.findClass "com/example/chainvouch/chainvouch/rsa/RsaKey" = some m.cls := findClass_of_methodNamed Bd.named
  have hnm := (name_of_methodNamed Bd.named Bd.method).1
  have X0 : Stand p l e ({ frames := 0, cells := 0, slots := 0, locals := 0 } : Room) s m #[(.ref va)] below meth c s₁ [] 0 0 := Stand.of_body Bd
  have e0 : s₁.heap = h0 := by rw [← hh, Bd.state]; rfl
  have N0 := Fr.nil n0
  have pre0 : ∀ t, Steps p.tables e below (s₁.setTop (mkF m 0 #[.val (.ref va)] [])) t → Steps p.tables e below (s₁.setTop (entryFrame m #[(.ref va)] 1)) t := fun t k => castTop (ef_3 m va) k
  obtain ⟨c1, c2, f1, f2, F_m, F_e, V_1, V_2⟩ := HK
  obtain ⟨T1, X1, e1, st1⟩ := getF X0 hx hZ hown (host := "") (Or.inl (hw _ (List.mem_of_getElem? (i := 19) rfl))) Via.refl e0 F_m (g := (mkF m 1 #[.val (.ref va)] [(.ref va)])) rfl rfl (hb hby d3_1)
  have Vo2 := V_1
  obtain ⟨cl2, Ar2, S2, M2, H2⟩ := Vo2
  obtain ⟨T3, X3, e3, st3⟩ := getF X1 hx hZ hown (host := "") (Or.inl (hw _ (List.mem_of_getElem? (i := 21) rfl))) Via.refl e1 F_e (g := (mkF m 6 #[.val (.ref va)] [(.ref va), (.int nm)])) rfl rfl (hb hby d3_6)
  have Vo4 := V_2
  obtain ⟨cl4, Ar4, S4, M4, H4⟩ := Vo4
  obtain ⟨fs, hr, hrun, hended, hW, hsame⟩ := X3.leave (v := some (.int (nm + ne))) (fun h => by rw [Bd.returns] at h; cases h)
  refine ⟨_, _, pre0 _ ?_, hrun, hended, _, _, rfl, ?_, ⟨_, rfl⟩, hW, hsame.mono (by decide) (by decide)⟩
  · show Steps p.tables e below (s₁.setTop (mkF m 0 #[.val (.ref va)] [])) _
    refine XS.aloadN X0.here hx rfl (hb hby d3_0) rfl rfl ?_
    show Steps p.tables e below (s₁.setTop (mkF m 1 #[.val (.ref va)] [(.ref va)])) _
    refine st1 _ ?_
    show Steps p.tables e below (T1.setTop (mkF m 4 #[.val (.ref va)] [(.ref c1)])) _
    refine X1.arraylength hx (by rw [e1]; exact Ar2.1) (State.isArrayOf_alike hZ.alike Ar2.2.1) (g := (mkF m 4 #[.val (.ref va)] [(.ref c1)])) rfl rfl (hb hby d3_4) _ ?_
    rw [len_of S2 M2]
    show Steps p.tables e below (T1.setTop (mkF m 5 #[.val (.ref va)] [(.int nm)])) _
    refine XS.aloadN X1.here hx rfl (hb hby d3_5) rfl rfl ?_
    show Steps p.tables e below (T1.setTop (mkF m 6 #[.val (.ref va)] [(.ref va), (.int nm)])) _
    refine st3 _ ?_
    show Steps p.tables e below (T3.setTop (mkF m 9 #[.val (.ref va)] [(.ref c2), (.int nm)])) _
    refine X3.arraylength hx (by rw [e3]; exact Ar4.1) (State.isArrayOf_alike hZ.alike Ar4.2.1) (g := (mkF m 9 #[.val (.ref va)] [(.ref c2), (.int nm)])) rfl rfl (hb hby d3_9) _ ?_
    rw [len_of S4 M4]
    show Steps p.tables e below (T3.setTop (mkF m 10 #[.val (.ref va)] [(.int ne), (.int nm)])) _
    refine XS.iadd X3.here hx rfl (hb hby d3_10) rfl ?_
    show Steps p.tables e below (T3.setTop (mkF m 11 #[.val (.ref va)] [(.int (nm + ne))])) _
    exact retI X3 hx Bd.returns (hb hby d3_11) hr
  · show Q3 Z va nm ne h0 n0 _ T3.heap _
    rw [e3]
    exact ⟨rfl, N0, rfl⟩

theorem own_m (x : Int32) : 0 ≤ (x &&& (31 : Int32)).toInt ∧ (x &&& (31 : Int32)).toInt ≤ 31 := by
  have e1 : (x &&& (31 : Int32)).toInt = x.toInt % 2 ^ 5 := Jvm.Kit.i32_mask x 31 (by decide) (by decide)
  rw [e1]; omega
theorem own_m0 (x : Int32) : ¬ (x &&& (31 : Int32)) < 0 := by
  have := own_m x
  rw [Int32.lt_iff_toInt_lt]; show ¬ _ < (0 : Int); omega
theorem own_m31 (x : Int32) : (x &&& (31 : Int32)).toNatClampNeg ≤ 31 := by
  have := own_m x; simp only [Int32.toNatClampNeg]; omega
theorem own_last {x : Int32} (h : (0 : Int32) < (x &&& (31 : Int32))) : ¬ ((x &&& (31 : Int32)) - (1 : Int32)) < 0 ∧ ((x &&& (31 : Int32)) - (1 : Int32)) < (x &&& (31 : Int32)) := by
  have hm := own_m x
  have e0 : (0 : Int32).toInt = 0 := rfl
  have e1 : (1 : Int32).toInt = 1 := rfl
  rw [Int32.lt_iff_toInt_lt] at h
  have e2 : ((x &&& (31 : Int32)) - (1 : Int32)).toInt = (x &&& (31 : Int32)).toInt - (1 : Int32).toInt := Jvm.Kit.i32_sub (by omega) (by omega)
  rw [Int32.lt_iff_toInt_lt, Int32.lt_iff_toInt_lt]; omega

theorem pd_0 : parseMethodDescriptor "([B[B)V" = some ⟨[(.array .byte), (.array .byte)], none⟩ := by decide +kernel
theorem pd_1 : parseMethodDescriptor "()I" = some ⟨[], some .int⟩ := by decide +kernel
theorem pn_0 : plainName "com/example/chainvouch/chainvouch/rsa/RsaKeyLengthPinLaw" = true := by first | (simp [plainName, overriddenIn]; done) | decide +kernel
theorem ef_0 (m : MethodId) (x1 : Int32) (x2 : Int32) (x3 : Int32) (x4 : Int32) : entryFrame m #[(.int x1), (.int x2), (.int x3), (.int x4)] maxLocals = mkF m 0 #[.val (.int x1), .val (.int x2), .val (.int x3), .val (.int x4), .unset, .unset, .unset, .unset, .unset] [] := by first | (simp [entryFrame, mkF, argsToLocals, Value.category, maxLocals]; done) | rfl
def F0 (x1 : Int32) (x2 : Int32) (x3 : Int32) (x4 : Int32) : Int32 := (if (0 : Int32) < (x1 &&& (31 : Int32)) then (if (0 : Int32) < (x2 &&& (31 : Int32)) then (if (F3 (((x1 &&& (31 : Int32)))) (((x2 &&& (31 : Int32))))) = ((x1 &&& (31 : Int32)) + (x2 &&& (31 : Int32))) then (1 : Int32) else (0 : Int32)) else (if (F3 (((x1 &&& (31 : Int32)))) (((x2 &&& (31 : Int32))))) = ((x1 &&& (31 : Int32)) + (x2 &&& (31 : Int32))) then (1 : Int32) else (0 : Int32))) else (if (0 : Int32) < (x2 &&& (31 : Int32)) then (if (F3 (((x1 &&& (31 : Int32)))) (((x2 &&& (31 : Int32))))) = ((x1 &&& (31 : Int32)) + (x2 &&& (31 : Int32))) then (1 : Int32) else (0 : Int32)) else (if (F3 (((x1 &&& (31 : Int32)))) (((x2 &&& (31 : Int32))))) = ((x1 &&& (31 : Int32)) + (x2 &&& (31 : Int32))) then (1 : Int32) else (0 : Int32))))
def Q0 (Z : State) (x1 : Int32) (x2 : Int32) (x3 : Int32) (x4 : Int32) (h0 : Heap) (n0 : Nat) (v : Option Value) (h : Heap) (L : List Loc) : Prop := v = some (.int (F0 x1 x2 x3 x4)) ∧ Fr n0 L
set_option maxRecDepth 65536 in
set_option maxHeartbeats 40000000 in
theorem rm0 (l : Launch) (Z : State) (a0 : Array Value) (hw : ∀ d ∈ tables_1, d.before a0 Z = true) (ws : List Jvm.Cond) (x1 : Int32) (x2 : Int32) (x3 : Int32) (x4 : Int32) (h0 : Heap) (n0 : Nat) (Z0 : n0 ≤ h0.size)  :
    MetFree l x (head1 (Jvm.Cond.code x code maxLocals ret :: ws) room_1) (fun a U => a = #[(.int x1), (.int x2), (.int x3), (.int x4)] ∧ Z.Warmed39 U.vm ∧ U.heap = h0) (fun _ _ _ _ _ => True) (fun _ U o U' => ∃ v L, o = .returned v ∧ Q0 Z x1 x2 x3 x4 h0 n0 v U'.heap L ∧ FrameEnd U o U' L room_1.cells room_1.slots) := by
  refine MetFree.of_bodySF (plainFor_of_name pn_0) hisR ?_
  intro p e s m args below meth c s₁ Bd hml0 hP hK
  obtain ⟨rfl, hZ, hh⟩ := hP
  have hx := Bd.exec
  have hby := Bd.bytes
  have hml : c.maxLocals = 9 := hml0
  have hown : s.vm.findClass "com/example/chainvouch/chainvouch/rsa/RsaKeyLengthPinLaw" = some m.cls := findClass_of_methodNamed Bd.named
  have hnm := (name_of_methodNamed Bd.named Bd.method).1
  have X0 : Stand p l e room_1 s m #[(.int x1), (.int x2), (.int x3), (.int x4)] below meth c s₁ [] 0 0 := Stand.of_body Bd
  have e0 : s₁.heap = h0 := by rw [← hh, Bd.state]; rfl
  have N0 := Fr.nil n0
  have pre0 : ∀ t, Steps p.tables e below (s₁.setTop (mkF m 0 #[.val (.int x1), .val (.int x2), .val (.int x3), .val (.int x4), .unset, .unset, .unset, .unset, .unset] [])) t → Steps p.tables e below (s₁.setTop (entryFrame m #[(.int x1), (.int x2), (.int x3), (.int x4)] maxLocals)) t := fun t k => castTop (ef_0 m x1 x2 x3 x4) k
  obtain ⟨T1, h1, k1, X1, e1, E1, A1, Ex1, st1⟩ := newPE X0 hx hZ (hw _ (List.mem_of_getElem? (i := 0) rfl)) e0 (g := (mkF m 14 #[.val (.int x1), .val (.int x2), .val (.int x3), .val (.int x4), .val (.int (x1 &&& (31 : Int32))), .val (.int (x2 &&& (31 : Int32))), .unset, .unset, .unset] [(.int (x1 &&& (31 : Int32)))])) rfl (hb hby at_14) rfl (own_m0 x1) (cap := 31) (own_m31 x1) (by decide) (by decide) (by decide) (ad := "[B") (by decide)
  obtain ⟨b1, g1⟩ : ∃ z, z = h0.size := ⟨_, rfl⟩
  rw [← g1] at A1 Ex1 st1
  have g_b1 : n0 ≤ b1 := Nat.le_trans Z0 (Nat.le_of_eq g1.symm)
  have Z2 : n0 ≤ h1.size := Nat.le_trans Z0 E1.1
  have V_b1 : Arf Z h1 b1 .byte (x1 &&& (31 : Int32)) (fun _ => Value.int (0 : Int32)) := own_arf_new A1 (own_m0 x1)
  obtain ⟨T3, h3, k3, X3, e3, E3, A3, Ex3, st3⟩ := newPE X1 hx hZ (hw _ (List.mem_of_getElem? (i := 0) rfl)) e1 (g := (mkF m 20 #[.val (.int x1), .val (.int x2), .val (.int x3), .val (.int x4), .val (.int (x1 &&& (31 : Int32))), .val (.int (x2 &&& (31 : Int32))), .val (.ref b1), .unset, .unset] [(.int (x2 &&& (31 : Int32)))])) rfl (hb hby at_20) rfl (own_m0 x2) (cap := 31) (own_m31 x2) (by decide) (by decide) (by decide) (ad := "[B") (by decide)
  obtain ⟨b3, g3⟩ : ∃ z, z = h1.size := ⟨_, rfl⟩
  rw [← g3] at A3 Ex3 st3
  have ne_b1_b3 : b1 ≠ b3 := Nat.ne_of_lt (Nat.lt_of_lt_of_le Ex1.lt (Nat.le_of_eq g3.symm))
  have g_b3 : n0 ≤ b3 := Nat.le_trans Z2 (Nat.le_of_eq g3.symm)
  have Z4 : n0 ≤ h3.size := Nat.le_trans Z2 E3.1
  have E5_b1 := Ex1.ext E3
  have V6_b1 := V_b1.ext E3
  have V_b3 : Arf Z h3 b3 .byte (x2 &&& (31 : Int32)) (fun _ => Value.int (0 : Int32)) := own_arf_new A3 (own_m0 x2)
  by_cases hb7 : (0 : Int32) < (x1 &&& (31 : Int32))
  · have Vo9 := V6_b1
    obtain ⟨cl9, Ar9, S9, M9, H9⟩ := Vo9
    have hin8 : ¬ ((0 : Int32) < 0 ∨ cl9.slots.size ≤ ((0 : Int32)).toNatClampNeg) := inb_of S9 ⟨by decide, hb7⟩
    obtain ⟨T8, h8, X8, e8, W8, st8⟩ := stB X3 hx hZ e3 Ar9 (j := (0 : Int32)) hin8 (g := (mkF m 34 #[.val (.int x1), .val (.int x2), .val (.int x3), .val (.int x4), .val (.int (x1 &&& (31 : Int32))), .val (.int (x2 &&& (31 : Int32))), .val (.ref b1), .val (.ref b3), .unset] [(.int (x3.toInt8.toInt32)), (.int (0 : Int32)), (.ref b1)])) rfl rfl (hb hby at_34)
    have Z10 : n0 ≤ h8.size := Nat.le_trans Z4 (Keep.of_wr W8).1
    have E11_b1 := E5_b1.wr W8
    have E13_b3 := Ex3.wr W8
    have V14_b3 := V_b3.other W8 (Ne.symm ne_b1_b3)
    have V8 := own_arf_setI V6_b1 W8
    have N8 := Fr.snoc X8 N0 g_b1
    have Vo16 := V8
    obtain ⟨cl16, Ar16, S16, M16, H16⟩ := Vo16
    have hin15 : ¬ (((x1 &&& (31 : Int32)) - (1 : Int32)) < 0 ∨ cl16.slots.size ≤ (((x1 &&& (31 : Int32)) - (1 : Int32))).toNatClampNeg) := inb_of S16 ⟨(own_last hb7).1, (own_last hb7).2⟩
    obtain ⟨T15, h15, X15, e15, W15, st15⟩ := stB X8 hx hZ e8 Ar16 (j := ((x1 &&& (31 : Int32)) - (1 : Int32))) hin15 (g := (mkF m 46 #[.val (.int x1), .val (.int x2), .val (.int x3), .val (.int x4), .val (.int (x1 &&& (31 : Int32))), .val (.int (x2 &&& (31 : Int32))), .val (.ref b1), .val (.ref b3), .unset] [(.int ((x3 >>> ((8 : Int32) &&& 31)).toInt8.toInt32)), (.int ((x1 &&& (31 : Int32)) - (1 : Int32))), (.ref b1)])) rfl rfl (hb hby at_46)
    have Z17 : n0 ≤ h15.size := Nat.le_trans Z10 (Keep.of_wr W15).1
    have E18_b1 := E11_b1.wr W15
    have E20_b3 := E13_b3.wr W15
    have V21_b3 := V14_b3.other W15 (Ne.symm ne_b1_b3)
    have V15 := own_arf_setI V8 W15
    have N15 := Fr.snoc X15 N8 g_b1
    by_cases hb22 : (0 : Int32) < (x2 &&& (31 : Int32))
    · have Vo24 := V21_b3
      obtain ⟨cl24, Ar24, S24, M24, H24⟩ := Vo24
      have hin23 : ¬ ((0 : Int32) < 0 ∨ cl24.slots.size ≤ ((0 : Int32)).toNatClampNeg) := inb_of S24 ⟨by decide, hb22⟩
      obtain ⟨T23, h23, X23, e23, W23, st23⟩ := stB X15 hx hZ e15 Ar24 (j := (0 : Int32)) hin23 (g := (mkF m 57 #[.val (.int x1), .val (.int x2), .val (.int x3), .val (.int x4), .val (.int (x1 &&& (31 : Int32))), .val (.int (x2 &&& (31 : Int32))), .val (.ref b1), .val (.ref b3), .unset] [(.int (x4.toInt8.toInt32)), (.int (0 : Int32)), (.ref b3)])) rfl rfl (hb hby at_57)
      have Z25 : n0 ≤ h23.size := Nat.le_trans Z17 (Keep.of_wr W23).1
      have E26_b1 := E18_b1.wr W23
      have V27_b1 := V15.other W23 ne_b1_b3
      have E28_b3 := E20_b3.wr W23
      have V23 := own_arf_setI V21_b3 W23
      have N23 := Fr.snoc X23 N15 g_b3
      have Vo31 := V23
      obtain ⟨cl31, Ar31, S31, M31, H31⟩ := Vo31
      have hin30 : ¬ (((x2 &&& (31 : Int32)) - (1 : Int32)) < 0 ∨ cl31.slots.size ≤ (((x2 &&& (31 : Int32)) - (1 : Int32))).toNatClampNeg) := inb_of S31 ⟨(own_last hb22).1, (own_last hb22).2⟩
      obtain ⟨T30, h30, X30, e30, W30, st30⟩ := stB X23 hx hZ e23 Ar31 (j := ((x2 &&& (31 : Int32)) - (1 : Int32))) hin30 (g := (mkF m 69 #[.val (.int x1), .val (.int x2), .val (.int x3), .val (.int x4), .val (.int (x1 &&& (31 : Int32))), .val (.int (x2 &&& (31 : Int32))), .val (.ref b1), .val (.ref b3), .unset] [(.int ((x4 >>> ((8 : Int32) &&& 31)).toInt8.toInt32)), (.int ((x2 &&& (31 : Int32)) - (1 : Int32))), (.ref b3)])) rfl rfl (hb hby at_69)
      have Z32 : n0 ≤ h30.size := Nat.le_trans Z25 (Keep.of_wr W30).1
      have E33_b1 := E26_b1.wr W30
      have V34_b1 := V27_b1.other W30 ne_b1_b3
      have E35_b3 := E28_b3.wr W30
      have V30 := own_arf_setI V23 W30
      have N30 := Fr.snoc X30 N23 g_b3
      obtain ⟨T37, h37, X37, e37, E37, A37, D37, -, st37⟩ := newO X30 hx hZ hown (hw _ (List.mem_of_getElem? (i := 1) rfl)) (hw _ (List.mem_of_getElem? (i := 2) rfl)) (hw _ (List.mem_of_getElem? (i := 3) rfl)) e30 (g := (mkF m 70 #[.val (.int x1), .val (.int x2), .val (.int x3), .val (.int x4), .val (.int (x1 &&& (31 : Int32))), .val (.int (x2 &&& (31 : Int32))), .val (.ref b1), .val (.ref b3), .unset] [])) rfl (hb hby at_70) (by decide) (by decide)
      obtain ⟨b37, g37⟩ : ∃ z, z = h30.size := ⟨_, rfl⟩
      rw [← g37] at A37 D37 st37
      have ne_b3_b37 : b3 ≠ b37 := Nat.ne_of_lt (Nat.lt_of_lt_of_le E35_b3.lt (Nat.le_of_eq g37.symm))
      have ne_b1_b37 : b1 ≠ b37 := Nat.ne_of_lt (Nat.lt_of_lt_of_le E33_b1.lt (Nat.le_of_eq g37.symm))
      have g_b37 : n0 ≤ b37 := Nat.le_trans Z32 (Nat.le_of_eq g37.symm)
      have Z38 : n0 ≤ h37.size := Nat.le_trans Z32 E37.1
      have E39_b1 := E33_b1.ext E37
      have V40_b1 := V34_b1.ext E37
      have E41_b3 := E35_b3.ext E37
      have V42_b3 := V30.ext E37
      have F37_modulus : Fld Z h37 b37 "com/example/chainvouch/chainvouch/rsa/RsaKey" "modulus" "[B" .null := D37 (Or.inr (hw _ (List.mem_of_getElem? (i := 20) rfl))) (ty := (.array .byte)) (by decide)
      have F37_exponent : Fld Z h37 b37 "com/example/chainvouch/chainvouch/rsa/RsaKey" "exponent" "[B" .null := D37 (Or.inr (hw _ (List.mem_of_getElem? (i := 22) rfl))) (ty := (.array .byte)) (by decide)
      obtain ⟨_, _, ⟨T43, L43, k43, n43⟩, -, X43, ⟨Lc43, hQ43, l43, y43, z43⟩, st43⟩ := X37.specialBack hx (y := (⟨"com/example/chainvouch/chainvouch/rsa/RsaKey", "<init>", "([B[B)V"⟩ : MethodName)) rfl hown (mvT hZ (hw _ (List.mem_of_getElem? (i := 4) rfl))) (mvT hZ (hw _ (List.mem_of_getElem? (i := 5) rfl))) (mvT hZ (hw _ (List.mem_of_getElem? (i := 6) rfl))) (by decide) (backOf (W := 1) (rm1 l Z a0 hw [] b37 b1 b3 ((x1 &&& (31 : Int32))) ((x2 &&& (31 : Int32))) ((fun i => if i = (((x1 &&& (31 : Int32)) - (1 : Int32))).toNatClampNeg then (nar .byte ((x3 >>> ((8 : Int32) &&& 31)).toInt8.toInt32)) else (fun i => if i = ((0 : Int32)).toNatClampNeg then (nar .byte (x3.toInt8.toInt32)) else (fun _ => (0 : Int32)) i) i)) ((fun i => if i = (((x2 &&& (31 : Int32)) - (1 : Int32))).toNatClampNeg then (nar .byte ((x4 >>> ((8 : Int32) &&& 31)).toInt8.toInt32)) else (fun i => if i = ((0 : Int32)).toNatClampNeg then (nar .byte (x4.toInt8.toInt32)) else (fun _ => (0 : Int32)) i) i)) h37 n0 Z38 A37 g_b37 F37_modulus F37_exponent V40_b1 E39_b1 V42_b3 E41_b3 ne_b1_b37 ne_b3_b37 ne_b1_b3 (by first | exact own_fit0 | exact own_fit1 (own_fit1 own_fit0 _ _) _ _) (by first | exact own_fit0 | exact own_fit1 (own_fit1 own_fit0 _ _) _ _) (own_m31 x1) (own_m31 x2)) hZ (hw _ (List.mem_of_getElem? (i := 6) rfl)) (hw _ (List.mem_of_getElem? (i := 3) rfl)) (by decide) (by decide)) (g := (mkF m 78 #[.val (.int x1), .val (.int x2), .val (.int x3), .val (.int x4), .val (.int (x1 &&& (31 : Int32))), .val (.int (x2 &&& (31 : Int32))), .val (.ref b1), .val (.ref b3), .unset] [(.ref b3), (.ref b1), (.ref b37), (.ref b37)])) rfl (by rw [hml]; rfl) (Steps.refl _) (a := b37) (argsL := [(.ref b1), (.ref b3)]) (rest := [(.ref b37)]) (lenOf pd_0 rfl) rfl (by show 2 * 0 + _ ≤ _; exact Nat.le_of_eq rfl) (hb hby at_78) (fun _ _ => ⟨rfl, e37, (by decide : 3 + 2 ≤ _), (by decide : 64 + 62 ≤ _)⟩)
      dsimp only [Pt.U, Pt.locs, Pt.cells, Pt.slots] at X43 l43 y43 z43 st43 hQ43
      subst l43 y43 z43
      obtain ⟨rfl, N43q, Q43_0, Q43_1, Q43_2⟩ := hQ43
      have Z43 : n0 ≤ T43.heap.size := Q43_0
      have N43 := Fr.app N30 N43q
      obtain ⟨cq44, kq44, q44a, q44b, q44c⟩ := isOf hZ rfl Q43_1
      obtain ⟨_, _, ⟨T44, L44, k44, n44⟩, -, X44, ⟨Lc44, hQ44, l44, y44, z44⟩, st44⟩ := X43.virtualBack hx (y := (⟨"com/example/chainvouch/chainvouch/rsa/RsaKey", "length", "()I"⟩ : MethodName)) (z := (⟨"com/example/chainvouch/chainvouch/rsa/RsaKey", "length", "()I"⟩ : MethodName)) hown (mvT hZ (hw _ (List.mem_of_getElem? (i := 23) rfl))) (mvT hZ (hw _ (List.mem_of_getElem? (i := 24) rfl))) (notFace_of_selects (args := #[]) (mvT hZ (hw _ (List.mem_of_getElem? (i := 26) rfl)))) (mvT hZ (hw _ (List.mem_of_getElem? (i := 26) rfl))) (mvT hZ (hw _ (List.mem_of_getElem? (i := 25) rfl))) (by decide) (backOf (W := 0) (rm3 l Z a0 hw [] b37 (((x1 &&& (31 : Int32)))) (((x2 &&& (31 : Int32)))) T43.heap n0 Z43 Q43_2) hZ (hw _ (List.mem_of_getElem? (i := 27) rfl)) (hw _ (List.mem_of_getElem? (i := 3) rfl)) (by decide) (by decide)) q44a q44c (g := (mkF m 85 #[.val (.int x1), .val (.int x2), .val (.int x3), .val (.int x4), .val (.int (x1 &&& (31 : Int32))), .val (.int (x2 &&& (31 : Int32))), .val (.ref b1), .val (.ref b3), .val (.ref b37)] [(.ref b37)])) rfl (by rw [hml]; rfl) (Steps.refl _) (argsL := []) (rest := []) (lenOf pd_1 rfl) rfl (by show 2 * 0 + _ ≤ _; exact Nat.le_of_eq rfl) (hb hby at_85) (fun _ _ => ⟨rfl, rfl, (by decide : 5 + 0 ≤ _), (by decide : 126 + 0 ≤ _)⟩)
      dsimp only [Pt.U, Pt.locs, Pt.cells, Pt.slots] at X44 l44 y44 z44 st44 hQ44
      subst l44 y44 z44
      obtain ⟨rfl, N44q, e44⟩ := hQ44
      have N44 := Fr.app N43 N44q
      obtain ⟨fs, hr, hrun, hended, hW, hsame⟩ := X44.leave (v := some (.int (if (F3 (((x1 &&& (31 : Int32)))) (((x2 &&& (31 : Int32))))) = ((x1 &&& (31 : Int32)) + (x2 &&& (31 : Int32))) then (1 : Int32) else (0 : Int32)))) (fun h => by rw [Bd.returns] at h; cases h)
      refine ⟨_, _, pre0 _ ?_, hrun, hended, _, _, rfl, ?_, ⟨_, rfl⟩, hW, hsame.mono (by decide) (by decide)⟩
      · show Steps p.tables e below (s₁.setTop (mkF m 0 #[.val (.int x1), .val (.int x2), .val (.int x3), .val (.int x4), .unset, .unset, .unset, .unset, .unset] [])) _
        refine XS.iloadN X0.here hx rfl (hb hby at_0) rfl ?_
        show Steps p.tables e below (s₁.setTop (mkF m 1 #[.val (.int x1), .val (.int x2), .val (.int x3), .val (.int x4), .unset, .unset, .unset, .unset, .unset] [(.int x1)])) _
        refine XS.bipush X0.here hx rfl (hb hby at_1) ?_
        show Steps p.tables e below (s₁.setTop (mkF m 3 #[.val (.int x1), .val (.int x2), .val (.int x3), .val (.int x4), .unset, .unset, .unset, .unset, .unset] [(.int (31 : Int32)), (.int x1)])) _
        refine XS.iand X0.here hx rfl (hb hby at_3) rfl ?_
        show Steps p.tables e below (s₁.setTop (mkF m 4 #[.val (.int x1), .val (.int x2), .val (.int x3), .val (.int x4), .unset, .unset, .unset, .unset, .unset] [(.int (x1 &&& (31 : Int32)))])) _
        refine XS.istore X0.here hx rfl (hb hby at_4) rfl (l' := #[.val (.int x1), .val (.int x2), .val (.int x3), .val (.int x4), .val (.int (x1 &&& (31 : Int32))), .unset, .unset, .unset, .unset]) rfl ?_
        show Steps p.tables e below (s₁.setTop (mkF m 6 #[.val (.int x1), .val (.int x2), .val (.int x3), .val (.int x4), .val (.int (x1 &&& (31 : Int32))), .unset, .unset, .unset, .unset] [])) _
        refine XS.iloadN X0.here hx rfl (hb hby at_6) rfl ?_
        show Steps p.tables e below (s₁.setTop (mkF m 7 #[.val (.int x1), .val (.int x2), .val (.int x3), .val (.int x4), .val (.int (x1 &&& (31 : Int32))), .unset, .unset, .unset, .unset] [(.int x2)])) _
        refine XS.bipush X0.here hx rfl (hb hby at_7) ?_
        show Steps p.tables e below (s₁.setTop (mkF m 9 #[.val (.int x1), .val (.int x2), .val (.int x3), .val (.int x4), .val (.int (x1 &&& (31 : Int32))), .unset, .unset, .unset, .unset] [(.int (31 : Int32)), (.int x2)])) _
        refine XS.iand X0.here hx rfl (hb hby at_9) rfl ?_
        show Steps p.tables e below (s₁.setTop (mkF m 10 #[.val (.int x1), .val (.int x2), .val (.int x3), .val (.int x4), .val (.int (x1 &&& (31 : Int32))), .unset, .unset, .unset, .unset] [(.int (x2 &&& (31 : Int32)))])) _
        refine XS.istore X0.here hx rfl (hb hby at_10) rfl (l' := #[.val (.int x1), .val (.int x2), .val (.int x3), .val (.int x4), .val (.int (x1 &&& (31 : Int32))), .val (.int (x2 &&& (31 : Int32))), .unset, .unset, .unset]) rfl ?_
        show Steps p.tables e below (s₁.setTop (mkF m 12 #[.val (.int x1), .val (.int x2), .val (.int x3), .val (.int x4), .val (.int (x1 &&& (31 : Int32))), .val (.int (x2 &&& (31 : Int32))), .unset, .unset, .unset] [])) _
        refine XS.iload X0.here hx rfl (hb hby at_12) rfl ?_
        show Steps p.tables e below (s₁.setTop (mkF m 14 #[.val (.int x1), .val (.int x2), .val (.int x3), .val (.int x4), .val (.int (x1 &&& (31 : Int32))), .val (.int (x2 &&& (31 : Int32))), .unset, .unset, .unset] [(.int (x1 &&& (31 : Int32)))])) _
        refine st1 _ ?_
        show Steps p.tables e below (T1.setTop (mkF m 16 #[.val (.int x1), .val (.int x2), .val (.int x3), .val (.int x4), .val (.int (x1 &&& (31 : Int32))), .val (.int (x2 &&& (31 : Int32))), .unset, .unset, .unset] [(.ref b1)])) _
        refine XS.astore X1.here hx rfl (hb hby at_16) rfl rfl (l' := #[.val (.int x1), .val (.int x2), .val (.int x3), .val (.int x4), .val (.int (x1 &&& (31 : Int32))), .val (.int (x2 &&& (31 : Int32))), .val (.ref b1), .unset, .unset]) rfl ?_
        show Steps p.tables e below (T1.setTop (mkF m 18 #[.val (.int x1), .val (.int x2), .val (.int x3), .val (.int x4), .val (.int (x1 &&& (31 : Int32))), .val (.int (x2 &&& (31 : Int32))), .val (.ref b1), .unset, .unset] [])) _
        refine XS.iload X1.here hx rfl (hb hby at_18) rfl ?_
        show Steps p.tables e below (T1.setTop (mkF m 20 #[.val (.int x1), .val (.int x2), .val (.int x3), .val (.int x4), .val (.int (x1 &&& (31 : Int32))), .val (.int (x2 &&& (31 : Int32))), .val (.ref b1), .unset, .unset] [(.int (x2 &&& (31 : Int32)))])) _
        refine st3 _ ?_
        show Steps p.tables e below (T3.setTop (mkF m 22 #[.val (.int x1), .val (.int x2), .val (.int x3), .val (.int x4), .val (.int (x1 &&& (31 : Int32))), .val (.int (x2 &&& (31 : Int32))), .val (.ref b1), .unset, .unset] [(.ref b3)])) _
        refine XS.astore X3.here hx rfl (hb hby at_22) rfl rfl (l' := #[.val (.int x1), .val (.int x2), .val (.int x3), .val (.int x4), .val (.int (x1 &&& (31 : Int32))), .val (.int (x2 &&& (31 : Int32))), .val (.ref b1), .val (.ref b3), .unset]) rfl ?_
        show Steps p.tables e below (T3.setTop (mkF m 24 #[.val (.int x1), .val (.int x2), .val (.int x3), .val (.int x4), .val (.int (x1 &&& (31 : Int32))), .val (.int (x2 &&& (31 : Int32))), .val (.ref b1), .val (.ref b3), .unset] [])) _
        refine XS.iload X3.here hx rfl (hb hby at_24) rfl ?_
        show Steps p.tables e below (T3.setTop (mkF m 26 #[.val (.int x1), .val (.int x2), .val (.int x3), .val (.int x4), .val (.int (x1 &&& (31 : Int32))), .val (.int (x2 &&& (31 : Int32))), .val (.ref b1), .val (.ref b3), .unset] [(.int (x1 &&& (31 : Int32)))])) _
        refine XS.ifNo X3.here hx rfl (hb hby at_26) rfl ((if0 _ _).trans (tlt hb7).2.2.2) ?_
        show Steps p.tables e below (T3.setTop (mkF m 29 #[.val (.int x1), .val (.int x2), .val (.int x3), .val (.int x4), .val (.int (x1 &&& (31 : Int32))), .val (.int (x2 &&& (31 : Int32))), .val (.ref b1), .val (.ref b3), .unset] [])) _
        refine XS.aload X3.here hx rfl (hb hby at_29) rfl rfl ?_
        show Steps p.tables e below (T3.setTop (mkF m 31 #[.val (.int x1), .val (.int x2), .val (.int x3), .val (.int x4), .val (.int (x1 &&& (31 : Int32))), .val (.int (x2 &&& (31 : Int32))), .val (.ref b1), .val (.ref b3), .unset] [(.ref b1)])) _
        refine XS.iconst X3.here hx rfl (hb hby at_31) ?_
        show Steps p.tables e below (T3.setTop (mkF m 32 #[.val (.int x1), .val (.int x2), .val (.int x3), .val (.int x4), .val (.int (x1 &&& (31 : Int32))), .val (.int (x2 &&& (31 : Int32))), .val (.ref b1), .val (.ref b3), .unset] [(.int (0 : Int32)), (.ref b1)])) _
        refine XS.iloadN X3.here hx rfl (hb hby at_32) rfl ?_
        show Steps p.tables e below (T3.setTop (mkF m 33 #[.val (.int x1), .val (.int x2), .val (.int x3), .val (.int x4), .val (.int (x1 &&& (31 : Int32))), .val (.int (x2 &&& (31 : Int32))), .val (.ref b1), .val (.ref b3), .unset] [(.int x3), (.int (0 : Int32)), (.ref b1)])) _
        refine XS.i2b X3.here hx rfl (hb hby at_33) rfl ?_
        show Steps p.tables e below (T3.setTop (mkF m 34 #[.val (.int x1), .val (.int x2), .val (.int x3), .val (.int x4), .val (.int (x1 &&& (31 : Int32))), .val (.int (x2 &&& (31 : Int32))), .val (.ref b1), .val (.ref b3), .unset] [(.int (x3.toInt8.toInt32)), (.int (0 : Int32)), (.ref b1)])) _
        refine st8 _ ?_
        show Steps p.tables e below (T8.setTop (mkF m 35 #[.val (.int x1), .val (.int x2), .val (.int x3), .val (.int x4), .val (.int (x1 &&& (31 : Int32))), .val (.int (x2 &&& (31 : Int32))), .val (.ref b1), .val (.ref b3), .unset] [])) _
        refine XS.aload X8.here hx rfl (hb hby at_35) rfl rfl ?_
        show Steps p.tables e below (T8.setTop (mkF m 37 #[.val (.int x1), .val (.int x2), .val (.int x3), .val (.int x4), .val (.int (x1 &&& (31 : Int32))), .val (.int (x2 &&& (31 : Int32))), .val (.ref b1), .val (.ref b3), .unset] [(.ref b1)])) _
        refine XS.iload X8.here hx rfl (hb hby at_37) rfl ?_
        show Steps p.tables e below (T8.setTop (mkF m 39 #[.val (.int x1), .val (.int x2), .val (.int x3), .val (.int x4), .val (.int (x1 &&& (31 : Int32))), .val (.int (x2 &&& (31 : Int32))), .val (.ref b1), .val (.ref b3), .unset] [(.int (x1 &&& (31 : Int32))), (.ref b1)])) _
        refine XS.iconst X8.here hx rfl (hb hby at_39) ?_
        show Steps p.tables e below (T8.setTop (mkF m 40 #[.val (.int x1), .val (.int x2), .val (.int x3), .val (.int x4), .val (.int (x1 &&& (31 : Int32))), .val (.int (x2 &&& (31 : Int32))), .val (.ref b1), .val (.ref b3), .unset] [(.int (1 : Int32)), (.int (x1 &&& (31 : Int32))), (.ref b1)])) _
        refine XS.isub X8.here hx rfl (hb hby at_40) rfl ?_
        show Steps p.tables e below (T8.setTop (mkF m 41 #[.val (.int x1), .val (.int x2), .val (.int x3), .val (.int x4), .val (.int (x1 &&& (31 : Int32))), .val (.int (x2 &&& (31 : Int32))), .val (.ref b1), .val (.ref b3), .unset] [(.int ((x1 &&& (31 : Int32)) - (1 : Int32))), (.ref b1)])) _
        refine XS.iloadN X8.here hx rfl (hb hby at_41) rfl ?_
        show Steps p.tables e below (T8.setTop (mkF m 42 #[.val (.int x1), .val (.int x2), .val (.int x3), .val (.int x4), .val (.int (x1 &&& (31 : Int32))), .val (.int (x2 &&& (31 : Int32))), .val (.ref b1), .val (.ref b3), .unset] [(.int x3), (.int ((x1 &&& (31 : Int32)) - (1 : Int32))), (.ref b1)])) _
        refine XS.bipush X8.here hx rfl (hb hby at_42) ?_
        show Steps p.tables e below (T8.setTop (mkF m 44 #[.val (.int x1), .val (.int x2), .val (.int x3), .val (.int x4), .val (.int (x1 &&& (31 : Int32))), .val (.int (x2 &&& (31 : Int32))), .val (.ref b1), .val (.ref b3), .unset] [(.int (8 : Int32)), (.int x3), (.int ((x1 &&& (31 : Int32)) - (1 : Int32))), (.ref b1)])) _
        refine XS.ishr X8.here hx rfl (hb hby at_44) rfl ?_
        show Steps p.tables e below (T8.setTop (mkF m 45 #[.val (.int x1), .val (.int x2), .val (.int x3), .val (.int x4), .val (.int (x1 &&& (31 : Int32))), .val (.int (x2 &&& (31 : Int32))), .val (.ref b1), .val (.ref b3), .unset] [(.int (x3 >>> ((8 : Int32) &&& 31))), (.int ((x1 &&& (31 : Int32)) - (1 : Int32))), (.ref b1)])) _
        refine XS.i2b X8.here hx rfl (hb hby at_45) rfl ?_
        show Steps p.tables e below (T8.setTop (mkF m 46 #[.val (.int x1), .val (.int x2), .val (.int x3), .val (.int x4), .val (.int (x1 &&& (31 : Int32))), .val (.int (x2 &&& (31 : Int32))), .val (.ref b1), .val (.ref b3), .unset] [(.int ((x3 >>> ((8 : Int32) &&& 31)).toInt8.toInt32)), (.int ((x1 &&& (31 : Int32)) - (1 : Int32))), (.ref b1)])) _
        refine st15 _ ?_
        show Steps p.tables e below (T15.setTop (mkF m 47 #[.val (.int x1), .val (.int x2), .val (.int x3), .val (.int x4), .val (.int (x1 &&& (31 : Int32))), .val (.int (x2 &&& (31 : Int32))), .val (.ref b1), .val (.ref b3), .unset] [])) _
        refine XS.iload X15.here hx rfl (hb hby at_47) rfl ?_
        show Steps p.tables e below (T15.setTop (mkF m 49 #[.val (.int x1), .val (.int x2), .val (.int x3), .val (.int x4), .val (.int (x1 &&& (31 : Int32))), .val (.int (x2 &&& (31 : Int32))), .val (.ref b1), .val (.ref b3), .unset] [(.int (x2 &&& (31 : Int32)))])) _
        refine XS.ifNo X15.here hx rfl (hb hby at_49) rfl ((if0 _ _).trans (tlt hb22).2.2.2) ?_
        show Steps p.tables e below (T15.setTop (mkF m 52 #[.val (.int x1), .val (.int x2), .val (.int x3), .val (.int x4), .val (.int (x1 &&& (31 : Int32))), .val (.int (x2 &&& (31 : Int32))), .val (.ref b1), .val (.ref b3), .unset] [])) _
        refine XS.aload X15.here hx rfl (hb hby at_52) rfl rfl ?_
        show Steps p.tables e below (T15.setTop (mkF m 54 #[.val (.int x1), .val (.int x2), .val (.int x3), .val (.int x4), .val (.int (x1 &&& (31 : Int32))), .val (.int (x2 &&& (31 : Int32))), .val (.ref b1), .val (.ref b3), .unset] [(.ref b3)])) _
        refine XS.iconst X15.here hx rfl (hb hby at_54) ?_
        show Steps p.tables e below (T15.setTop (mkF m 55 #[.val (.int x1), .val (.int x2), .val (.int x3), .val (.int x4), .val (.int (x1 &&& (31 : Int32))), .val (.int (x2 &&& (31 : Int32))), .val (.ref b1), .val (.ref b3), .unset] [(.int (0 : Int32)), (.ref b3)])) _
        refine XS.iloadN X15.here hx rfl (hb hby at_55) rfl ?_
        show Steps p.tables e below (T15.setTop (mkF m 56 #[.val (.int x1), .val (.int x2), .val (.int x3), .val (.int x4), .val (.int (x1 &&& (31 : Int32))), .val (.int (x2 &&& (31 : Int32))), .val (.ref b1), .val (.ref b3), .unset] [(.int x4), (.int (0 : Int32)), (.ref b3)])) _
        refine XS.i2b X15.here hx rfl (hb hby at_56) rfl ?_
        show Steps p.tables e below (T15.setTop (mkF m 57 #[.val (.int x1), .val (.int x2), .val (.int x3), .val (.int x4), .val (.int (x1 &&& (31 : Int32))), .val (.int (x2 &&& (31 : Int32))), .val (.ref b1), .val (.ref b3), .unset] [(.int (x4.toInt8.toInt32)), (.int (0 : Int32)), (.ref b3)])) _
        refine st23 _ ?_
        show Steps p.tables e below (T23.setTop (mkF m 58 #[.val (.int x1), .val (.int x2), .val (.int x3), .val (.int x4), .val (.int (x1 &&& (31 : Int32))), .val (.int (x2 &&& (31 : Int32))), .val (.ref b1), .val (.ref b3), .unset] [])) _
        refine XS.aload X23.here hx rfl (hb hby at_58) rfl rfl ?_
        show Steps p.tables e below (T23.setTop (mkF m 60 #[.val (.int x1), .val (.int x2), .val (.int x3), .val (.int x4), .val (.int (x1 &&& (31 : Int32))), .val (.int (x2 &&& (31 : Int32))), .val (.ref b1), .val (.ref b3), .unset] [(.ref b3)])) _
        refine XS.iload X23.here hx rfl (hb hby at_60) rfl ?_
        show Steps p.tables e below (T23.setTop (mkF m 62 #[.val (.int x1), .val (.int x2), .val (.int x3), .val (.int x4), .val (.int (x1 &&& (31 : Int32))), .val (.int (x2 &&& (31 : Int32))), .val (.ref b1), .val (.ref b3), .unset] [(.int (x2 &&& (31 : Int32))), (.ref b3)])) _
        refine XS.iconst X23.here hx rfl (hb hby at_62) ?_
        show Steps p.tables e below (T23.setTop (mkF m 63 #[.val (.int x1), .val (.int x2), .val (.int x3), .val (.int x4), .val (.int (x1 &&& (31 : Int32))), .val (.int (x2 &&& (31 : Int32))), .val (.ref b1), .val (.ref b3), .unset] [(.int (1 : Int32)), (.int (x2 &&& (31 : Int32))), (.ref b3)])) _
        refine XS.isub X23.here hx rfl (hb hby at_63) rfl ?_
        show Steps p.tables e below (T23.setTop (mkF m 64 #[.val (.int x1), .val (.int x2), .val (.int x3), .val (.int x4), .val (.int (x1 &&& (31 : Int32))), .val (.int (x2 &&& (31 : Int32))), .val (.ref b1), .val (.ref b3), .unset] [(.int ((x2 &&& (31 : Int32)) - (1 : Int32))), (.ref b3)])) _
        refine XS.iloadN X23.here hx rfl (hb hby at_64) rfl ?_
        show Steps p.tables e below (T23.setTop (mkF m 65 #[.val (.int x1), .val (.int x2), .val (.int x3), .val (.int x4), .val (.int (x1 &&& (31 : Int32))), .val (.int (x2 &&& (31 : Int32))), .val (.ref b1), .val (.ref b3), .unset] [(.int x4), (.int ((x2 &&& (31 : Int32)) - (1 : Int32))), (.ref b3)])) _
        refine XS.bipush X23.here hx rfl (hb hby at_65) ?_
        show Steps p.tables e below (T23.setTop (mkF m 67 #[.val (.int x1), .val (.int x2), .val (.int x3), .val (.int x4), .val (.int (x1 &&& (31 : Int32))), .val (.int (x2 &&& (31 : Int32))), .val (.ref b1), .val (.ref b3), .unset] [(.int (8 : Int32)), (.int x4), (.int ((x2 &&& (31 : Int32)) - (1 : Int32))), (.ref b3)])) _
        refine XS.ishr X23.here hx rfl (hb hby at_67) rfl ?_
        show Steps p.tables e below (T23.setTop (mkF m 68 #[.val (.int x1), .val (.int x2), .val (.int x3), .val (.int x4), .val (.int (x1 &&& (31 : Int32))), .val (.int (x2 &&& (31 : Int32))), .val (.ref b1), .val (.ref b3), .unset] [(.int (x4 >>> ((8 : Int32) &&& 31))), (.int ((x2 &&& (31 : Int32)) - (1 : Int32))), (.ref b3)])) _
        refine XS.i2b X23.here hx rfl (hb hby at_68) rfl ?_
        show Steps p.tables e below (T23.setTop (mkF m 69 #[.val (.int x1), .val (.int x2), .val (.int x3), .val (.int x4), .val (.int (x1 &&& (31 : Int32))), .val (.int (x2 &&& (31 : Int32))), .val (.ref b1), .val (.ref b3), .unset] [(.int ((x4 >>> ((8 : Int32) &&& 31)).toInt8.toInt32)), (.int ((x2 &&& (31 : Int32)) - (1 : Int32))), (.ref b3)])) _
        refine st30 _ ?_
        show Steps p.tables e below (T30.setTop (mkF m 70 #[.val (.int x1), .val (.int x2), .val (.int x3), .val (.int x4), .val (.int (x1 &&& (31 : Int32))), .val (.int (x2 &&& (31 : Int32))), .val (.ref b1), .val (.ref b3), .unset] [])) _
        refine st37 _ ?_
        show Steps p.tables e below (T37.setTop (mkF m 73 #[.val (.int x1), .val (.int x2), .val (.int x3), .val (.int x4), .val (.int (x1 &&& (31 : Int32))), .val (.int (x2 &&& (31 : Int32))), .val (.ref b1), .val (.ref b3), .unset] [(.ref b37)])) _
        refine XS.dup X37.here hx rfl (hb hby at_73) rfl rfl ?_
        show Steps p.tables e below (T37.setTop (mkF m 74 #[.val (.int x1), .val (.int x2), .val (.int x3), .val (.int x4), .val (.int (x1 &&& (31 : Int32))), .val (.int (x2 &&& (31 : Int32))), .val (.ref b1), .val (.ref b3), .unset] [(.ref b37), (.ref b37)])) _
        refine XS.aload X37.here hx rfl (hb hby at_74) rfl rfl ?_
        show Steps p.tables e below (T37.setTop (mkF m 76 #[.val (.int x1), .val (.int x2), .val (.int x3), .val (.int x4), .val (.int (x1 &&& (31 : Int32))), .val (.int (x2 &&& (31 : Int32))), .val (.ref b1), .val (.ref b3), .unset] [(.ref b1), (.ref b37), (.ref b37)])) _
        refine XS.aload X37.here hx rfl (hb hby at_76) rfl rfl ?_
        show Steps p.tables e below (T37.setTop (mkF m 78 #[.val (.int x1), .val (.int x2), .val (.int x3), .val (.int x4), .val (.int (x1 &&& (31 : Int32))), .val (.int (x2 &&& (31 : Int32))), .val (.ref b1), .val (.ref b3), .unset] [(.ref b3), (.ref b1), (.ref b37), (.ref b37)])) _
        refine st43.trans ?_
        show Steps p.tables e below (T43.setTop (mkF m 81 #[.val (.int x1), .val (.int x2), .val (.int x3), .val (.int x4), .val (.int (x1 &&& (31 : Int32))), .val (.int (x2 &&& (31 : Int32))), .val (.ref b1), .val (.ref b3), .unset] [(.ref b37)])) _
        refine XS.astore X43.here hx rfl (hb hby at_81) rfl rfl (l' := #[.val (.int x1), .val (.int x2), .val (.int x3), .val (.int x4), .val (.int (x1 &&& (31 : Int32))), .val (.int (x2 &&& (31 : Int32))), .val (.ref b1), .val (.ref b3), .val (.ref b37)]) rfl ?_
        show Steps p.tables e below (T43.setTop (mkF m 83 #[.val (.int x1), .val (.int x2), .val (.int x3), .val (.int x4), .val (.int (x1 &&& (31 : Int32))), .val (.int (x2 &&& (31 : Int32))), .val (.ref b1), .val (.ref b3), .val (.ref b37)] [])) _
        refine XS.aload X43.here hx rfl (hb hby at_83) rfl rfl ?_
        show Steps p.tables e below (T43.setTop (mkF m 85 #[.val (.int x1), .val (.int x2), .val (.int x3), .val (.int x4), .val (.int (x1 &&& (31 : Int32))), .val (.int (x2 &&& (31 : Int32))), .val (.ref b1), .val (.ref b3), .val (.ref b37)] [(.ref b37)])) _
        refine st44.trans ?_
        show Steps p.tables e below (T44.setTop (mkF m 88 #[.val (.int x1), .val (.int x2), .val (.int x3), .val (.int x4), .val (.int (x1 &&& (31 : Int32))), .val (.int (x2 &&& (31 : Int32))), .val (.ref b1), .val (.ref b3), .val (.ref b37)] [(.int (F3 (((x1 &&& (31 : Int32)))) (((x2 &&& (31 : Int32))))))])) _
        refine XS.iload X44.here hx rfl (hb hby at_88) rfl ?_
        show Steps p.tables e below (T44.setTop (mkF m 90 #[.val (.int x1), .val (.int x2), .val (.int x3), .val (.int x4), .val (.int (x1 &&& (31 : Int32))), .val (.int (x2 &&& (31 : Int32))), .val (.ref b1), .val (.ref b3), .val (.ref b37)] [(.int (x1 &&& (31 : Int32))), (.int (F3 (((x1 &&& (31 : Int32)))) (((x2 &&& (31 : Int32))))))])) _
        refine XS.iload X44.here hx rfl (hb hby at_90) rfl ?_
        show Steps p.tables e below (T44.setTop (mkF m 92 #[.val (.int x1), .val (.int x2), .val (.int x3), .val (.int x4), .val (.int (x1 &&& (31 : Int32))), .val (.int (x2 &&& (31 : Int32))), .val (.ref b1), .val (.ref b3), .val (.ref b37)] [(.int (x2 &&& (31 : Int32))), (.int (x1 &&& (31 : Int32))), (.int (F3 (((x1 &&& (31 : Int32)))) (((x2 &&& (31 : Int32))))))])) _
        refine XS.iadd X44.here hx rfl (hb hby at_92) rfl ?_
        show Steps p.tables e below (T44.setTop (mkF m 93 #[.val (.int x1), .val (.int x2), .val (.int x3), .val (.int x4), .val (.int (x1 &&& (31 : Int32))), .val (.int (x2 &&& (31 : Int32))), .val (.ref b1), .val (.ref b3), .val (.ref b37)] [(.int ((x1 &&& (31 : Int32)) + (x2 &&& (31 : Int32)))), (.int (F3 (((x1 &&& (31 : Int32)))) (((x2 &&& (31 : Int32))))))])) _
        refine own_dia (u := ((1 : Int32) : Int32)) (v := (0 : Int32)) ((F3 (((x1 &&& (31 : Int32)))) (((x2 &&& (31 : Int32))))) = ((x1 &&& (31 : Int32)) + (x2 &&& (31 : Int32)))) (fun z45 => (mkF m 101 #[.val (.int x1), .val (.int x2), .val (.int x3), .val (.int x4), .val (.int (x1 &&& (31 : Int32))), .val (.int (x2 &&& (31 : Int32))), .val (.ref b1), .val (.ref b3), .val (.ref b37)] [(.int z45)])) (fun hc45 k45 => ?_) (fun hc45 k45 => ?_) ?_
        · refine XS.icmpNo X44.here hx rfl (hb hby at_93) rfl (teq hc45).2 ?_
          show Steps p.tables e below (T44.setTop (mkF m 96 #[.val (.int x1), .val (.int x2), .val (.int x3), .val (.int x4), .val (.int (x1 &&& (31 : Int32))), .val (.int (x2 &&& (31 : Int32))), .val (.ref b1), .val (.ref b3), .val (.ref b37)] [])) _
          refine XS.iconst X44.here hx rfl (hb hby at_96) ?_
          show Steps p.tables e below (T44.setTop (mkF m 97 #[.val (.int x1), .val (.int x2), .val (.int x3), .val (.int x4), .val (.int (x1 &&& (31 : Int32))), .val (.int (x2 &&& (31 : Int32))), .val (.ref b1), .val (.ref b3), .val (.ref b37)] [(.int (1 : Int32))])) _
          refine XS.goto X44.here hx rfl (pc0 := 97) (pc' := 101) rfl (hb hby at_97) (by decide) (by decide) ?_
          exact k45
        · refine XS.icmpYes X44.here hx rfl (pc0 := 93) (pc' := 100) rfl (hb hby at_93) rfl (feq hc45).2 (by decide) (by decide) ?_
          show Steps p.tables e below (T44.setTop (mkF m 100 #[.val (.int x1), .val (.int x2), .val (.int x3), .val (.int x4), .val (.int (x1 &&& (31 : Int32))), .val (.int (x2 &&& (31 : Int32))), .val (.ref b1), .val (.ref b3), .val (.ref b37)] [])) _
          refine XS.iconst X44.here hx rfl (hb hby at_100) ?_
          exact k45
        -- meets at 101
        show Steps p.tables e below (T44.setTop (mkF m 101 #[.val (.int x1), .val (.int x2), .val (.int x3), .val (.int x4), .val (.int (x1 &&& (31 : Int32))), .val (.int (x2 &&& (31 : Int32))), .val (.ref b1), .val (.ref b3), .val (.ref b37)] [(.int (if (F3 (((x1 &&& (31 : Int32)))) (((x2 &&& (31 : Int32))))) = ((x1 &&& (31 : Int32)) + (x2 &&& (31 : Int32))) then (1 : Int32) else (0 : Int32)))])) _
        exact retN X44 hx (t := .boolean) Bd.returns (by simp) (hb hby at_101) (by rw [own_nb (own_b01 (Or.inr rfl) (Or.inl rfl))]; exact hr)
      · show Q0 Z x1 x2 x3 x4 h0 n0 _ T44.heap _
        rw [e44]
        exact ⟨(congrArg (fun z => some (Value.int z)) (Eq.symm (Eq.trans (if_pos hb7) (if_pos hb22)))), N44⟩
    · obtain ⟨T46, h46, X46, e46, E46, A46, D46, -, st46⟩ := newO X15 hx hZ hown (hw _ (List.mem_of_getElem? (i := 1) rfl)) (hw _ (List.mem_of_getElem? (i := 2) rfl)) (hw _ (List.mem_of_getElem? (i := 3) rfl)) e15 (g := (mkF m 70 #[.val (.int x1), .val (.int x2), .val (.int x3), .val (.int x4), .val (.int (x1 &&& (31 : Int32))), .val (.int (x2 &&& (31 : Int32))), .val (.ref b1), .val (.ref b3), .unset] [])) rfl (hb hby at_70) (by decide) (by decide)
      obtain ⟨b46, g46⟩ : ∃ z, z = h15.size := ⟨_, rfl⟩
      rw [← g46] at A46 D46 st46
      have ne_b3_b46 : b3 ≠ b46 := Nat.ne_of_lt (Nat.lt_of_lt_of_le E20_b3.lt (Nat.le_of_eq g46.symm))
      have ne_b1_b46 : b1 ≠ b46 := Nat.ne_of_lt (Nat.lt_of_lt_of_le E18_b1.lt (Nat.le_of_eq g46.symm))
      have g_b46 : n0 ≤ b46 := Nat.le_trans Z17 (Nat.le_of_eq g46.symm)
      have Z47 : n0 ≤ h46.size := Nat.le_trans Z17 E46.1
      have E48_b1 := E18_b1.ext E46
      have V49_b1 := V15.ext E46
      have E50_b3 := E20_b3.ext E46
      have V51_b3 := V21_b3.ext E46
      have F46_modulus : Fld Z h46 b46 "com/example/chainvouch/chainvouch/rsa/RsaKey" "modulus" "[B" .null := D46 (Or.inr (hw _ (List.mem_of_getElem? (i := 20) rfl))) (ty := (.array .byte)) (by decide)
      have F46_exponent : Fld Z h46 b46 "com/example/chainvouch/chainvouch/rsa/RsaKey" "exponent" "[B" .null := D46 (Or.inr (hw _ (List.mem_of_getElem? (i := 22) rfl))) (ty := (.array .byte)) (by decide)
      obtain ⟨_, _, ⟨T52, L52, k52, n52⟩, -, X52, ⟨Lc52, hQ52, l52, y52, z52⟩, st52⟩ := X46.specialBack hx (y := (⟨"com/example/chainvouch/chainvouch/rsa/RsaKey", "<init>", "([B[B)V"⟩ : MethodName)) rfl hown (mvT hZ (hw _ (List.mem_of_getElem? (i := 4) rfl))) (mvT hZ (hw _ (List.mem_of_getElem? (i := 5) rfl))) (mvT hZ (hw _ (List.mem_of_getElem? (i := 6) rfl))) (by decide) (backOf (W := 1) (rm1 l Z a0 hw [] b46 b1 b3 ((x1 &&& (31 : Int32))) ((x2 &&& (31 : Int32))) ((fun i => if i = (((x1 &&& (31 : Int32)) - (1 : Int32))).toNatClampNeg then (nar .byte ((x3 >>> ((8 : Int32) &&& 31)).toInt8.toInt32)) else (fun i => if i = ((0 : Int32)).toNatClampNeg then (nar .byte (x3.toInt8.toInt32)) else (fun _ => (0 : Int32)) i) i)) ((fun _ => (0 : Int32))) h46 n0 Z47 A46 g_b46 F46_modulus F46_exponent V49_b1 E48_b1 V51_b3 E50_b3 ne_b1_b46 ne_b3_b46 ne_b1_b3 (by first | exact own_fit0 | exact own_fit1 (own_fit1 own_fit0 _ _) _ _) (by first | exact own_fit0 | exact own_fit1 (own_fit1 own_fit0 _ _) _ _) (own_m31 x1) (own_m31 x2)) hZ (hw _ (List.mem_of_getElem? (i := 6) rfl)) (hw _ (List.mem_of_getElem? (i := 3) rfl)) (by decide) (by decide)) (g := (mkF m 78 #[.val (.int x1), .val (.int x2), .val (.int x3), .val (.int x4), .val (.int (x1 &&& (31 : Int32))), .val (.int (x2 &&& (31 : Int32))), .val (.ref b1), .val (.ref b3), .unset] [(.ref b3), (.ref b1), (.ref b46), (.ref b46)])) rfl (by rw [hml]; rfl) (Steps.refl _) (a := b46) (argsL := [(.ref b1), (.ref b3)]) (rest := [(.ref b46)]) (lenOf pd_0 rfl) rfl (by show 2 * 0 + _ ≤ _; exact Nat.le_of_eq rfl) (hb hby at_78) (fun _ _ => ⟨rfl, e46, (by decide : 3 + 2 ≤ _), (by decide : 64 + 62 ≤ _)⟩)
      dsimp only [Pt.U, Pt.locs, Pt.cells, Pt.slots] at X52 l52 y52 z52 st52 hQ52
      subst l52 y52 z52
      obtain ⟨rfl, N52q, Q52_0, Q52_1, Q52_2⟩ := hQ52
      have Z52 : n0 ≤ T52.heap.size := Q52_0
      have N52 := Fr.app N15 N52q
      obtain ⟨cq53, kq53, q53a, q53b, q53c⟩ := isOf hZ rfl Q52_1
      obtain ⟨_, _, ⟨T53, L53, k53, n53⟩, -, X53, ⟨Lc53, hQ53, l53, y53, z53⟩, st53⟩ := X52.virtualBack hx (y := (⟨"com/example/chainvouch/chainvouch/rsa/RsaKey", "length", "()I"⟩ : MethodName)) (z := (⟨"com/example/chainvouch/chainvouch/rsa/RsaKey", "length", "()I"⟩ : MethodName)) hown (mvT hZ (hw _ (List.mem_of_getElem? (i := 23) rfl))) (mvT hZ (hw _ (List.mem_of_getElem? (i := 24) rfl))) (notFace_of_selects (args := #[]) (mvT hZ (hw _ (List.mem_of_getElem? (i := 26) rfl)))) (mvT hZ (hw _ (List.mem_of_getElem? (i := 26) rfl))) (mvT hZ (hw _ (List.mem_of_getElem? (i := 25) rfl))) (by decide) (backOf (W := 0) (rm3 l Z a0 hw [] b46 (((x1 &&& (31 : Int32)))) (((x2 &&& (31 : Int32)))) T52.heap n0 Z52 Q52_2) hZ (hw _ (List.mem_of_getElem? (i := 27) rfl)) (hw _ (List.mem_of_getElem? (i := 3) rfl)) (by decide) (by decide)) q53a q53c (g := (mkF m 85 #[.val (.int x1), .val (.int x2), .val (.int x3), .val (.int x4), .val (.int (x1 &&& (31 : Int32))), .val (.int (x2 &&& (31 : Int32))), .val (.ref b1), .val (.ref b3), .val (.ref b46)] [(.ref b46)])) rfl (by rw [hml]; rfl) (Steps.refl _) (argsL := []) (rest := []) (lenOf pd_1 rfl) rfl (by show 2 * 0 + _ ≤ _; exact Nat.le_of_eq rfl) (hb hby at_85) (fun _ _ => ⟨rfl, rfl, (by decide : 5 + 0 ≤ _), (by decide : 126 + 0 ≤ _)⟩)
      dsimp only [Pt.U, Pt.locs, Pt.cells, Pt.slots] at X53 l53 y53 z53 st53 hQ53
      subst l53 y53 z53
      obtain ⟨rfl, N53q, e53⟩ := hQ53
      have N53 := Fr.app N52 N53q
      obtain ⟨fs, hr, hrun, hended, hW, hsame⟩ := X53.leave (v := some (.int (if (F3 (((x1 &&& (31 : Int32)))) (((x2 &&& (31 : Int32))))) = ((x1 &&& (31 : Int32)) + (x2 &&& (31 : Int32))) then (1 : Int32) else (0 : Int32)))) (fun h => by rw [Bd.returns] at h; cases h)
      refine ⟨_, _, pre0 _ ?_, hrun, hended, _, _, rfl, ?_, ⟨_, rfl⟩, hW, hsame.mono (by decide) (by decide)⟩
      · show Steps p.tables e below (s₁.setTop (mkF m 0 #[.val (.int x1), .val (.int x2), .val (.int x3), .val (.int x4), .unset, .unset, .unset, .unset, .unset] [])) _
        refine XS.iloadN X0.here hx rfl (hb hby at_0) rfl ?_
        show Steps p.tables e below (s₁.setTop (mkF m 1 #[.val (.int x1), .val (.int x2), .val (.int x3), .val (.int x4), .unset, .unset, .unset, .unset, .unset] [(.int x1)])) _
        refine XS.bipush X0.here hx rfl (hb hby at_1) ?_
        show Steps p.tables e below (s₁.setTop (mkF m 3 #[.val (.int x1), .val (.int x2), .val (.int x3), .val (.int x4), .unset, .unset, .unset, .unset, .unset] [(.int (31 : Int32)), (.int x1)])) _
        refine XS.iand X0.here hx rfl (hb hby at_3) rfl ?_
        show Steps p.tables e below (s₁.setTop (mkF m 4 #[.val (.int x1), .val (.int x2), .val (.int x3), .val (.int x4), .unset, .unset, .unset, .unset, .unset] [(.int (x1 &&& (31 : Int32)))])) _
        refine XS.istore X0.here hx rfl (hb hby at_4) rfl (l' := #[.val (.int x1), .val (.int x2), .val (.int x3), .val (.int x4), .val (.int (x1 &&& (31 : Int32))), .unset, .unset, .unset, .unset]) rfl ?_
        show Steps p.tables e below (s₁.setTop (mkF m 6 #[.val (.int x1), .val (.int x2), .val (.int x3), .val (.int x4), .val (.int (x1 &&& (31 : Int32))), .unset, .unset, .unset, .unset] [])) _
        refine XS.iloadN X0.here hx rfl (hb hby at_6) rfl ?_
        show Steps p.tables e below (s₁.setTop (mkF m 7 #[.val (.int x1), .val (.int x2), .val (.int x3), .val (.int x4), .val (.int (x1 &&& (31 : Int32))), .unset, .unset, .unset, .unset] [(.int x2)])) _
        refine XS.bipush X0.here hx rfl (hb hby at_7) ?_
        show Steps p.tables e below (s₁.setTop (mkF m 9 #[.val (.int x1), .val (.int x2), .val (.int x3), .val (.int x4), .val (.int (x1 &&& (31 : Int32))), .unset, .unset, .unset, .unset] [(.int (31 : Int32)), (.int x2)])) _
        refine XS.iand X0.here hx rfl (hb hby at_9) rfl ?_
        show Steps p.tables e below (s₁.setTop (mkF m 10 #[.val (.int x1), .val (.int x2), .val (.int x3), .val (.int x4), .val (.int (x1 &&& (31 : Int32))), .unset, .unset, .unset, .unset] [(.int (x2 &&& (31 : Int32)))])) _
        refine XS.istore X0.here hx rfl (hb hby at_10) rfl (l' := #[.val (.int x1), .val (.int x2), .val (.int x3), .val (.int x4), .val (.int (x1 &&& (31 : Int32))), .val (.int (x2 &&& (31 : Int32))), .unset, .unset, .unset]) rfl ?_
        show Steps p.tables e below (s₁.setTop (mkF m 12 #[.val (.int x1), .val (.int x2), .val (.int x3), .val (.int x4), .val (.int (x1 &&& (31 : Int32))), .val (.int (x2 &&& (31 : Int32))), .unset, .unset, .unset] [])) _
        refine XS.iload X0.here hx rfl (hb hby at_12) rfl ?_
        show Steps p.tables e below (s₁.setTop (mkF m 14 #[.val (.int x1), .val (.int x2), .val (.int x3), .val (.int x4), .val (.int (x1 &&& (31 : Int32))), .val (.int (x2 &&& (31 : Int32))), .unset, .unset, .unset] [(.int (x1 &&& (31 : Int32)))])) _
        refine st1 _ ?_
        show Steps p.tables e below (T1.setTop (mkF m 16 #[.val (.int x1), .val (.int x2), .val (.int x3), .val (.int x4), .val (.int (x1 &&& (31 : Int32))), .val (.int (x2 &&& (31 : Int32))), .unset, .unset, .unset] [(.ref b1)])) _
        refine XS.astore X1.here hx rfl (hb hby at_16) rfl rfl (l' := #[.val (.int x1), .val (.int x2), .val (.int x3), .val (.int x4), .val (.int (x1 &&& (31 : Int32))), .val (.int (x2 &&& (31 : Int32))), .val (.ref b1), .unset, .unset]) rfl ?_
        show Steps p.tables e below (T1.setTop (mkF m 18 #[.val (.int x1), .val (.int x2), .val (.int x3), .val (.int x4), .val (.int (x1 &&& (31 : Int32))), .val (.int (x2 &&& (31 : Int32))), .val (.ref b1), .unset, .unset] [])) _
        refine XS.iload X1.here hx rfl (hb hby at_18) rfl ?_
        show Steps p.tables e below (T1.setTop (mkF m 20 #[.val (.int x1), .val (.int x2), .val (.int x3), .val (.int x4), .val (.int (x1 &&& (31 : Int32))), .val (.int (x2 &&& (31 : Int32))), .val (.ref b1), .unset, .unset] [(.int (x2 &&& (31 : Int32)))])) _
        refine st3 _ ?_
        show Steps p.tables e below (T3.setTop (mkF m 22 #[.val (.int x1), .val (.int x2), .val (.int x3), .val (.int x4), .val (.int (x1 &&& (31 : Int32))), .val (.int (x2 &&& (31 : Int32))), .val (.ref b1), .unset, .unset] [(.ref b3)])) _
        refine XS.astore X3.here hx rfl (hb hby at_22) rfl rfl (l' := #[.val (.int x1), .val (.int x2), .val (.int x3), .val (.int x4), .val (.int (x1 &&& (31 : Int32))), .val (.int (x2 &&& (31 : Int32))), .val (.ref b1), .val (.ref b3), .unset]) rfl ?_
        show Steps p.tables e below (T3.setTop (mkF m 24 #[.val (.int x1), .val (.int x2), .val (.int x3), .val (.int x4), .val (.int (x1 &&& (31 : Int32))), .val (.int (x2 &&& (31 : Int32))), .val (.ref b1), .val (.ref b3), .unset] [])) _
        refine XS.iload X3.here hx rfl (hb hby at_24) rfl ?_
        show Steps p.tables e below (T3.setTop (mkF m 26 #[.val (.int x1), .val (.int x2), .val (.int x3), .val (.int x4), .val (.int (x1 &&& (31 : Int32))), .val (.int (x2 &&& (31 : Int32))), .val (.ref b1), .val (.ref b3), .unset] [(.int (x1 &&& (31 : Int32)))])) _
        refine XS.ifNo X3.here hx rfl (hb hby at_26) rfl ((if0 _ _).trans (tlt hb7).2.2.2) ?_
        show Steps p.tables e below (T3.setTop (mkF m 29 #[.val (.int x1), .val (.int x2), .val (.int x3), .val (.int x4), .val (.int (x1 &&& (31 : Int32))), .val (.int (x2 &&& (31 : Int32))), .val (.ref b1), .val (.ref b3), .unset] [])) _
        refine XS.aload X3.here hx rfl (hb hby at_29) rfl rfl ?_
        show Steps p.tables e below (T3.setTop (mkF m 31 #[.val (.int x1), .val (.int x2), .val (.int x3), .val (.int x4), .val (.int (x1 &&& (31 : Int32))), .val (.int (x2 &&& (31 : Int32))), .val (.ref b1), .val (.ref b3), .unset] [(.ref b1)])) _
        refine XS.iconst X3.here hx rfl (hb hby at_31) ?_
        show Steps p.tables e below (T3.setTop (mkF m 32 #[.val (.int x1), .val (.int x2), .val (.int x3), .val (.int x4), .val (.int (x1 &&& (31 : Int32))), .val (.int (x2 &&& (31 : Int32))), .val (.ref b1), .val (.ref b3), .unset] [(.int (0 : Int32)), (.ref b1)])) _
        refine XS.iloadN X3.here hx rfl (hb hby at_32) rfl ?_
        show Steps p.tables e below (T3.setTop (mkF m 33 #[.val (.int x1), .val (.int x2), .val (.int x3), .val (.int x4), .val (.int (x1 &&& (31 : Int32))), .val (.int (x2 &&& (31 : Int32))), .val (.ref b1), .val (.ref b3), .unset] [(.int x3), (.int (0 : Int32)), (.ref b1)])) _
        refine XS.i2b X3.here hx rfl (hb hby at_33) rfl ?_
        show Steps p.tables e below (T3.setTop (mkF m 34 #[.val (.int x1), .val (.int x2), .val (.int x3), .val (.int x4), .val (.int (x1 &&& (31 : Int32))), .val (.int (x2 &&& (31 : Int32))), .val (.ref b1), .val (.ref b3), .unset] [(.int (x3.toInt8.toInt32)), (.int (0 : Int32)), (.ref b1)])) _
        refine st8 _ ?_
        show Steps p.tables e below (T8.setTop (mkF m 35 #[.val (.int x1), .val (.int x2), .val (.int x3), .val (.int x4), .val (.int (x1 &&& (31 : Int32))), .val (.int (x2 &&& (31 : Int32))), .val (.ref b1), .val (.ref b3), .unset] [])) _
        refine XS.aload X8.here hx rfl (hb hby at_35) rfl rfl ?_
        show Steps p.tables e below (T8.setTop (mkF m 37 #[.val (.int x1), .val (.int x2), .val (.int x3), .val (.int x4), .val (.int (x1 &&& (31 : Int32))), .val (.int (x2 &&& (31 : Int32))), .val (.ref b1), .val (.ref b3), .unset] [(.ref b1)])) _
        refine XS.iload X8.here hx rfl (hb hby at_37) rfl ?_
        show Steps p.tables e below (T8.setTop (mkF m 39 #[.val (.int x1), .val (.int x2), .val (.int x3), .val (.int x4), .val (.int (x1 &&& (31 : Int32))), .val (.int (x2 &&& (31 : Int32))), .val (.ref b1), .val (.ref b3), .unset] [(.int (x1 &&& (31 : Int32))), (.ref b1)])) _
        refine XS.iconst X8.here hx rfl (hb hby at_39) ?_
        show Steps p.tables e below (T8.setTop (mkF m 40 #[.val (.int x1), .val (.int x2), .val (.int x3), .val (.int x4), .val (.int (x1 &&& (31 : Int32))), .val (.int (x2 &&& (31 : Int32))), .val (.ref b1), .val (.ref b3), .unset] [(.int (1 : Int32)), (.int (x1 &&& (31 : Int32))), (.ref b1)])) _
        refine XS.isub X8.here hx rfl (hb hby at_40) rfl ?_
        show Steps p.tables e below (T8.setTop (mkF m 41 #[.val (.int x1), .val (.int x2), .val (.int x3), .val (.int x4), .val (.int (x1 &&& (31 : Int32))), .val (.int (x2 &&& (31 : Int32))), .val (.ref b1), .val (.ref b3), .unset] [(.int ((x1 &&& (31 : Int32)) - (1 : Int32))), (.ref b1)])) _
        refine XS.iloadN X8.here hx rfl (hb hby at_41) rfl ?_
        show Steps p.tables e below (T8.setTop (mkF m 42 #[.val (.int x1), .val (.int x2), .val (.int x3), .val (.int x4), .val (.int (x1 &&& (31 : Int32))), .val (.int (x2 &&& (31 : Int32))), .val (.ref b1), .val (.ref b3), .unset] [(.int x3), (.int ((x1 &&& (31 : Int32)) - (1 : Int32))), (.ref b1)])) _
        refine XS.bipush X8.here hx rfl (hb hby at_42) ?_
        show Steps p.tables e below (T8.setTop (mkF m 44 #[.val (.int x1), .val (.int x2), .val (.int x3), .val (.int x4), .val (.int (x1 &&& (31 : Int32))), .val (.int (x2 &&& (31 : Int32))), .val (.ref b1), .val (.ref b3), .unset] [(.int (8 : Int32)), (.int x3), (.int ((x1 &&& (31 : Int32)) - (1 : Int32))), (.ref b1)])) _
        refine XS.ishr X8.here hx rfl (hb hby at_44) rfl ?_
        show Steps p.tables e below (T8.setTop (mkF m 45 #[.val (.int x1), .val (.int x2), .val (.int x3), .val (.int x4), .val (.int (x1 &&& (31 : Int32))), .val (.int (x2 &&& (31 : Int32))), .val (.ref b1), .val (.ref b3), .unset] [(.int (x3 >>> ((8 : Int32) &&& 31))), (.int ((x1 &&& (31 : Int32)) - (1 : Int32))), (.ref b1)])) _
        refine XS.i2b X8.here hx rfl (hb hby at_45) rfl ?_
        show Steps p.tables e below (T8.setTop (mkF m 46 #[.val (.int x1), .val (.int x2), .val (.int x3), .val (.int x4), .val (.int (x1 &&& (31 : Int32))), .val (.int (x2 &&& (31 : Int32))), .val (.ref b1), .val (.ref b3), .unset] [(.int ((x3 >>> ((8 : Int32) &&& 31)).toInt8.toInt32)), (.int ((x1 &&& (31 : Int32)) - (1 : Int32))), (.ref b1)])) _
        refine st15 _ ?_
        show Steps p.tables e below (T15.setTop (mkF m 47 #[.val (.int x1), .val (.int x2), .val (.int x3), .val (.int x4), .val (.int (x1 &&& (31 : Int32))), .val (.int (x2 &&& (31 : Int32))), .val (.ref b1), .val (.ref b3), .unset] [])) _
        refine XS.iload X15.here hx rfl (hb hby at_47) rfl ?_
        show Steps p.tables e below (T15.setTop (mkF m 49 #[.val (.int x1), .val (.int x2), .val (.int x3), .val (.int x4), .val (.int (x1 &&& (31 : Int32))), .val (.int (x2 &&& (31 : Int32))), .val (.ref b1), .val (.ref b3), .unset] [(.int (x2 &&& (31 : Int32)))])) _
        refine XS.ifYes X15.here hx rfl (pc0 := 49) (pc' := 70) rfl (hb hby at_49) rfl ((if0 _ _).trans (flt hb22).2.2.2) (by decide) (by decide) ?_
        show Steps p.tables e below (T15.setTop (mkF m 70 #[.val (.int x1), .val (.int x2), .val (.int x3), .val (.int x4), .val (.int (x1 &&& (31 : Int32))), .val (.int (x2 &&& (31 : Int32))), .val (.ref b1), .val (.ref b3), .unset] [])) _
        refine st46 _ ?_
        show Steps p.tables e below (T46.setTop (mkF m 73 #[.val (.int x1), .val (.int x2), .val (.int x3), .val (.int x4), .val (.int (x1 &&& (31 : Int32))), .val (.int (x2 &&& (31 : Int32))), .val (.ref b1), .val (.ref b3), .unset] [(.ref b46)])) _
        refine XS.dup X46.here hx rfl (hb hby at_73) rfl rfl ?_
        show Steps p.tables e below (T46.setTop (mkF m 74 #[.val (.int x1), .val (.int x2), .val (.int x3), .val (.int x4), .val (.int (x1 &&& (31 : Int32))), .val (.int (x2 &&& (31 : Int32))), .val (.ref b1), .val (.ref b3), .unset] [(.ref b46), (.ref b46)])) _
        refine XS.aload X46.here hx rfl (hb hby at_74) rfl rfl ?_
        show Steps p.tables e below (T46.setTop (mkF m 76 #[.val (.int x1), .val (.int x2), .val (.int x3), .val (.int x4), .val (.int (x1 &&& (31 : Int32))), .val (.int (x2 &&& (31 : Int32))), .val (.ref b1), .val (.ref b3), .unset] [(.ref b1), (.ref b46), (.ref b46)])) _
        refine XS.aload X46.here hx rfl (hb hby at_76) rfl rfl ?_
        show Steps p.tables e below (T46.setTop (mkF m 78 #[.val (.int x1), .val (.int x2), .val (.int x3), .val (.int x4), .val (.int (x1 &&& (31 : Int32))), .val (.int (x2 &&& (31 : Int32))), .val (.ref b1), .val (.ref b3), .unset] [(.ref b3), (.ref b1), (.ref b46), (.ref b46)])) _
        refine st52.trans ?_
        show Steps p.tables e below (T52.setTop (mkF m 81 #[.val (.int x1), .val (.int x2), .val (.int x3), .val (.int x4), .val (.int (x1 &&& (31 : Int32))), .val (.int (x2 &&& (31 : Int32))), .val (.ref b1), .val (.ref b3), .unset] [(.ref b46)])) _
        refine XS.astore X52.here hx rfl (hb hby at_81) rfl rfl (l' := #[.val (.int x1), .val (.int x2), .val (.int x3), .val (.int x4), .val (.int (x1 &&& (31 : Int32))), .val (.int (x2 &&& (31 : Int32))), .val (.ref b1), .val (.ref b3), .val (.ref b46)]) rfl ?_
        show Steps p.tables e below (T52.setTop (mkF m 83 #[.val (.int x1), .val (.int x2), .val (.int x3), .val (.int x4), .val (.int (x1 &&& (31 : Int32))), .val (.int (x2 &&& (31 : Int32))), .val (.ref b1), .val (.ref b3), .val (.ref b46)] [])) _
        refine XS.aload X52.here hx rfl (hb hby at_83) rfl rfl ?_
        show Steps p.tables e below (T52.setTop (mkF m 85 #[.val (.int x1), .val (.int x2), .val (.int x3), .val (.int x4), .val (.int (x1 &&& (31 : Int32))), .val (.int (x2 &&& (31 : Int32))), .val (.ref b1), .val (.ref b3), .val (.ref b46)] [(.ref b46)])) _
        refine st53.trans ?_
        show Steps p.tables e below (T53.setTop (mkF m 88 #[.val (.int x1), .val (.int x2), .val (.int x3), .val (.int x4), .val (.int (x1 &&& (31 : Int32))), .val (.int (x2 &&& (31 : Int32))), .val (.ref b1), .val (.ref b3), .val (.ref b46)] [(.int (F3 (((x1 &&& (31 : Int32)))) (((x2 &&& (31 : Int32))))))])) _
        refine XS.iload X53.here hx rfl (hb hby at_88) rfl ?_
        show Steps p.tables e below (T53.setTop (mkF m 90 #[.val (.int x1), .val (.int x2), .val (.int x3), .val (.int x4), .val (.int (x1 &&& (31 : Int32))), .val (.int (x2 &&& (31 : Int32))), .val (.ref b1), .val (.ref b3), .val (.ref b46)] [(.int (x1 &&& (31 : Int32))), (.int (F3 (((x1 &&& (31 : Int32)))) (((x2 &&& (31 : Int32))))))])) _
        refine XS.iload X53.here hx rfl (hb hby at_90) rfl ?_
        show Steps p.tables e below (T53.setTop (mkF m 92 #[.val (.int x1), .val (.int x2), .val (.int x3), .val (.int x4), .val (.int (x1 &&& (31 : Int32))), .val (.int (x2 &&& (31 : Int32))), .val (.ref b1), .val (.ref b3), .val (.ref b46)] [(.int (x2 &&& (31 : Int32))), (.int (x1 &&& (31 : Int32))), (.int (F3 (((x1 &&& (31 : Int32)))) (((x2 &&& (31 : Int32))))))])) _
        refine XS.iadd X53.here hx rfl (hb hby at_92) rfl ?_
        show Steps p.tables e below (T53.setTop (mkF m 93 #[.val (.int x1), .val (.int x2), .val (.int x3), .val (.int x4), .val (.int (x1 &&& (31 : Int32))), .val (.int (x2 &&& (31 : Int32))), .val (.ref b1), .val (.ref b3), .val (.ref b46)] [(.int ((x1 &&& (31 : Int32)) + (x2 &&& (31 : Int32)))), (.int (F3 (((x1 &&& (31 : Int32)))) (((x2 &&& (31 : Int32))))))])) _
        refine own_dia (u := ((1 : Int32) : Int32)) (v := (0 : Int32)) ((F3 (((x1 &&& (31 : Int32)))) (((x2 &&& (31 : Int32))))) = ((x1 &&& (31 : Int32)) + (x2 &&& (31 : Int32)))) (fun z54 => (mkF m 101 #[.val (.int x1), .val (.int x2), .val (.int x3), .val (.int x4), .val (.int (x1 &&& (31 : Int32))), .val (.int (x2 &&& (31 : Int32))), .val (.ref b1), .val (.ref b3), .val (.ref b46)] [(.int z54)])) (fun hc54 k54 => ?_) (fun hc54 k54 => ?_) ?_
        · refine XS.icmpNo X53.here hx rfl (hb hby at_93) rfl (teq hc54).2 ?_
          show Steps p.tables e below (T53.setTop (mkF m 96 #[.val (.int x1), .val (.int x2), .val (.int x3), .val (.int x4), .val (.int (x1 &&& (31 : Int32))), .val (.int (x2 &&& (31 : Int32))), .val (.ref b1), .val (.ref b3), .val (.ref b46)] [])) _
          refine XS.iconst X53.here hx rfl (hb hby at_96) ?_
          show Steps p.tables e below (T53.setTop (mkF m 97 #[.val (.int x1), .val (.int x2), .val (.int x3), .val (.int x4), .val (.int (x1 &&& (31 : Int32))), .val (.int (x2 &&& (31 : Int32))), .val (.ref b1), .val (.ref b3), .val (.ref b46)] [(.int (1 : Int32))])) _
          refine XS.goto X53.here hx rfl (pc0 := 97) (pc' := 101) rfl (hb hby at_97) (by decide) (by decide) ?_
          exact k54
        · refine XS.icmpYes X53.here hx rfl (pc0 := 93) (pc' := 100) rfl (hb hby at_93) rfl (feq hc54).2 (by decide) (by decide) ?_
          show Steps p.tables e below (T53.setTop (mkF m 100 #[.val (.int x1), .val (.int x2), .val (.int x3), .val (.int x4), .val (.int (x1 &&& (31 : Int32))), .val (.int (x2 &&& (31 : Int32))), .val (.ref b1), .val (.ref b3), .val (.ref b46)] [])) _
          refine XS.iconst X53.here hx rfl (hb hby at_100) ?_
          exact k54
        -- meets at 101
        show Steps p.tables e below (T53.setTop (mkF m 101 #[.val (.int x1), .val (.int x2), .val (.int x3), .val (.int x4), .val (.int (x1 &&& (31 : Int32))), .val (.int (x2 &&& (31 : Int32))), .val (.ref b1), .val (.ref b3), .val (.ref b46)] [(.int (if (F3 (((x1 &&& (31 : Int32)))) (((x2 &&& (31 : Int32))))) = ((x1 &&& (31 : Int32)) + (x2 &&& (31 : Int32))) then (1 : Int32) else (0 : Int32)))])) _
        exact retN X53 hx (t := .boolean) Bd.returns (by simp) (hb hby at_101) (by rw [own_nb (own_b01 (Or.inr rfl) (Or.inl rfl))]; exact hr)
      · show Q0 Z x1 x2 x3 x4 h0 n0 _ T53.heap _
        rw [e53]
        exact ⟨(congrArg (fun z => some (Value.int z)) (Eq.symm (Eq.trans (if_pos hb7) (if_neg hb22)))), N53⟩
  · by_cases hb55 : (0 : Int32) < (x2 &&& (31 : Int32))
    · have Vo57 := V_b3
      obtain ⟨cl57, Ar57, S57, M57, H57⟩ := Vo57
      have hin56 : ¬ ((0 : Int32) < 0 ∨ cl57.slots.size ≤ ((0 : Int32)).toNatClampNeg) := inb_of S57 ⟨by decide, hb55⟩
      obtain ⟨T56, h56, X56, e56, W56, st56⟩ := stB X3 hx hZ e3 Ar57 (j := (0 : Int32)) hin56 (g := (mkF m 57 #[.val (.int x1), .val (.int x2), .val (.int x3), .val (.int x4), .val (.int (x1 &&& (31 : Int32))), .val (.int (x2 &&& (31 : Int32))), .val (.ref b1), .val (.ref b3), .unset] [(.int (x4.toInt8.toInt32)), (.int (0 : Int32)), (.ref b3)])) rfl rfl (hb hby at_57)
      have Z58 : n0 ≤ h56.size := Nat.le_trans Z4 (Keep.of_wr W56).1
      have E59_b1 := E5_b1.wr W56
      have V60_b1 := V6_b1.other W56 ne_b1_b3
      have E61_b3 := Ex3.wr W56
      have V56 := own_arf_setI V_b3 W56
      have N56 := Fr.snoc X56 N0 g_b3
      have Vo64 := V56
      obtain ⟨cl64, Ar64, S64, M64, H64⟩ := Vo64
      have hin63 : ¬ (((x2 &&& (31 : Int32)) - (1 : Int32)) < 0 ∨ cl64.slots.size ≤ (((x2 &&& (31 : Int32)) - (1 : Int32))).toNatClampNeg) := inb_of S64 ⟨(own_last hb55).1, (own_last hb55).2⟩
      obtain ⟨T63, h63, X63, e63, W63, st63⟩ := stB X56 hx hZ e56 Ar64 (j := ((x2 &&& (31 : Int32)) - (1 : Int32))) hin63 (g := (mkF m 69 #[.val (.int x1), .val (.int x2), .val (.int x3), .val (.int x4), .val (.int (x1 &&& (31 : Int32))), .val (.int (x2 &&& (31 : Int32))), .val (.ref b1), .val (.ref b3), .unset] [(.int ((x4 >>> ((8 : Int32) &&& 31)).toInt8.toInt32)), (.int ((x2 &&& (31 : Int32)) - (1 : Int32))), (.ref b3)])) rfl rfl (hb hby at_69)
      have Z65 : n0 ≤ h63.size := Nat.le_trans Z58 (Keep.of_wr W63).1
      have E66_b1 := E59_b1.wr W63
      have V67_b1 := V60_b1.other W63 ne_b1_b3
      have E68_b3 := E61_b3.wr W63
      have V63 := own_arf_setI V56 W63
      have N63 := Fr.snoc X63 N56 g_b3
      obtain ⟨T70, h70, X70, e70, E70, A70, D70, -, st70⟩ := newO X63 hx hZ hown (hw _ (List.mem_of_getElem? (i := 1) rfl)) (hw _ (List.mem_of_getElem? (i := 2) rfl)) (hw _ (List.mem_of_getElem? (i := 3) rfl)) e63 (g := (mkF m 70 #[.val (.int x1), .val (.int x2), .val (.int x3), .val (.int x4), .val (.int (x1 &&& (31 : Int32))), .val (.int (x2 &&& (31 : Int32))), .val (.ref b1), .val (.ref b3), .unset] [])) rfl (hb hby at_70) (by decide) (by decide)
      obtain ⟨b70, g70⟩ : ∃ z, z = h63.size := ⟨_, rfl⟩
      rw [← g70] at A70 D70 st70
      have ne_b3_b70 : b3 ≠ b70 := Nat.ne_of_lt (Nat.lt_of_lt_of_le E68_b3.lt (Nat.le_of_eq g70.symm))
      have ne_b1_b70 : b1 ≠ b70 := Nat.ne_of_lt (Nat.lt_of_lt_of_le E66_b1.lt (Nat.le_of_eq g70.symm))
      have g_b70 : n0 ≤ b70 := Nat.le_trans Z65 (Nat.le_of_eq g70.symm)
      have Z71 : n0 ≤ h70.size := Nat.le_trans Z65 E70.1
      have E72_b1 := E66_b1.ext E70
      have V73_b1 := V67_b1.ext E70
      have E74_b3 := E68_b3.ext E70
      have V75_b3 := V63.ext E70
      have F70_modulus : Fld Z h70 b70 "com/example/chainvouch/chainvouch/rsa/RsaKey" "modulus" "[B" .null := D70 (Or.inr (hw _ (List.mem_of_getElem? (i := 20) rfl))) (ty := (.array .byte)) (by decide)
      have F70_exponent : Fld Z h70 b70 "com/example/chainvouch/chainvouch/rsa/RsaKey" "exponent" "[B" .null := D70 (Or.inr (hw _ (List.mem_of_getElem? (i := 22) rfl))) (ty := (.array .byte)) (by decide)
      obtain ⟨_, _, ⟨T76, L76, k76, n76⟩, -, X76, ⟨Lc76, hQ76, l76, y76, z76⟩, st76⟩ := X70.specialBack hx (y := (⟨"com/example/chainvouch/chainvouch/rsa/RsaKey", "<init>", "([B[B)V"⟩ : MethodName)) rfl hown (mvT hZ (hw _ (List.mem_of_getElem? (i := 4) rfl))) (mvT hZ (hw _ (List.mem_of_getElem? (i := 5) rfl))) (mvT hZ (hw _ (List.mem_of_getElem? (i := 6) rfl))) (by decide) (backOf (W := 1) (rm1 l Z a0 hw [] b70 b1 b3 ((x1 &&& (31 : Int32))) ((x2 &&& (31 : Int32))) ((fun _ => (0 : Int32))) ((fun i => if i = (((x2 &&& (31 : Int32)) - (1 : Int32))).toNatClampNeg then (nar .byte ((x4 >>> ((8 : Int32) &&& 31)).toInt8.toInt32)) else (fun i => if i = ((0 : Int32)).toNatClampNeg then (nar .byte (x4.toInt8.toInt32)) else (fun _ => (0 : Int32)) i) i)) h70 n0 Z71 A70 g_b70 F70_modulus F70_exponent V73_b1 E72_b1 V75_b3 E74_b3 ne_b1_b70 ne_b3_b70 ne_b1_b3 (by first | exact own_fit0 | exact own_fit1 (own_fit1 own_fit0 _ _) _ _) (by first | exact own_fit0 | exact own_fit1 (own_fit1 own_fit0 _ _) _ _) (own_m31 x1) (own_m31 x2)) hZ (hw _ (List.mem_of_getElem? (i := 6) rfl)) (hw _ (List.mem_of_getElem? (i := 3) rfl)) (by decide) (by decide)) (g := (mkF m 78 #[.val (.int x1), .val (.int x2), .val (.int x3), .val (.int x4), .val (.int (x1 &&& (31 : Int32))), .val (.int (x2 &&& (31 : Int32))), .val (.ref b1), .val (.ref b3), .unset] [(.ref b3), (.ref b1), (.ref b70), (.ref b70)])) rfl (by rw [hml]; rfl) (Steps.refl _) (a := b70) (argsL := [(.ref b1), (.ref b3)]) (rest := [(.ref b70)]) (lenOf pd_0 rfl) rfl (by show 2 * 0 + _ ≤ _; exact Nat.le_of_eq rfl) (hb hby at_78) (fun _ _ => ⟨rfl, e70, (by decide : 3 + 2 ≤ _), (by decide : 64 + 62 ≤ _)⟩)
      dsimp only [Pt.U, Pt.locs, Pt.cells, Pt.slots] at X76 l76 y76 z76 st76 hQ76
      subst l76 y76 z76
      obtain ⟨rfl, N76q, Q76_0, Q76_1, Q76_2⟩ := hQ76
      have Z76 : n0 ≤ T76.heap.size := Q76_0
      have N76 := Fr.app N63 N76q
      obtain ⟨cq77, kq77, q77a, q77b, q77c⟩ := isOf hZ rfl Q76_1
      obtain ⟨_, _, ⟨T77, L77, k77, n77⟩, -, X77, ⟨Lc77, hQ77, l77, y77, z77⟩, st77⟩ := X76.virtualBack hx (y := (⟨"com/example/chainvouch/chainvouch/rsa/RsaKey", "length", "()I"⟩ : MethodName)) (z := (⟨"com/example/chainvouch/chainvouch/rsa/RsaKey", "length", "()I"⟩ : MethodName)) hown (mvT hZ (hw _ (List.mem_of_getElem? (i := 23) rfl))) (mvT hZ (hw _ (List.mem_of_getElem? (i := 24) rfl))) (notFace_of_selects (args := #[]) (mvT hZ (hw _ (List.mem_of_getElem? (i := 26) rfl)))) (mvT hZ (hw _ (List.mem_of_getElem? (i := 26) rfl))) (mvT hZ (hw _ (List.mem_of_getElem? (i := 25) rfl))) (by decide) (backOf (W := 0) (rm3 l Z a0 hw [] b70 (((x1 &&& (31 : Int32)))) (((x2 &&& (31 : Int32)))) T76.heap n0 Z76 Q76_2) hZ (hw _ (List.mem_of_getElem? (i := 27) rfl)) (hw _ (List.mem_of_getElem? (i := 3) rfl)) (by decide) (by decide)) q77a q77c (g := (mkF m 85 #[.val (.int x1), .val (.int x2), .val (.int x3), .val (.int x4), .val (.int (x1 &&& (31 : Int32))), .val (.int (x2 &&& (31 : Int32))), .val (.ref b1), .val (.ref b3), .val (.ref b70)] [(.ref b70)])) rfl (by rw [hml]; rfl) (Steps.refl _) (argsL := []) (rest := []) (lenOf pd_1 rfl) rfl (by show 2 * 0 + _ ≤ _; exact Nat.le_of_eq rfl) (hb hby at_85) (fun _ _ => ⟨rfl, rfl, (by decide : 5 + 0 ≤ _), (by decide : 126 + 0 ≤ _)⟩)
      dsimp only [Pt.U, Pt.locs, Pt.cells, Pt.slots] at X77 l77 y77 z77 st77 hQ77
      subst l77 y77 z77
      obtain ⟨rfl, N77q, e77⟩ := hQ77
      have N77 := Fr.app N76 N77q
      obtain ⟨fs, hr, hrun, hended, hW, hsame⟩ := X77.leave (v := some (.int (if (F3 (((x1 &&& (31 : Int32)))) (((x2 &&& (31 : Int32))))) = ((x1 &&& (31 : Int32)) + (x2 &&& (31 : Int32))) then (1 : Int32) else (0 : Int32)))) (fun h => by rw [Bd.returns] at h; cases h)
      refine ⟨_, _, pre0 _ ?_, hrun, hended, _, _, rfl, ?_, ⟨_, rfl⟩, hW, hsame.mono (by decide) (by decide)⟩
      · show Steps p.tables e below (s₁.setTop (mkF m 0 #[.val (.int x1), .val (.int x2), .val (.int x3), .val (.int x4), .unset, .unset, .unset, .unset, .unset] [])) _
        refine XS.iloadN X0.here hx rfl (hb hby at_0) rfl ?_
        show Steps p.tables e below (s₁.setTop (mkF m 1 #[.val (.int x1), .val (.int x2), .val (.int x3), .val (.int x4), .unset, .unset, .unset, .unset, .unset] [(.int x1)])) _
        refine XS.bipush X0.here hx rfl (hb hby at_1) ?_
        show Steps p.tables e below (s₁.setTop (mkF m 3 #[.val (.int x1), .val (.int x2), .val (.int x3), .val (.int x4), .unset, .unset, .unset, .unset, .unset] [(.int (31 : Int32)), (.int x1)])) _
        refine XS.iand X0.here hx rfl (hb hby at_3) rfl ?_
        show Steps p.tables e below (s₁.setTop (mkF m 4 #[.val (.int x1), .val (.int x2), .val (.int x3), .val (.int x4), .unset, .unset, .unset, .unset, .unset] [(.int (x1 &&& (31 : Int32)))])) _
        refine XS.istore X0.here hx rfl (hb hby at_4) rfl (l' := #[.val (.int x1), .val (.int x2), .val (.int x3), .val (.int x4), .val (.int (x1 &&& (31 : Int32))), .unset, .unset, .unset, .unset]) rfl ?_
        show Steps p.tables e below (s₁.setTop (mkF m 6 #[.val (.int x1), .val (.int x2), .val (.int x3), .val (.int x4), .val (.int (x1 &&& (31 : Int32))), .unset, .unset, .unset, .unset] [])) _
        refine XS.iloadN X0.here hx rfl (hb hby at_6) rfl ?_
        show Steps p.tables e below (s₁.setTop (mkF m 7 #[.val (.int x1), .val (.int x2), .val (.int x3), .val (.int x4), .val (.int (x1 &&& (31 : Int32))), .unset, .unset, .unset, .unset] [(.int x2)])) _
        refine XS.bipush X0.here hx rfl (hb hby at_7) ?_
        show Steps p.tables e below (s₁.setTop (mkF m 9 #[.val (.int x1), .val (.int x2), .val (.int x3), .val (.int x4), .val (.int (x1 &&& (31 : Int32))), .unset, .unset, .unset, .unset] [(.int (31 : Int32)), (.int x2)])) _
        refine XS.iand X0.here hx rfl (hb hby at_9) rfl ?_
        show Steps p.tables e below (s₁.setTop (mkF m 10 #[.val (.int x1), .val (.int x2), .val (.int x3), .val (.int x4), .val (.int (x1 &&& (31 : Int32))), .unset, .unset, .unset, .unset] [(.int (x2 &&& (31 : Int32)))])) _
        refine XS.istore X0.here hx rfl (hb hby at_10) rfl (l' := #[.val (.int x1), .val (.int x2), .val (.int x3), .val (.int x4), .val (.int (x1 &&& (31 : Int32))), .val (.int (x2 &&& (31 : Int32))), .unset, .unset, .unset]) rfl ?_
        show Steps p.tables e below (s₁.setTop (mkF m 12 #[.val (.int x1), .val (.int x2), .val (.int x3), .val (.int x4), .val (.int (x1 &&& (31 : Int32))), .val (.int (x2 &&& (31 : Int32))), .unset, .unset, .unset] [])) _
        refine XS.iload X0.here hx rfl (hb hby at_12) rfl ?_
        show Steps p.tables e below (s₁.setTop (mkF m 14 #[.val (.int x1), .val (.int x2), .val (.int x3), .val (.int x4), .val (.int (x1 &&& (31 : Int32))), .val (.int (x2 &&& (31 : Int32))), .unset, .unset, .unset] [(.int (x1 &&& (31 : Int32)))])) _
        refine st1 _ ?_
        show Steps p.tables e below (T1.setTop (mkF m 16 #[.val (.int x1), .val (.int x2), .val (.int x3), .val (.int x4), .val (.int (x1 &&& (31 : Int32))), .val (.int (x2 &&& (31 : Int32))), .unset, .unset, .unset] [(.ref b1)])) _
        refine XS.astore X1.here hx rfl (hb hby at_16) rfl rfl (l' := #[.val (.int x1), .val (.int x2), .val (.int x3), .val (.int x4), .val (.int (x1 &&& (31 : Int32))), .val (.int (x2 &&& (31 : Int32))), .val (.ref b1), .unset, .unset]) rfl ?_
        show Steps p.tables e below (T1.setTop (mkF m 18 #[.val (.int x1), .val (.int x2), .val (.int x3), .val (.int x4), .val (.int (x1 &&& (31 : Int32))), .val (.int (x2 &&& (31 : Int32))), .val (.ref b1), .unset, .unset] [])) _
        refine XS.iload X1.here hx rfl (hb hby at_18) rfl ?_
        show Steps p.tables e below (T1.setTop (mkF m 20 #[.val (.int x1), .val (.int x2), .val (.int x3), .val (.int x4), .val (.int (x1 &&& (31 : Int32))), .val (.int (x2 &&& (31 : Int32))), .val (.ref b1), .unset, .unset] [(.int (x2 &&& (31 : Int32)))])) _
        refine st3 _ ?_
        show Steps p.tables e below (T3.setTop (mkF m 22 #[.val (.int x1), .val (.int x2), .val (.int x3), .val (.int x4), .val (.int (x1 &&& (31 : Int32))), .val (.int (x2 &&& (31 : Int32))), .val (.ref b1), .unset, .unset] [(.ref b3)])) _
        refine XS.astore X3.here hx rfl (hb hby at_22) rfl rfl (l' := #[.val (.int x1), .val (.int x2), .val (.int x3), .val (.int x4), .val (.int (x1 &&& (31 : Int32))), .val (.int (x2 &&& (31 : Int32))), .val (.ref b1), .val (.ref b3), .unset]) rfl ?_
        show Steps p.tables e below (T3.setTop (mkF m 24 #[.val (.int x1), .val (.int x2), .val (.int x3), .val (.int x4), .val (.int (x1 &&& (31 : Int32))), .val (.int (x2 &&& (31 : Int32))), .val (.ref b1), .val (.ref b3), .unset] [])) _
        refine XS.iload X3.here hx rfl (hb hby at_24) rfl ?_
        show Steps p.tables e below (T3.setTop (mkF m 26 #[.val (.int x1), .val (.int x2), .val (.int x3), .val (.int x4), .val (.int (x1 &&& (31 : Int32))), .val (.int (x2 &&& (31 : Int32))), .val (.ref b1), .val (.ref b3), .unset] [(.int (x1 &&& (31 : Int32)))])) _
        refine XS.ifYes X3.here hx rfl (pc0 := 26) (pc' := 47) rfl (hb hby at_26) rfl ((if0 _ _).trans (flt hb7).2.2.2) (by decide) (by decide) ?_
        show Steps p.tables e below (T3.setTop (mkF m 47 #[.val (.int x1), .val (.int x2), .val (.int x3), .val (.int x4), .val (.int (x1 &&& (31 : Int32))), .val (.int (x2 &&& (31 : Int32))), .val (.ref b1), .val (.ref b3), .unset] [])) _
        refine XS.iload X3.here hx rfl (hb hby at_47) rfl ?_
        show Steps p.tables e below (T3.setTop (mkF m 49 #[.val (.int x1), .val (.int x2), .val (.int x3), .val (.int x4), .val (.int (x1 &&& (31 : Int32))), .val (.int (x2 &&& (31 : Int32))), .val (.ref b1), .val (.ref b3), .unset] [(.int (x2 &&& (31 : Int32)))])) _
        refine XS.ifNo X3.here hx rfl (hb hby at_49) rfl ((if0 _ _).trans (tlt hb55).2.2.2) ?_
        show Steps p.tables e below (T3.setTop (mkF m 52 #[.val (.int x1), .val (.int x2), .val (.int x3), .val (.int x4), .val (.int (x1 &&& (31 : Int32))), .val (.int (x2 &&& (31 : Int32))), .val (.ref b1), .val (.ref b3), .unset] [])) _
        refine XS.aload X3.here hx rfl (hb hby at_52) rfl rfl ?_
        show Steps p.tables e below (T3.setTop (mkF m 54 #[.val (.int x1), .val (.int x2), .val (.int x3), .val (.int x4), .val (.int (x1 &&& (31 : Int32))), .val (.int (x2 &&& (31 : Int32))), .val (.ref b1), .val (.ref b3), .unset] [(.ref b3)])) _
        refine XS.iconst X3.here hx rfl (hb hby at_54) ?_
        show Steps p.tables e below (T3.setTop (mkF m 55 #[.val (.int x1), .val (.int x2), .val (.int x3), .val (.int x4), .val (.int (x1 &&& (31 : Int32))), .val (.int (x2 &&& (31 : Int32))), .val (.ref b1), .val (.ref b3), .unset] [(.int (0 : Int32)), (.ref b3)])) _
        refine XS.iloadN X3.here hx rfl (hb hby at_55) rfl ?_
        show Steps p.tables e below (T3.setTop (mkF m 56 #[.val (.int x1), .val (.int x2), .val (.int x3), .val (.int x4), .val (.int (x1 &&& (31 : Int32))), .val (.int (x2 &&& (31 : Int32))), .val (.ref b1), .val (.ref b3), .unset] [(.int x4), (.int (0 : Int32)), (.ref b3)])) _
        refine XS.i2b X3.here hx rfl (hb hby at_56) rfl ?_
        show Steps p.tables e below (T3.setTop (mkF m 57 #[.val (.int x1), .val (.int x2), .val (.int x3), .val (.int x4), .val (.int (x1 &&& (31 : Int32))), .val (.int (x2 &&& (31 : Int32))), .val (.ref b1), .val (.ref b3), .unset] [(.int (x4.toInt8.toInt32)), (.int (0 : Int32)), (.ref b3)])) _
        refine st56 _ ?_
        show Steps p.tables e below (T56.setTop (mkF m 58 #[.val (.int x1), .val (.int x2), .val (.int x3), .val (.int x4), .val (.int (x1 &&& (31 : Int32))), .val (.int (x2 &&& (31 : Int32))), .val (.ref b1), .val (.ref b3), .unset] [])) _
        refine XS.aload X56.here hx rfl (hb hby at_58) rfl rfl ?_
        show Steps p.tables e below (T56.setTop (mkF m 60 #[.val (.int x1), .val (.int x2), .val (.int x3), .val (.int x4), .val (.int (x1 &&& (31 : Int32))), .val (.int (x2 &&& (31 : Int32))), .val (.ref b1), .val (.ref b3), .unset] [(.ref b3)])) _
        refine XS.iload X56.here hx rfl (hb hby at_60) rfl ?_
        show Steps p.tables e below (T56.setTop (mkF m 62 #[.val (.int x1), .val (.int x2), .val (.int x3), .val (.int x4), .val (.int (x1 &&& (31 : Int32))), .val (.int (x2 &&& (31 : Int32))), .val (.ref b1), .val (.ref b3), .unset] [(.int (x2 &&& (31 : Int32))), (.ref b3)])) _
        refine XS.iconst X56.here hx rfl (hb hby at_62) ?_
        show Steps p.tables e below (T56.setTop (mkF m 63 #[.val (.int x1), .val (.int x2), .val (.int x3), .val (.int x4), .val (.int (x1 &&& (31 : Int32))), .val (.int (x2 &&& (31 : Int32))), .val (.ref b1), .val (.ref b3), .unset] [(.int (1 : Int32)), (.int (x2 &&& (31 : Int32))), (.ref b3)])) _
        refine XS.isub X56.here hx rfl (hb hby at_63) rfl ?_
        show Steps p.tables e below (T56.setTop (mkF m 64 #[.val (.int x1), .val (.int x2), .val (.int x3), .val (.int x4), .val (.int (x1 &&& (31 : Int32))), .val (.int (x2 &&& (31 : Int32))), .val (.ref b1), .val (.ref b3), .unset] [(.int ((x2 &&& (31 : Int32)) - (1 : Int32))), (.ref b3)])) _
        refine XS.iloadN X56.here hx rfl (hb hby at_64) rfl ?_
        show Steps p.tables e below (T56.setTop (mkF m 65 #[.val (.int x1), .val (.int x2), .val (.int x3), .val (.int x4), .val (.int (x1 &&& (31 : Int32))), .val (.int (x2 &&& (31 : Int32))), .val (.ref b1), .val (.ref b3), .unset] [(.int x4), (.int ((x2 &&& (31 : Int32)) - (1 : Int32))), (.ref b3)])) _
        refine XS.bipush X56.here hx rfl (hb hby at_65) ?_
        show Steps p.tables e below (T56.setTop (mkF m 67 #[.val (.int x1), .val (.int x2), .val (.int x3), .val (.int x4), .val (.int (x1 &&& (31 : Int32))), .val (.int (x2 &&& (31 : Int32))), .val (.ref b1), .val (.ref b3), .unset] [(.int (8 : Int32)), (.int x4), (.int ((x2 &&& (31 : Int32)) - (1 : Int32))), (.ref b3)])) _
        refine XS.ishr X56.here hx rfl (hb hby at_67) rfl ?_
        show Steps p.tables e below (T56.setTop (mkF m 68 #[.val (.int x1), .val (.int x2), .val (.int x3), .val (.int x4), .val (.int (x1 &&& (31 : Int32))), .val (.int (x2 &&& (31 : Int32))), .val (.ref b1), .val (.ref b3), .unset] [(.int (x4 >>> ((8 : Int32) &&& 31))), (.int ((x2 &&& (31 : Int32)) - (1 : Int32))), (.ref b3)])) _
        refine XS.i2b X56.here hx rfl (hb hby at_68) rfl ?_
        show Steps p.tables e below (T56.setTop (mkF m 69 #[.val (.int x1), .val (.int x2), .val (.int x3), .val (.int x4), .val (.int (x1 &&& (31 : Int32))), .val (.int (x2 &&& (31 : Int32))), .val (.ref b1), .val (.ref b3), .unset] [(.int ((x4 >>> ((8 : Int32) &&& 31)).toInt8.toInt32)), (.int ((x2 &&& (31 : Int32)) - (1 : Int32))), (.ref b3)])) _
        refine st63 _ ?_
        show Steps p.tables e below (T63.setTop (mkF m 70 #[.val (.int x1), .val (.int x2), .val (.int x3), .val (.int x4), .val (.int (x1 &&& (31 : Int32))), .val (.int (x2 &&& (31 : Int32))), .val (.ref b1), .val (.ref b3), .unset] [])) _
        refine st70 _ ?_
        show Steps p.tables e below (T70.setTop (mkF m 73 #[.val (.int x1), .val (.int x2), .val (.int x3), .val (.int x4), .val (.int (x1 &&& (31 : Int32))), .val (.int (x2 &&& (31 : Int32))), .val (.ref b1), .val (.ref b3), .unset] [(.ref b70)])) _
        refine XS.dup X70.here hx rfl (hb hby at_73) rfl rfl ?_
        show Steps p.tables e below (T70.setTop (mkF m 74 #[.val (.int x1), .val (.int x2), .val (.int x3), .val (.int x4), .val (.int (x1 &&& (31 : Int32))), .val (.int (x2 &&& (31 : Int32))), .val (.ref b1), .val (.ref b3), .unset] [(.ref b70), (.ref b70)])) _
        refine XS.aload X70.here hx rfl (hb hby at_74) rfl rfl ?_
        show Steps p.tables e below (T70.setTop (mkF m 76 #[.val (.int x1), .val (.int x2), .val (.int x3), .val (.int x4), .val (.int (x1 &&& (31 : Int32))), .val (.int (x2 &&& (31 : Int32))), .val (.ref b1), .val (.ref b3), .unset] [(.ref b1), (.ref b70), (.ref b70)])) _
        refine XS.aload X70.here hx rfl (hb hby at_76) rfl rfl ?_
        show Steps p.tables e below (T70.setTop (mkF m 78 #[.val (.int x1), .val (.int x2), .val (.int x3), .val (.int x4), .val (.int (x1 &&& (31 : Int32))), .val (.int (x2 &&& (31 : Int32))), .val (.ref b1), .val (.ref b3), .unset] [(.ref b3), (.ref b1), (.ref b70), (.ref b70)])) _
        refine st76.trans ?_
        show Steps p.tables e below (T76.setTop (mkF m 81 #[.val (.int x1), .val (.int x2), .val (.int x3), .val (.int x4), .val (.int (x1 &&& (31 : Int32))), .val (.int (x2 &&& (31 : Int32))), .val (.ref b1), .val (.ref b3), .unset] [(.ref b70)])) _
        refine XS.astore X76.here hx rfl (hb hby at_81) rfl rfl (l' := #[.val (.int x1), .val (.int x2), .val (.int x3), .val (.int x4), .val (.int (x1 &&& (31 : Int32))), .val (.int (x2 &&& (31 : Int32))), .val (.ref b1), .val (.ref b3), .val (.ref b70)]) rfl ?_
        show Steps p.tables e below (T76.setTop (mkF m 83 #[.val (.int x1), .val (.int x2), .val (.int x3), .val (.int x4), .val (.int (x1 &&& (31 : Int32))), .val (.int (x2 &&& (31 : Int32))), .val (.ref b1), .val (.ref b3), .val (.ref b70)] [])) _
        refine XS.aload X76.here hx rfl (hb hby at_83) rfl rfl ?_
        show Steps p.tables e below (T76.setTop (mkF m 85 #[.val (.int x1), .val (.int x2), .val (.int x3), .val (.int x4), .val (.int (x1 &&& (31 : Int32))), .val (.int (x2 &&& (31 : Int32))), .val (.ref b1), .val (.ref b3), .val (.ref b70)] [(.ref b70)])) _
        refine st77.trans ?_
        show Steps p.tables e below (T77.setTop (mkF m 88 #[.val (.int x1), .val (.int x2), .val (.int x3), .val (.int x4), .val (.int (x1 &&& (31 : Int32))), .val (.int (x2 &&& (31 : Int32))), .val (.ref b1), .val (.ref b3), .val (.ref b70)] [(.int (F3 (((x1 &&& (31 : Int32)))) (((x2 &&& (31 : Int32))))))])) _
        refine XS.iload X77.here hx rfl (hb hby at_88) rfl ?_
        show Steps p.tables e below (T77.setTop (mkF m 90 #[.val (.int x1), .val (.int x2), .val (.int x3), .val (.int x4), .val (.int (x1 &&& (31 : Int32))), .val (.int (x2 &&& (31 : Int32))), .val (.ref b1), .val (.ref b3), .val (.ref b70)] [(.int (x1 &&& (31 : Int32))), (.int (F3 (((x1 &&& (31 : Int32)))) (((x2 &&& (31 : Int32))))))])) _
        refine XS.iload X77.here hx rfl (hb hby at_90) rfl ?_
        show Steps p.tables e below (T77.setTop (mkF m 92 #[.val (.int x1), .val (.int x2), .val (.int x3), .val (.int x4), .val (.int (x1 &&& (31 : Int32))), .val (.int (x2 &&& (31 : Int32))), .val (.ref b1), .val (.ref b3), .val (.ref b70)] [(.int (x2 &&& (31 : Int32))), (.int (x1 &&& (31 : Int32))), (.int (F3 (((x1 &&& (31 : Int32)))) (((x2 &&& (31 : Int32))))))])) _
        refine XS.iadd X77.here hx rfl (hb hby at_92) rfl ?_
        show Steps p.tables e below (T77.setTop (mkF m 93 #[.val (.int x1), .val (.int x2), .val (.int x3), .val (.int x4), .val (.int (x1 &&& (31 : Int32))), .val (.int (x2 &&& (31 : Int32))), .val (.ref b1), .val (.ref b3), .val (.ref b70)] [(.int ((x1 &&& (31 : Int32)) + (x2 &&& (31 : Int32)))), (.int (F3 (((x1 &&& (31 : Int32)))) (((x2 &&& (31 : Int32))))))])) _
        refine own_dia (u := ((1 : Int32) : Int32)) (v := (0 : Int32)) ((F3 (((x1 &&& (31 : Int32)))) (((x2 &&& (31 : Int32))))) = ((x1 &&& (31 : Int32)) + (x2 &&& (31 : Int32)))) (fun z78 => (mkF m 101 #[.val (.int x1), .val (.int x2), .val (.int x3), .val (.int x4), .val (.int (x1 &&& (31 : Int32))), .val (.int (x2 &&& (31 : Int32))), .val (.ref b1), .val (.ref b3), .val (.ref b70)] [(.int z78)])) (fun hc78 k78 => ?_) (fun hc78 k78 => ?_) ?_
        · refine XS.icmpNo X77.here hx rfl (hb hby at_93) rfl (teq hc78).2 ?_
          show Steps p.tables e below (T77.setTop (mkF m 96 #[.val (.int x1), .val (.int x2), .val (.int x3), .val (.int x4), .val (.int (x1 &&& (31 : Int32))), .val (.int (x2 &&& (31 : Int32))), .val (.ref b1), .val (.ref b3), .val (.ref b70)] [])) _
          refine XS.iconst X77.here hx rfl (hb hby at_96) ?_
          show Steps p.tables e below (T77.setTop (mkF m 97 #[.val (.int x1), .val (.int x2), .val (.int x3), .val (.int x4), .val (.int (x1 &&& (31 : Int32))), .val (.int (x2 &&& (31 : Int32))), .val (.ref b1), .val (.ref b3), .val (.ref b70)] [(.int (1 : Int32))])) _
          refine XS.goto X77.here hx rfl (pc0 := 97) (pc' := 101) rfl (hb hby at_97) (by decide) (by decide) ?_
          exact k78
        · refine XS.icmpYes X77.here hx rfl (pc0 := 93) (pc' := 100) rfl (hb hby at_93) rfl (feq hc78).2 (by decide) (by decide) ?_
          show Steps p.tables e below (T77.setTop (mkF m 100 #[.val (.int x1), .val (.int x2), .val (.int x3), .val (.int x4), .val (.int (x1 &&& (31 : Int32))), .val (.int (x2 &&& (31 : Int32))), .val (.ref b1), .val (.ref b3), .val (.ref b70)] [])) _
          refine XS.iconst X77.here hx rfl (hb hby at_100) ?_
          exact k78
        -- meets at 101
        show Steps p.tables e below (T77.setTop (mkF m 101 #[.val (.int x1), .val (.int x2), .val (.int x3), .val (.int x4), .val (.int (x1 &&& (31 : Int32))), .val (.int (x2 &&& (31 : Int32))), .val (.ref b1), .val (.ref b3), .val (.ref b70)] [(.int (if (F3 (((x1 &&& (31 : Int32)))) (((x2 &&& (31 : Int32))))) = ((x1 &&& (31 : Int32)) + (x2 &&& (31 : Int32))) then (1 : Int32) else (0 : Int32)))])) _
        exact retN X77 hx (t := .boolean) Bd.returns (by simp) (hb hby at_101) (by rw [own_nb (own_b01 (Or.inr rfl) (Or.inl rfl))]; exact hr)
      · show Q0 Z x1 x2 x3 x4 h0 n0 _ T77.heap _
        rw [e77]
        exact ⟨(congrArg (fun z => some (Value.int z)) (Eq.symm (Eq.trans (if_neg hb7) (if_pos hb55)))), N77⟩
    · obtain ⟨T79, h79, X79, e79, E79, A79, D79, -, st79⟩ := newO X3 hx hZ hown (hw _ (List.mem_of_getElem? (i := 1) rfl)) (hw _ (List.mem_of_getElem? (i := 2) rfl)) (hw _ (List.mem_of_getElem? (i := 3) rfl)) e3 (g := (mkF m 70 #[.val (.int x1), .val (.int x2), .val (.int x3), .val (.int x4), .val (.int (x1 &&& (31 : Int32))), .val (.int (x2 &&& (31 : Int32))), .val (.ref b1), .val (.ref b3), .unset] [])) rfl (hb hby at_70) (by decide) (by decide)
      obtain ⟨b79, g79⟩ : ∃ z, z = h3.size := ⟨_, rfl⟩
      rw [← g79] at A79 D79 st79
      have ne_b3_b79 : b3 ≠ b79 := Nat.ne_of_lt (Nat.lt_of_lt_of_le Ex3.lt (Nat.le_of_eq g79.symm))
      have ne_b1_b79 : b1 ≠ b79 := Nat.ne_of_lt (Nat.lt_of_lt_of_le E5_b1.lt (Nat.le_of_eq g79.symm))
      have g_b79 : n0 ≤ b79 := Nat.le_trans Z4 (Nat.le_of_eq g79.symm)
      have Z80 : n0 ≤ h79.size := Nat.le_trans Z4 E79.1
      have E81_b1 := E5_b1.ext E79
      have V82_b1 := V6_b1.ext E79
      have E83_b3 := Ex3.ext E79
      have V84_b3 := V_b3.ext E79
      have F79_modulus : Fld Z h79 b79 "com/example/chainvouch/chainvouch/rsa/RsaKey" "modulus" "[B" .null := D79 (Or.inr (hw _ (List.mem_of_getElem? (i := 20) rfl))) (ty := (.array .byte)) (by decide)
      have F79_exponent : Fld Z h79 b79 "com/example/chainvouch/chainvouch/rsa/RsaKey" "exponent" "[B" .null := D79 (Or.inr (hw _ (List.mem_of_getElem? (i := 22) rfl))) (ty := (.array .byte)) (by decide)
      obtain ⟨_, _, ⟨T85, L85, k85, n85⟩, -, X85, ⟨Lc85, hQ85, l85, y85, z85⟩, st85⟩ := X79.specialBack hx (y := (⟨"com/example/chainvouch/chainvouch/rsa/RsaKey", "<init>", "([B[B)V"⟩ : MethodName)) rfl hown (mvT hZ (hw _ (List.mem_of_getElem? (i := 4) rfl))) (mvT hZ (hw _ (List.mem_of_getElem? (i := 5) rfl))) (mvT hZ (hw _ (List.mem_of_getElem? (i := 6) rfl))) (by decide) (backOf (W := 1) (rm1 l Z a0 hw [] b79 b1 b3 ((x1 &&& (31 : Int32))) ((x2 &&& (31 : Int32))) ((fun _ => (0 : Int32))) ((fun _ => (0 : Int32))) h79 n0 Z80 A79 g_b79 F79_modulus F79_exponent V82_b1 E81_b1 V84_b3 E83_b3 ne_b1_b79 ne_b3_b79 ne_b1_b3 (by first | exact own_fit0 | exact own_fit1 (own_fit1 own_fit0 _ _) _ _) (by first | exact own_fit0 | exact own_fit1 (own_fit1 own_fit0 _ _) _ _) (own_m31 x1) (own_m31 x2)) hZ (hw _ (List.mem_of_getElem? (i := 6) rfl)) (hw _ (List.mem_of_getElem? (i := 3) rfl)) (by decide) (by decide)) (g := (mkF m 78 #[.val (.int x1), .val (.int x2), .val (.int x3), .val (.int x4), .val (.int (x1 &&& (31 : Int32))), .val (.int (x2 &&& (31 : Int32))), .val (.ref b1), .val (.ref b3), .unset] [(.ref b3), (.ref b1), (.ref b79), (.ref b79)])) rfl (by rw [hml]; rfl) (Steps.refl _) (a := b79) (argsL := [(.ref b1), (.ref b3)]) (rest := [(.ref b79)]) (lenOf pd_0 rfl) rfl (by show 2 * 0 + _ ≤ _; exact Nat.le_of_eq rfl) (hb hby at_78) (fun _ _ => ⟨rfl, e79, (by decide : 3 + 2 ≤ _), (by decide : 64 + 62 ≤ _)⟩)
      dsimp only [Pt.U, Pt.locs, Pt.cells, Pt.slots] at X85 l85 y85 z85 st85 hQ85
      subst l85 y85 z85
      obtain ⟨rfl, N85q, Q85_0, Q85_1, Q85_2⟩ := hQ85
      have Z85 : n0 ≤ T85.heap.size := Q85_0
      have N85 := Fr.app N0 N85q
      obtain ⟨cq86, kq86, q86a, q86b, q86c⟩ := isOf hZ rfl Q85_1
      obtain ⟨_, _, ⟨T86, L86, k86, n86⟩, -, X86, ⟨Lc86, hQ86, l86, y86, z86⟩, st86⟩ := X85.virtualBack hx (y := (⟨"com/example/chainvouch/chainvouch/rsa/RsaKey", "length", "()I"⟩ : MethodName)) (z := (⟨"com/example/chainvouch/chainvouch/rsa/RsaKey", "length", "()I"⟩ : MethodName)) hown (mvT hZ (hw _ (List.mem_of_getElem? (i := 23) rfl))) (mvT hZ (hw _ (List.mem_of_getElem? (i := 24) rfl))) (notFace_of_selects (args := #[]) (mvT hZ (hw _ (List.mem_of_getElem? (i := 26) rfl)))) (mvT hZ (hw _ (List.mem_of_getElem? (i := 26) rfl))) (mvT hZ (hw _ (List.mem_of_getElem? (i := 25) rfl))) (by decide) (backOf (W := 0) (rm3 l Z a0 hw [] b79 (((x1 &&& (31 : Int32)))) (((x2 &&& (31 : Int32)))) T85.heap n0 Z85 Q85_2) hZ (hw _ (List.mem_of_getElem? (i := 27) rfl)) (hw _ (List.mem_of_getElem? (i := 3) rfl)) (by decide) (by decide)) q86a q86c (g := (mkF m 85 #[.val (.int x1), .val (.int x2), .val (.int x3), .val (.int x4), .val (.int (x1 &&& (31 : Int32))), .val (.int (x2 &&& (31 : Int32))), .val (.ref b1), .val (.ref b3), .val (.ref b79)] [(.ref b79)])) rfl (by rw [hml]; rfl) (Steps.refl _) (argsL := []) (rest := []) (lenOf pd_1 rfl) rfl (by show 2 * 0 + _ ≤ _; exact Nat.le_of_eq rfl) (hb hby at_85) (fun _ _ => ⟨rfl, rfl, (by decide : 5 + 0 ≤ _), (by decide : 126 + 0 ≤ _)⟩)
      dsimp only [Pt.U, Pt.locs, Pt.cells, Pt.slots] at X86 l86 y86 z86 st86 hQ86
      subst l86 y86 z86
      obtain ⟨rfl, N86q, e86⟩ := hQ86
      have N86 := Fr.app N85 N86q
      obtain ⟨fs, hr, hrun, hended, hW, hsame⟩ := X86.leave (v := some (.int (if (F3 (((x1 &&& (31 : Int32)))) (((x2 &&& (31 : Int32))))) = ((x1 &&& (31 : Int32)) + (x2 &&& (31 : Int32))) then (1 : Int32) else (0 : Int32)))) (fun h => by rw [Bd.returns] at h; cases h)
      refine ⟨_, _, pre0 _ ?_, hrun, hended, _, _, rfl, ?_, ⟨_, rfl⟩, hW, hsame.mono (by decide) (by decide)⟩
      · show Steps p.tables e below (s₁.setTop (mkF m 0 #[.val (.int x1), .val (.int x2), .val (.int x3), .val (.int x4), .unset, .unset, .unset, .unset, .unset] [])) _
        refine XS.iloadN X0.here hx rfl (hb hby at_0) rfl ?_
        show Steps p.tables e below (s₁.setTop (mkF m 1 #[.val (.int x1), .val (.int x2), .val (.int x3), .val (.int x4), .unset, .unset, .unset, .unset, .unset] [(.int x1)])) _
        refine XS.bipush X0.here hx rfl (hb hby at_1) ?_
        show Steps p.tables e below (s₁.setTop (mkF m 3 #[.val (.int x1), .val (.int x2), .val (.int x3), .val (.int x4), .unset, .unset, .unset, .unset, .unset] [(.int (31 : Int32)), (.int x1)])) _
        refine XS.iand X0.here hx rfl (hb hby at_3) rfl ?_
        show Steps p.tables e below (s₁.setTop (mkF m 4 #[.val (.int x1), .val (.int x2), .val (.int x3), .val (.int x4), .unset, .unset, .unset, .unset, .unset] [(.int (x1 &&& (31 : Int32)))])) _
        refine XS.istore X0.here hx rfl (hb hby at_4) rfl (l' := #[.val (.int x1), .val (.int x2), .val (.int x3), .val (.int x4), .val (.int (x1 &&& (31 : Int32))), .unset, .unset, .unset, .unset]) rfl ?_
        show Steps p.tables e below (s₁.setTop (mkF m 6 #[.val (.int x1), .val (.int x2), .val (.int x3), .val (.int x4), .val (.int (x1 &&& (31 : Int32))), .unset, .unset, .unset, .unset] [])) _
        refine XS.iloadN X0.here hx rfl (hb hby at_6) rfl ?_
        show Steps p.tables e below (s₁.setTop (mkF m 7 #[.val (.int x1), .val (.int x2), .val (.int x3), .val (.int x4), .val (.int (x1 &&& (31 : Int32))), .unset, .unset, .unset, .unset] [(.int x2)])) _
        refine XS.bipush X0.here hx rfl (hb hby at_7) ?_
        show Steps p.tables e below (s₁.setTop (mkF m 9 #[.val (.int x1), .val (.int x2), .val (.int x3), .val (.int x4), .val (.int (x1 &&& (31 : Int32))), .unset, .unset, .unset, .unset] [(.int (31 : Int32)), (.int x2)])) _
        refine XS.iand X0.here hx rfl (hb hby at_9) rfl ?_
        show Steps p.tables e below (s₁.setTop (mkF m 10 #[.val (.int x1), .val (.int x2), .val (.int x3), .val (.int x4), .val (.int (x1 &&& (31 : Int32))), .unset, .unset, .unset, .unset] [(.int (x2 &&& (31 : Int32)))])) _
        refine XS.istore X0.here hx rfl (hb hby at_10) rfl (l' := #[.val (.int x1), .val (.int x2), .val (.int x3), .val (.int x4), .val (.int (x1 &&& (31 : Int32))), .val (.int (x2 &&& (31 : Int32))), .unset, .unset, .unset]) rfl ?_
        show Steps p.tables e below (s₁.setTop (mkF m 12 #[.val (.int x1), .val (.int x2), .val (.int x3), .val (.int x4), .val (.int (x1 &&& (31 : Int32))), .val (.int (x2 &&& (31 : Int32))), .unset, .unset, .unset] [])) _
        refine XS.iload X0.here hx rfl (hb hby at_12) rfl ?_
        show Steps p.tables e below (s₁.setTop (mkF m 14 #[.val (.int x1), .val (.int x2), .val (.int x3), .val (.int x4), .val (.int (x1 &&& (31 : Int32))), .val (.int (x2 &&& (31 : Int32))), .unset, .unset, .unset] [(.int (x1 &&& (31 : Int32)))])) _
        refine st1 _ ?_
        show Steps p.tables e below (T1.setTop (mkF m 16 #[.val (.int x1), .val (.int x2), .val (.int x3), .val (.int x4), .val (.int (x1 &&& (31 : Int32))), .val (.int (x2 &&& (31 : Int32))), .unset, .unset, .unset] [(.ref b1)])) _
        refine XS.astore X1.here hx rfl (hb hby at_16) rfl rfl (l' := #[.val (.int x1), .val (.int x2), .val (.int x3), .val (.int x4), .val (.int (x1 &&& (31 : Int32))), .val (.int (x2 &&& (31 : Int32))), .val (.ref b1), .unset, .unset]) rfl ?_
        show Steps p.tables e below (T1.setTop (mkF m 18 #[.val (.int x1), .val (.int x2), .val (.int x3), .val (.int x4), .val (.int (x1 &&& (31 : Int32))), .val (.int (x2 &&& (31 : Int32))), .val (.ref b1), .unset, .unset] [])) _
        refine XS.iload X1.here hx rfl (hb hby at_18) rfl ?_
        show Steps p.tables e below (T1.setTop (mkF m 20 #[.val (.int x1), .val (.int x2), .val (.int x3), .val (.int x4), .val (.int (x1 &&& (31 : Int32))), .val (.int (x2 &&& (31 : Int32))), .val (.ref b1), .unset, .unset] [(.int (x2 &&& (31 : Int32)))])) _
        refine st3 _ ?_
        show Steps p.tables e below (T3.setTop (mkF m 22 #[.val (.int x1), .val (.int x2), .val (.int x3), .val (.int x4), .val (.int (x1 &&& (31 : Int32))), .val (.int (x2 &&& (31 : Int32))), .val (.ref b1), .unset, .unset] [(.ref b3)])) _
        refine XS.astore X3.here hx rfl (hb hby at_22) rfl rfl (l' := #[.val (.int x1), .val (.int x2), .val (.int x3), .val (.int x4), .val (.int (x1 &&& (31 : Int32))), .val (.int (x2 &&& (31 : Int32))), .val (.ref b1), .val (.ref b3), .unset]) rfl ?_
        show Steps p.tables e below (T3.setTop (mkF m 24 #[.val (.int x1), .val (.int x2), .val (.int x3), .val (.int x4), .val (.int (x1 &&& (31 : Int32))), .val (.int (x2 &&& (31 : Int32))), .val (.ref b1), .val (.ref b3), .unset] [])) _
        refine XS.iload X3.here hx rfl (hb hby at_24) rfl ?_
        show Steps p.tables e below (T3.setTop (mkF m 26 #[.val (.int x1), .val (.int x2), .val (.int x3), .val (.int x4), .val (.int (x1 &&& (31 : Int32))), .val (.int (x2 &&& (31 : Int32))), .val (.ref b1), .val (.ref b3), .unset] [(.int (x1 &&& (31 : Int32)))])) _
        refine XS.ifYes X3.here hx rfl (pc0 := 26) (pc' := 47) rfl (hb hby at_26) rfl ((if0 _ _).trans (flt hb7).2.2.2) (by decide) (by decide) ?_
        show Steps p.tables e below (T3.setTop (mkF m 47 #[.val (.int x1), .val (.int x2), .val (.int x3), .val (.int x4), .val (.int (x1 &&& (31 : Int32))), .val (.int (x2 &&& (31 : Int32))), .val (.ref b1), .val (.ref b3), .unset] [])) _
        refine XS.iload X3.here hx rfl (hb hby at_47) rfl ?_
        show Steps p.tables e below (T3.setTop (mkF m 49 #[.val (.int x1), .val (.int x2), .val (.int x3), .val (.int x4), .val (.int (x1 &&& (31 : Int32))), .val (.int (x2 &&& (31 : Int32))), .val (.ref b1), .val (.ref b3), .unset] [(.int (x2 &&& (31 : Int32)))])) _
        refine XS.ifYes X3.here hx rfl (pc0 := 49) (pc' := 70) rfl (hb hby at_49) rfl ((if0 _ _).trans (flt hb55).2.2.2) (by decide) (by decide) ?_
        show Steps p.tables e below (T3.setTop (mkF m 70 #[.val (.int x1), .val (.int x2), .val (.int x3), .val (.int x4), .val (.int (x1 &&& (31 : Int32))), .val (.int (x2 &&& (31 : Int32))), .val (.ref b1), .val (.ref b3), .unset] [])) _
        refine st79 _ ?_
        show Steps p.tables e below (T79.setTop (mkF m 73 #[.val (.int x1), .val (.int x2), .val (.int x3), .val (.int x4), .val (.int (x1 &&& (31 : Int32))), .val (.int (x2 &&& (31 : Int32))), .val (.ref b1), .val (.ref b3), .unset] [(.ref b79)])) _
        refine XS.dup X79.here hx rfl (hb hby at_73) rfl rfl ?_
        show Steps p.tables e below (T79.setTop (mkF m 74 #[.val (.int x1), .val (.int x2), .val (.int x3), .val (.int x4), .val (.int (x1 &&& (31 : Int32))), .val (.int (x2 &&& (31 : Int32))), .val (.ref b1), .val (.ref b3), .unset] [(.ref b79), (.ref b79)])) _
        refine XS.aload X79.here hx rfl (hb hby at_74) rfl rfl ?_
        show Steps p.tables e below (T79.setTop (mkF m 76 #[.val (.int x1), .val (.int x2), .val (.int x3), .val (.int x4), .val (.int (x1 &&& (31 : Int32))), .val (.int (x2 &&& (31 : Int32))), .val (.ref b1), .val (.ref b3), .unset] [(.ref b1), (.ref b79), (.ref b79)])) _
        refine XS.aload X79.here hx rfl (hb hby at_76) rfl rfl ?_
        show Steps p.tables e below (T79.setTop (mkF m 78 #[.val (.int x1), .val (.int x2), .val (.int x3), .val (.int x4), .val (.int (x1 &&& (31 : Int32))), .val (.int (x2 &&& (31 : Int32))), .val (.ref b1), .val (.ref b3), .unset] [(.ref b3), (.ref b1), (.ref b79), (.ref b79)])) _
        refine st85.trans ?_
        show Steps p.tables e below (T85.setTop (mkF m 81 #[.val (.int x1), .val (.int x2), .val (.int x3), .val (.int x4), .val (.int (x1 &&& (31 : Int32))), .val (.int (x2 &&& (31 : Int32))), .val (.ref b1), .val (.ref b3), .unset] [(.ref b79)])) _
        refine XS.astore X85.here hx rfl (hb hby at_81) rfl rfl (l' := #[.val (.int x1), .val (.int x2), .val (.int x3), .val (.int x4), .val (.int (x1 &&& (31 : Int32))), .val (.int (x2 &&& (31 : Int32))), .val (.ref b1), .val (.ref b3), .val (.ref b79)]) rfl ?_
        show Steps p.tables e below (T85.setTop (mkF m 83 #[.val (.int x1), .val (.int x2), .val (.int x3), .val (.int x4), .val (.int (x1 &&& (31 : Int32))), .val (.int (x2 &&& (31 : Int32))), .val (.ref b1), .val (.ref b3), .val (.ref b79)] [])) _
        refine XS.aload X85.here hx rfl (hb hby at_83) rfl rfl ?_
        show Steps p.tables e below (T85.setTop (mkF m 85 #[.val (.int x1), .val (.int x2), .val (.int x3), .val (.int x4), .val (.int (x1 &&& (31 : Int32))), .val (.int (x2 &&& (31 : Int32))), .val (.ref b1), .val (.ref b3), .val (.ref b79)] [(.ref b79)])) _
        refine st86.trans ?_
        show Steps p.tables e below (T86.setTop (mkF m 88 #[.val (.int x1), .val (.int x2), .val (.int x3), .val (.int x4), .val (.int (x1 &&& (31 : Int32))), .val (.int (x2 &&& (31 : Int32))), .val (.ref b1), .val (.ref b3), .val (.ref b79)] [(.int (F3 (((x1 &&& (31 : Int32)))) (((x2 &&& (31 : Int32))))))])) _
        refine XS.iload X86.here hx rfl (hb hby at_88) rfl ?_
        show Steps p.tables e below (T86.setTop (mkF m 90 #[.val (.int x1), .val (.int x2), .val (.int x3), .val (.int x4), .val (.int (x1 &&& (31 : Int32))), .val (.int (x2 &&& (31 : Int32))), .val (.ref b1), .val (.ref b3), .val (.ref b79)] [(.int (x1 &&& (31 : Int32))), (.int (F3 (((x1 &&& (31 : Int32)))) (((x2 &&& (31 : Int32))))))])) _
        refine XS.iload X86.here hx rfl (hb hby at_90) rfl ?_
        show Steps p.tables e below (T86.setTop (mkF m 92 #[.val (.int x1), .val (.int x2), .val (.int x3), .val (.int x4), .val (.int (x1 &&& (31 : Int32))), .val (.int (x2 &&& (31 : Int32))), .val (.ref b1), .val (.ref b3), .val (.ref b79)] [(.int (x2 &&& (31 : Int32))), (.int (x1 &&& (31 : Int32))), (.int (F3 (((x1 &&& (31 : Int32)))) (((x2 &&& (31 : Int32))))))])) _
        refine XS.iadd X86.here hx rfl (hb hby at_92) rfl ?_
        show Steps p.tables e below (T86.setTop (mkF m 93 #[.val (.int x1), .val (.int x2), .val (.int x3), .val (.int x4), .val (.int (x1 &&& (31 : Int32))), .val (.int (x2 &&& (31 : Int32))), .val (.ref b1), .val (.ref b3), .val (.ref b79)] [(.int ((x1 &&& (31 : Int32)) + (x2 &&& (31 : Int32)))), (.int (F3 (((x1 &&& (31 : Int32)))) (((x2 &&& (31 : Int32))))))])) _
        refine own_dia (u := ((1 : Int32) : Int32)) (v := (0 : Int32)) ((F3 (((x1 &&& (31 : Int32)))) (((x2 &&& (31 : Int32))))) = ((x1 &&& (31 : Int32)) + (x2 &&& (31 : Int32)))) (fun z87 => (mkF m 101 #[.val (.int x1), .val (.int x2), .val (.int x3), .val (.int x4), .val (.int (x1 &&& (31 : Int32))), .val (.int (x2 &&& (31 : Int32))), .val (.ref b1), .val (.ref b3), .val (.ref b79)] [(.int z87)])) (fun hc87 k87 => ?_) (fun hc87 k87 => ?_) ?_
        · refine XS.icmpNo X86.here hx rfl (hb hby at_93) rfl (teq hc87).2 ?_
          show Steps p.tables e below (T86.setTop (mkF m 96 #[.val (.int x1), .val (.int x2), .val (.int x3), .val (.int x4), .val (.int (x1 &&& (31 : Int32))), .val (.int (x2 &&& (31 : Int32))), .val (.ref b1), .val (.ref b3), .val (.ref b79)] [])) _
          refine XS.iconst X86.here hx rfl (hb hby at_96) ?_
          show Steps p.tables e below (T86.setTop (mkF m 97 #[.val (.int x1), .val (.int x2), .val (.int x3), .val (.int x4), .val (.int (x1 &&& (31 : Int32))), .val (.int (x2 &&& (31 : Int32))), .val (.ref b1), .val (.ref b3), .val (.ref b79)] [(.int (1 : Int32))])) _
          refine XS.goto X86.here hx rfl (pc0 := 97) (pc' := 101) rfl (hb hby at_97) (by decide) (by decide) ?_
          exact k87
        · refine XS.icmpYes X86.here hx rfl (pc0 := 93) (pc' := 100) rfl (hb hby at_93) rfl (feq hc87).2 (by decide) (by decide) ?_
          show Steps p.tables e below (T86.setTop (mkF m 100 #[.val (.int x1), .val (.int x2), .val (.int x3), .val (.int x4), .val (.int (x1 &&& (31 : Int32))), .val (.int (x2 &&& (31 : Int32))), .val (.ref b1), .val (.ref b3), .val (.ref b79)] [])) _
          refine XS.iconst X86.here hx rfl (hb hby at_100) ?_
          exact k87
        -- meets at 101
        show Steps p.tables e below (T86.setTop (mkF m 101 #[.val (.int x1), .val (.int x2), .val (.int x3), .val (.int x4), .val (.int (x1 &&& (31 : Int32))), .val (.int (x2 &&& (31 : Int32))), .val (.ref b1), .val (.ref b3), .val (.ref b79)] [(.int (if (F3 (((x1 &&& (31 : Int32)))) (((x2 &&& (31 : Int32))))) = ((x1 &&& (31 : Int32)) + (x2 &&& (31 : Int32))) then (1 : Int32) else (0 : Int32)))])) _
        exact retN X86 hx (t := .boolean) Bd.returns (by simp) (hb hby at_101) (by rw [own_nb (own_b01 (Or.inr rfl) (Or.inl rfl))]; exact hr)
      · show Q0 Z x1 x2 x3 x4 h0 n0 _ T86.heap _
        rw [e86]
        exact ⟨(congrArg (fun z => some (Value.int z)) (Eq.symm (Eq.trans (if_neg hb7) (if_neg hb55)))), N86⟩

theorem own_plain (x1 x2 x3 x4 : Int32) : F0 x1 x2 x3 x4 = 1 := by
  unfold F0 F3
  simp

set_option maxRecDepth 65536 in
set_option maxHeartbeats 40000000 in
theorem comes_1 {Post : Tables → Env → Array Value → State → Outcome → State → Prop} (hpost : ∀ tb e args s v u, (limb_1_1.after args s (.returned v) u = true ∧ limb_1_2.after args s (.returned v) u = true ∧ True) → FrameEnd s (.returned v) u (Jvm.fieldLocs frame_1_writes args s ++ Jvm.arrayLocs frame_1_arrays args s ++ Jvm.staticLocs frame_1_statics s) 24 320 → Post tb e args s (.returned v) u) :
    ArmFor flags0 classFile x code maxLocals ret World_1 tables_1 room_1 Calls_1 rest_1 Pre_1 Post := by
  intro l hfl _ _ p e ha hc hk s m args below hf hA hF happ hP
  obtain ⟨hcalls, hrest, hpre⟩ := hP
  obtain ⟨-, -, -, hnamed, -, -, -, hat⟩ := (Spec.applies_iff hf).mp happ
  obtain ⟨hg, hn⟩ := and_e (Cond.before_iff.mp (show (Jvm.Cond.and given_1 narrow_1).before args s = true from hpre))
  obtain ⟨hcount, t0⟩ := and_e hg
  obtain ⟨k0, t1⟩ := and_e t0
  obtain ⟨k1, t2⟩ := and_e t1
  obtain ⟨k2, t3⟩ := and_e t2
  have k3 := t3
  obtain ⟨w0, w1, w2, w3, rfl⟩ : ∃ w0 w1 w2 w3 : Value, args = #[w0, w1, w2, w3] := by
    have hs : args.size = 4 := by simpa [Cond.value, given_1] using hcount
    obtain ⟨L⟩ := args
    match L, hs with
    | [w0, w1, w2, w3], _ => exact ⟨w0, w1, w2, w3, rfl⟩
  have hw := fun d (hd : d ∈ tables_1) => atoms_spec (ws := Jvm.Cond.code x code maxLocals ret :: tables_1) hat d (List.mem_cons_of_mem _ hd)
  obtain ⟨i0, ei0⟩ := is_v k0
  obtain rfl : w0 = (.int i0) := Option.some.inj ei0
  obtain ⟨i1, ei1⟩ := is_v k1
  obtain rfl : w1 = (.int i1) := Option.some.inj ei1
  obtain ⟨i2, ei2⟩ := is_v k2
  obtain rfl : w2 = (.int i2) := Option.some.inj ei2
  obtain ⟨i3, ei3⟩ := is_v k3
  obtain rfl : w3 = (.int i3) := Option.some.inj ei3
  obtain ⟨n, o, h1, h2, h3, _, L, rfl, ⟨hv, N⟩, hq⟩ := rm0 l s _ hw tables_1 i0 i1 i2 i3 s.heap s.heap.size (Nat.le_refl _) p e ha hc hk s m _ below hf ((Spec.applies_iff_loose hf).mp happ).1 ⟨rfl, State.Warmed39.refl s, rfl⟩ trivial
  rw [own_plain i0 i1 i2 i3] at hv
  subst hv
  refine ⟨n, _, h1, h2, h3, hpost _ _ _ _ _ _ ⟨Cond.after_iff.mpr rfl, Cond.after_iff.mpr (eq_i res_at (Term.int_eval (1)) rfl), trivial⟩ ⟨hq.1, hq.2.1, (hq.2.2.sift fun y hy => Or.inr (N y hy)).mono (by decide) (by decide)⟩⟩
theorem main_1_1 : Claimed_1_1 := comes_1 fun _ _ _ _ _ _ h hF => ⟨h.1, hF⟩
theorem main_1_2 : Claimed_1_2 := comes_1 fun _ _ _ _ _ _ h hF => ⟨h.2.1, hF⟩
end Jvm.Pilot.@@N@@
namespace Jvm.Pilot.@@N@@
open Jvm Jvm.ClassFile Sem Op Lib Jvm.Free Jvm.Stand Jvm.Pilot.@@N@@.Jvm.D
/-! MADE BY PROGRAM (witnessworld.py) out of the Statement's table words and the real class files: 9 classes; the members and pool entries that the words name. The judged class is class 1, her method 1. -/
namespace start1
open Jvm.ClassFile
def u (s : String) : CpInfo := .utf8 (stringToUtf16 s)
/-- a pool by its gaps: so many unusable entries, then the entry; so many at the end -/
def gap : Nat → List CpInfo → List CpInfo
  | 0, r => r
  | n + 1, r => .unusable :: gap n r
def poolList (es : List (Nat × CpInfo)) (last : Nat) : List CpInfo := es.foldr (fun e r => gap e.1 (e.2 :: r)) (gap last [])
def pool (es : List (Nat × CpInfo)) (last : Nat) : Array CpInfo := ⟨poolList es last⟩
def fileOf (pool : Array CpInfo) (this : Nat) (attrs : Array Attribute := #[]) (ms : Array MethodInfo := #[]) (fl : Nat := 33) (sup : Nat := 0) (ifs : Array Nat := #[]) (fds : Array FieldInfo := #[]) : ClassFile where
  minorVersion := 0
  majorVersion := 65
  constantPool := pool
  accessFlags := fl
  thisClass := this
  superClass := sup
  interfaces := ifs
  fields := fds
  methods := ms
  attributes := attrs
def plain (name : String) (sup : Option ClassId) : Class where
  name := name
  kind := .ordinary
  loader := none
  accessFlags := 33
  super := sup
  interfaces := #[]
  cf := none
  fields := #[]
  methods := #[]
  instanceTypes := #[]
  staticTypes := #[]
  resolved := #[]
  callSites := []
  init := .initialized
  statics := none
  mirror := none

def pool0 : Array CpInfo := pool [(5, u "<init>"), (0, u "()V"), (1, .class_ 10), (1, u "java/lang/Object"), (85, u "clone"), (0, u "()Ljava/lang/Object;")] 26

def k0c0 : Code := { maxStack := 0, maxLocals := 1, code := object_method_1_code, exceptionTable := #[], attributes := #[] }
def k0m0 : Method := { name := "<init>", desc := "()V", sig := { parameters := [], returnType := none }, accessFlags := 1, code := some k0c0 }
def k0m1 : Method := { name := "clone", desc := "()Ljava/lang/Object;", sig := { parameters := [], returnType := some (.object "java/lang/Object") }, accessFlags := 260, code := none }
/-- java/lang/Object -/
def k0 : Class := { plain "java/lang/Object" none with
  accessFlags := 33
  interfaces := #[]
  cf := some (fileOf pool0 8 #[] #[{ accessFlags := 1, nameIndex := 5, descriptorIndex := 6, attributes := #[] }, { accessFlags := 260, nameIndex := 96, descriptorIndex := 97, attributes := #[] }] 33 0 #[] #[])
  fields := #[]
  methods := #[k0m0, k0m1]
  instanceTypes := #[]
  staticTypes := #[]
  resolved := Array.replicate 124 none
  statics := none }

def pool1 : Array CpInfo := pool [(2, .class_ 4), (1, u "java/lang/Object"), (0, u "<init>"), (0, u "()V"), (0, .class_ 8), (0, u "com/example/chainvouch/chainvouch/rsa/RsaKey"), (0, .methodref 7 10), (0, .nameAndType 5 11), (0, u "([B[B)V"), (0, .methodref 7 13), (0, .nameAndType 14 15), (0, u "length"), (0, u "()I"), (0, .class_ 17), (0, u "com/example/chainvouch/chainvouch/rsa/RsaKeyLengthPinLaw"), (2, u "law"), (0, u "(IIII)Z")] 5

def k1m0 : Method := { name := "<init>", desc := "()V", sig := { parameters := [], returnType := none }, accessFlags := 2, code := none }
def k1c1 : Code := { maxStack := 4, maxLocals := 9, code := code, exceptionTable := #[], attributes := #[] }
def k1m1 : Method := { name := "law", desc := "(IIII)Z", sig := { parameters := [.int, .int, .int, .int], returnType := some .boolean }, accessFlags := 9, code := some k1c1 }
/-- com/example/chainvouch/chainvouch/rsa/RsaKeyLengthPinLaw -/
def k1 : Class := { plain "com/example/chainvouch/chainvouch/rsa/RsaKeyLengthPinLaw" (some 0) with
  accessFlags := 49
  interfaces := #[]
  cf := some (fileOf pool1 16 #[] #[{ accessFlags := 2, nameIndex := 5, descriptorIndex := 6, attributes := #[] }, { accessFlags := 9, nameIndex := 20, descriptorIndex := 21, attributes := #[] }] 49 2 #[] #[])
  fields := #[]
  methods := #[k1m0, k1m1]
  instanceTypes := #[]
  staticTypes := #[]
  resolved := Array.replicate 27 none
  statics := none }

def pool2 : Array CpInfo := pool [(1, .methodref 2 3), (0, .class_ 4), (0, .nameAndType 5 6), (0, u "java/lang/Object"), (0, u "<init>"), (0, u "()V"), (0, .methodref 8 9), (0, .class_ 10), (0, .nameAndType 11 12), (0, u "[B"), (0, u "clone"), (0, u "()Ljava/lang/Object;"), (0, .fieldref 14 15), (0, .class_ 16), (0, .nameAndType 17 10), (0, u "com/example/chainvouch/chainvouch/rsa/RsaKey"), (0, u "modulus"), (0, .fieldref 14 19), (0, .nameAndType 20 10), (0, u "exponent"), (23, u "()I"), (95, u "MIN_EXPONENT"), (0, u "Ljava/math/BigInteger;"), (22, u "MIN_MODULUS_BYTES"), (0, u "I"), (2, u "MAX_MODULUS_BYTES"), (1, u "MAX_FREE_EXPONENT_MODULUS_BYTES"), (1, u "MAX_LONG_MODULUS_EXPONENT_BITS"), (0, u "([B[B)V"), (2, u "length")] 19

def k2c0 : Code := { maxStack := 2, maxLocals := 3, code := prog_49_method_1_code, exceptionTable := #[], attributes := #[] }
def k2m0 : Method := { name := "<init>", desc := "([B[B)V", sig := { parameters := [(.array .byte), (.array .byte)], returnType := none }, accessFlags := 1, code := some k2c0 }
def k2c1 : Code := { maxStack := 2, maxLocals := 1, code := prog_49_method_4_code, exceptionTable := #[], attributes := #[] }
def k2m1 : Method := { name := "length", desc := "()I", sig := { parameters := [], returnType := some .int }, accessFlags := 1, code := some k2c1 }
/-- com/example/chainvouch/chainvouch/rsa/RsaKey -/
def k2 : Class := { plain "com/example/chainvouch/chainvouch/rsa/RsaKey" (some 0) with
  accessFlags := 49
  interfaces := #[]
  cf := some (fileOf pool2 14 #[] #[{ accessFlags := 1, nameIndex := 5, descriptorIndex := 173, attributes := #[] }, { accessFlags := 1, nameIndex := 176, descriptorIndex := 44, attributes := #[] }] 49 2 #[] #[{ accessFlags := 26, nameIndex := 164, descriptorIndex := 165, attributes := #[] }, { accessFlags := 26, nameIndex := 168, descriptorIndex := 165, attributes := #[] }, { accessFlags := 26, nameIndex := 170, descriptorIndex := 165, attributes := #[] }, { accessFlags := 26, nameIndex := 172, descriptorIndex := 165, attributes := #[] }, { accessFlags := 26, nameIndex := 140, descriptorIndex := 141, attributes := #[] }, { accessFlags := 18, nameIndex := 17, descriptorIndex := 10, attributes := #[] }, { accessFlags := 18, nameIndex := 20, descriptorIndex := 10, attributes := #[] }])
  fields := #[{ name := "MIN_MODULUS_BYTES", type := .int, accessFlags := 26, slot := 0, constantValue := 0 }, { name := "MAX_MODULUS_BYTES", type := .int, accessFlags := 26, slot := 1, constantValue := 0 }, { name := "MAX_FREE_EXPONENT_MODULUS_BYTES", type := .int, accessFlags := 26, slot := 2, constantValue := 0 }, { name := "MAX_LONG_MODULUS_EXPONENT_BITS", type := .int, accessFlags := 26, slot := 3, constantValue := 0 }, { name := "MIN_EXPONENT", type := (.object "java/math/BigInteger"), accessFlags := 26, slot := 4, constantValue := 0 }, { name := "modulus", type := (.array .byte), accessFlags := 18, slot := 0, constantValue := 0 }, { name := "exponent", type := (.array .byte), accessFlags := 18, slot := 1, constantValue := 0 }]
  methods := #[k2m0, k2m1]
  instanceTypes := #[(.array .byte), (.array .byte)]
  staticTypes := #[.int, .int, .int, .int, (.object "java/math/BigInteger")]
  resolved := Array.replicate 196 none
  statics := none }

def pool3 : Array CpInfo := pool [(1, .class_ 2), (0, u "java/lang/Cloneable"), (0, .class_ 4), (0, u "java/lang/Object")] 2

/-- java/lang/Cloneable -/
def k3 : Class := { plain "java/lang/Cloneable" (some 0) with
  accessFlags := 1537
  interfaces := #[]
  cf := some (fileOf pool3 1 #[] #[] 1537 3 #[] #[])
  fields := #[]
  methods := #[]
  instanceTypes := #[]
  staticTypes := #[]
  resolved := Array.replicate 7 none
  statics := none }

def pool4 : Array CpInfo := pool [(1, u "java/io/Serializable"), (0, .class_ 1), (0, u "java/lang/Object"), (0, .class_ 3)] 3

/-- java/io/Serializable -/
def k4 : Class := { plain "java/io/Serializable" (some 0) with
  accessFlags := 1537
  interfaces := #[]
  cf := some (fileOf pool4 2 #[] #[] 1537 4 #[] #[])
  fields := #[]
  methods := #[]
  instanceTypes := #[]
  staticTypes := #[]
  resolved := Array.replicate 8 none
  statics := none }

/-- the primitive byte -/
def k5 : Class := { plain "byte" none with kind := .primitive 'B', accessFlags := 0x411 }
/-- [B -/
def k6 : Class := { plain "[B" (some 0) with kind := .array 5 .byte, interfaces := #[3, 4], accessFlags := 1041 }

/-- the primitive int -/
def k7 : Class := { plain "int" none with kind := .primitive 'I', accessFlags := 0x411 }
/-- [I -/
def k8 : Class := { plain "[I" (some 0) with kind := .array 7 .int, interfaces := #[3, 4], accessFlags := 1041 }

def heap : Heap := #[]
def classes : Array Class := #[k0, k1, k2, k3, k4, k5, k6, k7, k8]
def interned : List (Array UInt16 × Addr) := []
def slotsUsed : Nat := 0
def theMethod : MethodId := ⟨1, 1⟩
def args0 : Array Value := #[.int 5, .int 5, .int 5, .int 5]
def aboutOver (below : List Frame) : State where
  vm := { classes := classes, interned := interned.toArray }
  heap := heap
  slotsUsed := slotsUsed
  threads := #[{ frames := .invoking theMethod args0 :: below }]
def below0 : List Frame := [.native { method := ⟨0, 0⟩, args := #[] }]
def about1 : State := aboutOver below0
def p0 : Program := .bare "" "" ""
def e0 : Env := launch0.env 0 0 0
theorem w_frames : about1.frames = Frame.invoking theMethod args0 :: below0 := rfl
set_option maxRecDepth 65536 in
theorem w_args : argsFit about1.vm theMethod args0 = true := by decide +kernel
set_option maxRecDepth 65536 in
theorem w_heap : heapFits about1 = true := by decide +kernel
set_option maxRecDepth 65536 in
theorem w_runnable : about1.curStatus? = some .runnable := by decide +kernel
set_option maxRecDepth 65536 in
theorem w_alone : about1.alone = true := by decide +kernel
set_option maxRecDepth 65536 in
theorem w_named : about1.methodNamed? x = some theMethod := by decide +kernel
set_option maxRecDepth 65536 in
theorem w_hears : about1.hears theMethod below0 = true := by decide +kernel
set_option maxRecDepth 65536 in
theorem w_ripe : about1.ripe theMethod args0 below0 = true := by decide +kernel
theorem w_running : about1.status = .running := rfl
set_option maxRecDepth 65536 in
theorem w_room : about1.hasRoom e0.platform room_1 = true :=
  launch0.hasRoom_least _ room_1 (by decide +kernel) (by decide +kernel) (by decide +kernel) (by decide +kernel) (by decide +kernel) (by decide +kernel)
theorem allAtoms_all (ts : List Jvm.Cond) (a : Array Jvm.Value) (st : Jvm.State) : (allAtoms ts).before a st = ts.all (fun c => c.before a st) := by
  induction ts with
  | nil => rfl
  | cons c t ih =>
    show (Jvm.Cond.and c (allAtoms t)).before a st = _
    rw [Jvm.Cond.before_and, ih, List.all_cons]
def words1 : List Jvm.Cond := Jvm.Cond.code x code maxLocals ret :: tables_1
/-- a 'code' word, met by the world's own term for the bytes: nothing is compared byte by byte -/
theorem code_word {y : MethodName} {bytes : ByteArray} {mx : Nat} {rt : Option FieldType} {a : Array Value} {s : State} {m : MethodId} {meth : Method} {c : Code} (h1 : s.methodNamed? y = some m) (h2 : s.vm.method? m = some meth) (h3 : meth.code = some c) (h4 : c.code = bytes)
    (h5 : (c.maxLocals == mx && c.exceptionTable.isEmpty && decide (c.maxStack ≤ mostOperands) && decide (meth.sig.returnType = rt) && !meth.locks && decide (parseMethodDescriptor y.desc = some meth.sig)) = true) : (Jvm.Cond.code y bytes mx rt).before a s = true := by
  simp only [Bool.and_eq_true, beq_iff_eq, Bool.not_eq_true', decide_eq_true_eq] at h5
  obtain ⟨⟨⟨⟨⟨g1, g2⟩, g3⟩, g4⟩, g5⟩, g6⟩ := h5
  simp [Cond.before, Cond.holds, Cond.value, h1, h2, h3, h4, g1, g2, g3, g4, g5, g6]
def isCode : Jvm.Cond → Bool
  | .code _ _ _ _ => true
  | _ => false
theorem all_split {L : List Jvm.Cond} {P : Jvm.Cond → Bool} (h1 : L.all (fun c => isCode c || P c) = true) (h2 : ∀ c ∈ L.filter isCode, P c = true) : L.all P = true := by
  refine List.all_eq_true.mpr fun c hc => ?_
  have h := List.all_eq_true.mp h1 c hc
  rcases Bool.eq_false_or_eq_true (isCode c) with hi | hi
  · exact h2 c (List.mem_filter.mpr ⟨hc, hi⟩)
  · simpa [hi] using h
set_option maxRecDepth 65536 in
theorem w_c0 : (Jvm.Cond.code x code maxLocals ret).before args0 about1 = true := code_word (m := ⟨1, 1⟩) (meth := k1m1) (c := k1c1) (by decide +kernel) rfl rfl rfl (by decide +kernel)
set_option maxRecDepth 65536 in
theorem w_c1 : (Jvm.Cond.code ({ cls := "com/example/chainvouch/chainvouch/rsa/RsaKey", name := "<init>", desc := "([B[B)V" } : Jvm.MethodName) prog_49_method_1_code (3 : Nat) (Option.none : Option Jvm.ClassFile.FieldType)).before args0 about1 = true := code_word (m := ⟨2, 0⟩) (meth := k2m0) (c := k2c0) (by decide +kernel) rfl rfl rfl (by decide +kernel)
set_option maxRecDepth 65536 in
theorem w_c2 : (Jvm.Cond.code ({ cls := "java/lang/Object", name := "<init>", desc := "()V" } : Jvm.MethodName) object_method_1_code (1 : Nat) (Option.none : Option Jvm.ClassFile.FieldType)).before args0 about1 = true := code_word (m := ⟨0, 0⟩) (meth := k0m0) (c := k0c0) (by decide +kernel) rfl rfl rfl (by decide +kernel)
set_option maxRecDepth 65536 in
theorem w_c3 : (Jvm.Cond.code ({ cls := "com/example/chainvouch/chainvouch/rsa/RsaKey", name := "length", desc := "()I" } : Jvm.MethodName) prog_49_method_4_code (1 : Nat) (Option.some Jvm.ClassFile.FieldType.int)).before args0 about1 = true := code_word (m := ⟨2, 1⟩) (meth := k2m1) (c := k2c1) (by decide +kernel) rfl rfl rfl (by decide +kernel)
def codes1 : List Jvm.Cond := [Jvm.Cond.code x code maxLocals ret, Jvm.Cond.code ({ cls := "com/example/chainvouch/chainvouch/rsa/RsaKey", name := "<init>", desc := "([B[B)V" } : Jvm.MethodName) prog_49_method_1_code (3 : Nat) (Option.none : Option Jvm.ClassFile.FieldType), Jvm.Cond.code ({ cls := "java/lang/Object", name := "<init>", desc := "()V" } : Jvm.MethodName) object_method_1_code (1 : Nat) (Option.none : Option Jvm.ClassFile.FieldType), Jvm.Cond.code ({ cls := "com/example/chainvouch/chainvouch/rsa/RsaKey", name := "length", desc := "()I" } : Jvm.MethodName) prog_49_method_4_code (1 : Nat) (Option.some Jvm.ClassFile.FieldType.int)]
set_option maxRecDepth 65536 in
theorem codes_eq : words1.filter isCode = codes1 := rfl
theorem w_codes : ∀ c ∈ words1.filter isCode, c.before args0 about1 = true := by
  rw [codes_eq]
  intro c hc
  simp only [codes1, List.mem_cons, List.not_mem_nil, or_false] at hc
  rcases hc with rfl | rfl | rfl | rfl
  · exact w_c0
  · exact w_c1
  · exact w_c2
  · exact w_c3
set_option maxRecDepth 65536 in
theorem w_t1 : (words1.take 24).all (fun c => isCode c || c.before args0 about1) = true := by decide +kernel
set_option maxRecDepth 65536 in
theorem w_t2 : (words1.drop 24).all (fun c => isCode c || c.before args0 about1) = true := by decide +kernel
theorem w_tables : (allAtoms (Jvm.Cond.code x code maxLocals ret :: tables_1)).before args0 about1 = true := by
  rw [allAtoms_all]
  show words1.all (fun c => c.before args0 about1) = true
  refine all_split ?_ w_codes
  rw [← List.take_append_drop 24 words1, List.all_append, w_t1, w_t2]
  rfl
set_option maxRecDepth 65536 in
theorem w_case : (Jvm.Cond.and given_1 narrow_1).before args0 about1 = true := by decide +kernel
theorem w_applies : (headSpec (Jvm.Cond.code x code maxLocals ret :: tables_1) room_1).applies x e0.platform about1 = true :=
  (Spec.applies_iff w_frames).mpr ⟨w_running, w_runnable, w_alone, w_named, w_hears, w_ripe, w_room, w_tables⟩
theorem atStart : AtStart classFile x code maxLocals ret World_1 tables_1 room_1 Calls_1 rest_1 Pre_1 launch0 p0 e0 about1 theMethod args0 below0 :=
  ⟨lists_1, trivial, launch0.admits_env _ _ _, launch0.least_env, fairChoices_fair.cas, fairChoices_fair.clock, w_frames, w_args, w_heap, w_applies, trivial, trivial, w_case⟩
end start1
theorem witness_1 : WitnessClaimed_1 := ⟨start1.p0, start1.e0, start1.about1, start1.theMethod, start1.args0, start1.below0, start1.atStart⟩
end Jvm.Pilot.@@N@@
