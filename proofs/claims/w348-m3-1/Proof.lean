import JvmDerived
import JvmDerived.Pilot.@@N@@Statement
import JvmDerived.Pilot.@@N@@Code
set_option linter.unusedVariables false
set_option linter.unusedSimpArgs false
@@BLOCK:NumsL.lean.txt@@
namespace Jvm.RoadKit
open Sem ClassFile Op Lib Jvm.Stand Jvm.Free Jvm.LawKit
section New
variable {p : Program} {l : Launch} {e : Env} {R : Room} {s : State} {m : MethodId} {args : Array Value} {below : List Frame} {meth : Method} {c : Code} {T : State} {locs : List Loc} {cells slots : Nat}
theorem retI (X : Stand p l e R s m args below meth c T locs cells slots) (hx : p.tables.exec = Jvm.exec) {pc : Nat} {Ls : Array Slot} {z : Int32} {rest : List Value} (hret : meth.sig.returnType = some .int) (hd : decode c.code pc = .ok (.ireturn, 1)) {fs : List Frame}
    (hl : ∀ (f : JFrame) (acts : List Action), f.method = m → f.locked = none → f.entered = [] → (doReturn e (T.setTop f) acts (some (.int z))).1 = T.setFrames fs) : Steps p.tables e below (T.setTop (mkF m pc Ls (.int z :: rest))) (T.setFrames fs) := by
  have hm' : T.vm.method? m = some meth := X.method'
  have hn : narrow .int (.int z) = .int z := rfl
  show Steps p.tables e below (T.setTop { method := m, pc := pc, locals := Ls, stack := _ :: rest, locked := none }) _
  jvm_step X.here [X.here.top, hx, hd, hm', hret, hn]
  first | (intro acts; rw [hl _ acts rfl rfl rfl]) | rw [hl _ _ rfl rfl rfl]
  exact Steps.refl _
end New
theorem own_dia {tb : Tables} {e : Env} {below : List Frame} {T tgt : State} {g : JFrame} {A : Type} {u v : A} (q : Prop) [Decidable q] (f : A → JFrame)
    (h1 : q → Steps tb e below (T.setTop (f u)) tgt → Steps tb e below (T.setTop g) tgt) (h0 : ¬ q → Steps tb e below (T.setTop (f v)) tgt → Steps tb e below (T.setTop g) tgt)
    (k : Steps tb e below (T.setTop (f (if q then u else v))) tgt) : Steps tb e below (T.setTop g) tgt := by
  by_cases hq : q
  · rw [if_pos hq] at k; exact h1 hq k
  · rw [if_neg hq] at k; exact h0 hq k
theorem own_cast {tb : Tables} {e : Env} {below : List Frame} {T tgt : State} {A : Type} {u v : A} (f : A → JFrame) (h : u = v) (k : Steps tb e below (T.setTop (f v)) tgt) : Steps tb e below (T.setTop (f u)) tgt := h ▸ k
theorem own_llt {x y : Int64} (h : x < y) : ifCond.holds .lt (lcmpW x y) = true ∧ ifCond.holds .ge (lcmpW x y) = false := by
  rw [if0, if0]; exact ⟨(tlt ((lw_lt x y).mpr h)).1, (tlt ((lw_lt x y).mpr h)).2.1⟩
theorem own_lge {x y : Int64} (h : ¬ x < y) : ifCond.holds .lt (lcmpW x y) = false ∧ ifCond.holds .ge (lcmpW x y) = true := by
  rw [if0, if0]; exact ⟨(flt fun q => h ((lw_lt x y).mp q)).1, (flt fun q => h ((lw_lt x y).mp q)).2.1⟩
theorem own_lgt {x y : Int64} (h : y < x) : ifCond.holds .gt (lcmpW x y) = true ∧ ifCond.holds .le (lcmpW x y) = false := by
  rw [if0, if0]; exact ⟨(tlt ((lw_gt x y).mpr h)).2.2.1, (tlt ((lw_gt x y).mpr h)).2.2.2⟩
theorem own_lle {x y : Int64} (h : ¬ y < x) : ifCond.holds .gt (lcmpW x y) = false ∧ ifCond.holds .le (lcmpW x y) = true := by
  rw [if0, if0]; exact ⟨(flt fun q => h ((lw_gt x y).mp q)).2.2.1, (flt fun q => h ((lw_gt x y).mp q)).2.2.2⟩
theorem own_leq {x y : Int64} (h : x = y) : ifCond.holds .eq (lcmpW x y) = true ∧ ifCond.holds .ne (lcmpW x y) = false := by
  rw [if0, if0]; exact ⟨(teq ((lw_eq x y).mpr h)).1, (teq ((lw_eq x y).mpr h)).2⟩
theorem own_lne {x y : Int64} (h : ¬ x = y) : ifCond.holds .eq (lcmpW x y) = false ∧ ifCond.holds .ne (lcmpW x y) = true := by
  rw [if0, if0]; exact ⟨(feq fun q => h ((lw_eq x y).mp q)).1, (feq fun q => h ((lw_eq x y).mp q)).2⟩
theorem own_bt {q : Prop} [Decidable q] (h : q) : ifCond.holds .ne (if q then (1 : Int32) else (0 : Int32)) = true ∧ ifCond.holds .eq (if q then (1 : Int32) else (0 : Int32)) = false := by
  rw [if_pos h]; exact ⟨rfl, rfl⟩
theorem own_bf {q : Prop} [Decidable q] (h : ¬ q) : ifCond.holds .ne (if q then (1 : Int32) else (0 : Int32)) = false ∧ ifCond.holds .eq (if q then (1 : Int32) else (0 : Int32)) = true := by
  rw [if_neg h]; exact ⟨rfl, rfl⟩
theorem own_ct {q : Prop} [Decidable q] (h : q) : ifCond.holds .ne (if q then (0 : Int32) else (1 : Int32)) = false ∧ ifCond.holds .eq (if q then (0 : Int32) else (1 : Int32)) = true := by
  rw [if_pos h]; exact ⟨rfl, rfl⟩
theorem own_cf {q : Prop} [Decidable q] (h : ¬ q) : ifCond.holds .ne (if q then (0 : Int32) else (1 : Int32)) = true ∧ ifCond.holds .eq (if q then (0 : Int32) else (1 : Int32)) = false := by
  rw [if_neg h]; exact ⟨rfl, rfl⟩
theorem own_b01 {q : Prop} [Decidable q] {x y : Int32} (hx : x = 0 ∨ x = 1) (hy : y = 0 ∨ y = 1) : (if q then x else y) = 0 ∨ (if q then x else y) = 1 := by
  split <;> assumption
def Arf (Z : State) (h : Heap) (a : Addr) (ty : FieldType) (n : Int32) (f : Nat → Value) : Prop :=
  ∃ c : Cell, Arr Z h a c ty ∧ c.slots.size = n.toNatClampNeg ∧ ¬ n < 0 ∧ ∀ i, i < n.toNatClampNeg → c.slots[i]? = some (f i)
theorem Arf.lt {Z : State} {h : Heap} {a : Addr} {ty : FieldType} {n : Int32} {f : Nat → Value} (F : Arf Z h a ty n f) : a < h.size := by
  obtain ⟨c, A, -⟩ := F; exact A.lt
theorem Arf.ext {Z : State} {h h' : Heap} {a : Addr} {ty : FieldType} {n : Int32} {f : Nat → Value} (F : Arf Z h a ty n f) (E : Ext h h') : Arf Z h' a ty n f := by
  obtain ⟨c, A, r⟩ := F; exact ⟨c, A.ext E, r⟩
theorem Arf.other {Z : State} {h h' : Heap} {a b : Addr} {sl : Nat} {v : Value} {ty : FieldType} {n : Int32} {f : Nat → Value} (F : Arf Z h b ty n f) (W : Wr h h' a sl v) (q : b ≠ a) : Arf Z h' b ty n f := by
  obtain ⟨c, A, r⟩ := F; exact ⟨c, A.other W q, r⟩
theorem Arf.keep {Z : State} {h h' : Heap} {a : Addr} {ws : List Addr} {ty : FieldType} {n : Int32} {f : Nat → Value} (F : Arf Z h a ty n f) (K : Keep h h' ws) (q : a ∉ ws) : Arf Z h' a ty n f := by
  obtain ⟨c, A, r⟩ := F; exact ⟨c, ⟨K.2.1 a c A.1 q, A.2⟩, r⟩
theorem own_arf_new {Z : State} {h : Heap} {a : Addr} {k : ClassId} {ty : FieldType} {z : Int32} (A : Arr Z h a (newA k ty z) ty) (q : ¬ z < 0) : Arf Z h a ty z (fun _ => defaultValue ty) :=
  ⟨_, A, sz_new _ _ _, q, fun i hi => by simp [newA, hi]⟩
theorem own_arf_set {Z : State} {h h' : Heap} {a : Addr} {ty : FieldType} {n : Int32} {f : Nat → Value} {j : Nat} {v : Value} (F : Arf Z h a ty n f) (W : Wr h h' a j v) : Arf Z h' a ty n (fun i => if i = j then v else f i) := by
  obtain ⟨c, A, S, M, H⟩ := F
  refine ⟨_, A.same W, by rw [sz_set]; exact S, M, fun i hi => ?_⟩
  show _ = some (if i = j then v else f i)
  by_cases u : i = j
  · subst u; rw [if_pos rfl]; rw [← S] at hi; simp [Cell.setSlot, hi]
  · rw [if_neg u]; have := H i hi; simp only [Cell.setSlot]; rw [Array.getElem?_setIfInBounds_ne (Ne.symm u)]; exact this
theorem own_arf_fn {Z : State} {h : Heap} {a : Addr} {ty : FieldType} {n : Int32} {f g : Nat → Value} (F : Arf Z h a ty n f) (q : ∀ i, i < n.toNatClampNeg → f i = g i) : Arf Z h a ty n g := by
  obtain ⟨c, A, S, M, H⟩ := F
  exact ⟨c, A, S, M, fun i hi => by rw [← q i hi]; exact H i hi⟩
theorem own_arf_setI {Z : State} {h h' : Heap} {a : Addr} {ty : FieldType} {n : Int32} {f : Nat → Int32} {j : Nat} {v : Int32} (F : Arf Z h a ty n (fun i => Value.int (f i))) (W : Wr h h' a j (.int v)) : Arf Z h' a ty n (fun i => Value.int (if i = j then v else f i)) :=
  own_arf_fn (own_arf_set F W) fun i _ => by by_cases u : i = j <;> simp [u]
theorem own_arf_setL {Z : State} {h h' : Heap} {a : Addr} {ty : FieldType} {n : Int32} {f : Nat → Int64} {j : Nat} {v : Int64} (F : Arf Z h a ty n (fun i => Value.long (f i))) (W : Wr h h' a j (.long v)) : Arf Z h' a ty n (fun i => Value.long (if i = j then v else f i)) :=
  own_arf_fn (own_arf_set F W) fun i _ => by by_cases u : i = j <;> simp [u]
theorem own_arf_at {c : Cell} {n j : Int32} {f : Nat → Value} (H : ∀ i, i < n.toNatClampNeg → c.slots[i]? = some (f i)) (S : c.slots.size = n.toNatClampNeg) (q : ¬ (j < 0 ∨ c.slots.size ≤ j.toNatClampNeg)) : c.slots[j.toNatClampNeg]? = some (f j.toNatClampNeg) :=
  H _ (by rw [← S]; exact Nat.lt_of_not_le fun y => q (Or.inr y))
theorem own_nb {x : Int32} (h : x = 0 ∨ x = 1) : nar .boolean x = x := by
  rcases h with rfl | rfl <;> rfl
end Jvm.RoadKit
namespace Jvm.Pilot.@@N@@
open Jvm Jvm.ClassFile Sem Op Lib Jvm.Free Jvm.Stand Jvm.LawKit Jvm.RoadKit Bundle Jvm.Pilot.@@N@@.Jvm.D

theorem own_rows (x1 : Int32) : ¬ ((1 : Int32) + (x1 &&& (15 : Int32))) < (1 : Int32) ∧ ¬ (16 : Int32) < ((1 : Int32) + (x1 &&& (15 : Int32))) := by
  have e1 : (x1 &&& (15 : Int32)).toInt = x1.toInt % 2 ^ 4 := Jvm.Kit.i32_mask x1 15 (by decide) (by decide)
  have e2 : ((1 : Int32) + (x1 &&& (15 : Int32))).toInt = (1 : Int32).toInt + (x1 &&& (15 : Int32)).toInt := Jvm.Kit.i32_add (by rw [e1]; show -2 ^ 31 ≤ (1 : Int) + _; omega) (by rw [e1]; show (1 : Int) + _ < 2 ^ 31; omega)
  have e3 : (1 : Int32).toInt = 1 := rfl
  have e4 : (16 : Int32).toInt = 16 := rfl
  constructor <;> rw [Int32.lt_iff_toInt_lt, e2, e3] <;> omega
theorem own_cols (x1 : Int32) : ¬ ((1 : Int32) + (x1 &&& (16777215 : Int32))) < (1 : Int32) ∧ ¬ (16777216 : Int32) < ((1 : Int32) + (x1 &&& (16777215 : Int32))) := by
  have e1 : (x1 &&& (16777215 : Int32)).toInt = x1.toInt % 2 ^ 24 := Jvm.Kit.i32_mask x1 16777215 (by decide) (by decide)
  have e2 : ((1 : Int32) + (x1 &&& (16777215 : Int32))).toInt = (1 : Int32).toInt + (x1 &&& (16777215 : Int32)).toInt := Jvm.Kit.i32_add (by rw [e1]; show -2 ^ 31 ≤ (1 : Int) + _; omega) (by rw [e1]; show (1 : Int) + _ < 2 ^ 31; omega)
  have e3 : (1 : Int32).toInt = 1 := rfl
  have e4 : (16777216 : Int32).toInt = 16777216 := rfl
  constructor <;> rw [Int32.lt_iff_toInt_lt, e2, e3] <;> omega

theorem d1_0 : decode prog_45_method_2_code 0 = .ok (.iload_n 0, 1) := by decide +kernel
theorem d1_1 : decode prog_45_method_2_code 1 = .ok (.iconst 1, 1) := by decide +kernel
theorem d1_2 : decode prog_45_method_2_code 2 = .ok (.if_icmp .lt 9, 3) := by decide +kernel
theorem d1_5 : decode prog_45_method_2_code 5 = .ok (.iload_n 0, 1) := by decide +kernel
theorem d1_6 : decode prog_45_method_2_code 6 = .ok (.bipush 16, 2) := by decide +kernel
theorem d1_8 : decode prog_45_method_2_code 8 = .ok (.if_icmp .le 17, 3) := by decide +kernel
theorem d1_25 : decode prog_45_method_2_code 25 = .ok (.iload_n 1, 1) := by decide +kernel
theorem d1_26 : decode prog_45_method_2_code 26 = .ok (.iconst 1, 1) := by decide +kernel
theorem d1_27 : decode prog_45_method_2_code 27 = .ok (.if_icmp .lt 9, 3) := by decide +kernel
theorem d1_30 : decode prog_45_method_2_code 30 = .ok (.iload_n 1, 1) := by decide +kernel
theorem d1_31 : decode prog_45_method_2_code 31 = .ok (.ldc 68, 2) := by decide +kernel
theorem d1_33 : decode prog_45_method_2_code 33 = .ok (.if_icmp .le 17, 3) := by decide +kernel
theorem d1_50 : decode prog_45_method_2_code 50 = .ok (.return_, 1) := by decide +kernel
theorem pn_1 : plainName "com/example/inchworm/inchworm/Sketch" = true := by first | (simp [plainName, overriddenIn]; done) | decide +kernel
theorem ef_1 (m : MethodId) (vr : Int32) (vc : Int32) : entryFrame m #[(.int vr), (.int vc)] 2 = mkF m 0 #[.val (.int vr), .val (.int vc)] [] := by first | (simp [entryFrame, mkF, argsToLocals, Value.category]; done) | rfl
def Q1 (Z : State) (vr : Int32) (vc : Int32) (h0 : Heap) (n0 : Nat) (v : Option Value) (h : Heap) (L : List Loc) : Prop := v = none ∧ Fr n0 L ∧ h = h0
set_option maxRecDepth 65536 in
set_option maxHeartbeats 40000000 in
theorem rm1 (l : Launch) (Z : State) (a0 : Array Value) (hw : ∀ d ∈ tables_1, d.before a0 Z = true) (ws : List Jvm.Cond) (vr : Int32) (vc : Int32) (h0 : Heap) (n0 : Nat) (Z0 : n0 ≤ h0.size) (hr1 : ¬ vr < (1 : Int32)) (hr2 : ¬ (16 : Int32) < vr) (hc1 : ¬ vc < (1 : Int32)) (hc2 : ¬ (16777216 : Int32) < vc) :
    MetFree l (⟨"com/example/inchworm/inchworm/Sketch", "requireSize", "(II)V"⟩ : MethodName) (head1 (Jvm.Cond.code (⟨"com/example/inchworm/inchworm/Sketch", "requireSize", "(II)V"⟩ : MethodName) prog_45_method_2_code 2 none :: ws) ({ frames := 0, cells := 0, slots := 0, locals := 0 } : Room)) (fun a U => a = #[(.int vr), (.int vc)] ∧ Z.Warmed39 U.vm ∧ U.heap = h0) (fun _ _ _ _ _ => True) (fun _ U o U' => ∃ v L, o = .returned v ∧ Q1 Z vr vc h0 n0 v U'.heap L ∧ FrameEnd U o U' L ({ frames := 0, cells := 0, slots := 0, locals := 0 } : Room).cells ({ frames := 0, cells := 0, slots := 0, locals := 0 } : Room).slots) := by
  refine MetFree.of_bodySF (plainFor_of_name pn_1) hisR ?_
  intro p e s m args below meth c s₁ Bd hml0 hP hK
  obtain ⟨rfl, hZ, hh⟩ := hP
  have hx := Bd.exec
  have hby := Bd.bytes
  have hml : c.maxLocals = 2 := hml0
  have hown : s.vm.findClass "com/example/inchworm/inchworm/Sketch" = some m.cls := findClass_of_methodNamed Bd.named
  have hnm := (name_of_methodNamed Bd.named Bd.method).1
  have X0 : Stand p l e ({ frames := 0, cells := 0, slots := 0, locals := 0 } : Room) s m #[(.int vr), (.int vc)] below meth c s₁ [] 0 0 := Stand.of_body Bd
  have e0 : s₁.heap = h0 := by rw [← hh, Bd.state]; rfl
  have N0 := Fr.nil n0
  have pre0 : ∀ t, Steps p.tables e below (s₁.setTop (mkF m 0 #[.val (.int vr), .val (.int vc)] [])) t → Steps p.tables e below (s₁.setTop (entryFrame m #[(.int vr), (.int vc)] 2)) t := fun t k => castTop (ef_1 m vr vc) k
  obtain ⟨fs, hr, hrun, hended, hW, hsame⟩ := X0.leave (v := none) (fun _ => rfl)
  refine ⟨_, _, pre0 _ ?_, hrun, hended, _, _, rfl, ?_, ⟨_, rfl⟩, hW, hsame.mono (by decide) (by decide)⟩
  · show Steps p.tables e below (s₁.setTop (mkF m 0 #[.val (.int vr), .val (.int vc)] [])) _
    refine XS.iloadN X0.here hx rfl (hb hby d1_0) rfl ?_
    show Steps p.tables e below (s₁.setTop (mkF m 1 #[.val (.int vr), .val (.int vc)] [(.int vr)])) _
    refine XS.iconst X0.here hx rfl (hb hby d1_1) ?_
    show Steps p.tables e below (s₁.setTop (mkF m 2 #[.val (.int vr), .val (.int vc)] [(.int (1 : Int32)), (.int vr)])) _
    refine XS.icmpNo X0.here hx rfl (hb hby d1_2) rfl (flt (hr1 : ¬ (vr < (1 : Int32)))).1 ?_
    show Steps p.tables e below (s₁.setTop (mkF m 5 #[.val (.int vr), .val (.int vc)] [])) _
    refine XS.iloadN X0.here hx rfl (hb hby d1_5) rfl ?_
    show Steps p.tables e below (s₁.setTop (mkF m 6 #[.val (.int vr), .val (.int vc)] [(.int vr)])) _
    refine XS.bipush X0.here hx rfl (hb hby d1_6) ?_
    show Steps p.tables e below (s₁.setTop (mkF m 8 #[.val (.int vr), .val (.int vc)] [(.int (16 : Int32)), (.int vr)])) _
    refine XS.icmpYes X0.here hx rfl (pc0 := 8) (pc' := 25) rfl (hb hby d1_8) rfl (flt (hr2 : ¬ ((16 : Int32) < vr))).2.2.2 (by decide) (by decide) ?_
    show Steps p.tables e below (s₁.setTop (mkF m 25 #[.val (.int vr), .val (.int vc)] [])) _
    refine XS.iloadN X0.here hx rfl (hb hby d1_25) rfl ?_
    show Steps p.tables e below (s₁.setTop (mkF m 26 #[.val (.int vr), .val (.int vc)] [(.int vc)])) _
    refine XS.iconst X0.here hx rfl (hb hby d1_26) ?_
    show Steps p.tables e below (s₁.setTop (mkF m 27 #[.val (.int vr), .val (.int vc)] [(.int (1 : Int32)), (.int vc)])) _
    refine XS.icmpNo X0.here hx rfl (hb hby d1_27) rfl (flt (hc1 : ¬ (vc < (1 : Int32)))).1 ?_
    show Steps p.tables e below (s₁.setTop (mkF m 30 #[.val (.int vr), .val (.int vc)] [])) _
    refine XS.iloadN X0.here hx rfl (hb hby d1_30) rfl ?_
    show Steps p.tables e below (s₁.setTop (mkF m 31 #[.val (.int vr), .val (.int vc)] [(.int vc)])) _
    refine X0.ldcInt hx hown (mvT hZ (hw _ (List.mem_of_getElem? (i := 5) rfl))) (g := (mkF m 31 #[.val (.int vr), .val (.int vc)] [(.int vc)])) rfl (hb hby d1_31) _ ?_
    show Steps p.tables e below (s₁.setTop (mkF m 33 #[.val (.int vr), .val (.int vc)] [(.int (16777216 : Int32)), (.int vc)])) _
    refine XS.icmpYes X0.here hx rfl (pc0 := 33) (pc' := 50) rfl (hb hby d1_33) rfl (flt (hc2 : ¬ ((16777216 : Int32) < vc))).2.2.2 (by decide) (by decide) ?_
    show Steps p.tables e below (s₁.setTop (mkF m 50 #[.val (.int vr), .val (.int vc)] [])) _
    exact X0.returnOut hx Bd.returns (hb hby d1_50) hr
  · show Q1 Z vr vc h0 n0 _ s₁.heap _
    rw [e0]
    exact ⟨rfl, N0, rfl⟩
theorem pd_0 : parseMethodDescriptor "(II)V" = some ⟨[.int, .int], none⟩ := by decide +kernel
theorem pn_0 : plainName "com/example/inchworm/inchworm/SketchRequireSizePinLaw" = true := by first | (simp [plainName, overriddenIn]; done) | decide +kernel
theorem ef_0 (m : MethodId) (x1 : Int32) (x2 : Int32) : entryFrame m #[(.int x1), (.int x2)] maxLocals = mkF m 0 #[.val (.int x1), .val (.int x2), .unset, .unset] [] := by first | (simp [entryFrame, mkF, argsToLocals, Value.category, maxLocals]; done) | rfl
def F0 (x1 : Int32) (x2 : Int32) : Int32 := (if ((1 : Int32) + (x1 &&& (15 : Int32))) < (1 : Int32) then (0 : Int32) else (if (16 : Int32) < ((1 : Int32) + (x1 &&& (15 : Int32))) then (0 : Int32) else (if ((1 : Int32) + (x2 &&& (16777215 : Int32))) < (1 : Int32) then (0 : Int32) else (if (16777216 : Int32) < ((1 : Int32) + (x2 &&& (16777215 : Int32))) then (0 : Int32) else (1 : Int32)))))
def Q0 (Z : State) (x1 : Int32) (x2 : Int32) (h0 : Heap) (n0 : Nat) (v : Option Value) (h : Heap) (L : List Loc) : Prop := v = some (.int (F0 x1 x2)) ∧ Fr n0 L
set_option maxRecDepth 65536 in
set_option maxHeartbeats 40000000 in
theorem rm0 (l : Launch) (Z : State) (a0 : Array Value) (hw : ∀ d ∈ tables_1, d.before a0 Z = true) (ws : List Jvm.Cond) (x1 : Int32) (x2 : Int32) (h0 : Heap) (n0 : Nat) (Z0 : n0 ≤ h0.size)  :
    MetFree l x (head1 (Jvm.Cond.code x code maxLocals ret :: ws) room_1) (fun a U => a = #[(.int x1), (.int x2)] ∧ Z.Warmed39 U.vm ∧ U.heap = h0) (fun _ _ _ _ _ => True) (fun _ U o U' => ∃ v L, o = .returned v ∧ Q0 Z x1 x2 h0 n0 v U'.heap L ∧ FrameEnd U o U' L room_1.cells room_1.slots) := by
  refine MetFree.of_bodySF (plainFor_of_name pn_0) hisR ?_
  intro p e s m args below meth c s₁ Bd hml0 hP hK
  obtain ⟨rfl, hZ, hh⟩ := hP
  have hx := Bd.exec
  have hby := Bd.bytes
  have hml : c.maxLocals = 4 := hml0
  have hown : s.vm.findClass "com/example/inchworm/inchworm/SketchRequireSizePinLaw" = some m.cls := findClass_of_methodNamed Bd.named
  have hnm := (name_of_methodNamed Bd.named Bd.method).1
  have X0 : Stand p l e room_1 s m #[(.int x1), (.int x2)] below meth c s₁ [] 0 0 := Stand.of_body Bd
  have e0 : s₁.heap = h0 := by rw [← hh, Bd.state]; rfl
  have N0 := Fr.nil n0
  have pre0 : ∀ t, Steps p.tables e below (s₁.setTop (mkF m 0 #[.val (.int x1), .val (.int x2), .unset, .unset] [])) t → Steps p.tables e below (s₁.setTop (entryFrame m #[(.int x1), (.int x2)] maxLocals)) t := fun t k => castTop (ef_0 m x1 x2) k
  obtain ⟨_, _, ⟨T1, L1, k1, n1⟩, -, X1, ⟨Lc1, hQ1, l1, y1, z1⟩, st1⟩ := Jvm.LawKit.callS X0 hx (y := (⟨"com/example/inchworm/inchworm/Sketch", "requireSize", "(II)V"⟩ : MethodName)) hown (mvT hZ (hw _ (List.mem_of_getElem? (i := 1) rfl))) (mvT hZ (hw _ (List.mem_of_getElem? (i := 2) rfl))) (mvT hZ (hw _ (List.mem_of_getElem? (i := 3) rfl))) (mvT hZ (hw _ (List.mem_of_getElem? (i := 4) rfl))) (by decide) (backOf (W := 0) (rm1 l Z a0 hw [] ((1 : Int32) + (x1 &&& (15 : Int32))) ((1 : Int32) + (x2 &&& (16777215 : Int32)))  h0 n0 Z0 ((own_rows x1).1) ((own_rows x1).2) ((own_cols x2).1) ((own_cols x2).2)) hZ (hw _ (List.mem_of_getElem? (i := 4) rfl)) (hw _ (List.mem_of_getElem? (i := 3) rfl)) (by decide) (by decide)) (g := (mkF m 16 #[.val (.int x1), .val (.int x2), .val (.int ((1 : Int32) + (x1 &&& (15 : Int32)))), .val (.int ((1 : Int32) + (x2 &&& (16777215 : Int32))))] [(.int ((1 : Int32) + (x2 &&& (16777215 : Int32)))), (.int ((1 : Int32) + (x1 &&& (15 : Int32))))])) rfl (by rw [hml]; rfl) (argsL := [(.int ((1 : Int32) + (x1 &&& (15 : Int32)))), (.int ((1 : Int32) + (x2 &&& (16777215 : Int32))))]) (rest := []) (lenOf pd_0 rfl) rfl (by show 2 * 0 + _ ≤ _; exact Nat.le_of_eq rfl) (hb hby at_16) (fun _ _ => ⟨rfl, e0, (by decide : 0 + 0 ≤ _), (by decide : 0 + 0 ≤ _)⟩)
  dsimp only [Pt.U, Pt.locs, Pt.cells, Pt.slots] at X1 l1 y1 z1 st1 hQ1
  subst l1 y1 z1
  obtain ⟨rfl, N1q, e1⟩ := hQ1
  have N1 := Fr.app N0 N1q
  obtain ⟨fs, hr, hrun, hended, hW, hsame⟩ := X1.leave (v := some (.int (if ((1 : Int32) + (x1 &&& (15 : Int32))) < (1 : Int32) then (0 : Int32) else (if (16 : Int32) < ((1 : Int32) + (x1 &&& (15 : Int32))) then (0 : Int32) else (if ((1 : Int32) + (x2 &&& (16777215 : Int32))) < (1 : Int32) then (0 : Int32) else (if (16777216 : Int32) < ((1 : Int32) + (x2 &&& (16777215 : Int32))) then (0 : Int32) else (1 : Int32))))))) (fun h => by rw [Bd.returns] at h; cases h)
  refine ⟨_, _, pre0 _ ?_, hrun, hended, _, _, rfl, ?_, ⟨_, rfl⟩, hW, hsame.mono (by decide) (by decide)⟩
  · show Steps p.tables e below (s₁.setTop (mkF m 0 #[.val (.int x1), .val (.int x2), .unset, .unset] [])) _
    refine XS.iconst X0.here hx rfl (hb hby at_0) ?_
    show Steps p.tables e below (s₁.setTop (mkF m 1 #[.val (.int x1), .val (.int x2), .unset, .unset] [(.int (1 : Int32))])) _
    refine XS.iloadN X0.here hx rfl (hb hby at_1) rfl ?_
    show Steps p.tables e below (s₁.setTop (mkF m 2 #[.val (.int x1), .val (.int x2), .unset, .unset] [(.int x1), (.int (1 : Int32))])) _
    refine XS.bipush X0.here hx rfl (hb hby at_2) ?_
    show Steps p.tables e below (s₁.setTop (mkF m 4 #[.val (.int x1), .val (.int x2), .unset, .unset] [(.int (15 : Int32)), (.int x1), (.int (1 : Int32))])) _
    refine XS.iand X0.here hx rfl (hb hby at_4) rfl ?_
    show Steps p.tables e below (s₁.setTop (mkF m 5 #[.val (.int x1), .val (.int x2), .unset, .unset] [(.int (x1 &&& (15 : Int32))), (.int (1 : Int32))])) _
    refine XS.iadd X0.here hx rfl (hb hby at_5) rfl ?_
    show Steps p.tables e below (s₁.setTop (mkF m 6 #[.val (.int x1), .val (.int x2), .unset, .unset] [(.int ((1 : Int32) + (x1 &&& (15 : Int32))))])) _
    refine XS.istoreN X0.here hx rfl (hb hby at_6) rfl (l' := #[.val (.int x1), .val (.int x2), .val (.int ((1 : Int32) + (x1 &&& (15 : Int32)))), .unset]) rfl ?_
    show Steps p.tables e below (s₁.setTop (mkF m 7 #[.val (.int x1), .val (.int x2), .val (.int ((1 : Int32) + (x1 &&& (15 : Int32)))), .unset] [])) _
    refine XS.iconst X0.here hx rfl (hb hby at_7) ?_
    show Steps p.tables e below (s₁.setTop (mkF m 8 #[.val (.int x1), .val (.int x2), .val (.int ((1 : Int32) + (x1 &&& (15 : Int32)))), .unset] [(.int (1 : Int32))])) _
    refine XS.iloadN X0.here hx rfl (hb hby at_8) rfl ?_
    show Steps p.tables e below (s₁.setTop (mkF m 9 #[.val (.int x1), .val (.int x2), .val (.int ((1 : Int32) + (x1 &&& (15 : Int32)))), .unset] [(.int x2), (.int (1 : Int32))])) _
    refine X0.ldcInt hx hown (mvT hZ (hw _ (List.mem_of_getElem? (i := 0) rfl))) (g := (mkF m 9 #[.val (.int x1), .val (.int x2), .val (.int ((1 : Int32) + (x1 &&& (15 : Int32)))), .unset] [(.int x2), (.int (1 : Int32))])) rfl (hb hby at_9) _ ?_
    show Steps p.tables e below (s₁.setTop (mkF m 11 #[.val (.int x1), .val (.int x2), .val (.int ((1 : Int32) + (x1 &&& (15 : Int32)))), .unset] [(.int (16777215 : Int32)), (.int x2), (.int (1 : Int32))])) _
    refine XS.iand X0.here hx rfl (hb hby at_11) rfl ?_
    show Steps p.tables e below (s₁.setTop (mkF m 12 #[.val (.int x1), .val (.int x2), .val (.int ((1 : Int32) + (x1 &&& (15 : Int32)))), .unset] [(.int (x2 &&& (16777215 : Int32))), (.int (1 : Int32))])) _
    refine XS.iadd X0.here hx rfl (hb hby at_12) rfl ?_
    show Steps p.tables e below (s₁.setTop (mkF m 13 #[.val (.int x1), .val (.int x2), .val (.int ((1 : Int32) + (x1 &&& (15 : Int32)))), .unset] [(.int ((1 : Int32) + (x2 &&& (16777215 : Int32))))])) _
    refine XS.istoreN X0.here hx rfl (hb hby at_13) rfl (l' := #[.val (.int x1), .val (.int x2), .val (.int ((1 : Int32) + (x1 &&& (15 : Int32)))), .val (.int ((1 : Int32) + (x2 &&& (16777215 : Int32))))]) rfl ?_
    show Steps p.tables e below (s₁.setTop (mkF m 14 #[.val (.int x1), .val (.int x2), .val (.int ((1 : Int32) + (x1 &&& (15 : Int32)))), .val (.int ((1 : Int32) + (x2 &&& (16777215 : Int32))))] [])) _
    refine XS.iloadN X0.here hx rfl (hb hby at_14) rfl ?_
    show Steps p.tables e below (s₁.setTop (mkF m 15 #[.val (.int x1), .val (.int x2), .val (.int ((1 : Int32) + (x1 &&& (15 : Int32)))), .val (.int ((1 : Int32) + (x2 &&& (16777215 : Int32))))] [(.int ((1 : Int32) + (x1 &&& (15 : Int32))))])) _
    refine XS.iloadN X0.here hx rfl (hb hby at_15) rfl ?_
    show Steps p.tables e below (s₁.setTop (mkF m 16 #[.val (.int x1), .val (.int x2), .val (.int ((1 : Int32) + (x1 &&& (15 : Int32)))), .val (.int ((1 : Int32) + (x2 &&& (16777215 : Int32))))] [(.int ((1 : Int32) + (x2 &&& (16777215 : Int32)))), (.int ((1 : Int32) + (x1 &&& (15 : Int32))))])) _
    refine st1 _ ?_
    show Steps p.tables e below (T1.setTop (mkF m 19 #[.val (.int x1), .val (.int x2), .val (.int ((1 : Int32) + (x1 &&& (15 : Int32)))), .val (.int ((1 : Int32) + (x2 &&& (16777215 : Int32))))] [])) _
    refine XS.iloadN X1.here hx rfl (hb hby at_19) rfl ?_
    show Steps p.tables e below (T1.setTop (mkF m 20 #[.val (.int x1), .val (.int x2), .val (.int ((1 : Int32) + (x1 &&& (15 : Int32)))), .val (.int ((1 : Int32) + (x2 &&& (16777215 : Int32))))] [(.int ((1 : Int32) + (x1 &&& (15 : Int32))))])) _
    refine XS.iconst X1.here hx rfl (hb hby at_20) ?_
    show Steps p.tables e below (T1.setTop (mkF m 21 #[.val (.int x1), .val (.int x2), .val (.int ((1 : Int32) + (x1 &&& (15 : Int32)))), .val (.int ((1 : Int32) + (x2 &&& (16777215 : Int32))))] [(.int (1 : Int32)), (.int ((1 : Int32) + (x1 &&& (15 : Int32))))])) _
    refine own_dia (u := ((0 : Int32) : Int32)) (v := (if (16 : Int32) < ((1 : Int32) + (x1 &&& (15 : Int32))) then (0 : Int32) else (if ((1 : Int32) + (x2 &&& (16777215 : Int32))) < (1 : Int32) then (0 : Int32) else (if (16777216 : Int32) < ((1 : Int32) + (x2 &&& (16777215 : Int32))) then (0 : Int32) else (1 : Int32))))) (((1 : Int32) + (x1 &&& (15 : Int32))) < (1 : Int32)) (fun z2 => (mkF m 46 #[.val (.int x1), .val (.int x2), .val (.int ((1 : Int32) + (x1 &&& (15 : Int32)))), .val (.int ((1 : Int32) + (x2 &&& (16777215 : Int32))))] [(.int z2)])) (fun hc2 k2 => ?_) (fun hc2 k2 => ?_) ?_
    · refine XS.icmpYes X1.here hx rfl (pc0 := 21) (pc' := 45) rfl (hb hby at_21) rfl (tlt hc2).1 (by decide) (by decide) ?_
      show Steps p.tables e below (T1.setTop (mkF m 45 #[.val (.int x1), .val (.int x2), .val (.int ((1 : Int32) + (x1 &&& (15 : Int32)))), .val (.int ((1 : Int32) + (x2 &&& (16777215 : Int32))))] [])) _
      refine XS.iconst X1.here hx rfl (hb hby at_45) ?_
      exact k2
    · refine XS.icmpNo X1.here hx rfl (hb hby at_21) rfl (flt hc2).1 ?_
      show Steps p.tables e below (T1.setTop (mkF m 24 #[.val (.int x1), .val (.int x2), .val (.int ((1 : Int32) + (x1 &&& (15 : Int32)))), .val (.int ((1 : Int32) + (x2 &&& (16777215 : Int32))))] [])) _
      refine XS.iloadN X1.here hx rfl (hb hby at_24) rfl ?_
      show Steps p.tables e below (T1.setTop (mkF m 25 #[.val (.int x1), .val (.int x2), .val (.int ((1 : Int32) + (x1 &&& (15 : Int32)))), .val (.int ((1 : Int32) + (x2 &&& (16777215 : Int32))))] [(.int ((1 : Int32) + (x1 &&& (15 : Int32))))])) _
      refine XS.bipush X1.here hx rfl (hb hby at_25) ?_
      show Steps p.tables e below (T1.setTop (mkF m 27 #[.val (.int x1), .val (.int x2), .val (.int ((1 : Int32) + (x1 &&& (15 : Int32)))), .val (.int ((1 : Int32) + (x2 &&& (16777215 : Int32))))] [(.int (16 : Int32)), (.int ((1 : Int32) + (x1 &&& (15 : Int32))))])) _
      refine own_dia (u := ((0 : Int32) : Int32)) (v := (if ((1 : Int32) + (x2 &&& (16777215 : Int32))) < (1 : Int32) then (0 : Int32) else (if (16777216 : Int32) < ((1 : Int32) + (x2 &&& (16777215 : Int32))) then (0 : Int32) else (1 : Int32)))) ((16 : Int32) < ((1 : Int32) + (x1 &&& (15 : Int32)))) (fun z3 => (mkF m 46 #[.val (.int x1), .val (.int x2), .val (.int ((1 : Int32) + (x1 &&& (15 : Int32)))), .val (.int ((1 : Int32) + (x2 &&& (16777215 : Int32))))] [(.int z3)])) (fun hc3 k3 => ?_) (fun hc3 k3 => ?_) ?_
      · refine XS.icmpYes X1.here hx rfl (pc0 := 27) (pc' := 45) rfl (hb hby at_27) rfl (tlt hc3).2.2.1 (by decide) (by decide) ?_
        show Steps p.tables e below (T1.setTop (mkF m 45 #[.val (.int x1), .val (.int x2), .val (.int ((1 : Int32) + (x1 &&& (15 : Int32)))), .val (.int ((1 : Int32) + (x2 &&& (16777215 : Int32))))] [])) _
        refine XS.iconst X1.here hx rfl (hb hby at_45) ?_
        exact k3
      · refine XS.icmpNo X1.here hx rfl (hb hby at_27) rfl (flt hc3).2.2.1 ?_
        show Steps p.tables e below (T1.setTop (mkF m 30 #[.val (.int x1), .val (.int x2), .val (.int ((1 : Int32) + (x1 &&& (15 : Int32)))), .val (.int ((1 : Int32) + (x2 &&& (16777215 : Int32))))] [])) _
        refine XS.iloadN X1.here hx rfl (hb hby at_30) rfl ?_
        show Steps p.tables e below (T1.setTop (mkF m 31 #[.val (.int x1), .val (.int x2), .val (.int ((1 : Int32) + (x1 &&& (15 : Int32)))), .val (.int ((1 : Int32) + (x2 &&& (16777215 : Int32))))] [(.int ((1 : Int32) + (x2 &&& (16777215 : Int32))))])) _
        refine XS.iconst X1.here hx rfl (hb hby at_31) ?_
        show Steps p.tables e below (T1.setTop (mkF m 32 #[.val (.int x1), .val (.int x2), .val (.int ((1 : Int32) + (x1 &&& (15 : Int32)))), .val (.int ((1 : Int32) + (x2 &&& (16777215 : Int32))))] [(.int (1 : Int32)), (.int ((1 : Int32) + (x2 &&& (16777215 : Int32))))])) _
        refine own_dia (u := ((0 : Int32) : Int32)) (v := (if (16777216 : Int32) < ((1 : Int32) + (x2 &&& (16777215 : Int32))) then (0 : Int32) else (1 : Int32))) (((1 : Int32) + (x2 &&& (16777215 : Int32))) < (1 : Int32)) (fun z4 => (mkF m 46 #[.val (.int x1), .val (.int x2), .val (.int ((1 : Int32) + (x1 &&& (15 : Int32)))), .val (.int ((1 : Int32) + (x2 &&& (16777215 : Int32))))] [(.int z4)])) (fun hc4 k4 => ?_) (fun hc4 k4 => ?_) ?_
        · refine XS.icmpYes X1.here hx rfl (pc0 := 32) (pc' := 45) rfl (hb hby at_32) rfl (tlt hc4).1 (by decide) (by decide) ?_
          show Steps p.tables e below (T1.setTop (mkF m 45 #[.val (.int x1), .val (.int x2), .val (.int ((1 : Int32) + (x1 &&& (15 : Int32)))), .val (.int ((1 : Int32) + (x2 &&& (16777215 : Int32))))] [])) _
          refine XS.iconst X1.here hx rfl (hb hby at_45) ?_
          exact k4
        · refine XS.icmpNo X1.here hx rfl (hb hby at_32) rfl (flt hc4).1 ?_
          show Steps p.tables e below (T1.setTop (mkF m 35 #[.val (.int x1), .val (.int x2), .val (.int ((1 : Int32) + (x1 &&& (15 : Int32)))), .val (.int ((1 : Int32) + (x2 &&& (16777215 : Int32))))] [])) _
          refine XS.iloadN X1.here hx rfl (hb hby at_35) rfl ?_
          show Steps p.tables e below (T1.setTop (mkF m 36 #[.val (.int x1), .val (.int x2), .val (.int ((1 : Int32) + (x1 &&& (15 : Int32)))), .val (.int ((1 : Int32) + (x2 &&& (16777215 : Int32))))] [(.int ((1 : Int32) + (x2 &&& (16777215 : Int32))))])) _
          refine X1.ldcInt hx hown (mvT hZ (hw _ (List.mem_of_getElem? (i := 6) rfl))) (g := (mkF m 36 #[.val (.int x1), .val (.int x2), .val (.int ((1 : Int32) + (x1 &&& (15 : Int32)))), .val (.int ((1 : Int32) + (x2 &&& (16777215 : Int32))))] [(.int ((1 : Int32) + (x2 &&& (16777215 : Int32))))])) rfl (hb hby at_36) _ ?_
          show Steps p.tables e below (T1.setTop (mkF m 38 #[.val (.int x1), .val (.int x2), .val (.int ((1 : Int32) + (x1 &&& (15 : Int32)))), .val (.int ((1 : Int32) + (x2 &&& (16777215 : Int32))))] [(.int (16777216 : Int32)), (.int ((1 : Int32) + (x2 &&& (16777215 : Int32))))])) _
          refine own_dia (u := ((0 : Int32) : Int32)) (v := (1 : Int32)) ((16777216 : Int32) < ((1 : Int32) + (x2 &&& (16777215 : Int32)))) (fun z5 => (mkF m 46 #[.val (.int x1), .val (.int x2), .val (.int ((1 : Int32) + (x1 &&& (15 : Int32)))), .val (.int ((1 : Int32) + (x2 &&& (16777215 : Int32))))] [(.int z5)])) (fun hc5 k5 => ?_) (fun hc5 k5 => ?_) ?_
          · refine XS.icmpYes X1.here hx rfl (pc0 := 38) (pc' := 45) rfl (hb hby at_38) rfl (tlt hc5).2.2.1 (by decide) (by decide) ?_
            show Steps p.tables e below (T1.setTop (mkF m 45 #[.val (.int x1), .val (.int x2), .val (.int ((1 : Int32) + (x1 &&& (15 : Int32)))), .val (.int ((1 : Int32) + (x2 &&& (16777215 : Int32))))] [])) _
            refine XS.iconst X1.here hx rfl (hb hby at_45) ?_
            exact k5
          · refine XS.icmpNo X1.here hx rfl (hb hby at_38) rfl (flt hc5).2.2.1 ?_
            show Steps p.tables e below (T1.setTop (mkF m 41 #[.val (.int x1), .val (.int x2), .val (.int ((1 : Int32) + (x1 &&& (15 : Int32)))), .val (.int ((1 : Int32) + (x2 &&& (16777215 : Int32))))] [])) _
            refine XS.iconst X1.here hx rfl (hb hby at_41) ?_
            show Steps p.tables e below (T1.setTop (mkF m 42 #[.val (.int x1), .val (.int x2), .val (.int ((1 : Int32) + (x1 &&& (15 : Int32)))), .val (.int ((1 : Int32) + (x2 &&& (16777215 : Int32))))] [(.int (1 : Int32))])) _
            refine XS.goto X1.here hx rfl (pc0 := 42) (pc' := 46) rfl (hb hby at_42) (by decide) (by decide) ?_
            exact k5
          -- meets at 46
          exact k4
        -- meets at 46
        exact k3
      -- meets at 46
      exact k2
    -- meets at 46
    show Steps p.tables e below (T1.setTop (mkF m 46 #[.val (.int x1), .val (.int x2), .val (.int ((1 : Int32) + (x1 &&& (15 : Int32)))), .val (.int ((1 : Int32) + (x2 &&& (16777215 : Int32))))] [(.int (if ((1 : Int32) + (x1 &&& (15 : Int32))) < (1 : Int32) then (0 : Int32) else (if (16 : Int32) < ((1 : Int32) + (x1 &&& (15 : Int32))) then (0 : Int32) else (if ((1 : Int32) + (x2 &&& (16777215 : Int32))) < (1 : Int32) then (0 : Int32) else (if (16777216 : Int32) < ((1 : Int32) + (x2 &&& (16777215 : Int32))) then (0 : Int32) else (1 : Int32))))))])) _
    exact retN X1 hx (t := .boolean) Bd.returns (by simp) (hb hby at_46) (by rw [own_nb (own_b01 (Or.inl rfl) (own_b01 (Or.inl rfl) (own_b01 (Or.inl rfl) (own_b01 (Or.inl rfl) (Or.inr rfl)))))]; exact hr)
  · show Q0 Z x1 x2 h0 n0 _ T1.heap _
    rw [e1]
    exact ⟨rfl, N1⟩

theorem own_plain (x1 x2 : Int32) : F0 x1 x2 = 1 := by
  unfold F0
  rw [if_neg (own_rows x1).1, if_neg (own_rows x1).2, if_neg (own_cols x2).1, if_neg (own_cols x2).2]

set_option maxRecDepth 65536 in
set_option maxHeartbeats 40000000 in
theorem comes_1 {Post : Tables → Env → Array Value → State → Outcome → State → Prop} (hpost : ∀ tb e args s v u, (limb_1_1.after args s (.returned v) u = true ∧ limb_1_2.after args s (.returned v) u = true ∧ True) → FrameEnd s (.returned v) u (Jvm.fieldLocs frame_1_writes args s ++ Jvm.arrayLocs frame_1_arrays args s ++ Jvm.staticLocs frame_1_statics s) 0 0 → Post tb e args s (.returned v) u) :
    ArmFor flags0 classFile x code maxLocals ret World_1 tables_1 room_1 Calls_1 rest_1 Pre_1 Post := by
  intro l hfl _ _ p e ha hc hk s m args below hf hA hF happ hP
  obtain ⟨hcalls, hrest, hpre⟩ := hP
  obtain ⟨-, -, -, hnamed, -, -, -, hat⟩ := (Spec.applies_iff hf).mp happ
  obtain ⟨hg, hn⟩ := and_e (Cond.before_iff.mp (show (Jvm.Cond.and given_1 narrow_1).before args s = true from hpre))
  obtain ⟨hcount, t0⟩ := and_e hg
  obtain ⟨k0, t1⟩ := and_e t0
  have k1 := t1
  obtain ⟨w0, w1, rfl⟩ : ∃ w0 w1 : Value, args = #[w0, w1] := by
    have hs : args.size = 2 := by simpa [Cond.value, given_1] using hcount
    obtain ⟨L⟩ := args
    match L, hs with
    | [w0, w1], _ => exact ⟨w0, w1, rfl⟩
  have hw := fun d (hd : d ∈ tables_1) => atoms_spec (ws := Jvm.Cond.code x code maxLocals ret :: tables_1) hat d (List.mem_cons_of_mem _ hd)
  obtain ⟨i0, ei0⟩ := is_v k0
  obtain rfl : w0 = (.int i0) := Option.some.inj ei0
  obtain ⟨i1, ei1⟩ := is_v k1
  obtain rfl : w1 = (.int i1) := Option.some.inj ei1
  obtain ⟨n, o, h1, h2, h3, _, L, rfl, ⟨hv, N⟩, hq⟩ := rm0 l s _ hw tables_1 i0 i1 s.heap s.heap.size (Nat.le_refl _) p e ha hc hk s m _ below hf ((Spec.applies_iff_loose hf).mp happ).1 ⟨rfl, State.Warmed39.refl s, rfl⟩ trivial
  rw [own_plain i0 i1] at hv
  subst hv
  refine ⟨n, _, h1, h2, h3, hpost _ _ _ _ _ _ ⟨Cond.after_iff.mpr rfl, Cond.after_iff.mpr (eq_i res_at (Term.int_eval (1)) rfl), trivial⟩ ⟨hq.1, hq.2.1, (hq.2.2.sift fun y hy => Or.inr (N y hy)).mono (by decide) (by decide)⟩⟩
theorem main_1_1 : Claimed_1_1 := comes_1 fun _ _ _ _ _ _ h hF => ⟨h.1, hF⟩
theorem main_1_2 : Claimed_1_2 := comes_1 fun _ _ _ _ _ _ h hF => ⟨h.2.1, hF⟩
end Jvm.Pilot.@@N@@
namespace Jvm.Pilot.@@N@@
open Jvm Jvm.ClassFile Sem Op Lib Jvm.Free Jvm.Stand Jvm.Pilot.@@N@@.Jvm.D
/-! MADE BY PROGRAM (witnessworld.py) out of the Statement's table words and the real class files: 9 classes; the members and pool entries that the words name. The judged class is class 1, her method 1. -/
namespace start1
open Jvm.ClassFile
def u (s : String) : CpInfo := .utf8 (stringToUtf16 s)
/-- a pool by its gaps: so many unusable entries, then the entry; so many at the end -/
def gap : Nat → List CpInfo → List CpInfo
  | 0, r => r
  | n + 1, r => .unusable :: gap n r
def poolList (es : List (Nat × CpInfo)) (last : Nat) : List CpInfo := es.foldr (fun e r => gap e.1 (e.2 :: r)) (gap last [])
def pool (es : List (Nat × CpInfo)) (last : Nat) : Array CpInfo := ⟨poolList es last⟩
def fileOf (pool : Array CpInfo) (this : Nat) (attrs : Array Attribute := #[]) (ms : Array MethodInfo := #[]) (fl : Nat := 33) (sup : Nat := 0) (ifs : Array Nat := #[]) (fds : Array FieldInfo := #[]) : ClassFile where
  minorVersion := 0
  majorVersion := 65
  constantPool := pool
  accessFlags := fl
  thisClass := this
  superClass := sup
  interfaces := ifs
  fields := fds
  methods := ms
  attributes := attrs
def plain (name : String) (sup : Option ClassId) : Class where
  name := name
  kind := .ordinary
  loader := none
  accessFlags := 33
  super := sup
  interfaces := #[]
  cf := none
  fields := #[]
  methods := #[]
  instanceTypes := #[]
  staticTypes := #[]
  resolved := #[]
  callSites := []
  init := .initialized
  statics := none
  mirror := none

def pool0 : Array CpInfo := pool [(5, u "<init>"), (0, u "()V"), (1, .class_ 10), (1, u "java/lang/Object")] 113

def k0m0 : Method := { name := "<init>", desc := "()V", sig := { parameters := [], returnType := none }, accessFlags := 1, code := none }
/-- java/lang/Object -/
def k0 : Class := { plain "java/lang/Object" none with
  accessFlags := 33
  interfaces := #[]
  cf := some (fileOf pool0 8 #[] #[{ accessFlags := 1, nameIndex := 5, descriptorIndex := 6, attributes := #[] }] 33 0 #[] #[])
  fields := #[]
  methods := #[k0m0]
  instanceTypes := #[]
  staticTypes := #[]
  resolved := Array.replicate 124 none
  statics := none }

def pool1 : Array CpInfo := pool [(2, .class_ 4), (1, u "java/lang/Object"), (0, u "<init>"), (0, u "()V"), (0, .integer 16777215), (0, .methodref 9 10), (0, .class_ 11), (0, .nameAndType 12 13), (0, u "com/example/inchworm/inchworm/Sketch"), (0, u "requireSize"), (0, u "(II)V"), (0, .integer 16777216), (0, .class_ 16), (0, u "com/example/inchworm/inchworm/SketchRequireSizePinLaw"), (2, u "law"), (0, u "(II)Z")] 3

def k1m0 : Method := { name := "<init>", desc := "()V", sig := { parameters := [], returnType := none }, accessFlags := 1, code := none }
def k1c1 : Code := { maxStack := 3, maxLocals := 4, code := code, exceptionTable := #[], attributes := #[] }
def k1m1 : Method := { name := "law", desc := "(II)Z", sig := { parameters := [.int, .int], returnType := some .boolean }, accessFlags := 9, code := some k1c1 }
/-- com/example/inchworm/inchworm/SketchRequireSizePinLaw -/
def k1 : Class := { plain "com/example/inchworm/inchworm/SketchRequireSizePinLaw" (some 0) with
  accessFlags := 49
  interfaces := #[]
  cf := some (fileOf pool1 15 #[] #[{ accessFlags := 1, nameIndex := 5, descriptorIndex := 6, attributes := #[] }, { accessFlags := 9, nameIndex := 19, descriptorIndex := 20, attributes := #[] }] 49 2 #[] #[])
  fields := #[]
  methods := #[k1m0, k1m1]
  instanceTypes := #[]
  staticTypes := #[]
  resolved := Array.replicate 24 none
  statics := none }

def pool2 : Array CpInfo := pool [(1, .class_ 2), (0, u "com/example/inchworm/inchworm/Sketch"), (3, .class_ 8), (1, u "java/lang/Object"), (4, u "requireSize"), (0, u "(II)V"), (2, u "rows"), (0, u "I"), (2, u "columns"), (8, u "bits"), (4, u "hashes"), (0, u "[Lcom/example/inchworm/inchworm/SipHash;"), (2, u "shifts"), (0, u "[I"), (16, u "cells"), (0, u "Lcom/example/inchworm/inchworm/SharedWords;"), (9, .integer 16777216), (39, u "MAX_ROWS"), (2, u "MAX_COLUMNS"), (0, u "MAX_HASHES"), (1, u "CELL_BYTES"), (0, u "SPREAD_BITS")] 49

def k2c0 : Code := { maxStack := 3, maxLocals := 2, code := prog_45_method_2_code, exceptionTable := #[], attributes := #[] }
def k2m0 : Method := { name := "requireSize", desc := "(II)V", sig := { parameters := [.int, .int], returnType := none }, accessFlags := 8, code := some k2c0 }
/-- com/example/inchworm/inchworm/Sketch -/
def k2 : Class := { plain "com/example/inchworm/inchworm/Sketch" (some 0) with
  accessFlags := 48
  interfaces := #[]
  cf := some (fileOf pool2 1 #[] #[{ accessFlags := 8, nameIndex := 13, descriptorIndex := 14, attributes := #[] }] 48 6 #[] #[{ accessFlags := 24, nameIndex := 108, descriptorIndex := 18, attributes := #[] }, { accessFlags := 24, nameIndex := 111, descriptorIndex := 18, attributes := #[] }, { accessFlags := 24, nameIndex := 112, descriptorIndex := 18, attributes := #[] }, { accessFlags := 26, nameIndex := 114, descriptorIndex := 18, attributes := #[] }, { accessFlags := 26, nameIndex := 115, descriptorIndex := 18, attributes := #[] }, { accessFlags := 18, nameIndex := 17, descriptorIndex := 18, attributes := #[] }, { accessFlags := 18, nameIndex := 21, descriptorIndex := 18, attributes := #[] }, { accessFlags := 18, nameIndex := 30, descriptorIndex := 18, attributes := #[] }, { accessFlags := 18, nameIndex := 35, descriptorIndex := 36, attributes := #[] }, { accessFlags := 18, nameIndex := 39, descriptorIndex := 40, attributes := #[] }, { accessFlags := 18, nameIndex := 57, descriptorIndex := 58, attributes := #[] }])
  fields := #[{ name := "MAX_ROWS", type := .int, accessFlags := 24, slot := 0, constantValue := 0 }, { name := "MAX_COLUMNS", type := .int, accessFlags := 24, slot := 1, constantValue := 0 }, { name := "MAX_HASHES", type := .int, accessFlags := 24, slot := 2, constantValue := 0 }, { name := "CELL_BYTES", type := .int, accessFlags := 26, slot := 3, constantValue := 0 }, { name := "SPREAD_BITS", type := .int, accessFlags := 26, slot := 4, constantValue := 0 }, { name := "rows", type := .int, accessFlags := 18, slot := 0, constantValue := 0 }, { name := "columns", type := .int, accessFlags := 18, slot := 1, constantValue := 0 }, { name := "bits", type := .int, accessFlags := 18, slot := 2, constantValue := 0 }, { name := "hashes", type := (.array (.object "com/example/inchworm/inchworm/SipHash")), accessFlags := 18, slot := 3, constantValue := 0 }, { name := "shifts", type := (.array .int), accessFlags := 18, slot := 4, constantValue := 0 }, { name := "cells", type := (.object "com/example/inchworm/inchworm/SharedWords"), accessFlags := 18, slot := 5, constantValue := 0 }]
  methods := #[k2m0]
  instanceTypes := #[.int, .int, .int, (.array (.object "com/example/inchworm/inchworm/SipHash")), (.array .int), (.object "com/example/inchworm/inchworm/SharedWords")]
  staticTypes := #[.int, .int, .int, .int, .int]
  resolved := Array.replicate 165 none
  statics := none }

def pool3 : Array CpInfo := pool [(1, u "java/lang/Cloneable"), (0, .class_ 1), (0, u "java/lang/Object"), (0, .class_ 3)] 3

/-- java/lang/Cloneable -/
def k3 : Class := { plain "java/lang/Cloneable" (some 0) with
  accessFlags := 1537
  interfaces := #[]
  cf := some (fileOf pool3 2 #[] #[] 1537 4 #[] #[])
  fields := #[]
  methods := #[]
  instanceTypes := #[]
  staticTypes := #[]
  resolved := Array.replicate 8 none
  statics := none }

def pool4 : Array CpInfo := pool [(1, u "java/io/Serializable"), (0, .class_ 1), (0, u "java/lang/Object"), (0, .class_ 3)] 3

/-- java/io/Serializable -/
def k4 : Class := { plain "java/io/Serializable" (some 0) with
  accessFlags := 1537
  interfaces := #[]
  cf := some (fileOf pool4 2 #[] #[] 1537 4 #[] #[])
  fields := #[]
  methods := #[]
  instanceTypes := #[]
  staticTypes := #[]
  resolved := Array.replicate 8 none
  statics := none }

/-- the primitive byte -/
def k5 : Class := { plain "byte" none with kind := .primitive 'B', accessFlags := 0x411 }
/-- [B -/
def k6 : Class := { plain "[B" (some 0) with kind := .array 5 .byte, interfaces := #[3, 4], accessFlags := 1041 }

/-- the primitive int -/
def k7 : Class := { plain "int" none with kind := .primitive 'I', accessFlags := 0x411 }
/-- [I -/
def k8 : Class := { plain "[I" (some 0) with kind := .array 7 .int, interfaces := #[3, 4], accessFlags := 1041 }

def heap : Heap := #[]
def classes : Array Class := #[k0, k1, k2, k3, k4, k5, k6, k7, k8]
def interned : List (Array UInt16 × Addr) := []
def slotsUsed : Nat := 0
def theMethod : MethodId := ⟨1, 1⟩
def args0 : Array Value := #[.int 5, .int 5]
def aboutOver (below : List Frame) : State where
  vm := { classes := classes, interned := interned.toArray }
  heap := heap
  slotsUsed := slotsUsed
  threads := #[{ frames := .invoking theMethod args0 :: below }]
def below0 : List Frame := [.native { method := ⟨0, 0⟩, args := #[] }]
def about1 : State := aboutOver below0
def p0 : Program := .bare "" "" ""
def e0 : Env := launch0.env 0 0 0
theorem w_frames : about1.frames = Frame.invoking theMethod args0 :: below0 := rfl
set_option maxRecDepth 65536 in
theorem w_args : argsFit about1.vm theMethod args0 = true := by decide +kernel
set_option maxRecDepth 65536 in
theorem w_heap : heapFits about1 = true := by decide +kernel
set_option maxRecDepth 65536 in
theorem w_runnable : about1.curStatus? = some .runnable := by decide +kernel
set_option maxRecDepth 65536 in
theorem w_alone : about1.alone = true := by decide +kernel
set_option maxRecDepth 65536 in
theorem w_named : about1.methodNamed? x = some theMethod := by decide +kernel
set_option maxRecDepth 65536 in
theorem w_hears : about1.hears theMethod below0 = true := by decide +kernel
set_option maxRecDepth 65536 in
theorem w_ripe : about1.ripe theMethod args0 below0 = true := by decide +kernel
theorem w_running : about1.status = .running := rfl
set_option maxRecDepth 65536 in
theorem w_room : about1.hasRoom e0.platform room_1 = true :=
  launch0.hasRoom_least _ room_1 (by decide +kernel) (by decide +kernel) (by decide +kernel) (by decide +kernel) (by decide +kernel) (by decide +kernel)
theorem allAtoms_all (ts : List Jvm.Cond) (a : Array Jvm.Value) (st : Jvm.State) : (allAtoms ts).before a st = ts.all (fun c => c.before a st) := by
  induction ts with
  | nil => rfl
  | cons c t ih =>
    show (Jvm.Cond.and c (allAtoms t)).before a st = _
    rw [Jvm.Cond.before_and, ih, List.all_cons]
def words1 : List Jvm.Cond := Jvm.Cond.code x code maxLocals ret :: tables_1
/-- a 'code' word, met by the world's own term for the bytes: nothing is compared byte by byte -/
theorem code_word {y : MethodName} {bytes : ByteArray} {mx : Nat} {rt : Option FieldType} {a : Array Value} {s : State} {m : MethodId} {meth : Method} {c : Code} (h1 : s.methodNamed? y = some m) (h2 : s.vm.method? m = some meth) (h3 : meth.code = some c) (h4 : c.code = bytes)
    (h5 : (c.maxLocals == mx && c.exceptionTable.isEmpty && decide (c.maxStack ≤ mostOperands) && decide (meth.sig.returnType = rt) && !meth.locks && decide (parseMethodDescriptor y.desc = some meth.sig)) = true) : (Jvm.Cond.code y bytes mx rt).before a s = true := by
  simp only [Bool.and_eq_true, beq_iff_eq, Bool.not_eq_true', decide_eq_true_eq] at h5
  obtain ⟨⟨⟨⟨⟨g1, g2⟩, g3⟩, g4⟩, g5⟩, g6⟩ := h5
  simp [Cond.before, Cond.holds, Cond.value, h1, h2, h3, h4, g1, g2, g3, g4, g5, g6]
def isCode : Jvm.Cond → Bool
  | .code _ _ _ _ => true
  | _ => false
theorem all_split {L : List Jvm.Cond} {P : Jvm.Cond → Bool} (h1 : L.all (fun c => isCode c || P c) = true) (h2 : ∀ c ∈ L.filter isCode, P c = true) : L.all P = true := by
  refine List.all_eq_true.mpr fun c hc => ?_
  have h := List.all_eq_true.mp h1 c hc
  rcases Bool.eq_false_or_eq_true (isCode c) with hi | hi
  · exact h2 c (List.mem_filter.mpr ⟨hc, hi⟩)
  · simpa [hi] using h
set_option maxRecDepth 65536 in
theorem w_c0 : (Jvm.Cond.code x code maxLocals ret).before args0 about1 = true := code_word (m := ⟨1, 1⟩) (meth := k1m1) (c := k1c1) (by decide +kernel) rfl rfl rfl (by decide +kernel)
set_option maxRecDepth 65536 in
theorem w_c1 : (Jvm.Cond.code ({ cls := "com/example/inchworm/inchworm/Sketch", name := "requireSize", desc := "(II)V" } : Jvm.MethodName) prog_45_method_2_code (2 : Nat) (Option.none : Option Jvm.ClassFile.FieldType)).before args0 about1 = true := code_word (m := ⟨2, 0⟩) (meth := k2m0) (c := k2c0) (by decide +kernel) rfl rfl rfl (by decide +kernel)
def codes1 : List Jvm.Cond := [Jvm.Cond.code x code maxLocals ret, Jvm.Cond.code ({ cls := "com/example/inchworm/inchworm/Sketch", name := "requireSize", desc := "(II)V" } : Jvm.MethodName) prog_45_method_2_code (2 : Nat) (Option.none : Option Jvm.ClassFile.FieldType)]
set_option maxRecDepth 65536 in
theorem codes_eq : words1.filter isCode = codes1 := rfl
theorem w_codes : ∀ c ∈ words1.filter isCode, c.before args0 about1 = true := by
  rw [codes_eq]
  intro c hc
  simp only [codes1, List.mem_cons, List.not_mem_nil, or_false] at hc
  rcases hc with rfl | rfl
  · exact w_c0
  · exact w_c1
set_option maxRecDepth 65536 in
theorem w_t1 : words1.all (fun c => isCode c || c.before args0 about1) = true := by decide +kernel
theorem w_tables : (allAtoms (Jvm.Cond.code x code maxLocals ret :: tables_1)).before args0 about1 = true := by
  rw [allAtoms_all]
  show words1.all (fun c => c.before args0 about1) = true
  refine all_split ?_ w_codes
  rw [w_t1]
set_option maxRecDepth 65536 in
theorem w_case : (Jvm.Cond.and given_1 narrow_1).before args0 about1 = true := by decide +kernel
theorem w_applies : (headSpec (Jvm.Cond.code x code maxLocals ret :: tables_1) room_1).applies x e0.platform about1 = true :=
  (Spec.applies_iff w_frames).mpr ⟨w_running, w_runnable, w_alone, w_named, w_hears, w_ripe, w_room, w_tables⟩
theorem atStart : AtStart classFile x code maxLocals ret World_1 tables_1 room_1 Calls_1 rest_1 Pre_1 launch0 p0 e0 about1 theMethod args0 below0 :=
  ⟨lists_1, trivial, launch0.admits_env _ _ _, launch0.least_env, fairChoices_fair.cas, fairChoices_fair.clock, w_frames, w_args, w_heap, w_applies, trivial, trivial, w_case⟩
end start1
theorem witness_1 : WitnessClaimed_1 := ⟨start1.p0, start1.e0, start1.about1, start1.theMethod, start1.args0, start1.below0, start1.atStart⟩
end Jvm.Pilot.@@N@@
