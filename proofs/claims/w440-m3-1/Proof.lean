import JvmDerived
import JvmDerived.Pilot.@@N@@Statement
import JvmDerived.Pilot.@@N@@Code
set_option linter.unusedVariables false
set_option linter.unusedSimpArgs false
@@BLOCK:NumsL.lean.txt@@
namespace Jvm.RoadKit
open Sem ClassFile Op Lib Jvm.Stand Jvm.Free Jvm.LawKit
section New
variable {p : Program} {l : Launch} {e : Env} {R : Room} {s : State} {m : MethodId} {args : Array Value} {below : List Frame} {meth : Method} {c : Code} {T : State} {locs : List Loc} {cells slots : Nat}
theorem retI (X : Stand p l e R s m args below meth c T locs cells slots) (hx : p.tables.exec = Jvm.exec) {pc : Nat} {Ls : Array Slot} {z : Int32} {rest : List Value} (hret : meth.sig.returnType = some .int) (hd : decode c.code pc = .ok (.ireturn, 1)) {fs : List Frame}
    (hl : ∀ (f : JFrame) (acts : List Action), f.method = m → f.locked = none → f.entered = [] → (doReturn e (T.setTop f) acts (some (.int z))).1 = T.setFrames fs) : Steps p.tables e below (T.setTop (mkF m pc Ls (.int z :: rest))) (T.setFrames fs) := by
  have hm' : T.vm.method? m = some meth := X.method'
  have hn : narrow .int (.int z) = .int z := rfl
  show Steps p.tables e below (T.setTop { method := m, pc := pc, locals := Ls, stack := _ :: rest, locked := none }) _
  jvm_step X.here [X.here.top, hx, hd, hm', hret, hn]
  first | (intro acts; rw [hl _ acts rfl rfl rfl]) | rw [hl _ _ rfl rfl rfl]
  exact Steps.refl _
end New
theorem own_dia {tb : Tables} {e : Env} {below : List Frame} {T tgt : State} {g : JFrame} {A : Type} {u v : A} (q : Prop) [Decidable q] (f : A → JFrame)
    (h1 : q → Steps tb e below (T.setTop (f u)) tgt → Steps tb e below (T.setTop g) tgt) (h0 : ¬ q → Steps tb e below (T.setTop (f v)) tgt → Steps tb e below (T.setTop g) tgt)
    (k : Steps tb e below (T.setTop (f (if q then u else v))) tgt) : Steps tb e below (T.setTop g) tgt := by
  by_cases hq : q
  · rw [if_pos hq] at k; exact h1 hq k
  · rw [if_neg hq] at k; exact h0 hq k
theorem own_cast {tb : Tables} {e : Env} {below : List Frame} {T tgt : State} {A : Type} {u v : A} (f : A → JFrame) (h : u = v) (k : Steps tb e below (T.setTop (f v)) tgt) : Steps tb e below (T.setTop (f u)) tgt := h ▸ k
theorem own_llt {x y : Int64} (h : x < y) : ifCond.holds .lt (lcmpW x y) = true ∧ ifCond.holds .ge (lcmpW x y) = false := by
  rw [if0, if0]; exact ⟨(tlt ((lw_lt x y).mpr h)).1, (tlt ((lw_lt x y).mpr h)).2.1⟩
theorem own_lge {x y : Int64} (h : ¬ x < y) : ifCond.holds .lt (lcmpW x y) = false ∧ ifCond.holds .ge (lcmpW x y) = true := by
  rw [if0, if0]; exact ⟨(flt fun q => h ((lw_lt x y).mp q)).1, (flt fun q => h ((lw_lt x y).mp q)).2.1⟩
theorem own_lgt {x y : Int64} (h : y < x) : ifCond.holds .gt (lcmpW x y) = true ∧ ifCond.holds .le (lcmpW x y) = false := by
  rw [if0, if0]; exact ⟨(tlt ((lw_gt x y).mpr h)).2.2.1, (tlt ((lw_gt x y).mpr h)).2.2.2⟩
theorem own_lle {x y : Int64} (h : ¬ y < x) : ifCond.holds .gt (lcmpW x y) = false ∧ ifCond.holds .le (lcmpW x y) = true := by
  rw [if0, if0]; exact ⟨(flt fun q => h ((lw_gt x y).mp q)).2.2.1, (flt fun q => h ((lw_gt x y).mp q)).2.2.2⟩
theorem own_leq {x y : Int64} (h : x = y) : ifCond.holds .eq (lcmpW x y) = true ∧ ifCond.holds .ne (lcmpW x y) = false := by
  rw [if0, if0]; exact ⟨(teq ((lw_eq x y).mpr h)).1, (teq ((lw_eq x y).mpr h)).2⟩
theorem own_lne {x y : Int64} (h : ¬ x = y) : ifCond.holds .eq (lcmpW x y) = false ∧ ifCond.holds .ne (lcmpW x y) = true := by
  rw [if0, if0]; exact ⟨(feq fun q => h ((lw_eq x y).mp q)).1, (feq fun q => h ((lw_eq x y).mp q)).2⟩
theorem own_bt {q : Prop} [Decidable q] (h : q) : ifCond.holds .ne (if q then (1 : Int32) else (0 : Int32)) = true ∧ ifCond.holds .eq (if q then (1 : Int32) else (0 : Int32)) = false := by
  rw [if_pos h]; exact ⟨rfl, rfl⟩
theorem own_bf {q : Prop} [Decidable q] (h : ¬ q) : ifCond.holds .ne (if q then (1 : Int32) else (0 : Int32)) = false ∧ ifCond.holds .eq (if q then (1 : Int32) else (0 : Int32)) = true := by
  rw [if_neg h]; exact ⟨rfl, rfl⟩
theorem own_ct {q : Prop} [Decidable q] (h : q) : ifCond.holds .ne (if q then (0 : Int32) else (1 : Int32)) = false ∧ ifCond.holds .eq (if q then (0 : Int32) else (1 : Int32)) = true := by
  rw [if_pos h]; exact ⟨rfl, rfl⟩
theorem own_cf {q : Prop} [Decidable q] (h : ¬ q) : ifCond.holds .ne (if q then (0 : Int32) else (1 : Int32)) = true ∧ ifCond.holds .eq (if q then (0 : Int32) else (1 : Int32)) = false := by
  rw [if_neg h]; exact ⟨rfl, rfl⟩
theorem own_b01 {q : Prop} [Decidable q] {x y : Int32} (hx : x = 0 ∨ x = 1) (hy : y = 0 ∨ y = 1) : (if q then x else y) = 0 ∨ (if q then x else y) = 1 := by
  split <;> assumption
def Arf (Z : State) (h : Heap) (a : Addr) (ty : FieldType) (n : Int32) (f : Nat → Value) : Prop :=
  ∃ c : Cell, Arr Z h a c ty ∧ c.slots.size = n.toNatClampNeg ∧ ¬ n < 0 ∧ ∀ i, i < n.toNatClampNeg → c.slots[i]? = some (f i)
theorem Arf.lt {Z : State} {h : Heap} {a : Addr} {ty : FieldType} {n : Int32} {f : Nat → Value} (F : Arf Z h a ty n f) : a < h.size := by
  obtain ⟨c, A, -⟩ := F; exact A.lt
theorem Arf.ext {Z : State} {h h' : Heap} {a : Addr} {ty : FieldType} {n : Int32} {f : Nat → Value} (F : Arf Z h a ty n f) (E : Ext h h') : Arf Z h' a ty n f := by
  obtain ⟨c, A, r⟩ := F; exact ⟨c, A.ext E, r⟩
theorem Arf.other {Z : State} {h h' : Heap} {a b : Addr} {sl : Nat} {v : Value} {ty : FieldType} {n : Int32} {f : Nat → Value} (F : Arf Z h b ty n f) (W : Wr h h' a sl v) (q : b ≠ a) : Arf Z h' b ty n f := by
  obtain ⟨c, A, r⟩ := F; exact ⟨c, A.other W q, r⟩
theorem Arf.keep {Z : State} {h h' : Heap} {a : Addr} {ws : List Addr} {ty : FieldType} {n : Int32} {f : Nat → Value} (F : Arf Z h a ty n f) (K : Keep h h' ws) (q : a ∉ ws) : Arf Z h' a ty n f := by
  obtain ⟨c, A, r⟩ := F; exact ⟨c, ⟨K.2.1 a c A.1 q, A.2⟩, r⟩
theorem own_arf_new {Z : State} {h : Heap} {a : Addr} {k : ClassId} {ty : FieldType} {z : Int32} (A : Arr Z h a (newA k ty z) ty) (q : ¬ z < 0) : Arf Z h a ty z (fun _ => defaultValue ty) :=
  ⟨_, A, sz_new _ _ _, q, fun i hi => by simp [newA, hi]⟩
theorem own_arf_set {Z : State} {h h' : Heap} {a : Addr} {ty : FieldType} {n : Int32} {f : Nat → Value} {j : Nat} {v : Value} (F : Arf Z h a ty n f) (W : Wr h h' a j v) : Arf Z h' a ty n (fun i => if i = j then v else f i) := by
  obtain ⟨c, A, S, M, H⟩ := F
  refine ⟨_, A.same W, by rw [sz_set]; exact S, M, fun i hi => ?_⟩
  show _ = some (if i = j then v else f i)
  by_cases u : i = j
  · subst u; rw [if_pos rfl]; rw [← S] at hi; simp [Cell.setSlot, hi]
  · rw [if_neg u]; have := H i hi; simp only [Cell.setSlot]; rw [Array.getElem?_setIfInBounds_ne (Ne.symm u)]; exact this
theorem own_arf_fn {Z : State} {h : Heap} {a : Addr} {ty : FieldType} {n : Int32} {f g : Nat → Value} (F : Arf Z h a ty n f) (q : ∀ i, i < n.toNatClampNeg → f i = g i) : Arf Z h a ty n g := by
  obtain ⟨c, A, S, M, H⟩ := F
  exact ⟨c, A, S, M, fun i hi => by rw [← q i hi]; exact H i hi⟩
theorem own_arf_setI {Z : State} {h h' : Heap} {a : Addr} {ty : FieldType} {n : Int32} {f : Nat → Int32} {j : Nat} {v : Int32} (F : Arf Z h a ty n (fun i => Value.int (f i))) (W : Wr h h' a j (.int v)) : Arf Z h' a ty n (fun i => Value.int (if i = j then v else f i)) :=
  own_arf_fn (own_arf_set F W) fun i _ => by by_cases u : i = j <;> simp [u]
theorem own_arf_setL {Z : State} {h h' : Heap} {a : Addr} {ty : FieldType} {n : Int32} {f : Nat → Int64} {j : Nat} {v : Int64} (F : Arf Z h a ty n (fun i => Value.long (f i))) (W : Wr h h' a j (.long v)) : Arf Z h' a ty n (fun i => Value.long (if i = j then v else f i)) :=
  own_arf_fn (own_arf_set F W) fun i _ => by by_cases u : i = j <;> simp [u]
theorem own_arf_at {c : Cell} {n j : Int32} {f : Nat → Value} (H : ∀ i, i < n.toNatClampNeg → c.slots[i]? = some (f i)) (S : c.slots.size = n.toNatClampNeg) (q : ¬ (j < 0 ∨ c.slots.size ≤ j.toNatClampNeg)) : c.slots[j.toNatClampNeg]? = some (f j.toNatClampNeg) :=
  H _ (by rw [← S]; exact Nat.lt_of_not_le fun y => q (Or.inr y))
theorem own_nb {x : Int32} (h : x = 0 ∨ x = 1) : nar .boolean x = x := by
  rcases h with rfl | rfl <;> rfl
end Jvm.RoadKit
namespace Jvm.Pilot.@@N@@
open Jvm Jvm.ClassFile Sem Op Lib Jvm.Free Jvm.Stand Jvm.LawKit Jvm.RoadKit Bundle Jvm.Pilot.@@N@@.Jvm.D
theorem d2_0 : decode jdk_30_method_1_code 0 = .ok (.aload_n 0, 1) := by decide +kernel
theorem d2_1 : decode jdk_30_method_1_code 1 = .ok (.invokespecial 1, 3) := by decide +kernel
theorem d2_4 : decode jdk_30_method_1_code 4 = .ok (.return_, 1) := by decide +kernel
theorem pn_2 : plainName "java/lang/Record" = true := by first | (simp [plainName, overriddenIn]; done) | decide +kernel
theorem ef_2 (m : MethodId) (va : Addr) : entryFrame m #[(.ref va)] 1 = mkF m 0 #[.val (.ref va)] [] := by first | (simp [entryFrame, mkF, argsToLocals, Value.category]; done) | rfl
def Q2 (Z : State) (va : Addr) (h0 : Heap) (n0 : Nat) (v : Option Value) (h : Heap) (L : List Loc) : Prop := v = none ∧ Fr n0 L ∧ h = h0
set_option maxRecDepth 65536 in
set_option maxHeartbeats 40000000 in
theorem rm2 (l : Launch) (Z : State) (a0 : Array Value) (hw : ∀ d ∈ tables_1, d.before a0 Z = true) (ws : List Jvm.Cond) (va : Addr) (h0 : Heap) (n0 : Nat) (Z0 : n0 ≤ h0.size)  :
    MetFree l (⟨"java/lang/Record", "<init>", "()V"⟩ : MethodName) (head1 (Jvm.Cond.code (⟨"java/lang/Record", "<init>", "()V"⟩ : MethodName) jdk_30_method_1_code 1 none :: ws) ({ frames := 1, cells := 0, slots := 0, locals := 12 } : Room)) (fun a U => a = #[(.ref va)] ∧ Z.Warmed39 U.vm ∧ U.heap = h0) (fun _ _ _ _ _ => True) (fun _ U o U' => ∃ v L, o = .returned v ∧ Q2 Z va h0 n0 v U'.heap L ∧ FrameEnd U o U' L ({ frames := 1, cells := 0, slots := 0, locals := 12 } : Room).cells ({ frames := 1, cells := 0, slots := 0, locals := 12 } : Room).slots) := by
  refine MetFree.of_bodySF (plainFor_of_name pn_2) hisR ?_
  intro p e s m args below meth c s₁ Bd hml0 hP hK
  obtain ⟨rfl, hZ, hh⟩ := hP
  have hx := Bd.exec
  have hby := Bd.bytes
  have hml : c.maxLocals = 1 := hml0
  have hown : s.vm.findClass "java/lang/Record" = some m.cls := findClass_of_methodNamed Bd.named
  have hnm := (name_of_methodNamed Bd.named Bd.method).1
  have X0 : Stand p l e ({ frames := 1, cells := 0, slots := 0, locals := 12 } : Room) s m #[(.ref va)] below meth c s₁ [] 0 0 := Stand.of_body Bd
  have e0 : s₁.heap = h0 := by rw [← hh, Bd.state]; rfl
  have N0 := Fr.nil n0
  have pre0 : ∀ t, Steps p.tables e below (s₁.setTop (mkF m 0 #[.val (.ref va)] [])) t → Steps p.tables e below (s₁.setTop (entryFrame m #[(.ref va)] 1)) t := fun t k => castTop (ef_2 m va) k
  obtain ⟨T1, X1, e1, st1⟩ := initO X0 hx hZ hown (hw _ (List.mem_of_getElem? (i := 11) rfl)) (hw _ (List.mem_of_getElem? (i := 12) rfl)) (hw _ (List.mem_of_getElem? (i := 13) rfl)) e0 (g := (mkF m 1 #[.val (.ref va)] [(.ref va)])) rfl (by rw [hml]; rfl) rfl (hb hby d2_1) (by decide) (W := 0) (by show 2 * 0 + _ ≤ _; exact Nat.le_of_eq rfl) (by decide)
  obtain ⟨fs, hr, hrun, hended, hW, hsame⟩ := X1.leave (v := none) (fun _ => rfl)
  refine ⟨_, _, pre0 _ ?_, hrun, hended, _, _, rfl, ?_, ⟨_, rfl⟩, hW, hsame.mono (by decide) (by decide)⟩
  · show Steps p.tables e below (s₁.setTop (mkF m 0 #[.val (.ref va)] [])) _
    refine XS.aloadN X0.here hx rfl (hb hby d2_0) rfl rfl ?_
    show Steps p.tables e below (s₁.setTop (mkF m 1 #[.val (.ref va)] [(.ref va)])) _
    refine st1 _ ?_
    show Steps p.tables e below (T1.setTop (mkF m 4 #[.val (.ref va)] [])) _
    exact X1.returnOut hx Bd.returns (hb hby d2_4) hr
  · show Q2 Z va h0 n0 _ T1.heap _
    rw [e1]
    exact ⟨rfl, N0, rfl⟩
theorem pd_0 : parseMethodDescriptor "()V" = some ⟨[], none⟩ := by decide +kernel
theorem d1_0 : decode prog_56_method_1_code 0 = .ok (.aload_n 0, 1) := by decide +kernel
theorem d1_1 : decode prog_56_method_1_code 1 = .ok (.invokespecial 1, 3) := by decide +kernel
theorem d1_4 : decode prog_56_method_1_code 4 = .ok (.aload_n 0, 1) := by decide +kernel
theorem d1_5 : decode prog_56_method_1_code 5 = .ok (.iload_n 1, 1) := by decide +kernel
theorem d1_6 : decode prog_56_method_1_code 6 = .ok (.putfield 7, 3) := by decide +kernel
theorem d1_9 : decode prog_56_method_1_code 9 = .ok (.aload_n 0, 1) := by decide +kernel
theorem d1_10 : decode prog_56_method_1_code 10 = .ok (.iload_n 2, 1) := by decide +kernel
theorem d1_11 : decode prog_56_method_1_code 11 = .ok (.putfield 13, 3) := by decide +kernel
theorem d1_14 : decode prog_56_method_1_code 14 = .ok (.aload_n 0, 1) := by decide +kernel
theorem d1_15 : decode prog_56_method_1_code 15 = .ok (.iload_n 3, 1) := by decide +kernel
theorem d1_16 : decode prog_56_method_1_code 16 = .ok (.putfield 16, 3) := by decide +kernel
theorem d1_19 : decode prog_56_method_1_code 19 = .ok (.return_, 1) := by decide +kernel
theorem pn_1 : plainName "com/example/ponca/ponca/store/LogDamage$Whole" = true := by first | (simp [plainName, overriddenIn]; done) | decide +kernel
theorem ef_1 (m : MethodId) (va : Addr) (vn : Int32) (vk : Int32) (vl : Int32) : entryFrame m #[(.ref va), (.int vn), (.int vk), (.int vl)] 4 = mkF m 0 #[.val (.ref va), .val (.int vn), .val (.int vk), .val (.int vl)] [] := by first | (simp [entryFrame, mkF, argsToLocals, Value.category]; done) | rfl
def Q1 (Z : State) (va : Addr) (vn : Int32) (vk : Int32) (vl : Int32) (h0 : Heap) (n0 : Nat) (v : Option Value) (h : Heap) (L : List Loc) : Prop := v = none ∧ Fr n0 L ∧ Keep h0 h [va] ∧ Exa Z h va "com/example/ponca/ponca/store/LogDamage$Whole" ∧ Fld Z h va "com/example/ponca/ponca/store/LogDamage$Whole" "next" "I" (.int vn) ∧ Fld Z h va "com/example/ponca/ponca/store/LogDamage$Whole" "inKeyOrValue" "I" (.int vk) ∧ Fld Z h va "com/example/ponca/ponca/store/LogDamage$Whole" "lengthEnd" "I" (.int vl)
set_option maxRecDepth 65536 in
set_option maxHeartbeats 40000000 in
theorem rm1 (l : Launch) (Z : State) (a0 : Array Value) (hw : ∀ d ∈ tables_1, d.before a0 Z = true) (ws : List Jvm.Cond) (va : Addr) (vn : Int32) (vk : Int32) (vl : Int32) (h0 : Heap) (n0 : Nat) (Z0 : n0 ≤ h0.size) (E_va : Exa Z h0 va "com/example/ponca/ponca/store/LogDamage$Whole") (g_va : n0 ≤ va) (F_va_next : Fld Z h0 va "com/example/ponca/ponca/store/LogDamage$Whole" "next" "I" (.int (0 : Int32))) (F_va_inKeyOrValue : Fld Z h0 va "com/example/ponca/ponca/store/LogDamage$Whole" "inKeyOrValue" "I" (.int (0 : Int32))) (F_va_lengthEnd : Fld Z h0 va "com/example/ponca/ponca/store/LogDamage$Whole" "lengthEnd" "I" (.int (0 : Int32))) :
    MetFree l (⟨"com/example/ponca/ponca/store/LogDamage$Whole", "<init>", "(III)V"⟩ : MethodName) (head1 (Jvm.Cond.code (⟨"com/example/ponca/ponca/store/LogDamage$Whole", "<init>", "(III)V"⟩ : MethodName) prog_56_method_1_code 4 none :: ws) ({ frames := 2, cells := 0, slots := 0, locals := 24 } : Room)) (fun a U => a = #[(.ref va), (.int vn), (.int vk), (.int vl)] ∧ Z.Warmed39 U.vm ∧ U.heap = h0) (fun _ _ _ _ _ => True) (fun _ U o U' => ∃ v L, o = .returned v ∧ Q1 Z va vn vk vl h0 n0 v U'.heap L ∧ FrameEnd U o U' L ({ frames := 2, cells := 0, slots := 0, locals := 24 } : Room).cells ({ frames := 2, cells := 0, slots := 0, locals := 24 } : Room).slots) := by
  refine MetFree.of_bodySF (plainFor_of_name pn_1) hisR ?_
  intro p e s m args below meth c s₁ Bd hml0 hP hK
  obtain ⟨rfl, hZ, hh⟩ := hP
  have hx := Bd.exec
  have hby := Bd.bytes
  have hml : c.maxLocals = 4 := hml0
  have hown : s.vm.findClass "com/example/ponca/ponca/store/LogDamage$Whole" = some m.cls := findClass_of_methodNamed Bd.named
  have hnm := (name_of_methodNamed Bd.named Bd.method).1
  have X0 : Stand p l e ({ frames := 2, cells := 0, slots := 0, locals := 24 } : Room) s m #[(.ref va), (.int vn), (.int vk), (.int vl)] below meth c s₁ [] 0 0 := Stand.of_body Bd
  have e0 : s₁.heap = h0 := by rw [← hh, Bd.state]; rfl
  have N0 := Fr.nil n0
  have pre0 : ∀ t, Steps p.tables e below (s₁.setTop (mkF m 0 #[.val (.ref va), .val (.int vn), .val (.int vk), .val (.int vl)] [])) t → Steps p.tables e below (s₁.setTop (entryFrame m #[(.ref va), (.int vn), (.int vk), (.int vl)] 4)) t := fun t k => castTop (ef_1 m va vn vk vl) k
  have K0 := Keep.refl h0 [va]
  obtain ⟨_, _, ⟨T1, L1, k1, n1⟩, -, X1, ⟨Lc1, hQ1, l1, y1, z1⟩, st1⟩ := X0.specialBack hx (y := (⟨"java/lang/Record", "<init>", "()V"⟩ : MethodName)) rfl hown (mvT hZ (hw _ (List.mem_of_getElem? (i := 6) rfl))) (mvT hZ (hw _ (List.mem_of_getElem? (i := 7) rfl))) (mvT hZ (hw _ (List.mem_of_getElem? (i := 10) rfl))) (by decide) (backOf (W := 0) (rm2 l Z a0 hw [] va  h0 n0 Z0 ) hZ (hw _ (List.mem_of_getElem? (i := 10) rfl)) (hw _ (List.mem_of_getElem? (i := 9) rfl)) (by decide) (by decide)) (g := (mkF m 1 #[.val (.ref va), .val (.int vn), .val (.int vk), .val (.int vl)] [(.ref va)])) rfl (by rw [hml]; rfl) (Steps.refl _) (a := va) (argsL := []) (rest := []) (lenOf pd_0 rfl) rfl (by show 2 * 0 + _ ≤ _; exact Nat.le_of_eq rfl) (hb hby d1_1) (fun _ _ => ⟨rfl, e0, (by decide : 0 + 0 ≤ _), (by decide : 0 + 0 ≤ _)⟩)
  dsimp only [Pt.U, Pt.locs, Pt.cells, Pt.slots] at X1 l1 y1 z1 st1 hQ1
  subst l1 y1 z1
  obtain ⟨rfl, N1q, e1⟩ := hQ1
  have N1 := Fr.app N0 N1q
  obtain ⟨T2, h2, X2, e2, W2, st2⟩ := putF X1 hx hZ hown (host := "") (Or.inl (hw _ (List.mem_of_getElem? (i := 14) rfl))) Via.refl e1 F_va_next E_va (Or.inr ⟨(hw _ (List.mem_of_getElem? (i := 15) rfl)), rfl, hnm⟩) (hw _ (List.mem_of_getElem? (i := 1) rfl)) (ty := .int) (by decide) rfl rfl (g := (mkF m 6 #[.val (.ref va), .val (.int vn), .val (.int vk), .val (.int vl)] [(.int vn), (.ref va)])) rfl rfl (hb hby d1_6)
  have Z3 : n0 ≤ h2.size := Nat.le_trans Z0 (Keep.of_wr W2).1
  have E4_va := E_va.wr W2
  have F6_va_inKeyOrValue := F_va_inKeyOrValue.other W2 (Or.inr (slot_ne (Or.inr (hw _ (List.mem_of_getElem? (i := 17) rfl))) (Or.inr (hw _ (List.mem_of_getElem? (i := 15) rfl))) (by decide) (t := .int) (t' := .int) (by decide) (by decide)))
  have F7_va_lengthEnd := F_va_lengthEnd.other W2 (Or.inr (slot_ne (Or.inr (hw _ (List.mem_of_getElem? (i := 19) rfl))) (Or.inr (hw _ (List.mem_of_getElem? (i := 15) rfl))) (by decide) (t := .int) (t' := .int) (by decide) (by decide)))
  have Fw2 := F_va_next.same W2
  have N2 := Fr.snoc X2 N1 g_va
  have K2 := K0.wr W2 (Or.inl (List.mem_of_getElem? (i := 0) rfl))
  obtain ⟨T8, h8, X8, e8, W8, st8⟩ := putF X2 hx hZ hown (host := "") (Or.inl (hw _ (List.mem_of_getElem? (i := 16) rfl))) Via.refl e2 F6_va_inKeyOrValue E4_va (Or.inr ⟨(hw _ (List.mem_of_getElem? (i := 17) rfl)), rfl, hnm⟩) (hw _ (List.mem_of_getElem? (i := 1) rfl)) (ty := .int) (by decide) rfl rfl (g := (mkF m 11 #[.val (.ref va), .val (.int vn), .val (.int vk), .val (.int vl)] [(.int vk), (.ref va)])) rfl rfl (hb hby d1_11)
  have Z9 : n0 ≤ h8.size := Nat.le_trans Z3 (Keep.of_wr W8).1
  have E10_va := E4_va.wr W8
  have F11_va_next := Fw2.other W8 (Or.inr (slot_ne (Or.inr (hw _ (List.mem_of_getElem? (i := 15) rfl))) (Or.inr (hw _ (List.mem_of_getElem? (i := 17) rfl))) (by decide) (t := .int) (t' := .int) (by decide) (by decide)))
  have F13_va_lengthEnd := F7_va_lengthEnd.other W8 (Or.inr (slot_ne (Or.inr (hw _ (List.mem_of_getElem? (i := 19) rfl))) (Or.inr (hw _ (List.mem_of_getElem? (i := 17) rfl))) (by decide) (t := .int) (t' := .int) (by decide) (by decide)))
  have Fw8 := F6_va_inKeyOrValue.same W8
  have N8 := Fr.snoc X8 N2 g_va
  have K8 := K2.wr W8 (Or.inl (List.mem_of_getElem? (i := 0) rfl))
  obtain ⟨T14, h14, X14, e14, W14, st14⟩ := putF X8 hx hZ hown (host := "") (Or.inl (hw _ (List.mem_of_getElem? (i := 18) rfl))) Via.refl e8 F13_va_lengthEnd E10_va (Or.inr ⟨(hw _ (List.mem_of_getElem? (i := 19) rfl)), rfl, hnm⟩) (hw _ (List.mem_of_getElem? (i := 1) rfl)) (ty := .int) (by decide) rfl rfl (g := (mkF m 16 #[.val (.ref va), .val (.int vn), .val (.int vk), .val (.int vl)] [(.int vl), (.ref va)])) rfl rfl (hb hby d1_16)
  have Z15 : n0 ≤ h14.size := Nat.le_trans Z9 (Keep.of_wr W14).1
  have E16_va := E10_va.wr W14
  have F17_va_next := F11_va_next.other W14 (Or.inr (slot_ne (Or.inr (hw _ (List.mem_of_getElem? (i := 15) rfl))) (Or.inr (hw _ (List.mem_of_getElem? (i := 19) rfl))) (by decide) (t := .int) (t' := .int) (by decide) (by decide)))
  have F18_va_inKeyOrValue := Fw8.other W14 (Or.inr (slot_ne (Or.inr (hw _ (List.mem_of_getElem? (i := 17) rfl))) (Or.inr (hw _ (List.mem_of_getElem? (i := 19) rfl))) (by decide) (t := .int) (t' := .int) (by decide) (by decide)))
  have Fw14 := F13_va_lengthEnd.same W14
  have N14 := Fr.snoc X14 N8 g_va
  have K14 := K8.wr W14 (Or.inl (List.mem_of_getElem? (i := 0) rfl))
  obtain ⟨fs, hr, hrun, hended, hW, hsame⟩ := X14.leave (v := none) (fun _ => rfl)
  refine ⟨_, _, pre0 _ ?_, hrun, hended, _, _, rfl, ?_, ⟨_, rfl⟩, hW, hsame.mono (by decide) (by decide)⟩
  · show Steps p.tables e below (s₁.setTop (mkF m 0 #[.val (.ref va), .val (.int vn), .val (.int vk), .val (.int vl)] [])) _
    refine XS.aloadN X0.here hx rfl (hb hby d1_0) rfl rfl ?_
    show Steps p.tables e below (s₁.setTop (mkF m 1 #[.val (.ref va), .val (.int vn), .val (.int vk), .val (.int vl)] [(.ref va)])) _
    refine st1.trans ?_
    show Steps p.tables e below (T1.setTop (mkF m 4 #[.val (.ref va), .val (.int vn), .val (.int vk), .val (.int vl)] [])) _
    refine XS.aloadN X1.here hx rfl (hb hby d1_4) rfl rfl ?_
    show Steps p.tables e below (T1.setTop (mkF m 5 #[.val (.ref va), .val (.int vn), .val (.int vk), .val (.int vl)] [(.ref va)])) _
    refine XS.iloadN X1.here hx rfl (hb hby d1_5) rfl ?_
    show Steps p.tables e below (T1.setTop (mkF m 6 #[.val (.ref va), .val (.int vn), .val (.int vk), .val (.int vl)] [(.int vn), (.ref va)])) _
    refine st2 _ ?_
    show Steps p.tables e below (T2.setTop (mkF m 9 #[.val (.ref va), .val (.int vn), .val (.int vk), .val (.int vl)] [])) _
    refine XS.aloadN X2.here hx rfl (hb hby d1_9) rfl rfl ?_
    show Steps p.tables e below (T2.setTop (mkF m 10 #[.val (.ref va), .val (.int vn), .val (.int vk), .val (.int vl)] [(.ref va)])) _
    refine XS.iloadN X2.here hx rfl (hb hby d1_10) rfl ?_
    show Steps p.tables e below (T2.setTop (mkF m 11 #[.val (.ref va), .val (.int vn), .val (.int vk), .val (.int vl)] [(.int vk), (.ref va)])) _
    refine st8 _ ?_
    show Steps p.tables e below (T8.setTop (mkF m 14 #[.val (.ref va), .val (.int vn), .val (.int vk), .val (.int vl)] [])) _
    refine XS.aloadN X8.here hx rfl (hb hby d1_14) rfl rfl ?_
    show Steps p.tables e below (T8.setTop (mkF m 15 #[.val (.ref va), .val (.int vn), .val (.int vk), .val (.int vl)] [(.ref va)])) _
    refine XS.iloadN X8.here hx rfl (hb hby d1_15) rfl ?_
    show Steps p.tables e below (T8.setTop (mkF m 16 #[.val (.ref va), .val (.int vn), .val (.int vk), .val (.int vl)] [(.int vl), (.ref va)])) _
    refine st14 _ ?_
    show Steps p.tables e below (T14.setTop (mkF m 19 #[.val (.ref va), .val (.int vn), .val (.int vk), .val (.int vl)] [])) _
    exact X14.returnOut hx Bd.returns (hb hby d1_19) hr
  · show Q1 Z va vn vk vl h0 n0 _ T14.heap _
    rw [e14]
    exact ⟨rfl, N14, K14, E16_va, F17_va_next, F18_va_inKeyOrValue, Fw14⟩
theorem d4_0 : decode prog_56_method_2_code 0 = .ok (.aload_n 0, 1) := by decide +kernel
theorem d4_1 : decode prog_56_method_2_code 1 = .ok (.getfield 7, 3) := by decide +kernel
theorem d4_4 : decode prog_56_method_2_code 4 = .ok (.ifCond .gt 10, 3) := by decide +kernel
theorem d4_7 : decode prog_56_method_2_code 7 = .ok (.aload_n 0, 1) := by decide +kernel
theorem d4_8 : decode prog_56_method_2_code 8 = .ok (.getfield 13, 3) := by decide +kernel
theorem d4_11 : decode prog_56_method_2_code 11 = .ok (.ifCond .ne 10, 3) := by decide +kernel
theorem d4_14 : decode prog_56_method_2_code 14 = .ok (.aload_n 0, 1) := by decide +kernel
theorem d4_15 : decode prog_56_method_2_code 15 = .ok (.getfield 7, 3) := by decide +kernel
theorem d4_18 : decode prog_56_method_2_code 18 = .ok (.goto 7, 3) := by decide +kernel
theorem d4_21 : decode prog_56_method_2_code 21 = .ok (.aload_n 0, 1) := by decide +kernel
theorem d4_22 : decode prog_56_method_2_code 22 = .ok (.getfield 13, 3) := by decide +kernel
theorem d4_25 : decode prog_56_method_2_code 25 = .ok (.ireturn, 1) := by decide +kernel
theorem pn_4 : plainName "com/example/ponca/ponca/store/LogDamage$Whole" = true := by first | (simp [plainName, overriddenIn]; done) | decide +kernel
theorem ef_4 (m : MethodId) (va : Addr) : entryFrame m #[(.ref va)] 1 = mkF m 0 #[.val (.ref va)] [] := by first | (simp [entryFrame, mkF, argsToLocals, Value.category]; done) | rfl
def F4 (vn : Int32) (vk : Int32) : Int32 := (if (0 : Int32) < vn then vn else (if vk = (0 : Int32) then vn else vk))
def Q4 (Z : State) (va : Addr) (vn : Int32) (vk : Int32) (h0 : Heap) (n0 : Nat) (v : Option Value) (h : Heap) (L : List Loc) : Prop := v = some (.int (F4 vn vk)) ∧ Fr n0 L ∧ h = h0
set_option maxRecDepth 65536 in
set_option maxHeartbeats 40000000 in
theorem rm4 (l : Launch) (Z : State) (a0 : Array Value) (hw : ∀ d ∈ tables_1, d.before a0 Z = true) (ws : List Jvm.Cond) (va : Addr) (vn : Int32) (vk : Int32) (h0 : Heap) (n0 : Nat) (Z0 : n0 ≤ h0.size) (F_va_next : Fld Z h0 va "com/example/ponca/ponca/store/LogDamage$Whole" "next" "I" (.int vn)) (F_va_inKeyOrValue : Fld Z h0 va "com/example/ponca/ponca/store/LogDamage$Whole" "inKeyOrValue" "I" (.int vk)) :
    MetFree l (⟨"com/example/ponca/ponca/store/LogDamage$Whole", "first", "()I"⟩ : MethodName) (head1 (Jvm.Cond.code (⟨"com/example/ponca/ponca/store/LogDamage$Whole", "first", "()I"⟩ : MethodName) prog_56_method_2_code 1 (some .int) :: ws) ({ frames := 0, cells := 0, slots := 0, locals := 0 } : Room)) (fun a U => a = #[(.ref va)] ∧ Z.Warmed39 U.vm ∧ U.heap = h0) (fun _ _ _ _ _ => True) (fun _ U o U' => ∃ v L, o = .returned v ∧ Q4 Z va vn vk h0 n0 v U'.heap L ∧ FrameEnd U o U' L ({ frames := 0, cells := 0, slots := 0, locals := 0 } : Room).cells ({ frames := 0, cells := 0, slots := 0, locals := 0 } : Room).slots) := by
  refine MetFree.of_bodySF (plainFor_of_name pn_4) hisR ?_
  intro p e s m args below meth c s₁ Bd hml0 hP hK
  obtain ⟨rfl, hZ, hh⟩ := hP
  have hx := Bd.exec
  have hby := Bd.bytes
  have hml : c.maxLocals = 1 := hml0
  have hown : s.vm.findClass "com/example/ponca/ponca/store/LogDamage$Whole" = some m.cls := findClass_of_methodNamed Bd.named
  have hnm := (name_of_methodNamed Bd.named Bd.method).1
  have X0 : Stand p l e ({ frames := 0, cells := 0, slots := 0, locals := 0 } : Room) s m #[(.ref va)] below meth c s₁ [] 0 0 := Stand.of_body Bd
  have e0 : s₁.heap = h0 := by rw [← hh, Bd.state]; rfl
  have N0 := Fr.nil n0
  have pre0 : ∀ t, Steps p.tables e below (s₁.setTop (mkF m 0 #[.val (.ref va)] [])) t → Steps p.tables e below (s₁.setTop (entryFrame m #[(.ref va)] 1)) t := fun t k => castTop (ef_4 m va) k
  obtain ⟨T1, X1, e1, st1⟩ := getF X0 hx hZ hown (host := "") (Or.inl (hw _ (List.mem_of_getElem? (i := 14) rfl))) Via.refl e0 F_va_next (g := (mkF m 1 #[.val (.ref va)] [(.ref va)])) rfl rfl (hb hby d4_1)
  by_cases hb2 : (0 : Int32) < vn
  · obtain ⟨T3, X3, e3, st3⟩ := getF X1 hx hZ hown (host := "") (Or.inl (hw _ (List.mem_of_getElem? (i := 14) rfl))) Via.refl e1 F_va_next (g := (mkF m 15 #[.val (.ref va)] [(.ref va)])) rfl rfl (hb hby d4_15)
    obtain ⟨fs, hr, hrun, hended, hW, hsame⟩ := X3.leave (v := some (.int vn)) (fun h => by rw [Bd.returns] at h; cases h)
    refine ⟨_, _, pre0 _ ?_, hrun, hended, _, _, rfl, ?_, ⟨_, rfl⟩, hW, hsame.mono (by decide) (by decide)⟩
    · show Steps p.tables e below (s₁.setTop (mkF m 0 #[.val (.ref va)] [])) _
      refine XS.aloadN X0.here hx rfl (hb hby d4_0) rfl rfl ?_
      show Steps p.tables e below (s₁.setTop (mkF m 1 #[.val (.ref va)] [(.ref va)])) _
      refine st1 _ ?_
      show Steps p.tables e below (T1.setTop (mkF m 4 #[.val (.ref va)] [(.int vn)])) _
      refine XS.ifYes X1.here hx rfl (pc0 := 4) (pc' := 14) rfl (hb hby d4_4) rfl ((if0 _ _).trans (tlt hb2).2.2.1) (by decide) (by decide) ?_
      show Steps p.tables e below (T1.setTop (mkF m 14 #[.val (.ref va)] [])) _
      refine XS.aloadN X1.here hx rfl (hb hby d4_14) rfl rfl ?_
      show Steps p.tables e below (T1.setTop (mkF m 15 #[.val (.ref va)] [(.ref va)])) _
      refine st3 _ ?_
      show Steps p.tables e below (T3.setTop (mkF m 18 #[.val (.ref va)] [(.int vn)])) _
      refine XS.goto X3.here hx rfl (pc0 := 18) (pc' := 25) rfl (hb hby d4_18) (by decide) (by decide) ?_
      show Steps p.tables e below (T3.setTop (mkF m 25 #[.val (.ref va)] [(.int vn)])) _
      exact retI X3 hx Bd.returns (hb hby d4_25) hr
    · show Q4 Z va vn vk h0 n0 _ T3.heap _
      rw [e3]
      exact ⟨(congrArg (fun z => some (Value.int z)) (Eq.symm (if_pos hb2))), N0, rfl⟩
  · obtain ⟨T4, X4, e4, st4⟩ := getF X1 hx hZ hown (host := "") (Or.inl (hw _ (List.mem_of_getElem? (i := 16) rfl))) Via.refl e1 F_va_inKeyOrValue (g := (mkF m 8 #[.val (.ref va)] [(.ref va)])) rfl rfl (hb hby d4_8)
    by_cases hb5 : vk = (0 : Int32)
    · obtain ⟨T6, X6, e6, st6⟩ := getF X4 hx hZ hown (host := "") (Or.inl (hw _ (List.mem_of_getElem? (i := 14) rfl))) Via.refl e4 F_va_next (g := (mkF m 15 #[.val (.ref va)] [(.ref va)])) rfl rfl (hb hby d4_15)
      obtain ⟨fs, hr, hrun, hended, hW, hsame⟩ := X6.leave (v := some (.int vn)) (fun h => by rw [Bd.returns] at h; cases h)
      refine ⟨_, _, pre0 _ ?_, hrun, hended, _, _, rfl, ?_, ⟨_, rfl⟩, hW, hsame.mono (by decide) (by decide)⟩
      · show Steps p.tables e below (s₁.setTop (mkF m 0 #[.val (.ref va)] [])) _
        refine XS.aloadN X0.here hx rfl (hb hby d4_0) rfl rfl ?_
        show Steps p.tables e below (s₁.setTop (mkF m 1 #[.val (.ref va)] [(.ref va)])) _
        refine st1 _ ?_
        show Steps p.tables e below (T1.setTop (mkF m 4 #[.val (.ref va)] [(.int vn)])) _
        refine XS.ifNo X1.here hx rfl (hb hby d4_4) rfl ((if0 _ _).trans (flt hb2).2.2.1) ?_
        show Steps p.tables e below (T1.setTop (mkF m 7 #[.val (.ref va)] [])) _
        refine XS.aloadN X1.here hx rfl (hb hby d4_7) rfl rfl ?_
        show Steps p.tables e below (T1.setTop (mkF m 8 #[.val (.ref va)] [(.ref va)])) _
        refine st4 _ ?_
        show Steps p.tables e below (T4.setTop (mkF m 11 #[.val (.ref va)] [(.int vk)])) _
        refine XS.ifNo X4.here hx rfl (hb hby d4_11) rfl ((if0 _ _).trans (teq hb5).2) ?_
        show Steps p.tables e below (T4.setTop (mkF m 14 #[.val (.ref va)] [])) _
        refine XS.aloadN X4.here hx rfl (hb hby d4_14) rfl rfl ?_
        show Steps p.tables e below (T4.setTop (mkF m 15 #[.val (.ref va)] [(.ref va)])) _
        refine st6 _ ?_
        show Steps p.tables e below (T6.setTop (mkF m 18 #[.val (.ref va)] [(.int vn)])) _
        refine XS.goto X6.here hx rfl (pc0 := 18) (pc' := 25) rfl (hb hby d4_18) (by decide) (by decide) ?_
        show Steps p.tables e below (T6.setTop (mkF m 25 #[.val (.ref va)] [(.int vn)])) _
        exact retI X6 hx Bd.returns (hb hby d4_25) hr
      · show Q4 Z va vn vk h0 n0 _ T6.heap _
        rw [e6]
        exact ⟨(congrArg (fun z => some (Value.int z)) (Eq.symm (Eq.trans (if_neg hb2) (if_pos hb5)))), N0, rfl⟩
    · obtain ⟨T7, X7, e7, st7⟩ := getF X4 hx hZ hown (host := "") (Or.inl (hw _ (List.mem_of_getElem? (i := 16) rfl))) Via.refl e4 F_va_inKeyOrValue (g := (mkF m 22 #[.val (.ref va)] [(.ref va)])) rfl rfl (hb hby d4_22)
      obtain ⟨fs, hr, hrun, hended, hW, hsame⟩ := X7.leave (v := some (.int vk)) (fun h => by rw [Bd.returns] at h; cases h)
      refine ⟨_, _, pre0 _ ?_, hrun, hended, _, _, rfl, ?_, ⟨_, rfl⟩, hW, hsame.mono (by decide) (by decide)⟩
      · show Steps p.tables e below (s₁.setTop (mkF m 0 #[.val (.ref va)] [])) _
        refine XS.aloadN X0.here hx rfl (hb hby d4_0) rfl rfl ?_
        show Steps p.tables e below (s₁.setTop (mkF m 1 #[.val (.ref va)] [(.ref va)])) _
        refine st1 _ ?_
        show Steps p.tables e below (T1.setTop (mkF m 4 #[.val (.ref va)] [(.int vn)])) _
        refine XS.ifNo X1.here hx rfl (hb hby d4_4) rfl ((if0 _ _).trans (flt hb2).2.2.1) ?_
        show Steps p.tables e below (T1.setTop (mkF m 7 #[.val (.ref va)] [])) _
        refine XS.aloadN X1.here hx rfl (hb hby d4_7) rfl rfl ?_
        show Steps p.tables e below (T1.setTop (mkF m 8 #[.val (.ref va)] [(.ref va)])) _
        refine st4 _ ?_
        show Steps p.tables e below (T4.setTop (mkF m 11 #[.val (.ref va)] [(.int vk)])) _
        refine XS.ifYes X4.here hx rfl (pc0 := 11) (pc' := 21) rfl (hb hby d4_11) rfl ((if0 _ _).trans (feq hb5).2) (by decide) (by decide) ?_
        show Steps p.tables e below (T4.setTop (mkF m 21 #[.val (.ref va)] [])) _
        refine XS.aloadN X4.here hx rfl (hb hby d4_21) rfl rfl ?_
        show Steps p.tables e below (T4.setTop (mkF m 22 #[.val (.ref va)] [(.ref va)])) _
        refine st7 _ ?_
        show Steps p.tables e below (T7.setTop (mkF m 25 #[.val (.ref va)] [(.int vk)])) _
        exact retI X7 hx Bd.returns (hb hby d4_25) hr
      · show Q4 Z va vn vk h0 n0 _ T7.heap _
        rw [e7]
        exact ⟨(congrArg (fun z => some (Value.int z)) (Eq.symm (Eq.trans (if_neg hb2) (if_neg hb5)))), N0, rfl⟩
theorem pd_1 : parseMethodDescriptor "(III)V" = some ⟨[.int, .int, .int], none⟩ := by decide +kernel
theorem pd_2 : parseMethodDescriptor "()I" = some ⟨[], some .int⟩ := by decide +kernel
theorem pn_0 : plainName "com/example/ponca/ponca/store/WholeFirstPinLaw" = true := by first | (simp [plainName, overriddenIn]; done) | decide +kernel
theorem ef_0 (m : MethodId) (x1 : Int32) (x2 : Int32) (x3 : Int32) (x4 : Int32) : entryFrame m #[(.int x1), (.int x2), (.int x3), (.int x4)] maxLocals = mkF m 0 #[.val (.int x1), .val (.int x2), .val (.int x3), .val (.int x4), .unset, .unset, .unset, .unset, .unset] [] := by first | (simp [entryFrame, mkF, argsToLocals, Value.category, maxLocals]; done) | rfl
def F0 (x1 : Int32) (x2 : Int32) (x3 : Int32) (x4 : Int32) : Int32 := (if (0 : Int32) < (if (x4 &&& (3 : Int32)) = (0 : Int32) then (0 : Int32) else (if (x4 &&& (3 : Int32)) = (1 : Int32) then (-1 : Int32) else x1)) then (if (F4 ((if (x4 &&& (3 : Int32)) = (0 : Int32) then (0 : Int32) else (if (x4 &&& (3 : Int32)) = (1 : Int32) then (-1 : Int32) else x1))) ((if (x4 &&& (4 : Int32)) = (0 : Int32) then x2 else (0 : Int32)))) = (if (x4 &&& (3 : Int32)) = (0 : Int32) then (0 : Int32) else (if (x4 &&& (3 : Int32)) = (1 : Int32) then (-1 : Int32) else x1)) then (1 : Int32) else (0 : Int32)) else (if (if (x4 &&& (4 : Int32)) = (0 : Int32) then x2 else (0 : Int32)) = (0 : Int32) then (if (F4 ((if (x4 &&& (3 : Int32)) = (0 : Int32) then (0 : Int32) else (if (x4 &&& (3 : Int32)) = (1 : Int32) then (-1 : Int32) else x1))) ((if (x4 &&& (4 : Int32)) = (0 : Int32) then x2 else (0 : Int32)))) = (if (x4 &&& (3 : Int32)) = (0 : Int32) then (0 : Int32) else (if (x4 &&& (3 : Int32)) = (1 : Int32) then (-1 : Int32) else x1)) then (1 : Int32) else (0 : Int32)) else (if (F4 ((if (x4 &&& (3 : Int32)) = (0 : Int32) then (0 : Int32) else (if (x4 &&& (3 : Int32)) = (1 : Int32) then (-1 : Int32) else x1))) ((if (x4 &&& (4 : Int32)) = (0 : Int32) then x2 else (0 : Int32)))) = (if (x4 &&& (4 : Int32)) = (0 : Int32) then x2 else (0 : Int32)) then (1 : Int32) else (0 : Int32))))
def Q0 (Z : State) (x1 : Int32) (x2 : Int32) (x3 : Int32) (x4 : Int32) (h0 : Heap) (n0 : Nat) (v : Option Value) (h : Heap) (L : List Loc) : Prop := v = some (.int (F0 x1 x2 x3 x4)) ∧ Fr n0 L
set_option maxRecDepth 65536 in
set_option maxHeartbeats 40000000 in
theorem rm0 (l : Launch) (Z : State) (a0 : Array Value) (hw : ∀ d ∈ tables_1, d.before a0 Z = true) (ws : List Jvm.Cond) (x1 : Int32) (x2 : Int32) (x3 : Int32) (x4 : Int32) (h0 : Heap) (n0 : Nat) (Z0 : n0 ≤ h0.size)  :
    MetFree l x (head1 (Jvm.Cond.code x code maxLocals ret :: ws) room_1) (fun a U => a = #[(.int x1), (.int x2), (.int x3), (.int x4)] ∧ Z.Warmed39 U.vm ∧ U.heap = h0) (fun _ _ _ _ _ => True) (fun _ U o U' => ∃ v L, o = .returned v ∧ Q0 Z x1 x2 x3 x4 h0 n0 v U'.heap L ∧ FrameEnd U o U' L room_1.cells room_1.slots) := by
  refine MetFree.of_bodySF (plainFor_of_name pn_0) hisR ?_
  intro p e s m args below meth c s₁ Bd hml0 hP hK
  obtain ⟨rfl, hZ, hh⟩ := hP
  have hx := Bd.exec
  have hby := Bd.bytes
  have hml : c.maxLocals = 9 := hml0
  have hown : s.vm.findClass "com/example/ponca/ponca/store/WholeFirstPinLaw" = some m.cls := findClass_of_methodNamed Bd.named
  have hnm := (name_of_methodNamed Bd.named Bd.method).1
  have X0 : Stand p l e room_1 s m #[(.int x1), (.int x2), (.int x3), (.int x4)] below meth c s₁ [] 0 0 := Stand.of_body Bd
  have e0 : s₁.heap = h0 := by rw [← hh, Bd.state]; rfl
  have N0 := Fr.nil n0
  have pre0 : ∀ t, Steps p.tables e below (s₁.setTop (mkF m 0 #[.val (.int x1), .val (.int x2), .val (.int x3), .val (.int x4), .unset, .unset, .unset, .unset, .unset] [])) t → Steps p.tables e below (s₁.setTop (entryFrame m #[(.int x1), (.int x2), (.int x3), (.int x4)] maxLocals)) t := fun t k => castTop (ef_0 m x1 x2 x3 x4) k
  obtain ⟨T4, h4, X4, e4, E4, A4, D4, -, st4⟩ := newO X0 hx hZ hown (hw _ (List.mem_of_getElem? (i := 0) rfl)) (hw _ (List.mem_of_getElem? (i := 1) rfl)) (hw _ (List.mem_of_getElem? (i := 2) rfl)) e0 (g := (mkF m 44 #[.val (.int x1), .val (.int x2), .val (.int x3), .val (.int x4), .val (.int (x4 &&& (3 : Int32))), .val (.int (if (x4 &&& (3 : Int32)) = (0 : Int32) then (0 : Int32) else (if (x4 &&& (3 : Int32)) = (1 : Int32) then (-1 : Int32) else x1))), .val (.int (if (x4 &&& (4 : Int32)) = (0 : Int32) then x2 else (0 : Int32))), .unset, .unset] [])) rfl (hb hby at_44) (by decide) (by decide)
  obtain ⟨b4, g4⟩ : ∃ z, z = h0.size := ⟨_, rfl⟩
  rw [← g4] at A4 D4 st4
  have g_b4 : n0 ≤ b4 := Nat.le_trans Z0 (Nat.le_of_eq g4.symm)
  have Z5 : n0 ≤ h4.size := Nat.le_trans Z0 E4.1
  have F4_next : Fld Z h4 b4 "com/example/ponca/ponca/store/LogDamage$Whole" "next" "I" (.int (0 : Int32)) := D4 (Or.inr (hw _ (List.mem_of_getElem? (i := 15) rfl))) (ty := .int) (by decide)
  have F4_inKeyOrValue : Fld Z h4 b4 "com/example/ponca/ponca/store/LogDamage$Whole" "inKeyOrValue" "I" (.int (0 : Int32)) := D4 (Or.inr (hw _ (List.mem_of_getElem? (i := 17) rfl))) (ty := .int) (by decide)
  have F4_lengthEnd : Fld Z h4 b4 "com/example/ponca/ponca/store/LogDamage$Whole" "lengthEnd" "I" (.int (0 : Int32)) := D4 (Or.inr (hw _ (List.mem_of_getElem? (i := 19) rfl))) (ty := .int) (by decide)
  obtain ⟨_, _, ⟨T6, L6, k6, n6⟩, -, X6, ⟨Lc6, hQ6, l6, y6, z6⟩, st6⟩ := X4.specialBack hx (y := (⟨"com/example/ponca/ponca/store/LogDamage$Whole", "<init>", "(III)V"⟩ : MethodName)) rfl hown (mvT hZ (hw _ (List.mem_of_getElem? (i := 3) rfl))) (mvT hZ (hw _ (List.mem_of_getElem? (i := 4) rfl))) (mvT hZ (hw _ (List.mem_of_getElem? (i := 5) rfl))) (by decide) (backOf (W := 1) (rm1 l Z a0 hw [] b4 (if (x4 &&& (3 : Int32)) = (0 : Int32) then (0 : Int32) else (if (x4 &&& (3 : Int32)) = (1 : Int32) then (-1 : Int32) else x1)) (if (x4 &&& (4 : Int32)) = (0 : Int32) then x2 else (0 : Int32)) x3  h4 n0 Z5 A4 g_b4 F4_next F4_inKeyOrValue F4_lengthEnd) hZ (hw _ (List.mem_of_getElem? (i := 5) rfl)) (hw _ (List.mem_of_getElem? (i := 2) rfl)) (by decide) (by decide)) (g := (mkF m 53 #[.val (.int x1), .val (.int x2), .val (.int x3), .val (.int x4), .val (.int (x4 &&& (3 : Int32))), .val (.int (if (x4 &&& (3 : Int32)) = (0 : Int32) then (0 : Int32) else (if (x4 &&& (3 : Int32)) = (1 : Int32) then (-1 : Int32) else x1))), .val (.int (if (x4 &&& (4 : Int32)) = (0 : Int32) then x2 else (0 : Int32))), .unset, .unset] [(.int x3), (.int (if (x4 &&& (4 : Int32)) = (0 : Int32) then x2 else (0 : Int32))), (.int (if (x4 &&& (3 : Int32)) = (0 : Int32) then (0 : Int32) else (if (x4 &&& (3 : Int32)) = (1 : Int32) then (-1 : Int32) else x1))), (.ref b4), (.ref b4)])) rfl (by rw [hml]; rfl) (Steps.refl _) (a := b4) (argsL := [(.int (if (x4 &&& (3 : Int32)) = (0 : Int32) then (0 : Int32) else (if (x4 &&& (3 : Int32)) = (1 : Int32) then (-1 : Int32) else x1))), (.int (if (x4 &&& (4 : Int32)) = (0 : Int32) then x2 else (0 : Int32))), (.int x3)]) (rest := [(.ref b4)]) (lenOf pd_1 rfl) rfl (by show 2 * 0 + _ ≤ _; exact Nat.le_of_eq rfl) (hb hby at_53) (fun _ _ => ⟨rfl, e4, (by decide : 1 + 0 ≤ _), (by decide : 3 + 0 ≤ _)⟩)
  dsimp only [Pt.U, Pt.locs, Pt.cells, Pt.slots] at X6 l6 y6 z6 st6 hQ6
  subst l6 y6 z6
  obtain ⟨rfl, N6q, Q6_0, Q6_1, Q6_2, Q6_3, Q6_4⟩ := hQ6
  have Z7 : n0 ≤ T6.heap.size := Nat.le_trans Z5 Q6_0.1
  have E8_b4 := A4.keep Q6_0
  have N6 := Fr.app N0 N6q
  obtain ⟨cq12, kq12, q12a, q12b, q12c⟩ := isOf hZ rfl Q6_1
  obtain ⟨_, _, ⟨T12, L12, k12, n12⟩, -, X12, ⟨Lc12, hQ12, l12, y12, z12⟩, st12⟩ := X6.virtualBack hx (y := (⟨"com/example/ponca/ponca/store/LogDamage$Whole", "first", "()I"⟩ : MethodName)) (z := (⟨"com/example/ponca/ponca/store/LogDamage$Whole", "first", "()I"⟩ : MethodName)) hown (mvT hZ (hw _ (List.mem_of_getElem? (i := 20) rfl))) (mvT hZ (hw _ (List.mem_of_getElem? (i := 21) rfl))) (notFace_of_selects (args := #[]) (mvT hZ (hw _ (List.mem_of_getElem? (i := 23) rfl)))) (mvT hZ (hw _ (List.mem_of_getElem? (i := 23) rfl))) (mvT hZ (hw _ (List.mem_of_getElem? (i := 22) rfl))) (by decide) (backOf (W := 0) (rm4 l Z a0 hw [] b4 ((if (x4 &&& (3 : Int32)) = (0 : Int32) then (0 : Int32) else (if (x4 &&& (3 : Int32)) = (1 : Int32) then (-1 : Int32) else x1))) ((if (x4 &&& (4 : Int32)) = (0 : Int32) then x2 else (0 : Int32))) T6.heap n0 Z7 Q6_2 Q6_3) hZ (hw _ (List.mem_of_getElem? (i := 24) rfl)) (hw _ (List.mem_of_getElem? (i := 2) rfl)) (by decide) (by decide)) q12a q12c (g := (mkF m 60 #[.val (.int x1), .val (.int x2), .val (.int x3), .val (.int x4), .val (.int (x4 &&& (3 : Int32))), .val (.int (if (x4 &&& (3 : Int32)) = (0 : Int32) then (0 : Int32) else (if (x4 &&& (3 : Int32)) = (1 : Int32) then (-1 : Int32) else x1))), .val (.int (if (x4 &&& (4 : Int32)) = (0 : Int32) then x2 else (0 : Int32))), .val (.ref b4), .unset] [(.ref b4)])) rfl (by rw [hml]; rfl) (Steps.refl _) (argsL := []) (rest := []) (lenOf pd_2 rfl) rfl (by show 2 * 0 + _ ≤ _; exact Nat.le_of_eq rfl) (hb hby at_60) (fun _ _ => ⟨rfl, rfl, (by decide : 1 + 0 ≤ _), (by decide : 3 + 0 ≤ _)⟩)
  dsimp only [Pt.U, Pt.locs, Pt.cells, Pt.slots] at X12 l12 y12 z12 st12 hQ12
  subst l12 y12 z12
  obtain ⟨rfl, N12q, e12⟩ := hQ12
  have N12 := Fr.app N6 N12q
  by_cases hb13 : (0 : Int32) < (if (x4 &&& (3 : Int32)) = (0 : Int32) then (0 : Int32) else (if (x4 &&& (3 : Int32)) = (1 : Int32) then (-1 : Int32) else x1))
  · obtain ⟨fs, hr, hrun, hended, hW, hsame⟩ := X12.leave (v := some (.int (if (F4 ((if (x4 &&& (3 : Int32)) = (0 : Int32) then (0 : Int32) else (if (x4 &&& (3 : Int32)) = (1 : Int32) then (-1 : Int32) else x1))) ((if (x4 &&& (4 : Int32)) = (0 : Int32) then x2 else (0 : Int32)))) = (if (x4 &&& (3 : Int32)) = (0 : Int32) then (0 : Int32) else (if (x4 &&& (3 : Int32)) = (1 : Int32) then (-1 : Int32) else x1)) then (1 : Int32) else (0 : Int32)))) (fun h => by rw [Bd.returns] at h; cases h)
    refine ⟨_, _, pre0 _ ?_, hrun, hended, _, _, rfl, ?_, ⟨_, rfl⟩, hW, hsame.mono (by decide) (by decide)⟩
    · show Steps p.tables e below (s₁.setTop (mkF m 0 #[.val (.int x1), .val (.int x2), .val (.int x3), .val (.int x4), .unset, .unset, .unset, .unset, .unset] [])) _
      refine XS.iloadN X0.here hx rfl (hb hby at_0) rfl ?_
      show Steps p.tables e below (s₁.setTop (mkF m 1 #[.val (.int x1), .val (.int x2), .val (.int x3), .val (.int x4), .unset, .unset, .unset, .unset, .unset] [(.int x4)])) _
      refine XS.iconst X0.here hx rfl (hb hby at_1) ?_
      show Steps p.tables e below (s₁.setTop (mkF m 2 #[.val (.int x1), .val (.int x2), .val (.int x3), .val (.int x4), .unset, .unset, .unset, .unset, .unset] [(.int (3 : Int32)), (.int x4)])) _
      refine XS.iand X0.here hx rfl (hb hby at_2) rfl ?_
      show Steps p.tables e below (s₁.setTop (mkF m 3 #[.val (.int x1), .val (.int x2), .val (.int x3), .val (.int x4), .unset, .unset, .unset, .unset, .unset] [(.int (x4 &&& (3 : Int32)))])) _
      refine XS.istore X0.here hx rfl (hb hby at_3) rfl (l' := #[.val (.int x1), .val (.int x2), .val (.int x3), .val (.int x4), .val (.int (x4 &&& (3 : Int32))), .unset, .unset, .unset, .unset]) rfl ?_
      show Steps p.tables e below (s₁.setTop (mkF m 5 #[.val (.int x1), .val (.int x2), .val (.int x3), .val (.int x4), .val (.int (x4 &&& (3 : Int32))), .unset, .unset, .unset, .unset] [])) _
      refine XS.iload X0.here hx rfl (hb hby at_5) rfl ?_
      show Steps p.tables e below (s₁.setTop (mkF m 7 #[.val (.int x1), .val (.int x2), .val (.int x3), .val (.int x4), .val (.int (x4 &&& (3 : Int32))), .unset, .unset, .unset, .unset] [(.int (x4 &&& (3 : Int32)))])) _
      refine own_dia (u := ((0 : Int32) : Int32)) (v := (if (x4 &&& (3 : Int32)) = (1 : Int32) then (-1 : Int32) else x1)) ((x4 &&& (3 : Int32)) = (0 : Int32)) (fun z1 => (mkF m 31 #[.val (.int x1), .val (.int x2), .val (.int x3), .val (.int x4), .val (.int (x4 &&& (3 : Int32))), .val (.int z1), .unset, .unset, .unset] [])) (fun hc1 k1 => ?_) (fun hc1 k1 => ?_) ?_
      · refine XS.ifNo X0.here hx rfl (hb hby at_7) rfl ((if0 _ _).trans (teq hc1).2) ?_
        show Steps p.tables e below (s₁.setTop (mkF m 10 #[.val (.int x1), .val (.int x2), .val (.int x3), .val (.int x4), .val (.int (x4 &&& (3 : Int32))), .unset, .unset, .unset, .unset] [])) _
        refine XS.iconst X0.here hx rfl (hb hby at_10) ?_
        show Steps p.tables e below (s₁.setTop (mkF m 11 #[.val (.int x1), .val (.int x2), .val (.int x3), .val (.int x4), .val (.int (x4 &&& (3 : Int32))), .unset, .unset, .unset, .unset] [(.int (0 : Int32))])) _
        refine XS.istore X0.here hx rfl (hb hby at_11) rfl (l' := #[.val (.int x1), .val (.int x2), .val (.int x3), .val (.int x4), .val (.int (x4 &&& (3 : Int32))), .val (.int (0 : Int32)), .unset, .unset, .unset]) rfl ?_
        show Steps p.tables e below (s₁.setTop (mkF m 13 #[.val (.int x1), .val (.int x2), .val (.int x3), .val (.int x4), .val (.int (x4 &&& (3 : Int32))), .val (.int (0 : Int32)), .unset, .unset, .unset] [])) _
        refine XS.goto X0.here hx rfl (pc0 := 13) (pc' := 31) rfl (hb hby at_13) (by decide) (by decide) ?_
        exact k1
      · refine XS.ifYes X0.here hx rfl (pc0 := 7) (pc' := 16) rfl (hb hby at_7) rfl ((if0 _ _).trans (feq hc1).2) (by decide) (by decide) ?_
        show Steps p.tables e below (s₁.setTop (mkF m 16 #[.val (.int x1), .val (.int x2), .val (.int x3), .val (.int x4), .val (.int (x4 &&& (3 : Int32))), .unset, .unset, .unset, .unset] [])) _
        refine XS.iload X0.here hx rfl (hb hby at_16) rfl ?_
        show Steps p.tables e below (s₁.setTop (mkF m 18 #[.val (.int x1), .val (.int x2), .val (.int x3), .val (.int x4), .val (.int (x4 &&& (3 : Int32))), .unset, .unset, .unset, .unset] [(.int (x4 &&& (3 : Int32)))])) _
        refine XS.iconst X0.here hx rfl (hb hby at_18) ?_
        show Steps p.tables e below (s₁.setTop (mkF m 19 #[.val (.int x1), .val (.int x2), .val (.int x3), .val (.int x4), .val (.int (x4 &&& (3 : Int32))), .unset, .unset, .unset, .unset] [(.int (1 : Int32)), (.int (x4 &&& (3 : Int32)))])) _
        refine own_dia (u := ((-1 : Int32) : Int32)) (v := x1) ((x4 &&& (3 : Int32)) = (1 : Int32)) (fun z2 => (mkF m 31 #[.val (.int x1), .val (.int x2), .val (.int x3), .val (.int x4), .val (.int (x4 &&& (3 : Int32))), .val (.int z2), .unset, .unset, .unset] [])) (fun hc2 k2 => ?_) (fun hc2 k2 => ?_) ?_
        · refine XS.icmpNo X0.here hx rfl (hb hby at_19) rfl (teq hc2).2 ?_
          show Steps p.tables e below (s₁.setTop (mkF m 22 #[.val (.int x1), .val (.int x2), .val (.int x3), .val (.int x4), .val (.int (x4 &&& (3 : Int32))), .unset, .unset, .unset, .unset] [])) _
          refine XS.iconst X0.here hx rfl (hb hby at_22) ?_
          show Steps p.tables e below (s₁.setTop (mkF m 23 #[.val (.int x1), .val (.int x2), .val (.int x3), .val (.int x4), .val (.int (x4 &&& (3 : Int32))), .unset, .unset, .unset, .unset] [(.int (-1 : Int32))])) _
          refine XS.istore X0.here hx rfl (hb hby at_23) rfl (l' := #[.val (.int x1), .val (.int x2), .val (.int x3), .val (.int x4), .val (.int (x4 &&& (3 : Int32))), .val (.int (-1 : Int32)), .unset, .unset, .unset]) rfl ?_
          show Steps p.tables e below (s₁.setTop (mkF m 25 #[.val (.int x1), .val (.int x2), .val (.int x3), .val (.int x4), .val (.int (x4 &&& (3 : Int32))), .val (.int (-1 : Int32)), .unset, .unset, .unset] [])) _
          refine XS.goto X0.here hx rfl (pc0 := 25) (pc' := 31) rfl (hb hby at_25) (by decide) (by decide) ?_
          exact k2
        · refine XS.icmpYes X0.here hx rfl (pc0 := 19) (pc' := 28) rfl (hb hby at_19) rfl (feq hc2).2 (by decide) (by decide) ?_
          show Steps p.tables e below (s₁.setTop (mkF m 28 #[.val (.int x1), .val (.int x2), .val (.int x3), .val (.int x4), .val (.int (x4 &&& (3 : Int32))), .unset, .unset, .unset, .unset] [])) _
          refine XS.iloadN X0.here hx rfl (hb hby at_28) rfl ?_
          show Steps p.tables e below (s₁.setTop (mkF m 29 #[.val (.int x1), .val (.int x2), .val (.int x3), .val (.int x4), .val (.int (x4 &&& (3 : Int32))), .unset, .unset, .unset, .unset] [(.int x1)])) _
          refine XS.istore X0.here hx rfl (hb hby at_29) rfl (l' := #[.val (.int x1), .val (.int x2), .val (.int x3), .val (.int x4), .val (.int (x4 &&& (3 : Int32))), .val (.int x1), .unset, .unset, .unset]) rfl ?_
          exact k2
        -- meets at 31
        exact k1
      -- meets at 31
      show Steps p.tables e below (s₁.setTop (mkF m 31 #[.val (.int x1), .val (.int x2), .val (.int x3), .val (.int x4), .val (.int (x4 &&& (3 : Int32))), .val (.int (if (x4 &&& (3 : Int32)) = (0 : Int32) then (0 : Int32) else (if (x4 &&& (3 : Int32)) = (1 : Int32) then (-1 : Int32) else x1))), .unset, .unset, .unset] [])) _
      refine XS.iloadN X0.here hx rfl (hb hby at_31) rfl ?_
      show Steps p.tables e below (s₁.setTop (mkF m 32 #[.val (.int x1), .val (.int x2), .val (.int x3), .val (.int x4), .val (.int (x4 &&& (3 : Int32))), .val (.int (if (x4 &&& (3 : Int32)) = (0 : Int32) then (0 : Int32) else (if (x4 &&& (3 : Int32)) = (1 : Int32) then (-1 : Int32) else x1))), .unset, .unset, .unset] [(.int x4)])) _
      refine XS.iconst X0.here hx rfl (hb hby at_32) ?_
      show Steps p.tables e below (s₁.setTop (mkF m 33 #[.val (.int x1), .val (.int x2), .val (.int x3), .val (.int x4), .val (.int (x4 &&& (3 : Int32))), .val (.int (if (x4 &&& (3 : Int32)) = (0 : Int32) then (0 : Int32) else (if (x4 &&& (3 : Int32)) = (1 : Int32) then (-1 : Int32) else x1))), .unset, .unset, .unset] [(.int (4 : Int32)), (.int x4)])) _
      refine XS.iand X0.here hx rfl (hb hby at_33) rfl ?_
      show Steps p.tables e below (s₁.setTop (mkF m 34 #[.val (.int x1), .val (.int x2), .val (.int x3), .val (.int x4), .val (.int (x4 &&& (3 : Int32))), .val (.int (if (x4 &&& (3 : Int32)) = (0 : Int32) then (0 : Int32) else (if (x4 &&& (3 : Int32)) = (1 : Int32) then (-1 : Int32) else x1))), .unset, .unset, .unset] [(.int (x4 &&& (4 : Int32)))])) _
      refine own_dia (u := (x2 : Int32)) (v := (0 : Int32)) ((x4 &&& (4 : Int32)) = (0 : Int32)) (fun z3 => (mkF m 42 #[.val (.int x1), .val (.int x2), .val (.int x3), .val (.int x4), .val (.int (x4 &&& (3 : Int32))), .val (.int (if (x4 &&& (3 : Int32)) = (0 : Int32) then (0 : Int32) else (if (x4 &&& (3 : Int32)) = (1 : Int32) then (-1 : Int32) else x1))), .unset, .unset, .unset] [(.int z3)])) (fun hc3 k3 => ?_) (fun hc3 k3 => ?_) ?_
      · refine XS.ifYes X0.here hx rfl (pc0 := 34) (pc' := 41) rfl (hb hby at_34) rfl ((if0 _ _).trans (teq hc3).1) (by decide) (by decide) ?_
        show Steps p.tables e below (s₁.setTop (mkF m 41 #[.val (.int x1), .val (.int x2), .val (.int x3), .val (.int x4), .val (.int (x4 &&& (3 : Int32))), .val (.int (if (x4 &&& (3 : Int32)) = (0 : Int32) then (0 : Int32) else (if (x4 &&& (3 : Int32)) = (1 : Int32) then (-1 : Int32) else x1))), .unset, .unset, .unset] [])) _
        refine XS.iloadN X0.here hx rfl (hb hby at_41) rfl ?_
        exact k3
      · refine XS.ifNo X0.here hx rfl (hb hby at_34) rfl ((if0 _ _).trans (feq hc3).1) ?_
        show Steps p.tables e below (s₁.setTop (mkF m 37 #[.val (.int x1), .val (.int x2), .val (.int x3), .val (.int x4), .val (.int (x4 &&& (3 : Int32))), .val (.int (if (x4 &&& (3 : Int32)) = (0 : Int32) then (0 : Int32) else (if (x4 &&& (3 : Int32)) = (1 : Int32) then (-1 : Int32) else x1))), .unset, .unset, .unset] [])) _
        refine XS.iconst X0.here hx rfl (hb hby at_37) ?_
        show Steps p.tables e below (s₁.setTop (mkF m 38 #[.val (.int x1), .val (.int x2), .val (.int x3), .val (.int x4), .val (.int (x4 &&& (3 : Int32))), .val (.int (if (x4 &&& (3 : Int32)) = (0 : Int32) then (0 : Int32) else (if (x4 &&& (3 : Int32)) = (1 : Int32) then (-1 : Int32) else x1))), .unset, .unset, .unset] [(.int (0 : Int32))])) _
        refine XS.goto X0.here hx rfl (pc0 := 38) (pc' := 42) rfl (hb hby at_38) (by decide) (by decide) ?_
        exact k3
      -- meets at 42
      show Steps p.tables e below (s₁.setTop (mkF m 42 #[.val (.int x1), .val (.int x2), .val (.int x3), .val (.int x4), .val (.int (x4 &&& (3 : Int32))), .val (.int (if (x4 &&& (3 : Int32)) = (0 : Int32) then (0 : Int32) else (if (x4 &&& (3 : Int32)) = (1 : Int32) then (-1 : Int32) else x1))), .unset, .unset, .unset] [(.int (if (x4 &&& (4 : Int32)) = (0 : Int32) then x2 else (0 : Int32)))])) _
      refine XS.istore X0.here hx rfl (hb hby at_42) rfl (l' := #[.val (.int x1), .val (.int x2), .val (.int x3), .val (.int x4), .val (.int (x4 &&& (3 : Int32))), .val (.int (if (x4 &&& (3 : Int32)) = (0 : Int32) then (0 : Int32) else (if (x4 &&& (3 : Int32)) = (1 : Int32) then (-1 : Int32) else x1))), .val (.int (if (x4 &&& (4 : Int32)) = (0 : Int32) then x2 else (0 : Int32))), .unset, .unset]) rfl ?_
      show Steps p.tables e below (s₁.setTop (mkF m 44 #[.val (.int x1), .val (.int x2), .val (.int x3), .val (.int x4), .val (.int (x4 &&& (3 : Int32))), .val (.int (if (x4 &&& (3 : Int32)) = (0 : Int32) then (0 : Int32) else (if (x4 &&& (3 : Int32)) = (1 : Int32) then (-1 : Int32) else x1))), .val (.int (if (x4 &&& (4 : Int32)) = (0 : Int32) then x2 else (0 : Int32))), .unset, .unset] [])) _
      refine st4 _ ?_
      show Steps p.tables e below (T4.setTop (mkF m 47 #[.val (.int x1), .val (.int x2), .val (.int x3), .val (.int x4), .val (.int (x4 &&& (3 : Int32))), .val (.int (if (x4 &&& (3 : Int32)) = (0 : Int32) then (0 : Int32) else (if (x4 &&& (3 : Int32)) = (1 : Int32) then (-1 : Int32) else x1))), .val (.int (if (x4 &&& (4 : Int32)) = (0 : Int32) then x2 else (0 : Int32))), .unset, .unset] [(.ref b4)])) _
      refine XS.dup X4.here hx rfl (hb hby at_47) rfl rfl ?_
      show Steps p.tables e below (T4.setTop (mkF m 48 #[.val (.int x1), .val (.int x2), .val (.int x3), .val (.int x4), .val (.int (x4 &&& (3 : Int32))), .val (.int (if (x4 &&& (3 : Int32)) = (0 : Int32) then (0 : Int32) else (if (x4 &&& (3 : Int32)) = (1 : Int32) then (-1 : Int32) else x1))), .val (.int (if (x4 &&& (4 : Int32)) = (0 : Int32) then x2 else (0 : Int32))), .unset, .unset] [(.ref b4), (.ref b4)])) _
      refine XS.iload X4.here hx rfl (hb hby at_48) rfl ?_
      show Steps p.tables e below (T4.setTop (mkF m 50 #[.val (.int x1), .val (.int x2), .val (.int x3), .val (.int x4), .val (.int (x4 &&& (3 : Int32))), .val (.int (if (x4 &&& (3 : Int32)) = (0 : Int32) then (0 : Int32) else (if (x4 &&& (3 : Int32)) = (1 : Int32) then (-1 : Int32) else x1))), .val (.int (if (x4 &&& (4 : Int32)) = (0 : Int32) then x2 else (0 : Int32))), .unset, .unset] [(.int (if (x4 &&& (3 : Int32)) = (0 : Int32) then (0 : Int32) else (if (x4 &&& (3 : Int32)) = (1 : Int32) then (-1 : Int32) else x1))), (.ref b4), (.ref b4)])) _
      refine XS.iload X4.here hx rfl (hb hby at_50) rfl ?_
      show Steps p.tables e below (T4.setTop (mkF m 52 #[.val (.int x1), .val (.int x2), .val (.int x3), .val (.int x4), .val (.int (x4 &&& (3 : Int32))), .val (.int (if (x4 &&& (3 : Int32)) = (0 : Int32) then (0 : Int32) else (if (x4 &&& (3 : Int32)) = (1 : Int32) then (-1 : Int32) else x1))), .val (.int (if (x4 &&& (4 : Int32)) = (0 : Int32) then x2 else (0 : Int32))), .unset, .unset] [(.int (if (x4 &&& (4 : Int32)) = (0 : Int32) then x2 else (0 : Int32))), (.int (if (x4 &&& (3 : Int32)) = (0 : Int32) then (0 : Int32) else (if (x4 &&& (3 : Int32)) = (1 : Int32) then (-1 : Int32) else x1))), (.ref b4), (.ref b4)])) _
      refine XS.iloadN X4.here hx rfl (hb hby at_52) rfl ?_
      show Steps p.tables e below (T4.setTop (mkF m 53 #[.val (.int x1), .val (.int x2), .val (.int x3), .val (.int x4), .val (.int (x4 &&& (3 : Int32))), .val (.int (if (x4 &&& (3 : Int32)) = (0 : Int32) then (0 : Int32) else (if (x4 &&& (3 : Int32)) = (1 : Int32) then (-1 : Int32) else x1))), .val (.int (if (x4 &&& (4 : Int32)) = (0 : Int32) then x2 else (0 : Int32))), .unset, .unset] [(.int x3), (.int (if (x4 &&& (4 : Int32)) = (0 : Int32) then x2 else (0 : Int32))), (.int (if (x4 &&& (3 : Int32)) = (0 : Int32) then (0 : Int32) else (if (x4 &&& (3 : Int32)) = (1 : Int32) then (-1 : Int32) else x1))), (.ref b4), (.ref b4)])) _
      refine st6.trans ?_
      show Steps p.tables e below (T6.setTop (mkF m 56 #[.val (.int x1), .val (.int x2), .val (.int x3), .val (.int x4), .val (.int (x4 &&& (3 : Int32))), .val (.int (if (x4 &&& (3 : Int32)) = (0 : Int32) then (0 : Int32) else (if (x4 &&& (3 : Int32)) = (1 : Int32) then (-1 : Int32) else x1))), .val (.int (if (x4 &&& (4 : Int32)) = (0 : Int32) then x2 else (0 : Int32))), .unset, .unset] [(.ref b4)])) _
      refine XS.astore X6.here hx rfl (hb hby at_56) rfl rfl (l' := #[.val (.int x1), .val (.int x2), .val (.int x3), .val (.int x4), .val (.int (x4 &&& (3 : Int32))), .val (.int (if (x4 &&& (3 : Int32)) = (0 : Int32) then (0 : Int32) else (if (x4 &&& (3 : Int32)) = (1 : Int32) then (-1 : Int32) else x1))), .val (.int (if (x4 &&& (4 : Int32)) = (0 : Int32) then x2 else (0 : Int32))), .val (.ref b4), .unset]) rfl ?_
      show Steps p.tables e below (T6.setTop (mkF m 58 #[.val (.int x1), .val (.int x2), .val (.int x3), .val (.int x4), .val (.int (x4 &&& (3 : Int32))), .val (.int (if (x4 &&& (3 : Int32)) = (0 : Int32) then (0 : Int32) else (if (x4 &&& (3 : Int32)) = (1 : Int32) then (-1 : Int32) else x1))), .val (.int (if (x4 &&& (4 : Int32)) = (0 : Int32) then x2 else (0 : Int32))), .val (.ref b4), .unset] [])) _
      refine XS.aload X6.here hx rfl (hb hby at_58) rfl rfl ?_
      show Steps p.tables e below (T6.setTop (mkF m 60 #[.val (.int x1), .val (.int x2), .val (.int x3), .val (.int x4), .val (.int (x4 &&& (3 : Int32))), .val (.int (if (x4 &&& (3 : Int32)) = (0 : Int32) then (0 : Int32) else (if (x4 &&& (3 : Int32)) = (1 : Int32) then (-1 : Int32) else x1))), .val (.int (if (x4 &&& (4 : Int32)) = (0 : Int32) then x2 else (0 : Int32))), .val (.ref b4), .unset] [(.ref b4)])) _
      refine st12.trans ?_
      show Steps p.tables e below (T12.setTop (mkF m 63 #[.val (.int x1), .val (.int x2), .val (.int x3), .val (.int x4), .val (.int (x4 &&& (3 : Int32))), .val (.int (if (x4 &&& (3 : Int32)) = (0 : Int32) then (0 : Int32) else (if (x4 &&& (3 : Int32)) = (1 : Int32) then (-1 : Int32) else x1))), .val (.int (if (x4 &&& (4 : Int32)) = (0 : Int32) then x2 else (0 : Int32))), .val (.ref b4), .unset] [(.int (F4 ((if (x4 &&& (3 : Int32)) = (0 : Int32) then (0 : Int32) else (if (x4 &&& (3 : Int32)) = (1 : Int32) then (-1 : Int32) else x1))) ((if (x4 &&& (4 : Int32)) = (0 : Int32) then x2 else (0 : Int32)))))])) _
      refine XS.istore X12.here hx rfl (hb hby at_63) rfl (l' := #[.val (.int x1), .val (.int x2), .val (.int x3), .val (.int x4), .val (.int (x4 &&& (3 : Int32))), .val (.int (if (x4 &&& (3 : Int32)) = (0 : Int32) then (0 : Int32) else (if (x4 &&& (3 : Int32)) = (1 : Int32) then (-1 : Int32) else x1))), .val (.int (if (x4 &&& (4 : Int32)) = (0 : Int32) then x2 else (0 : Int32))), .val (.ref b4), .val (.int (F4 ((if (x4 &&& (3 : Int32)) = (0 : Int32) then (0 : Int32) else (if (x4 &&& (3 : Int32)) = (1 : Int32) then (-1 : Int32) else x1))) ((if (x4 &&& (4 : Int32)) = (0 : Int32) then x2 else (0 : Int32)))))]) rfl ?_
      show Steps p.tables e below (T12.setTop (mkF m 65 #[.val (.int x1), .val (.int x2), .val (.int x3), .val (.int x4), .val (.int (x4 &&& (3 : Int32))), .val (.int (if (x4 &&& (3 : Int32)) = (0 : Int32) then (0 : Int32) else (if (x4 &&& (3 : Int32)) = (1 : Int32) then (-1 : Int32) else x1))), .val (.int (if (x4 &&& (4 : Int32)) = (0 : Int32) then x2 else (0 : Int32))), .val (.ref b4), .val (.int (F4 ((if (x4 &&& (3 : Int32)) = (0 : Int32) then (0 : Int32) else (if (x4 &&& (3 : Int32)) = (1 : Int32) then (-1 : Int32) else x1))) ((if (x4 &&& (4 : Int32)) = (0 : Int32) then x2 else (0 : Int32)))))] [])) _
      refine XS.iload X12.here hx rfl (hb hby at_65) rfl ?_
      show Steps p.tables e below (T12.setTop (mkF m 67 #[.val (.int x1), .val (.int x2), .val (.int x3), .val (.int x4), .val (.int (x4 &&& (3 : Int32))), .val (.int (if (x4 &&& (3 : Int32)) = (0 : Int32) then (0 : Int32) else (if (x4 &&& (3 : Int32)) = (1 : Int32) then (-1 : Int32) else x1))), .val (.int (if (x4 &&& (4 : Int32)) = (0 : Int32) then x2 else (0 : Int32))), .val (.ref b4), .val (.int (F4 ((if (x4 &&& (3 : Int32)) = (0 : Int32) then (0 : Int32) else (if (x4 &&& (3 : Int32)) = (1 : Int32) then (-1 : Int32) else x1))) ((if (x4 &&& (4 : Int32)) = (0 : Int32) then x2 else (0 : Int32)))))] [(.int (if (x4 &&& (3 : Int32)) = (0 : Int32) then (0 : Int32) else (if (x4 &&& (3 : Int32)) = (1 : Int32) then (-1 : Int32) else x1)))])) _
      refine XS.ifNo X12.here hx rfl (hb hby at_67) rfl ((if0 _ _).trans (tlt hb13).2.2.2) ?_
      show Steps p.tables e below (T12.setTop (mkF m 70 #[.val (.int x1), .val (.int x2), .val (.int x3), .val (.int x4), .val (.int (x4 &&& (3 : Int32))), .val (.int (if (x4 &&& (3 : Int32)) = (0 : Int32) then (0 : Int32) else (if (x4 &&& (3 : Int32)) = (1 : Int32) then (-1 : Int32) else x1))), .val (.int (if (x4 &&& (4 : Int32)) = (0 : Int32) then x2 else (0 : Int32))), .val (.ref b4), .val (.int (F4 ((if (x4 &&& (3 : Int32)) = (0 : Int32) then (0 : Int32) else (if (x4 &&& (3 : Int32)) = (1 : Int32) then (-1 : Int32) else x1))) ((if (x4 &&& (4 : Int32)) = (0 : Int32) then x2 else (0 : Int32)))))] [])) _
      refine XS.iload X12.here hx rfl (hb hby at_70) rfl ?_
      show Steps p.tables e below (T12.setTop (mkF m 72 #[.val (.int x1), .val (.int x2), .val (.int x3), .val (.int x4), .val (.int (x4 &&& (3 : Int32))), .val (.int (if (x4 &&& (3 : Int32)) = (0 : Int32) then (0 : Int32) else (if (x4 &&& (3 : Int32)) = (1 : Int32) then (-1 : Int32) else x1))), .val (.int (if (x4 &&& (4 : Int32)) = (0 : Int32) then x2 else (0 : Int32))), .val (.ref b4), .val (.int (F4 ((if (x4 &&& (3 : Int32)) = (0 : Int32) then (0 : Int32) else (if (x4 &&& (3 : Int32)) = (1 : Int32) then (-1 : Int32) else x1))) ((if (x4 &&& (4 : Int32)) = (0 : Int32) then x2 else (0 : Int32)))))] [(.int (F4 ((if (x4 &&& (3 : Int32)) = (0 : Int32) then (0 : Int32) else (if (x4 &&& (3 : Int32)) = (1 : Int32) then (-1 : Int32) else x1))) ((if (x4 &&& (4 : Int32)) = (0 : Int32) then x2 else (0 : Int32)))))])) _
      refine XS.iload X12.here hx rfl (hb hby at_72) rfl ?_
      show Steps p.tables e below (T12.setTop (mkF m 74 #[.val (.int x1), .val (.int x2), .val (.int x3), .val (.int x4), .val (.int (x4 &&& (3 : Int32))), .val (.int (if (x4 &&& (3 : Int32)) = (0 : Int32) then (0 : Int32) else (if (x4 &&& (3 : Int32)) = (1 : Int32) then (-1 : Int32) else x1))), .val (.int (if (x4 &&& (4 : Int32)) = (0 : Int32) then x2 else (0 : Int32))), .val (.ref b4), .val (.int (F4 ((if (x4 &&& (3 : Int32)) = (0 : Int32) then (0 : Int32) else (if (x4 &&& (3 : Int32)) = (1 : Int32) then (-1 : Int32) else x1))) ((if (x4 &&& (4 : Int32)) = (0 : Int32) then x2 else (0 : Int32)))))] [(.int (if (x4 &&& (3 : Int32)) = (0 : Int32) then (0 : Int32) else (if (x4 &&& (3 : Int32)) = (1 : Int32) then (-1 : Int32) else x1))), (.int (F4 ((if (x4 &&& (3 : Int32)) = (0 : Int32) then (0 : Int32) else (if (x4 &&& (3 : Int32)) = (1 : Int32) then (-1 : Int32) else x1))) ((if (x4 &&& (4 : Int32)) = (0 : Int32) then x2 else (0 : Int32)))))])) _
      refine own_dia (u := ((1 : Int32) : Int32)) (v := (0 : Int32)) ((F4 ((if (x4 &&& (3 : Int32)) = (0 : Int32) then (0 : Int32) else (if (x4 &&& (3 : Int32)) = (1 : Int32) then (-1 : Int32) else x1))) ((if (x4 &&& (4 : Int32)) = (0 : Int32) then x2 else (0 : Int32)))) = (if (x4 &&& (3 : Int32)) = (0 : Int32) then (0 : Int32) else (if (x4 &&& (3 : Int32)) = (1 : Int32) then (-1 : Int32) else x1))) (fun z14 => (mkF m 82 #[.val (.int x1), .val (.int x2), .val (.int x3), .val (.int x4), .val (.int (x4 &&& (3 : Int32))), .val (.int (if (x4 &&& (3 : Int32)) = (0 : Int32) then (0 : Int32) else (if (x4 &&& (3 : Int32)) = (1 : Int32) then (-1 : Int32) else x1))), .val (.int (if (x4 &&& (4 : Int32)) = (0 : Int32) then x2 else (0 : Int32))), .val (.ref b4), .val (.int (F4 ((if (x4 &&& (3 : Int32)) = (0 : Int32) then (0 : Int32) else (if (x4 &&& (3 : Int32)) = (1 : Int32) then (-1 : Int32) else x1))) ((if (x4 &&& (4 : Int32)) = (0 : Int32) then x2 else (0 : Int32)))))] [(.int z14)])) (fun hc14 k14 => ?_) (fun hc14 k14 => ?_) ?_
      · refine XS.icmpNo X12.here hx rfl (hb hby at_74) rfl (teq hc14).2 ?_
        show Steps p.tables e below (T12.setTop (mkF m 77 #[.val (.int x1), .val (.int x2), .val (.int x3), .val (.int x4), .val (.int (x4 &&& (3 : Int32))), .val (.int (if (x4 &&& (3 : Int32)) = (0 : Int32) then (0 : Int32) else (if (x4 &&& (3 : Int32)) = (1 : Int32) then (-1 : Int32) else x1))), .val (.int (if (x4 &&& (4 : Int32)) = (0 : Int32) then x2 else (0 : Int32))), .val (.ref b4), .val (.int (F4 ((if (x4 &&& (3 : Int32)) = (0 : Int32) then (0 : Int32) else (if (x4 &&& (3 : Int32)) = (1 : Int32) then (-1 : Int32) else x1))) ((if (x4 &&& (4 : Int32)) = (0 : Int32) then x2 else (0 : Int32)))))] [])) _
        refine XS.iconst X12.here hx rfl (hb hby at_77) ?_
        show Steps p.tables e below (T12.setTop (mkF m 78 #[.val (.int x1), .val (.int x2), .val (.int x3), .val (.int x4), .val (.int (x4 &&& (3 : Int32))), .val (.int (if (x4 &&& (3 : Int32)) = (0 : Int32) then (0 : Int32) else (if (x4 &&& (3 : Int32)) = (1 : Int32) then (-1 : Int32) else x1))), .val (.int (if (x4 &&& (4 : Int32)) = (0 : Int32) then x2 else (0 : Int32))), .val (.ref b4), .val (.int (F4 ((if (x4 &&& (3 : Int32)) = (0 : Int32) then (0 : Int32) else (if (x4 &&& (3 : Int32)) = (1 : Int32) then (-1 : Int32) else x1))) ((if (x4 &&& (4 : Int32)) = (0 : Int32) then x2 else (0 : Int32)))))] [(.int (1 : Int32))])) _
        refine XS.goto X12.here hx rfl (pc0 := 78) (pc' := 82) rfl (hb hby at_78) (by decide) (by decide) ?_
        exact k14
      · refine XS.icmpYes X12.here hx rfl (pc0 := 74) (pc' := 81) rfl (hb hby at_74) rfl (feq hc14).2 (by decide) (by decide) ?_
        show Steps p.tables e below (T12.setTop (mkF m 81 #[.val (.int x1), .val (.int x2), .val (.int x3), .val (.int x4), .val (.int (x4 &&& (3 : Int32))), .val (.int (if (x4 &&& (3 : Int32)) = (0 : Int32) then (0 : Int32) else (if (x4 &&& (3 : Int32)) = (1 : Int32) then (-1 : Int32) else x1))), .val (.int (if (x4 &&& (4 : Int32)) = (0 : Int32) then x2 else (0 : Int32))), .val (.ref b4), .val (.int (F4 ((if (x4 &&& (3 : Int32)) = (0 : Int32) then (0 : Int32) else (if (x4 &&& (3 : Int32)) = (1 : Int32) then (-1 : Int32) else x1))) ((if (x4 &&& (4 : Int32)) = (0 : Int32) then x2 else (0 : Int32)))))] [])) _
        refine XS.iconst X12.here hx rfl (hb hby at_81) ?_
        exact k14
      -- meets at 82
      show Steps p.tables e below (T12.setTop (mkF m 82 #[.val (.int x1), .val (.int x2), .val (.int x3), .val (.int x4), .val (.int (x4 &&& (3 : Int32))), .val (.int (if (x4 &&& (3 : Int32)) = (0 : Int32) then (0 : Int32) else (if (x4 &&& (3 : Int32)) = (1 : Int32) then (-1 : Int32) else x1))), .val (.int (if (x4 &&& (4 : Int32)) = (0 : Int32) then x2 else (0 : Int32))), .val (.ref b4), .val (.int (F4 ((if (x4 &&& (3 : Int32)) = (0 : Int32) then (0 : Int32) else (if (x4 &&& (3 : Int32)) = (1 : Int32) then (-1 : Int32) else x1))) ((if (x4 &&& (4 : Int32)) = (0 : Int32) then x2 else (0 : Int32)))))] [(.int (if (F4 ((if (x4 &&& (3 : Int32)) = (0 : Int32) then (0 : Int32) else (if (x4 &&& (3 : Int32)) = (1 : Int32) then (-1 : Int32) else x1))) ((if (x4 &&& (4 : Int32)) = (0 : Int32) then x2 else (0 : Int32)))) = (if (x4 &&& (3 : Int32)) = (0 : Int32) then (0 : Int32) else (if (x4 &&& (3 : Int32)) = (1 : Int32) then (-1 : Int32) else x1)) then (1 : Int32) else (0 : Int32)))])) _
      exact retN X12 hx (t := .boolean) Bd.returns (by simp) (hb hby at_82) (by rw [own_nb (own_b01 (Or.inr rfl) (Or.inl rfl))]; exact hr)
    · show Q0 Z x1 x2 x3 x4 h0 n0 _ T12.heap _
      rw [e12]
      exact ⟨(congrArg (fun z => some (Value.int z)) (Eq.symm (if_pos hb13))), N12⟩
  · by_cases hb15 : (if (x4 &&& (4 : Int32)) = (0 : Int32) then x2 else (0 : Int32)) = (0 : Int32)
    · obtain ⟨fs, hr, hrun, hended, hW, hsame⟩ := X12.leave (v := some (.int (if (F4 ((if (x4 &&& (3 : Int32)) = (0 : Int32) then (0 : Int32) else (if (x4 &&& (3 : Int32)) = (1 : Int32) then (-1 : Int32) else x1))) ((if (x4 &&& (4 : Int32)) = (0 : Int32) then x2 else (0 : Int32)))) = (if (x4 &&& (3 : Int32)) = (0 : Int32) then (0 : Int32) else (if (x4 &&& (3 : Int32)) = (1 : Int32) then (-1 : Int32) else x1)) then (1 : Int32) else (0 : Int32)))) (fun h => by rw [Bd.returns] at h; cases h)
      refine ⟨_, _, pre0 _ ?_, hrun, hended, _, _, rfl, ?_, ⟨_, rfl⟩, hW, hsame.mono (by decide) (by decide)⟩
      · show Steps p.tables e below (s₁.setTop (mkF m 0 #[.val (.int x1), .val (.int x2), .val (.int x3), .val (.int x4), .unset, .unset, .unset, .unset, .unset] [])) _
        refine XS.iloadN X0.here hx rfl (hb hby at_0) rfl ?_
        show Steps p.tables e below (s₁.setTop (mkF m 1 #[.val (.int x1), .val (.int x2), .val (.int x3), .val (.int x4), .unset, .unset, .unset, .unset, .unset] [(.int x4)])) _
        refine XS.iconst X0.here hx rfl (hb hby at_1) ?_
        show Steps p.tables e below (s₁.setTop (mkF m 2 #[.val (.int x1), .val (.int x2), .val (.int x3), .val (.int x4), .unset, .unset, .unset, .unset, .unset] [(.int (3 : Int32)), (.int x4)])) _
        refine XS.iand X0.here hx rfl (hb hby at_2) rfl ?_
        show Steps p.tables e below (s₁.setTop (mkF m 3 #[.val (.int x1), .val (.int x2), .val (.int x3), .val (.int x4), .unset, .unset, .unset, .unset, .unset] [(.int (x4 &&& (3 : Int32)))])) _
        refine XS.istore X0.here hx rfl (hb hby at_3) rfl (l' := #[.val (.int x1), .val (.int x2), .val (.int x3), .val (.int x4), .val (.int (x4 &&& (3 : Int32))), .unset, .unset, .unset, .unset]) rfl ?_
        show Steps p.tables e below (s₁.setTop (mkF m 5 #[.val (.int x1), .val (.int x2), .val (.int x3), .val (.int x4), .val (.int (x4 &&& (3 : Int32))), .unset, .unset, .unset, .unset] [])) _
        refine XS.iload X0.here hx rfl (hb hby at_5) rfl ?_
        show Steps p.tables e below (s₁.setTop (mkF m 7 #[.val (.int x1), .val (.int x2), .val (.int x3), .val (.int x4), .val (.int (x4 &&& (3 : Int32))), .unset, .unset, .unset, .unset] [(.int (x4 &&& (3 : Int32)))])) _
        refine own_dia (u := ((0 : Int32) : Int32)) (v := (if (x4 &&& (3 : Int32)) = (1 : Int32) then (-1 : Int32) else x1)) ((x4 &&& (3 : Int32)) = (0 : Int32)) (fun z1 => (mkF m 31 #[.val (.int x1), .val (.int x2), .val (.int x3), .val (.int x4), .val (.int (x4 &&& (3 : Int32))), .val (.int z1), .unset, .unset, .unset] [])) (fun hc1 k1 => ?_) (fun hc1 k1 => ?_) ?_
        · refine XS.ifNo X0.here hx rfl (hb hby at_7) rfl ((if0 _ _).trans (teq hc1).2) ?_
          show Steps p.tables e below (s₁.setTop (mkF m 10 #[.val (.int x1), .val (.int x2), .val (.int x3), .val (.int x4), .val (.int (x4 &&& (3 : Int32))), .unset, .unset, .unset, .unset] [])) _
          refine XS.iconst X0.here hx rfl (hb hby at_10) ?_
          show Steps p.tables e below (s₁.setTop (mkF m 11 #[.val (.int x1), .val (.int x2), .val (.int x3), .val (.int x4), .val (.int (x4 &&& (3 : Int32))), .unset, .unset, .unset, .unset] [(.int (0 : Int32))])) _
          refine XS.istore X0.here hx rfl (hb hby at_11) rfl (l' := #[.val (.int x1), .val (.int x2), .val (.int x3), .val (.int x4), .val (.int (x4 &&& (3 : Int32))), .val (.int (0 : Int32)), .unset, .unset, .unset]) rfl ?_
          show Steps p.tables e below (s₁.setTop (mkF m 13 #[.val (.int x1), .val (.int x2), .val (.int x3), .val (.int x4), .val (.int (x4 &&& (3 : Int32))), .val (.int (0 : Int32)), .unset, .unset, .unset] [])) _
          refine XS.goto X0.here hx rfl (pc0 := 13) (pc' := 31) rfl (hb hby at_13) (by decide) (by decide) ?_
          exact k1
        · refine XS.ifYes X0.here hx rfl (pc0 := 7) (pc' := 16) rfl (hb hby at_7) rfl ((if0 _ _).trans (feq hc1).2) (by decide) (by decide) ?_
          show Steps p.tables e below (s₁.setTop (mkF m 16 #[.val (.int x1), .val (.int x2), .val (.int x3), .val (.int x4), .val (.int (x4 &&& (3 : Int32))), .unset, .unset, .unset, .unset] [])) _
          refine XS.iload X0.here hx rfl (hb hby at_16) rfl ?_
          show Steps p.tables e below (s₁.setTop (mkF m 18 #[.val (.int x1), .val (.int x2), .val (.int x3), .val (.int x4), .val (.int (x4 &&& (3 : Int32))), .unset, .unset, .unset, .unset] [(.int (x4 &&& (3 : Int32)))])) _
          refine XS.iconst X0.here hx rfl (hb hby at_18) ?_
          show Steps p.tables e below (s₁.setTop (mkF m 19 #[.val (.int x1), .val (.int x2), .val (.int x3), .val (.int x4), .val (.int (x4 &&& (3 : Int32))), .unset, .unset, .unset, .unset] [(.int (1 : Int32)), (.int (x4 &&& (3 : Int32)))])) _
          refine own_dia (u := ((-1 : Int32) : Int32)) (v := x1) ((x4 &&& (3 : Int32)) = (1 : Int32)) (fun z2 => (mkF m 31 #[.val (.int x1), .val (.int x2), .val (.int x3), .val (.int x4), .val (.int (x4 &&& (3 : Int32))), .val (.int z2), .unset, .unset, .unset] [])) (fun hc2 k2 => ?_) (fun hc2 k2 => ?_) ?_
          · refine XS.icmpNo X0.here hx rfl (hb hby at_19) rfl (teq hc2).2 ?_
            show Steps p.tables e below (s₁.setTop (mkF m 22 #[.val (.int x1), .val (.int x2), .val (.int x3), .val (.int x4), .val (.int (x4 &&& (3 : Int32))), .unset, .unset, .unset, .unset] [])) _
            refine XS.iconst X0.here hx rfl (hb hby at_22) ?_
            show Steps p.tables e below (s₁.setTop (mkF m 23 #[.val (.int x1), .val (.int x2), .val (.int x3), .val (.int x4), .val (.int (x4 &&& (3 : Int32))), .unset, .unset, .unset, .unset] [(.int (-1 : Int32))])) _
            refine XS.istore X0.here hx rfl (hb hby at_23) rfl (l' := #[.val (.int x1), .val (.int x2), .val (.int x3), .val (.int x4), .val (.int (x4 &&& (3 : Int32))), .val (.int (-1 : Int32)), .unset, .unset, .unset]) rfl ?_
            show Steps p.tables e below (s₁.setTop (mkF m 25 #[.val (.int x1), .val (.int x2), .val (.int x3), .val (.int x4), .val (.int (x4 &&& (3 : Int32))), .val (.int (-1 : Int32)), .unset, .unset, .unset] [])) _
            refine XS.goto X0.here hx rfl (pc0 := 25) (pc' := 31) rfl (hb hby at_25) (by decide) (by decide) ?_
            exact k2
          · refine XS.icmpYes X0.here hx rfl (pc0 := 19) (pc' := 28) rfl (hb hby at_19) rfl (feq hc2).2 (by decide) (by decide) ?_
            show Steps p.tables e below (s₁.setTop (mkF m 28 #[.val (.int x1), .val (.int x2), .val (.int x3), .val (.int x4), .val (.int (x4 &&& (3 : Int32))), .unset, .unset, .unset, .unset] [])) _
            refine XS.iloadN X0.here hx rfl (hb hby at_28) rfl ?_
            show Steps p.tables e below (s₁.setTop (mkF m 29 #[.val (.int x1), .val (.int x2), .val (.int x3), .val (.int x4), .val (.int (x4 &&& (3 : Int32))), .unset, .unset, .unset, .unset] [(.int x1)])) _
            refine XS.istore X0.here hx rfl (hb hby at_29) rfl (l' := #[.val (.int x1), .val (.int x2), .val (.int x3), .val (.int x4), .val (.int (x4 &&& (3 : Int32))), .val (.int x1), .unset, .unset, .unset]) rfl ?_
            exact k2
          -- meets at 31
          exact k1
        -- meets at 31
        show Steps p.tables e below (s₁.setTop (mkF m 31 #[.val (.int x1), .val (.int x2), .val (.int x3), .val (.int x4), .val (.int (x4 &&& (3 : Int32))), .val (.int (if (x4 &&& (3 : Int32)) = (0 : Int32) then (0 : Int32) else (if (x4 &&& (3 : Int32)) = (1 : Int32) then (-1 : Int32) else x1))), .unset, .unset, .unset] [])) _
        refine XS.iloadN X0.here hx rfl (hb hby at_31) rfl ?_
        show Steps p.tables e below (s₁.setTop (mkF m 32 #[.val (.int x1), .val (.int x2), .val (.int x3), .val (.int x4), .val (.int (x4 &&& (3 : Int32))), .val (.int (if (x4 &&& (3 : Int32)) = (0 : Int32) then (0 : Int32) else (if (x4 &&& (3 : Int32)) = (1 : Int32) then (-1 : Int32) else x1))), .unset, .unset, .unset] [(.int x4)])) _
        refine XS.iconst X0.here hx rfl (hb hby at_32) ?_
        show Steps p.tables e below (s₁.setTop (mkF m 33 #[.val (.int x1), .val (.int x2), .val (.int x3), .val (.int x4), .val (.int (x4 &&& (3 : Int32))), .val (.int (if (x4 &&& (3 : Int32)) = (0 : Int32) then (0 : Int32) else (if (x4 &&& (3 : Int32)) = (1 : Int32) then (-1 : Int32) else x1))), .unset, .unset, .unset] [(.int (4 : Int32)), (.int x4)])) _
        refine XS.iand X0.here hx rfl (hb hby at_33) rfl ?_
        show Steps p.tables e below (s₁.setTop (mkF m 34 #[.val (.int x1), .val (.int x2), .val (.int x3), .val (.int x4), .val (.int (x4 &&& (3 : Int32))), .val (.int (if (x4 &&& (3 : Int32)) = (0 : Int32) then (0 : Int32) else (if (x4 &&& (3 : Int32)) = (1 : Int32) then (-1 : Int32) else x1))), .unset, .unset, .unset] [(.int (x4 &&& (4 : Int32)))])) _
        refine own_dia (u := (x2 : Int32)) (v := (0 : Int32)) ((x4 &&& (4 : Int32)) = (0 : Int32)) (fun z3 => (mkF m 42 #[.val (.int x1), .val (.int x2), .val (.int x3), .val (.int x4), .val (.int (x4 &&& (3 : Int32))), .val (.int (if (x4 &&& (3 : Int32)) = (0 : Int32) then (0 : Int32) else (if (x4 &&& (3 : Int32)) = (1 : Int32) then (-1 : Int32) else x1))), .unset, .unset, .unset] [(.int z3)])) (fun hc3 k3 => ?_) (fun hc3 k3 => ?_) ?_
        · refine XS.ifYes X0.here hx rfl (pc0 := 34) (pc' := 41) rfl (hb hby at_34) rfl ((if0 _ _).trans (teq hc3).1) (by decide) (by decide) ?_
          show Steps p.tables e below (s₁.setTop (mkF m 41 #[.val (.int x1), .val (.int x2), .val (.int x3), .val (.int x4), .val (.int (x4 &&& (3 : Int32))), .val (.int (if (x4 &&& (3 : Int32)) = (0 : Int32) then (0 : Int32) else (if (x4 &&& (3 : Int32)) = (1 : Int32) then (-1 : Int32) else x1))), .unset, .unset, .unset] [])) _
          refine XS.iloadN X0.here hx rfl (hb hby at_41) rfl ?_
          exact k3
        · refine XS.ifNo X0.here hx rfl (hb hby at_34) rfl ((if0 _ _).trans (feq hc3).1) ?_
          show Steps p.tables e below (s₁.setTop (mkF m 37 #[.val (.int x1), .val (.int x2), .val (.int x3), .val (.int x4), .val (.int (x4 &&& (3 : Int32))), .val (.int (if (x4 &&& (3 : Int32)) = (0 : Int32) then (0 : Int32) else (if (x4 &&& (3 : Int32)) = (1 : Int32) then (-1 : Int32) else x1))), .unset, .unset, .unset] [])) _
          refine XS.iconst X0.here hx rfl (hb hby at_37) ?_
          show Steps p.tables e below (s₁.setTop (mkF m 38 #[.val (.int x1), .val (.int x2), .val (.int x3), .val (.int x4), .val (.int (x4 &&& (3 : Int32))), .val (.int (if (x4 &&& (3 : Int32)) = (0 : Int32) then (0 : Int32) else (if (x4 &&& (3 : Int32)) = (1 : Int32) then (-1 : Int32) else x1))), .unset, .unset, .unset] [(.int (0 : Int32))])) _
          refine XS.goto X0.here hx rfl (pc0 := 38) (pc' := 42) rfl (hb hby at_38) (by decide) (by decide) ?_
          exact k3
        -- meets at 42
        show Steps p.tables e below (s₁.setTop (mkF m 42 #[.val (.int x1), .val (.int x2), .val (.int x3), .val (.int x4), .val (.int (x4 &&& (3 : Int32))), .val (.int (if (x4 &&& (3 : Int32)) = (0 : Int32) then (0 : Int32) else (if (x4 &&& (3 : Int32)) = (1 : Int32) then (-1 : Int32) else x1))), .unset, .unset, .unset] [(.int (if (x4 &&& (4 : Int32)) = (0 : Int32) then x2 else (0 : Int32)))])) _
        refine XS.istore X0.here hx rfl (hb hby at_42) rfl (l' := #[.val (.int x1), .val (.int x2), .val (.int x3), .val (.int x4), .val (.int (x4 &&& (3 : Int32))), .val (.int (if (x4 &&& (3 : Int32)) = (0 : Int32) then (0 : Int32) else (if (x4 &&& (3 : Int32)) = (1 : Int32) then (-1 : Int32) else x1))), .val (.int (if (x4 &&& (4 : Int32)) = (0 : Int32) then x2 else (0 : Int32))), .unset, .unset]) rfl ?_
        show Steps p.tables e below (s₁.setTop (mkF m 44 #[.val (.int x1), .val (.int x2), .val (.int x3), .val (.int x4), .val (.int (x4 &&& (3 : Int32))), .val (.int (if (x4 &&& (3 : Int32)) = (0 : Int32) then (0 : Int32) else (if (x4 &&& (3 : Int32)) = (1 : Int32) then (-1 : Int32) else x1))), .val (.int (if (x4 &&& (4 : Int32)) = (0 : Int32) then x2 else (0 : Int32))), .unset, .unset] [])) _
        refine st4 _ ?_
        show Steps p.tables e below (T4.setTop (mkF m 47 #[.val (.int x1), .val (.int x2), .val (.int x3), .val (.int x4), .val (.int (x4 &&& (3 : Int32))), .val (.int (if (x4 &&& (3 : Int32)) = (0 : Int32) then (0 : Int32) else (if (x4 &&& (3 : Int32)) = (1 : Int32) then (-1 : Int32) else x1))), .val (.int (if (x4 &&& (4 : Int32)) = (0 : Int32) then x2 else (0 : Int32))), .unset, .unset] [(.ref b4)])) _
        refine XS.dup X4.here hx rfl (hb hby at_47) rfl rfl ?_
        show Steps p.tables e below (T4.setTop (mkF m 48 #[.val (.int x1), .val (.int x2), .val (.int x3), .val (.int x4), .val (.int (x4 &&& (3 : Int32))), .val (.int (if (x4 &&& (3 : Int32)) = (0 : Int32) then (0 : Int32) else (if (x4 &&& (3 : Int32)) = (1 : Int32) then (-1 : Int32) else x1))), .val (.int (if (x4 &&& (4 : Int32)) = (0 : Int32) then x2 else (0 : Int32))), .unset, .unset] [(.ref b4), (.ref b4)])) _
        refine XS.iload X4.here hx rfl (hb hby at_48) rfl ?_
        show Steps p.tables e below (T4.setTop (mkF m 50 #[.val (.int x1), .val (.int x2), .val (.int x3), .val (.int x4), .val (.int (x4 &&& (3 : Int32))), .val (.int (if (x4 &&& (3 : Int32)) = (0 : Int32) then (0 : Int32) else (if (x4 &&& (3 : Int32)) = (1 : Int32) then (-1 : Int32) else x1))), .val (.int (if (x4 &&& (4 : Int32)) = (0 : Int32) then x2 else (0 : Int32))), .unset, .unset] [(.int (if (x4 &&& (3 : Int32)) = (0 : Int32) then (0 : Int32) else (if (x4 &&& (3 : Int32)) = (1 : Int32) then (-1 : Int32) else x1))), (.ref b4), (.ref b4)])) _
        refine XS.iload X4.here hx rfl (hb hby at_50) rfl ?_
        show Steps p.tables e below (T4.setTop (mkF m 52 #[.val (.int x1), .val (.int x2), .val (.int x3), .val (.int x4), .val (.int (x4 &&& (3 : Int32))), .val (.int (if (x4 &&& (3 : Int32)) = (0 : Int32) then (0 : Int32) else (if (x4 &&& (3 : Int32)) = (1 : Int32) then (-1 : Int32) else x1))), .val (.int (if (x4 &&& (4 : Int32)) = (0 : Int32) then x2 else (0 : Int32))), .unset, .unset] [(.int (if (x4 &&& (4 : Int32)) = (0 : Int32) then x2 else (0 : Int32))), (.int (if (x4 &&& (3 : Int32)) = (0 : Int32) then (0 : Int32) else (if (x4 &&& (3 : Int32)) = (1 : Int32) then (-1 : Int32) else x1))), (.ref b4), (.ref b4)])) _
        refine XS.iloadN X4.here hx rfl (hb hby at_52) rfl ?_
        show Steps p.tables e below (T4.setTop (mkF m 53 #[.val (.int x1), .val (.int x2), .val (.int x3), .val (.int x4), .val (.int (x4 &&& (3 : Int32))), .val (.int (if (x4 &&& (3 : Int32)) = (0 : Int32) then (0 : Int32) else (if (x4 &&& (3 : Int32)) = (1 : Int32) then (-1 : Int32) else x1))), .val (.int (if (x4 &&& (4 : Int32)) = (0 : Int32) then x2 else (0 : Int32))), .unset, .unset] [(.int x3), (.int (if (x4 &&& (4 : Int32)) = (0 : Int32) then x2 else (0 : Int32))), (.int (if (x4 &&& (3 : Int32)) = (0 : Int32) then (0 : Int32) else (if (x4 &&& (3 : Int32)) = (1 : Int32) then (-1 : Int32) else x1))), (.ref b4), (.ref b4)])) _
        refine st6.trans ?_
        show Steps p.tables e below (T6.setTop (mkF m 56 #[.val (.int x1), .val (.int x2), .val (.int x3), .val (.int x4), .val (.int (x4 &&& (3 : Int32))), .val (.int (if (x4 &&& (3 : Int32)) = (0 : Int32) then (0 : Int32) else (if (x4 &&& (3 : Int32)) = (1 : Int32) then (-1 : Int32) else x1))), .val (.int (if (x4 &&& (4 : Int32)) = (0 : Int32) then x2 else (0 : Int32))), .unset, .unset] [(.ref b4)])) _
        refine XS.astore X6.here hx rfl (hb hby at_56) rfl rfl (l' := #[.val (.int x1), .val (.int x2), .val (.int x3), .val (.int x4), .val (.int (x4 &&& (3 : Int32))), .val (.int (if (x4 &&& (3 : Int32)) = (0 : Int32) then (0 : Int32) else (if (x4 &&& (3 : Int32)) = (1 : Int32) then (-1 : Int32) else x1))), .val (.int (if (x4 &&& (4 : Int32)) = (0 : Int32) then x2 else (0 : Int32))), .val (.ref b4), .unset]) rfl ?_
        show Steps p.tables e below (T6.setTop (mkF m 58 #[.val (.int x1), .val (.int x2), .val (.int x3), .val (.int x4), .val (.int (x4 &&& (3 : Int32))), .val (.int (if (x4 &&& (3 : Int32)) = (0 : Int32) then (0 : Int32) else (if (x4 &&& (3 : Int32)) = (1 : Int32) then (-1 : Int32) else x1))), .val (.int (if (x4 &&& (4 : Int32)) = (0 : Int32) then x2 else (0 : Int32))), .val (.ref b4), .unset] [])) _
        refine XS.aload X6.here hx rfl (hb hby at_58) rfl rfl ?_
        show Steps p.tables e below (T6.setTop (mkF m 60 #[.val (.int x1), .val (.int x2), .val (.int x3), .val (.int x4), .val (.int (x4 &&& (3 : Int32))), .val (.int (if (x4 &&& (3 : Int32)) = (0 : Int32) then (0 : Int32) else (if (x4 &&& (3 : Int32)) = (1 : Int32) then (-1 : Int32) else x1))), .val (.int (if (x4 &&& (4 : Int32)) = (0 : Int32) then x2 else (0 : Int32))), .val (.ref b4), .unset] [(.ref b4)])) _
        refine st12.trans ?_
        show Steps p.tables e below (T12.setTop (mkF m 63 #[.val (.int x1), .val (.int x2), .val (.int x3), .val (.int x4), .val (.int (x4 &&& (3 : Int32))), .val (.int (if (x4 &&& (3 : Int32)) = (0 : Int32) then (0 : Int32) else (if (x4 &&& (3 : Int32)) = (1 : Int32) then (-1 : Int32) else x1))), .val (.int (if (x4 &&& (4 : Int32)) = (0 : Int32) then x2 else (0 : Int32))), .val (.ref b4), .unset] [(.int (F4 ((if (x4 &&& (3 : Int32)) = (0 : Int32) then (0 : Int32) else (if (x4 &&& (3 : Int32)) = (1 : Int32) then (-1 : Int32) else x1))) ((if (x4 &&& (4 : Int32)) = (0 : Int32) then x2 else (0 : Int32)))))])) _
        refine XS.istore X12.here hx rfl (hb hby at_63) rfl (l' := #[.val (.int x1), .val (.int x2), .val (.int x3), .val (.int x4), .val (.int (x4 &&& (3 : Int32))), .val (.int (if (x4 &&& (3 : Int32)) = (0 : Int32) then (0 : Int32) else (if (x4 &&& (3 : Int32)) = (1 : Int32) then (-1 : Int32) else x1))), .val (.int (if (x4 &&& (4 : Int32)) = (0 : Int32) then x2 else (0 : Int32))), .val (.ref b4), .val (.int (F4 ((if (x4 &&& (3 : Int32)) = (0 : Int32) then (0 : Int32) else (if (x4 &&& (3 : Int32)) = (1 : Int32) then (-1 : Int32) else x1))) ((if (x4 &&& (4 : Int32)) = (0 : Int32) then x2 else (0 : Int32)))))]) rfl ?_
        show Steps p.tables e below (T12.setTop (mkF m 65 #[.val (.int x1), .val (.int x2), .val (.int x3), .val (.int x4), .val (.int (x4 &&& (3 : Int32))), .val (.int (if (x4 &&& (3 : Int32)) = (0 : Int32) then (0 : Int32) else (if (x4 &&& (3 : Int32)) = (1 : Int32) then (-1 : Int32) else x1))), .val (.int (if (x4 &&& (4 : Int32)) = (0 : Int32) then x2 else (0 : Int32))), .val (.ref b4), .val (.int (F4 ((if (x4 &&& (3 : Int32)) = (0 : Int32) then (0 : Int32) else (if (x4 &&& (3 : Int32)) = (1 : Int32) then (-1 : Int32) else x1))) ((if (x4 &&& (4 : Int32)) = (0 : Int32) then x2 else (0 : Int32)))))] [])) _
        refine XS.iload X12.here hx rfl (hb hby at_65) rfl ?_
        show Steps p.tables e below (T12.setTop (mkF m 67 #[.val (.int x1), .val (.int x2), .val (.int x3), .val (.int x4), .val (.int (x4 &&& (3 : Int32))), .val (.int (if (x4 &&& (3 : Int32)) = (0 : Int32) then (0 : Int32) else (if (x4 &&& (3 : Int32)) = (1 : Int32) then (-1 : Int32) else x1))), .val (.int (if (x4 &&& (4 : Int32)) = (0 : Int32) then x2 else (0 : Int32))), .val (.ref b4), .val (.int (F4 ((if (x4 &&& (3 : Int32)) = (0 : Int32) then (0 : Int32) else (if (x4 &&& (3 : Int32)) = (1 : Int32) then (-1 : Int32) else x1))) ((if (x4 &&& (4 : Int32)) = (0 : Int32) then x2 else (0 : Int32)))))] [(.int (if (x4 &&& (3 : Int32)) = (0 : Int32) then (0 : Int32) else (if (x4 &&& (3 : Int32)) = (1 : Int32) then (-1 : Int32) else x1)))])) _
        refine XS.ifYes X12.here hx rfl (pc0 := 67) (pc' := 83) rfl (hb hby at_67) rfl ((if0 _ _).trans (flt hb13).2.2.2) (by decide) (by decide) ?_
        show Steps p.tables e below (T12.setTop (mkF m 83 #[.val (.int x1), .val (.int x2), .val (.int x3), .val (.int x4), .val (.int (x4 &&& (3 : Int32))), .val (.int (if (x4 &&& (3 : Int32)) = (0 : Int32) then (0 : Int32) else (if (x4 &&& (3 : Int32)) = (1 : Int32) then (-1 : Int32) else x1))), .val (.int (if (x4 &&& (4 : Int32)) = (0 : Int32) then x2 else (0 : Int32))), .val (.ref b4), .val (.int (F4 ((if (x4 &&& (3 : Int32)) = (0 : Int32) then (0 : Int32) else (if (x4 &&& (3 : Int32)) = (1 : Int32) then (-1 : Int32) else x1))) ((if (x4 &&& (4 : Int32)) = (0 : Int32) then x2 else (0 : Int32)))))] [])) _
        refine XS.iload X12.here hx rfl (hb hby at_83) rfl ?_
        show Steps p.tables e below (T12.setTop (mkF m 85 #[.val (.int x1), .val (.int x2), .val (.int x3), .val (.int x4), .val (.int (x4 &&& (3 : Int32))), .val (.int (if (x4 &&& (3 : Int32)) = (0 : Int32) then (0 : Int32) else (if (x4 &&& (3 : Int32)) = (1 : Int32) then (-1 : Int32) else x1))), .val (.int (if (x4 &&& (4 : Int32)) = (0 : Int32) then x2 else (0 : Int32))), .val (.ref b4), .val (.int (F4 ((if (x4 &&& (3 : Int32)) = (0 : Int32) then (0 : Int32) else (if (x4 &&& (3 : Int32)) = (1 : Int32) then (-1 : Int32) else x1))) ((if (x4 &&& (4 : Int32)) = (0 : Int32) then x2 else (0 : Int32)))))] [(.int (if (x4 &&& (4 : Int32)) = (0 : Int32) then x2 else (0 : Int32)))])) _
        refine XS.ifYes X12.here hx rfl (pc0 := 85) (pc' := 101) rfl (hb hby at_85) rfl ((if0 _ _).trans (teq hb15).1) (by decide) (by decide) ?_
        show Steps p.tables e below (T12.setTop (mkF m 101 #[.val (.int x1), .val (.int x2), .val (.int x3), .val (.int x4), .val (.int (x4 &&& (3 : Int32))), .val (.int (if (x4 &&& (3 : Int32)) = (0 : Int32) then (0 : Int32) else (if (x4 &&& (3 : Int32)) = (1 : Int32) then (-1 : Int32) else x1))), .val (.int (if (x4 &&& (4 : Int32)) = (0 : Int32) then x2 else (0 : Int32))), .val (.ref b4), .val (.int (F4 ((if (x4 &&& (3 : Int32)) = (0 : Int32) then (0 : Int32) else (if (x4 &&& (3 : Int32)) = (1 : Int32) then (-1 : Int32) else x1))) ((if (x4 &&& (4 : Int32)) = (0 : Int32) then x2 else (0 : Int32)))))] [])) _
        refine XS.iload X12.here hx rfl (hb hby at_101) rfl ?_
        show Steps p.tables e below (T12.setTop (mkF m 103 #[.val (.int x1), .val (.int x2), .val (.int x3), .val (.int x4), .val (.int (x4 &&& (3 : Int32))), .val (.int (if (x4 &&& (3 : Int32)) = (0 : Int32) then (0 : Int32) else (if (x4 &&& (3 : Int32)) = (1 : Int32) then (-1 : Int32) else x1))), .val (.int (if (x4 &&& (4 : Int32)) = (0 : Int32) then x2 else (0 : Int32))), .val (.ref b4), .val (.int (F4 ((if (x4 &&& (3 : Int32)) = (0 : Int32) then (0 : Int32) else (if (x4 &&& (3 : Int32)) = (1 : Int32) then (-1 : Int32) else x1))) ((if (x4 &&& (4 : Int32)) = (0 : Int32) then x2 else (0 : Int32)))))] [(.int (F4 ((if (x4 &&& (3 : Int32)) = (0 : Int32) then (0 : Int32) else (if (x4 &&& (3 : Int32)) = (1 : Int32) then (-1 : Int32) else x1))) ((if (x4 &&& (4 : Int32)) = (0 : Int32) then x2 else (0 : Int32)))))])) _
        refine XS.iload X12.here hx rfl (hb hby at_103) rfl ?_
        show Steps p.tables e below (T12.setTop (mkF m 105 #[.val (.int x1), .val (.int x2), .val (.int x3), .val (.int x4), .val (.int (x4 &&& (3 : Int32))), .val (.int (if (x4 &&& (3 : Int32)) = (0 : Int32) then (0 : Int32) else (if (x4 &&& (3 : Int32)) = (1 : Int32) then (-1 : Int32) else x1))), .val (.int (if (x4 &&& (4 : Int32)) = (0 : Int32) then x2 else (0 : Int32))), .val (.ref b4), .val (.int (F4 ((if (x4 &&& (3 : Int32)) = (0 : Int32) then (0 : Int32) else (if (x4 &&& (3 : Int32)) = (1 : Int32) then (-1 : Int32) else x1))) ((if (x4 &&& (4 : Int32)) = (0 : Int32) then x2 else (0 : Int32)))))] [(.int (if (x4 &&& (3 : Int32)) = (0 : Int32) then (0 : Int32) else (if (x4 &&& (3 : Int32)) = (1 : Int32) then (-1 : Int32) else x1))), (.int (F4 ((if (x4 &&& (3 : Int32)) = (0 : Int32) then (0 : Int32) else (if (x4 &&& (3 : Int32)) = (1 : Int32) then (-1 : Int32) else x1))) ((if (x4 &&& (4 : Int32)) = (0 : Int32) then x2 else (0 : Int32)))))])) _
        refine own_dia (u := ((1 : Int32) : Int32)) (v := (0 : Int32)) ((F4 ((if (x4 &&& (3 : Int32)) = (0 : Int32) then (0 : Int32) else (if (x4 &&& (3 : Int32)) = (1 : Int32) then (-1 : Int32) else x1))) ((if (x4 &&& (4 : Int32)) = (0 : Int32) then x2 else (0 : Int32)))) = (if (x4 &&& (3 : Int32)) = (0 : Int32) then (0 : Int32) else (if (x4 &&& (3 : Int32)) = (1 : Int32) then (-1 : Int32) else x1))) (fun z16 => (mkF m 113 #[.val (.int x1), .val (.int x2), .val (.int x3), .val (.int x4), .val (.int (x4 &&& (3 : Int32))), .val (.int (if (x4 &&& (3 : Int32)) = (0 : Int32) then (0 : Int32) else (if (x4 &&& (3 : Int32)) = (1 : Int32) then (-1 : Int32) else x1))), .val (.int (if (x4 &&& (4 : Int32)) = (0 : Int32) then x2 else (0 : Int32))), .val (.ref b4), .val (.int (F4 ((if (x4 &&& (3 : Int32)) = (0 : Int32) then (0 : Int32) else (if (x4 &&& (3 : Int32)) = (1 : Int32) then (-1 : Int32) else x1))) ((if (x4 &&& (4 : Int32)) = (0 : Int32) then x2 else (0 : Int32)))))] [(.int z16)])) (fun hc16 k16 => ?_) (fun hc16 k16 => ?_) ?_
        · refine XS.icmpNo X12.here hx rfl (hb hby at_105) rfl (teq hc16).2 ?_
          show Steps p.tables e below (T12.setTop (mkF m 108 #[.val (.int x1), .val (.int x2), .val (.int x3), .val (.int x4), .val (.int (x4 &&& (3 : Int32))), .val (.int (if (x4 &&& (3 : Int32)) = (0 : Int32) then (0 : Int32) else (if (x4 &&& (3 : Int32)) = (1 : Int32) then (-1 : Int32) else x1))), .val (.int (if (x4 &&& (4 : Int32)) = (0 : Int32) then x2 else (0 : Int32))), .val (.ref b4), .val (.int (F4 ((if (x4 &&& (3 : Int32)) = (0 : Int32) then (0 : Int32) else (if (x4 &&& (3 : Int32)) = (1 : Int32) then (-1 : Int32) else x1))) ((if (x4 &&& (4 : Int32)) = (0 : Int32) then x2 else (0 : Int32)))))] [])) _
          refine XS.iconst X12.here hx rfl (hb hby at_108) ?_
          show Steps p.tables e below (T12.setTop (mkF m 109 #[.val (.int x1), .val (.int x2), .val (.int x3), .val (.int x4), .val (.int (x4 &&& (3 : Int32))), .val (.int (if (x4 &&& (3 : Int32)) = (0 : Int32) then (0 : Int32) else (if (x4 &&& (3 : Int32)) = (1 : Int32) then (-1 : Int32) else x1))), .val (.int (if (x4 &&& (4 : Int32)) = (0 : Int32) then x2 else (0 : Int32))), .val (.ref b4), .val (.int (F4 ((if (x4 &&& (3 : Int32)) = (0 : Int32) then (0 : Int32) else (if (x4 &&& (3 : Int32)) = (1 : Int32) then (-1 : Int32) else x1))) ((if (x4 &&& (4 : Int32)) = (0 : Int32) then x2 else (0 : Int32)))))] [(.int (1 : Int32))])) _
          refine XS.goto X12.here hx rfl (pc0 := 109) (pc' := 113) rfl (hb hby at_109) (by decide) (by decide) ?_
          exact k16
        · refine XS.icmpYes X12.here hx rfl (pc0 := 105) (pc' := 112) rfl (hb hby at_105) rfl (feq hc16).2 (by decide) (by decide) ?_
          show Steps p.tables e below (T12.setTop (mkF m 112 #[.val (.int x1), .val (.int x2), .val (.int x3), .val (.int x4), .val (.int (x4 &&& (3 : Int32))), .val (.int (if (x4 &&& (3 : Int32)) = (0 : Int32) then (0 : Int32) else (if (x4 &&& (3 : Int32)) = (1 : Int32) then (-1 : Int32) else x1))), .val (.int (if (x4 &&& (4 : Int32)) = (0 : Int32) then x2 else (0 : Int32))), .val (.ref b4), .val (.int (F4 ((if (x4 &&& (3 : Int32)) = (0 : Int32) then (0 : Int32) else (if (x4 &&& (3 : Int32)) = (1 : Int32) then (-1 : Int32) else x1))) ((if (x4 &&& (4 : Int32)) = (0 : Int32) then x2 else (0 : Int32)))))] [])) _
          refine XS.iconst X12.here hx rfl (hb hby at_112) ?_
          exact k16
        -- meets at 113
        show Steps p.tables e below (T12.setTop (mkF m 113 #[.val (.int x1), .val (.int x2), .val (.int x3), .val (.int x4), .val (.int (x4 &&& (3 : Int32))), .val (.int (if (x4 &&& (3 : Int32)) = (0 : Int32) then (0 : Int32) else (if (x4 &&& (3 : Int32)) = (1 : Int32) then (-1 : Int32) else x1))), .val (.int (if (x4 &&& (4 : Int32)) = (0 : Int32) then x2 else (0 : Int32))), .val (.ref b4), .val (.int (F4 ((if (x4 &&& (3 : Int32)) = (0 : Int32) then (0 : Int32) else (if (x4 &&& (3 : Int32)) = (1 : Int32) then (-1 : Int32) else x1))) ((if (x4 &&& (4 : Int32)) = (0 : Int32) then x2 else (0 : Int32)))))] [(.int (if (F4 ((if (x4 &&& (3 : Int32)) = (0 : Int32) then (0 : Int32) else (if (x4 &&& (3 : Int32)) = (1 : Int32) then (-1 : Int32) else x1))) ((if (x4 &&& (4 : Int32)) = (0 : Int32) then x2 else (0 : Int32)))) = (if (x4 &&& (3 : Int32)) = (0 : Int32) then (0 : Int32) else (if (x4 &&& (3 : Int32)) = (1 : Int32) then (-1 : Int32) else x1)) then (1 : Int32) else (0 : Int32)))])) _
        exact retN X12 hx (t := .boolean) Bd.returns (by simp) (hb hby at_113) (by rw [own_nb (own_b01 (Or.inr rfl) (Or.inl rfl))]; exact hr)
      · show Q0 Z x1 x2 x3 x4 h0 n0 _ T12.heap _
        rw [e12]
        exact ⟨(congrArg (fun z => some (Value.int z)) (Eq.symm (Eq.trans (if_neg hb13) (if_pos hb15)))), N12⟩
    · obtain ⟨fs, hr, hrun, hended, hW, hsame⟩ := X12.leave (v := some (.int (if (F4 ((if (x4 &&& (3 : Int32)) = (0 : Int32) then (0 : Int32) else (if (x4 &&& (3 : Int32)) = (1 : Int32) then (-1 : Int32) else x1))) ((if (x4 &&& (4 : Int32)) = (0 : Int32) then x2 else (0 : Int32)))) = (if (x4 &&& (4 : Int32)) = (0 : Int32) then x2 else (0 : Int32)) then (1 : Int32) else (0 : Int32)))) (fun h => by rw [Bd.returns] at h; cases h)
      refine ⟨_, _, pre0 _ ?_, hrun, hended, _, _, rfl, ?_, ⟨_, rfl⟩, hW, hsame.mono (by decide) (by decide)⟩
      · show Steps p.tables e below (s₁.setTop (mkF m 0 #[.val (.int x1), .val (.int x2), .val (.int x3), .val (.int x4), .unset, .unset, .unset, .unset, .unset] [])) _
        refine XS.iloadN X0.here hx rfl (hb hby at_0) rfl ?_
        show Steps p.tables e below (s₁.setTop (mkF m 1 #[.val (.int x1), .val (.int x2), .val (.int x3), .val (.int x4), .unset, .unset, .unset, .unset, .unset] [(.int x4)])) _
        refine XS.iconst X0.here hx rfl (hb hby at_1) ?_
        show Steps p.tables e below (s₁.setTop (mkF m 2 #[.val (.int x1), .val (.int x2), .val (.int x3), .val (.int x4), .unset, .unset, .unset, .unset, .unset] [(.int (3 : Int32)), (.int x4)])) _
        refine XS.iand X0.here hx rfl (hb hby at_2) rfl ?_
        show Steps p.tables e below (s₁.setTop (mkF m 3 #[.val (.int x1), .val (.int x2), .val (.int x3), .val (.int x4), .unset, .unset, .unset, .unset, .unset] [(.int (x4 &&& (3 : Int32)))])) _
        refine XS.istore X0.here hx rfl (hb hby at_3) rfl (l' := #[.val (.int x1), .val (.int x2), .val (.int x3), .val (.int x4), .val (.int (x4 &&& (3 : Int32))), .unset, .unset, .unset, .unset]) rfl ?_
        show Steps p.tables e below (s₁.setTop (mkF m 5 #[.val (.int x1), .val (.int x2), .val (.int x3), .val (.int x4), .val (.int (x4 &&& (3 : Int32))), .unset, .unset, .unset, .unset] [])) _
        refine XS.iload X0.here hx rfl (hb hby at_5) rfl ?_
        show Steps p.tables e below (s₁.setTop (mkF m 7 #[.val (.int x1), .val (.int x2), .val (.int x3), .val (.int x4), .val (.int (x4 &&& (3 : Int32))), .unset, .unset, .unset, .unset] [(.int (x4 &&& (3 : Int32)))])) _
        refine own_dia (u := ((0 : Int32) : Int32)) (v := (if (x4 &&& (3 : Int32)) = (1 : Int32) then (-1 : Int32) else x1)) ((x4 &&& (3 : Int32)) = (0 : Int32)) (fun z1 => (mkF m 31 #[.val (.int x1), .val (.int x2), .val (.int x3), .val (.int x4), .val (.int (x4 &&& (3 : Int32))), .val (.int z1), .unset, .unset, .unset] [])) (fun hc1 k1 => ?_) (fun hc1 k1 => ?_) ?_
        · refine XS.ifNo X0.here hx rfl (hb hby at_7) rfl ((if0 _ _).trans (teq hc1).2) ?_
          show Steps p.tables e below (s₁.setTop (mkF m 10 #[.val (.int x1), .val (.int x2), .val (.int x3), .val (.int x4), .val (.int (x4 &&& (3 : Int32))), .unset, .unset, .unset, .unset] [])) _
          refine XS.iconst X0.here hx rfl (hb hby at_10) ?_
          show Steps p.tables e below (s₁.setTop (mkF m 11 #[.val (.int x1), .val (.int x2), .val (.int x3), .val (.int x4), .val (.int (x4 &&& (3 : Int32))), .unset, .unset, .unset, .unset] [(.int (0 : Int32))])) _
          refine XS.istore X0.here hx rfl (hb hby at_11) rfl (l' := #[.val (.int x1), .val (.int x2), .val (.int x3), .val (.int x4), .val (.int (x4 &&& (3 : Int32))), .val (.int (0 : Int32)), .unset, .unset, .unset]) rfl ?_
          show Steps p.tables e below (s₁.setTop (mkF m 13 #[.val (.int x1), .val (.int x2), .val (.int x3), .val (.int x4), .val (.int (x4 &&& (3 : Int32))), .val (.int (0 : Int32)), .unset, .unset, .unset] [])) _
          refine XS.goto X0.here hx rfl (pc0 := 13) (pc' := 31) rfl (hb hby at_13) (by decide) (by decide) ?_
          exact k1
        · refine XS.ifYes X0.here hx rfl (pc0 := 7) (pc' := 16) rfl (hb hby at_7) rfl ((if0 _ _).trans (feq hc1).2) (by decide) (by decide) ?_
          show Steps p.tables e below (s₁.setTop (mkF m 16 #[.val (.int x1), .val (.int x2), .val (.int x3), .val (.int x4), .val (.int (x4 &&& (3 : Int32))), .unset, .unset, .unset, .unset] [])) _
          refine XS.iload X0.here hx rfl (hb hby at_16) rfl ?_
          show Steps p.tables e below (s₁.setTop (mkF m 18 #[.val (.int x1), .val (.int x2), .val (.int x3), .val (.int x4), .val (.int (x4 &&& (3 : Int32))), .unset, .unset, .unset, .unset] [(.int (x4 &&& (3 : Int32)))])) _
          refine XS.iconst X0.here hx rfl (hb hby at_18) ?_
          show Steps p.tables e below (s₁.setTop (mkF m 19 #[.val (.int x1), .val (.int x2), .val (.int x3), .val (.int x4), .val (.int (x4 &&& (3 : Int32))), .unset, .unset, .unset, .unset] [(.int (1 : Int32)), (.int (x4 &&& (3 : Int32)))])) _
          refine own_dia (u := ((-1 : Int32) : Int32)) (v := x1) ((x4 &&& (3 : Int32)) = (1 : Int32)) (fun z2 => (mkF m 31 #[.val (.int x1), .val (.int x2), .val (.int x3), .val (.int x4), .val (.int (x4 &&& (3 : Int32))), .val (.int z2), .unset, .unset, .unset] [])) (fun hc2 k2 => ?_) (fun hc2 k2 => ?_) ?_
          · refine XS.icmpNo X0.here hx rfl (hb hby at_19) rfl (teq hc2).2 ?_
            show Steps p.tables e below (s₁.setTop (mkF m 22 #[.val (.int x1), .val (.int x2), .val (.int x3), .val (.int x4), .val (.int (x4 &&& (3 : Int32))), .unset, .unset, .unset, .unset] [])) _
            refine XS.iconst X0.here hx rfl (hb hby at_22) ?_
            show Steps p.tables e below (s₁.setTop (mkF m 23 #[.val (.int x1), .val (.int x2), .val (.int x3), .val (.int x4), .val (.int (x4 &&& (3 : Int32))), .unset, .unset, .unset, .unset] [(.int (-1 : Int32))])) _
            refine XS.istore X0.here hx rfl (hb hby at_23) rfl (l' := #[.val (.int x1), .val (.int x2), .val (.int x3), .val (.int x4), .val (.int (x4 &&& (3 : Int32))), .val (.int (-1 : Int32)), .unset, .unset, .unset]) rfl ?_
            show Steps p.tables e below (s₁.setTop (mkF m 25 #[.val (.int x1), .val (.int x2), .val (.int x3), .val (.int x4), .val (.int (x4 &&& (3 : Int32))), .val (.int (-1 : Int32)), .unset, .unset, .unset] [])) _
            refine XS.goto X0.here hx rfl (pc0 := 25) (pc' := 31) rfl (hb hby at_25) (by decide) (by decide) ?_
            exact k2
          · refine XS.icmpYes X0.here hx rfl (pc0 := 19) (pc' := 28) rfl (hb hby at_19) rfl (feq hc2).2 (by decide) (by decide) ?_
            show Steps p.tables e below (s₁.setTop (mkF m 28 #[.val (.int x1), .val (.int x2), .val (.int x3), .val (.int x4), .val (.int (x4 &&& (3 : Int32))), .unset, .unset, .unset, .unset] [])) _
            refine XS.iloadN X0.here hx rfl (hb hby at_28) rfl ?_
            show Steps p.tables e below (s₁.setTop (mkF m 29 #[.val (.int x1), .val (.int x2), .val (.int x3), .val (.int x4), .val (.int (x4 &&& (3 : Int32))), .unset, .unset, .unset, .unset] [(.int x1)])) _
            refine XS.istore X0.here hx rfl (hb hby at_29) rfl (l' := #[.val (.int x1), .val (.int x2), .val (.int x3), .val (.int x4), .val (.int (x4 &&& (3 : Int32))), .val (.int x1), .unset, .unset, .unset]) rfl ?_
            exact k2
          -- meets at 31
          exact k1
        -- meets at 31
        show Steps p.tables e below (s₁.setTop (mkF m 31 #[.val (.int x1), .val (.int x2), .val (.int x3), .val (.int x4), .val (.int (x4 &&& (3 : Int32))), .val (.int (if (x4 &&& (3 : Int32)) = (0 : Int32) then (0 : Int32) else (if (x4 &&& (3 : Int32)) = (1 : Int32) then (-1 : Int32) else x1))), .unset, .unset, .unset] [])) _
        refine XS.iloadN X0.here hx rfl (hb hby at_31) rfl ?_
        show Steps p.tables e below (s₁.setTop (mkF m 32 #[.val (.int x1), .val (.int x2), .val (.int x3), .val (.int x4), .val (.int (x4 &&& (3 : Int32))), .val (.int (if (x4 &&& (3 : Int32)) = (0 : Int32) then (0 : Int32) else (if (x4 &&& (3 : Int32)) = (1 : Int32) then (-1 : Int32) else x1))), .unset, .unset, .unset] [(.int x4)])) _
        refine XS.iconst X0.here hx rfl (hb hby at_32) ?_
        show Steps p.tables e below (s₁.setTop (mkF m 33 #[.val (.int x1), .val (.int x2), .val (.int x3), .val (.int x4), .val (.int (x4 &&& (3 : Int32))), .val (.int (if (x4 &&& (3 : Int32)) = (0 : Int32) then (0 : Int32) else (if (x4 &&& (3 : Int32)) = (1 : Int32) then (-1 : Int32) else x1))), .unset, .unset, .unset] [(.int (4 : Int32)), (.int x4)])) _
        refine XS.iand X0.here hx rfl (hb hby at_33) rfl ?_
        show Steps p.tables e below (s₁.setTop (mkF m 34 #[.val (.int x1), .val (.int x2), .val (.int x3), .val (.int x4), .val (.int (x4 &&& (3 : Int32))), .val (.int (if (x4 &&& (3 : Int32)) = (0 : Int32) then (0 : Int32) else (if (x4 &&& (3 : Int32)) = (1 : Int32) then (-1 : Int32) else x1))), .unset, .unset, .unset] [(.int (x4 &&& (4 : Int32)))])) _
        refine own_dia (u := (x2 : Int32)) (v := (0 : Int32)) ((x4 &&& (4 : Int32)) = (0 : Int32)) (fun z3 => (mkF m 42 #[.val (.int x1), .val (.int x2), .val (.int x3), .val (.int x4), .val (.int (x4 &&& (3 : Int32))), .val (.int (if (x4 &&& (3 : Int32)) = (0 : Int32) then (0 : Int32) else (if (x4 &&& (3 : Int32)) = (1 : Int32) then (-1 : Int32) else x1))), .unset, .unset, .unset] [(.int z3)])) (fun hc3 k3 => ?_) (fun hc3 k3 => ?_) ?_
        · refine XS.ifYes X0.here hx rfl (pc0 := 34) (pc' := 41) rfl (hb hby at_34) rfl ((if0 _ _).trans (teq hc3).1) (by decide) (by decide) ?_
          show Steps p.tables e below (s₁.setTop (mkF m 41 #[.val (.int x1), .val (.int x2), .val (.int x3), .val (.int x4), .val (.int (x4 &&& (3 : Int32))), .val (.int (if (x4 &&& (3 : Int32)) = (0 : Int32) then (0 : Int32) else (if (x4 &&& (3 : Int32)) = (1 : Int32) then (-1 : Int32) else x1))), .unset, .unset, .unset] [])) _
          refine XS.iloadN X0.here hx rfl (hb hby at_41) rfl ?_
          exact k3
        · refine XS.ifNo X0.here hx rfl (hb hby at_34) rfl ((if0 _ _).trans (feq hc3).1) ?_
          show Steps p.tables e below (s₁.setTop (mkF m 37 #[.val (.int x1), .val (.int x2), .val (.int x3), .val (.int x4), .val (.int (x4 &&& (3 : Int32))), .val (.int (if (x4 &&& (3 : Int32)) = (0 : Int32) then (0 : Int32) else (if (x4 &&& (3 : Int32)) = (1 : Int32) then (-1 : Int32) else x1))), .unset, .unset, .unset] [])) _
          refine XS.iconst X0.here hx rfl (hb hby at_37) ?_
          show Steps p.tables e below (s₁.setTop (mkF m 38 #[.val (.int x1), .val (.int x2), .val (.int x3), .val (.int x4), .val (.int (x4 &&& (3 : Int32))), .val (.int (if (x4 &&& (3 : Int32)) = (0 : Int32) then (0 : Int32) else (if (x4 &&& (3 : Int32)) = (1 : Int32) then (-1 : Int32) else x1))), .unset, .unset, .unset] [(.int (0 : Int32))])) _
          refine XS.goto X0.here hx rfl (pc0 := 38) (pc' := 42) rfl (hb hby at_38) (by decide) (by decide) ?_
          exact k3
        -- meets at 42
        show Steps p.tables e below (s₁.setTop (mkF m 42 #[.val (.int x1), .val (.int x2), .val (.int x3), .val (.int x4), .val (.int (x4 &&& (3 : Int32))), .val (.int (if (x4 &&& (3 : Int32)) = (0 : Int32) then (0 : Int32) else (if (x4 &&& (3 : Int32)) = (1 : Int32) then (-1 : Int32) else x1))), .unset, .unset, .unset] [(.int (if (x4 &&& (4 : Int32)) = (0 : Int32) then x2 else (0 : Int32)))])) _
        refine XS.istore X0.here hx rfl (hb hby at_42) rfl (l' := #[.val (.int x1), .val (.int x2), .val (.int x3), .val (.int x4), .val (.int (x4 &&& (3 : Int32))), .val (.int (if (x4 &&& (3 : Int32)) = (0 : Int32) then (0 : Int32) else (if (x4 &&& (3 : Int32)) = (1 : Int32) then (-1 : Int32) else x1))), .val (.int (if (x4 &&& (4 : Int32)) = (0 : Int32) then x2 else (0 : Int32))), .unset, .unset]) rfl ?_
        show Steps p.tables e below (s₁.setTop (mkF m 44 #[.val (.int x1), .val (.int x2), .val (.int x3), .val (.int x4), .val (.int (x4 &&& (3 : Int32))), .val (.int (if (x4 &&& (3 : Int32)) = (0 : Int32) then (0 : Int32) else (if (x4 &&& (3 : Int32)) = (1 : Int32) then (-1 : Int32) else x1))), .val (.int (if (x4 &&& (4 : Int32)) = (0 : Int32) then x2 else (0 : Int32))), .unset, .unset] [])) _
        refine st4 _ ?_
        show Steps p.tables e below (T4.setTop (mkF m 47 #[.val (.int x1), .val (.int x2), .val (.int x3), .val (.int x4), .val (.int (x4 &&& (3 : Int32))), .val (.int (if (x4 &&& (3 : Int32)) = (0 : Int32) then (0 : Int32) else (if (x4 &&& (3 : Int32)) = (1 : Int32) then (-1 : Int32) else x1))), .val (.int (if (x4 &&& (4 : Int32)) = (0 : Int32) then x2 else (0 : Int32))), .unset, .unset] [(.ref b4)])) _
        refine XS.dup X4.here hx rfl (hb hby at_47) rfl rfl ?_
        show Steps p.tables e below (T4.setTop (mkF m 48 #[.val (.int x1), .val (.int x2), .val (.int x3), .val (.int x4), .val (.int (x4 &&& (3 : Int32))), .val (.int (if (x4 &&& (3 : Int32)) = (0 : Int32) then (0 : Int32) else (if (x4 &&& (3 : Int32)) = (1 : Int32) then (-1 : Int32) else x1))), .val (.int (if (x4 &&& (4 : Int32)) = (0 : Int32) then x2 else (0 : Int32))), .unset, .unset] [(.ref b4), (.ref b4)])) _
        refine XS.iload X4.here hx rfl (hb hby at_48) rfl ?_
        show Steps p.tables e below (T4.setTop (mkF m 50 #[.val (.int x1), .val (.int x2), .val (.int x3), .val (.int x4), .val (.int (x4 &&& (3 : Int32))), .val (.int (if (x4 &&& (3 : Int32)) = (0 : Int32) then (0 : Int32) else (if (x4 &&& (3 : Int32)) = (1 : Int32) then (-1 : Int32) else x1))), .val (.int (if (x4 &&& (4 : Int32)) = (0 : Int32) then x2 else (0 : Int32))), .unset, .unset] [(.int (if (x4 &&& (3 : Int32)) = (0 : Int32) then (0 : Int32) else (if (x4 &&& (3 : Int32)) = (1 : Int32) then (-1 : Int32) else x1))), (.ref b4), (.ref b4)])) _
        refine XS.iload X4.here hx rfl (hb hby at_50) rfl ?_
        show Steps p.tables e below (T4.setTop (mkF m 52 #[.val (.int x1), .val (.int x2), .val (.int x3), .val (.int x4), .val (.int (x4 &&& (3 : Int32))), .val (.int (if (x4 &&& (3 : Int32)) = (0 : Int32) then (0 : Int32) else (if (x4 &&& (3 : Int32)) = (1 : Int32) then (-1 : Int32) else x1))), .val (.int (if (x4 &&& (4 : Int32)) = (0 : Int32) then x2 else (0 : Int32))), .unset, .unset] [(.int (if (x4 &&& (4 : Int32)) = (0 : Int32) then x2 else (0 : Int32))), (.int (if (x4 &&& (3 : Int32)) = (0 : Int32) then (0 : Int32) else (if (x4 &&& (3 : Int32)) = (1 : Int32) then (-1 : Int32) else x1))), (.ref b4), (.ref b4)])) _
        refine XS.iloadN X4.here hx rfl (hb hby at_52) rfl ?_
        show Steps p.tables e below (T4.setTop (mkF m 53 #[.val (.int x1), .val (.int x2), .val (.int x3), .val (.int x4), .val (.int (x4 &&& (3 : Int32))), .val (.int (if (x4 &&& (3 : Int32)) = (0 : Int32) then (0 : Int32) else (if (x4 &&& (3 : Int32)) = (1 : Int32) then (-1 : Int32) else x1))), .val (.int (if (x4 &&& (4 : Int32)) = (0 : Int32) then x2 else (0 : Int32))), .unset, .unset] [(.int x3), (.int (if (x4 &&& (4 : Int32)) = (0 : Int32) then x2 else (0 : Int32))), (.int (if (x4 &&& (3 : Int32)) = (0 : Int32) then (0 : Int32) else (if (x4 &&& (3 : Int32)) = (1 : Int32) then (-1 : Int32) else x1))), (.ref b4), (.ref b4)])) _
        refine st6.trans ?_
        show Steps p.tables e below (T6.setTop (mkF m 56 #[.val (.int x1), .val (.int x2), .val (.int x3), .val (.int x4), .val (.int (x4 &&& (3 : Int32))), .val (.int (if (x4 &&& (3 : Int32)) = (0 : Int32) then (0 : Int32) else (if (x4 &&& (3 : Int32)) = (1 : Int32) then (-1 : Int32) else x1))), .val (.int (if (x4 &&& (4 : Int32)) = (0 : Int32) then x2 else (0 : Int32))), .unset, .unset] [(.ref b4)])) _
        refine XS.astore X6.here hx rfl (hb hby at_56) rfl rfl (l' := #[.val (.int x1), .val (.int x2), .val (.int x3), .val (.int x4), .val (.int (x4 &&& (3 : Int32))), .val (.int (if (x4 &&& (3 : Int32)) = (0 : Int32) then (0 : Int32) else (if (x4 &&& (3 : Int32)) = (1 : Int32) then (-1 : Int32) else x1))), .val (.int (if (x4 &&& (4 : Int32)) = (0 : Int32) then x2 else (0 : Int32))), .val (.ref b4), .unset]) rfl ?_
        show Steps p.tables e below (T6.setTop (mkF m 58 #[.val (.int x1), .val (.int x2), .val (.int x3), .val (.int x4), .val (.int (x4 &&& (3 : Int32))), .val (.int (if (x4 &&& (3 : Int32)) = (0 : Int32) then (0 : Int32) else (if (x4 &&& (3 : Int32)) = (1 : Int32) then (-1 : Int32) else x1))), .val (.int (if (x4 &&& (4 : Int32)) = (0 : Int32) then x2 else (0 : Int32))), .val (.ref b4), .unset] [])) _
        refine XS.aload X6.here hx rfl (hb hby at_58) rfl rfl ?_
        show Steps p.tables e below (T6.setTop (mkF m 60 #[.val (.int x1), .val (.int x2), .val (.int x3), .val (.int x4), .val (.int (x4 &&& (3 : Int32))), .val (.int (if (x4 &&& (3 : Int32)) = (0 : Int32) then (0 : Int32) else (if (x4 &&& (3 : Int32)) = (1 : Int32) then (-1 : Int32) else x1))), .val (.int (if (x4 &&& (4 : Int32)) = (0 : Int32) then x2 else (0 : Int32))), .val (.ref b4), .unset] [(.ref b4)])) _
        refine st12.trans ?_
        show Steps p.tables e below (T12.setTop (mkF m 63 #[.val (.int x1), .val (.int x2), .val (.int x3), .val (.int x4), .val (.int (x4 &&& (3 : Int32))), .val (.int (if (x4 &&& (3 : Int32)) = (0 : Int32) then (0 : Int32) else (if (x4 &&& (3 : Int32)) = (1 : Int32) then (-1 : Int32) else x1))), .val (.int (if (x4 &&& (4 : Int32)) = (0 : Int32) then x2 else (0 : Int32))), .val (.ref b4), .unset] [(.int (F4 ((if (x4 &&& (3 : Int32)) = (0 : Int32) then (0 : Int32) else (if (x4 &&& (3 : Int32)) = (1 : Int32) then (-1 : Int32) else x1))) ((if (x4 &&& (4 : Int32)) = (0 : Int32) then x2 else (0 : Int32)))))])) _
        refine XS.istore X12.here hx rfl (hb hby at_63) rfl (l' := #[.val (.int x1), .val (.int x2), .val (.int x3), .val (.int x4), .val (.int (x4 &&& (3 : Int32))), .val (.int (if (x4 &&& (3 : Int32)) = (0 : Int32) then (0 : Int32) else (if (x4 &&& (3 : Int32)) = (1 : Int32) then (-1 : Int32) else x1))), .val (.int (if (x4 &&& (4 : Int32)) = (0 : Int32) then x2 else (0 : Int32))), .val (.ref b4), .val (.int (F4 ((if (x4 &&& (3 : Int32)) = (0 : Int32) then (0 : Int32) else (if (x4 &&& (3 : Int32)) = (1 : Int32) then (-1 : Int32) else x1))) ((if (x4 &&& (4 : Int32)) = (0 : Int32) then x2 else (0 : Int32)))))]) rfl ?_
        show Steps p.tables e below (T12.setTop (mkF m 65 #[.val (.int x1), .val (.int x2), .val (.int x3), .val (.int x4), .val (.int (x4 &&& (3 : Int32))), .val (.int (if (x4 &&& (3 : Int32)) = (0 : Int32) then (0 : Int32) else (if (x4 &&& (3 : Int32)) = (1 : Int32) then (-1 : Int32) else x1))), .val (.int (if (x4 &&& (4 : Int32)) = (0 : Int32) then x2 else (0 : Int32))), .val (.ref b4), .val (.int (F4 ((if (x4 &&& (3 : Int32)) = (0 : Int32) then (0 : Int32) else (if (x4 &&& (3 : Int32)) = (1 : Int32) then (-1 : Int32) else x1))) ((if (x4 &&& (4 : Int32)) = (0 : Int32) then x2 else (0 : Int32)))))] [])) _
        refine XS.iload X12.here hx rfl (hb hby at_65) rfl ?_
        show Steps p.tables e below (T12.setTop (mkF m 67 #[.val (.int x1), .val (.int x2), .val (.int x3), .val (.int x4), .val (.int (x4 &&& (3 : Int32))), .val (.int (if (x4 &&& (3 : Int32)) = (0 : Int32) then (0 : Int32) else (if (x4 &&& (3 : Int32)) = (1 : Int32) then (-1 : Int32) else x1))), .val (.int (if (x4 &&& (4 : Int32)) = (0 : Int32) then x2 else (0 : Int32))), .val (.ref b4), .val (.int (F4 ((if (x4 &&& (3 : Int32)) = (0 : Int32) then (0 : Int32) else (if (x4 &&& (3 : Int32)) = (1 : Int32) then (-1 : Int32) else x1))) ((if (x4 &&& (4 : Int32)) = (0 : Int32) then x2 else (0 : Int32)))))] [(.int (if (x4 &&& (3 : Int32)) = (0 : Int32) then (0 : Int32) else (if (x4 &&& (3 : Int32)) = (1 : Int32) then (-1 : Int32) else x1)))])) _
        refine XS.ifYes X12.here hx rfl (pc0 := 67) (pc' := 83) rfl (hb hby at_67) rfl ((if0 _ _).trans (flt hb13).2.2.2) (by decide) (by decide) ?_
        show Steps p.tables e below (T12.setTop (mkF m 83 #[.val (.int x1), .val (.int x2), .val (.int x3), .val (.int x4), .val (.int (x4 &&& (3 : Int32))), .val (.int (if (x4 &&& (3 : Int32)) = (0 : Int32) then (0 : Int32) else (if (x4 &&& (3 : Int32)) = (1 : Int32) then (-1 : Int32) else x1))), .val (.int (if (x4 &&& (4 : Int32)) = (0 : Int32) then x2 else (0 : Int32))), .val (.ref b4), .val (.int (F4 ((if (x4 &&& (3 : Int32)) = (0 : Int32) then (0 : Int32) else (if (x4 &&& (3 : Int32)) = (1 : Int32) then (-1 : Int32) else x1))) ((if (x4 &&& (4 : Int32)) = (0 : Int32) then x2 else (0 : Int32)))))] [])) _
        refine XS.iload X12.here hx rfl (hb hby at_83) rfl ?_
        show Steps p.tables e below (T12.setTop (mkF m 85 #[.val (.int x1), .val (.int x2), .val (.int x3), .val (.int x4), .val (.int (x4 &&& (3 : Int32))), .val (.int (if (x4 &&& (3 : Int32)) = (0 : Int32) then (0 : Int32) else (if (x4 &&& (3 : Int32)) = (1 : Int32) then (-1 : Int32) else x1))), .val (.int (if (x4 &&& (4 : Int32)) = (0 : Int32) then x2 else (0 : Int32))), .val (.ref b4), .val (.int (F4 ((if (x4 &&& (3 : Int32)) = (0 : Int32) then (0 : Int32) else (if (x4 &&& (3 : Int32)) = (1 : Int32) then (-1 : Int32) else x1))) ((if (x4 &&& (4 : Int32)) = (0 : Int32) then x2 else (0 : Int32)))))] [(.int (if (x4 &&& (4 : Int32)) = (0 : Int32) then x2 else (0 : Int32)))])) _
        refine XS.ifNo X12.here hx rfl (hb hby at_85) rfl ((if0 _ _).trans (feq hb15).1) ?_
        show Steps p.tables e below (T12.setTop (mkF m 88 #[.val (.int x1), .val (.int x2), .val (.int x3), .val (.int x4), .val (.int (x4 &&& (3 : Int32))), .val (.int (if (x4 &&& (3 : Int32)) = (0 : Int32) then (0 : Int32) else (if (x4 &&& (3 : Int32)) = (1 : Int32) then (-1 : Int32) else x1))), .val (.int (if (x4 &&& (4 : Int32)) = (0 : Int32) then x2 else (0 : Int32))), .val (.ref b4), .val (.int (F4 ((if (x4 &&& (3 : Int32)) = (0 : Int32) then (0 : Int32) else (if (x4 &&& (3 : Int32)) = (1 : Int32) then (-1 : Int32) else x1))) ((if (x4 &&& (4 : Int32)) = (0 : Int32) then x2 else (0 : Int32)))))] [])) _
        refine XS.iload X12.here hx rfl (hb hby at_88) rfl ?_
        show Steps p.tables e below (T12.setTop (mkF m 90 #[.val (.int x1), .val (.int x2), .val (.int x3), .val (.int x4), .val (.int (x4 &&& (3 : Int32))), .val (.int (if (x4 &&& (3 : Int32)) = (0 : Int32) then (0 : Int32) else (if (x4 &&& (3 : Int32)) = (1 : Int32) then (-1 : Int32) else x1))), .val (.int (if (x4 &&& (4 : Int32)) = (0 : Int32) then x2 else (0 : Int32))), .val (.ref b4), .val (.int (F4 ((if (x4 &&& (3 : Int32)) = (0 : Int32) then (0 : Int32) else (if (x4 &&& (3 : Int32)) = (1 : Int32) then (-1 : Int32) else x1))) ((if (x4 &&& (4 : Int32)) = (0 : Int32) then x2 else (0 : Int32)))))] [(.int (F4 ((if (x4 &&& (3 : Int32)) = (0 : Int32) then (0 : Int32) else (if (x4 &&& (3 : Int32)) = (1 : Int32) then (-1 : Int32) else x1))) ((if (x4 &&& (4 : Int32)) = (0 : Int32) then x2 else (0 : Int32)))))])) _
        refine XS.iload X12.here hx rfl (hb hby at_90) rfl ?_
        show Steps p.tables e below (T12.setTop (mkF m 92 #[.val (.int x1), .val (.int x2), .val (.int x3), .val (.int x4), .val (.int (x4 &&& (3 : Int32))), .val (.int (if (x4 &&& (3 : Int32)) = (0 : Int32) then (0 : Int32) else (if (x4 &&& (3 : Int32)) = (1 : Int32) then (-1 : Int32) else x1))), .val (.int (if (x4 &&& (4 : Int32)) = (0 : Int32) then x2 else (0 : Int32))), .val (.ref b4), .val (.int (F4 ((if (x4 &&& (3 : Int32)) = (0 : Int32) then (0 : Int32) else (if (x4 &&& (3 : Int32)) = (1 : Int32) then (-1 : Int32) else x1))) ((if (x4 &&& (4 : Int32)) = (0 : Int32) then x2 else (0 : Int32)))))] [(.int (if (x4 &&& (4 : Int32)) = (0 : Int32) then x2 else (0 : Int32))), (.int (F4 ((if (x4 &&& (3 : Int32)) = (0 : Int32) then (0 : Int32) else (if (x4 &&& (3 : Int32)) = (1 : Int32) then (-1 : Int32) else x1))) ((if (x4 &&& (4 : Int32)) = (0 : Int32) then x2 else (0 : Int32)))))])) _
        refine own_dia (u := ((1 : Int32) : Int32)) (v := (0 : Int32)) ((F4 ((if (x4 &&& (3 : Int32)) = (0 : Int32) then (0 : Int32) else (if (x4 &&& (3 : Int32)) = (1 : Int32) then (-1 : Int32) else x1))) ((if (x4 &&& (4 : Int32)) = (0 : Int32) then x2 else (0 : Int32)))) = (if (x4 &&& (4 : Int32)) = (0 : Int32) then x2 else (0 : Int32))) (fun z17 => (mkF m 100 #[.val (.int x1), .val (.int x2), .val (.int x3), .val (.int x4), .val (.int (x4 &&& (3 : Int32))), .val (.int (if (x4 &&& (3 : Int32)) = (0 : Int32) then (0 : Int32) else (if (x4 &&& (3 : Int32)) = (1 : Int32) then (-1 : Int32) else x1))), .val (.int (if (x4 &&& (4 : Int32)) = (0 : Int32) then x2 else (0 : Int32))), .val (.ref b4), .val (.int (F4 ((if (x4 &&& (3 : Int32)) = (0 : Int32) then (0 : Int32) else (if (x4 &&& (3 : Int32)) = (1 : Int32) then (-1 : Int32) else x1))) ((if (x4 &&& (4 : Int32)) = (0 : Int32) then x2 else (0 : Int32)))))] [(.int z17)])) (fun hc17 k17 => ?_) (fun hc17 k17 => ?_) ?_
        · refine XS.icmpNo X12.here hx rfl (hb hby at_92) rfl (teq hc17).2 ?_
          show Steps p.tables e below (T12.setTop (mkF m 95 #[.val (.int x1), .val (.int x2), .val (.int x3), .val (.int x4), .val (.int (x4 &&& (3 : Int32))), .val (.int (if (x4 &&& (3 : Int32)) = (0 : Int32) then (0 : Int32) else (if (x4 &&& (3 : Int32)) = (1 : Int32) then (-1 : Int32) else x1))), .val (.int (if (x4 &&& (4 : Int32)) = (0 : Int32) then x2 else (0 : Int32))), .val (.ref b4), .val (.int (F4 ((if (x4 &&& (3 : Int32)) = (0 : Int32) then (0 : Int32) else (if (x4 &&& (3 : Int32)) = (1 : Int32) then (-1 : Int32) else x1))) ((if (x4 &&& (4 : Int32)) = (0 : Int32) then x2 else (0 : Int32)))))] [])) _
          refine XS.iconst X12.here hx rfl (hb hby at_95) ?_
          show Steps p.tables e below (T12.setTop (mkF m 96 #[.val (.int x1), .val (.int x2), .val (.int x3), .val (.int x4), .val (.int (x4 &&& (3 : Int32))), .val (.int (if (x4 &&& (3 : Int32)) = (0 : Int32) then (0 : Int32) else (if (x4 &&& (3 : Int32)) = (1 : Int32) then (-1 : Int32) else x1))), .val (.int (if (x4 &&& (4 : Int32)) = (0 : Int32) then x2 else (0 : Int32))), .val (.ref b4), .val (.int (F4 ((if (x4 &&& (3 : Int32)) = (0 : Int32) then (0 : Int32) else (if (x4 &&& (3 : Int32)) = (1 : Int32) then (-1 : Int32) else x1))) ((if (x4 &&& (4 : Int32)) = (0 : Int32) then x2 else (0 : Int32)))))] [(.int (1 : Int32))])) _
          refine XS.goto X12.here hx rfl (pc0 := 96) (pc' := 100) rfl (hb hby at_96) (by decide) (by decide) ?_
          exact k17
        · refine XS.icmpYes X12.here hx rfl (pc0 := 92) (pc' := 99) rfl (hb hby at_92) rfl (feq hc17).2 (by decide) (by decide) ?_
          show Steps p.tables e below (T12.setTop (mkF m 99 #[.val (.int x1), .val (.int x2), .val (.int x3), .val (.int x4), .val (.int (x4 &&& (3 : Int32))), .val (.int (if (x4 &&& (3 : Int32)) = (0 : Int32) then (0 : Int32) else (if (x4 &&& (3 : Int32)) = (1 : Int32) then (-1 : Int32) else x1))), .val (.int (if (x4 &&& (4 : Int32)) = (0 : Int32) then x2 else (0 : Int32))), .val (.ref b4), .val (.int (F4 ((if (x4 &&& (3 : Int32)) = (0 : Int32) then (0 : Int32) else (if (x4 &&& (3 : Int32)) = (1 : Int32) then (-1 : Int32) else x1))) ((if (x4 &&& (4 : Int32)) = (0 : Int32) then x2 else (0 : Int32)))))] [])) _
          refine XS.iconst X12.here hx rfl (hb hby at_99) ?_
          exact k17
        -- meets at 100
        show Steps p.tables e below (T12.setTop (mkF m 100 #[.val (.int x1), .val (.int x2), .val (.int x3), .val (.int x4), .val (.int (x4 &&& (3 : Int32))), .val (.int (if (x4 &&& (3 : Int32)) = (0 : Int32) then (0 : Int32) else (if (x4 &&& (3 : Int32)) = (1 : Int32) then (-1 : Int32) else x1))), .val (.int (if (x4 &&& (4 : Int32)) = (0 : Int32) then x2 else (0 : Int32))), .val (.ref b4), .val (.int (F4 ((if (x4 &&& (3 : Int32)) = (0 : Int32) then (0 : Int32) else (if (x4 &&& (3 : Int32)) = (1 : Int32) then (-1 : Int32) else x1))) ((if (x4 &&& (4 : Int32)) = (0 : Int32) then x2 else (0 : Int32)))))] [(.int (if (F4 ((if (x4 &&& (3 : Int32)) = (0 : Int32) then (0 : Int32) else (if (x4 &&& (3 : Int32)) = (1 : Int32) then (-1 : Int32) else x1))) ((if (x4 &&& (4 : Int32)) = (0 : Int32) then x2 else (0 : Int32)))) = (if (x4 &&& (4 : Int32)) = (0 : Int32) then x2 else (0 : Int32)) then (1 : Int32) else (0 : Int32)))])) _
        exact retN X12 hx (t := .boolean) Bd.returns (by simp) (hb hby at_100) (by rw [own_nb (own_b01 (Or.inr rfl) (Or.inl rfl))]; exact hr)
      · show Q0 Z x1 x2 x3 x4 h0 n0 _ T12.heap _
        rw [e12]
        exact ⟨(congrArg (fun z => some (Value.int z)) (Eq.symm (Eq.trans (if_neg hb13) (if_neg hb15)))), N12⟩

theorem own_core (n k : Int32) : (if (0 : Int32) < n then (if F4 n k = n then (1 : Int32) else (0 : Int32)) else (if k = (0 : Int32) then (if F4 n k = n then (1 : Int32) else (0 : Int32)) else (if F4 n k = k then (1 : Int32) else (0 : Int32)))) = 1 := by
  unfold F4
  by_cases h1 : (0 : Int32) < n
  · rw [if_pos h1, if_pos h1, if_pos rfl]
  · by_cases h2 : k = (0 : Int32)
    · rw [if_neg h1, if_pos h2, if_neg h1, if_pos h2, if_pos rfl]
    · rw [if_neg h1, if_neg h2, if_neg h1, if_neg h2, if_pos rfl]
theorem own_plain (x1 x2 x3 x4 : Int32) : F0 x1 x2 x3 x4 = 1 := own_core _ _

set_option maxRecDepth 65536 in
set_option maxHeartbeats 40000000 in
theorem comes_1 {Post : Tables → Env → Array Value → State → Outcome → State → Prop} (hpost : ∀ tb e args s v u, (limb_1_1.after args s (.returned v) u = true ∧ limb_1_2.after args s (.returned v) u = true ∧ True) → FrameEnd s (.returned v) u (Jvm.fieldLocs frame_1_writes args s ++ Jvm.arrayLocs frame_1_arrays args s ++ Jvm.staticLocs frame_1_statics s) 16 128 → Post tb e args s (.returned v) u) :
    ArmFor flags0 classFile x code maxLocals ret World_1 tables_1 room_1 Calls_1 rest_1 Pre_1 Post := by
  intro l hfl _ _ p e ha hc hk s m args below hf hA hF happ hP
  obtain ⟨hcalls, hrest, hpre⟩ := hP
  obtain ⟨-, -, -, hnamed, -, -, -, hat⟩ := (Spec.applies_iff hf).mp happ
  obtain ⟨hg, hn⟩ := and_e (Cond.before_iff.mp (show (Jvm.Cond.and given_1 narrow_1).before args s = true from hpre))
  obtain ⟨hcount, t0⟩ := and_e hg
  obtain ⟨k0, t1⟩ := and_e t0
  obtain ⟨k1, t2⟩ := and_e t1
  obtain ⟨k2, t3⟩ := and_e t2
  have k3 := t3
  obtain ⟨w0, w1, w2, w3, rfl⟩ : ∃ w0 w1 w2 w3 : Value, args = #[w0, w1, w2, w3] := by
    have hs : args.size = 4 := by simpa [Cond.value, given_1] using hcount
    obtain ⟨L⟩ := args
    match L, hs with
    | [w0, w1, w2, w3], _ => exact ⟨w0, w1, w2, w3, rfl⟩
  have hw := fun d (hd : d ∈ tables_1) => atoms_spec (ws := Jvm.Cond.code x code maxLocals ret :: tables_1) hat d (List.mem_cons_of_mem _ hd)
  obtain ⟨i0, ei0⟩ := is_v k0
  obtain rfl : w0 = (.int i0) := Option.some.inj ei0
  obtain ⟨i1, ei1⟩ := is_v k1
  obtain rfl : w1 = (.int i1) := Option.some.inj ei1
  obtain ⟨i2, ei2⟩ := is_v k2
  obtain rfl : w2 = (.int i2) := Option.some.inj ei2
  obtain ⟨i3, ei3⟩ := is_v k3
  obtain rfl : w3 = (.int i3) := Option.some.inj ei3
  obtain ⟨n, o, h1, h2, h3, _, L, rfl, ⟨hv, N⟩, hq⟩ := rm0 l s _ hw tables_1 i0 i1 i2 i3 s.heap s.heap.size (Nat.le_refl _) p e ha hc hk s m _ below hf ((Spec.applies_iff_loose hf).mp happ).1 ⟨rfl, State.Warmed39.refl s, rfl⟩ trivial
  rw [own_plain i0 i1 i2 i3] at hv
  subst hv
  refine ⟨n, _, h1, h2, h3, hpost _ _ _ _ _ _ ⟨Cond.after_iff.mpr rfl, Cond.after_iff.mpr (eq_i res_at (Term.int_eval (1)) rfl), trivial⟩ ⟨hq.1, hq.2.1, (hq.2.2.sift fun y hy => Or.inr (N y hy)).mono (by decide) (by decide)⟩⟩
theorem main_1_1 : Claimed_1_1 := comes_1 fun _ _ _ _ _ _ h hF => ⟨h.1, hF⟩
theorem main_1_2 : Claimed_1_2 := comes_1 fun _ _ _ _ _ _ h hF => ⟨h.2.1, hF⟩
end Jvm.Pilot.@@N@@
namespace Jvm.Pilot.@@N@@
open Jvm Jvm.ClassFile Sem Op Lib Jvm.Free Jvm.Stand Jvm.Pilot.@@N@@.Jvm.D
/-! MADE BY PROGRAM (witnessworld.py) out of the Statement's table words and the real class files: 10 classes; the members and pool entries that the words name. The judged class is class 1, her method 1. -/
namespace start1
open Jvm.ClassFile
def u (s : String) : CpInfo := .utf8 (stringToUtf16 s)
/-- a pool by its gaps: so many unusable entries, then the entry; so many at the end -/
def gap : Nat → List CpInfo → List CpInfo
  | 0, r => r
  | n + 1, r => .unusable :: gap n r
def poolList (es : List (Nat × CpInfo)) (last : Nat) : List CpInfo := es.foldr (fun e r => gap e.1 (e.2 :: r)) (gap last [])
def pool (es : List (Nat × CpInfo)) (last : Nat) : Array CpInfo := ⟨poolList es last⟩
def fileOf (pool : Array CpInfo) (this : Nat) (attrs : Array Attribute := #[]) (ms : Array MethodInfo := #[]) (fl : Nat := 33) (sup : Nat := 0) (ifs : Array Nat := #[]) (fds : Array FieldInfo := #[]) : ClassFile where
  minorVersion := 0
  majorVersion := 65
  constantPool := pool
  accessFlags := fl
  thisClass := this
  superClass := sup
  interfaces := ifs
  fields := fds
  methods := ms
  attributes := attrs
def plain (name : String) (sup : Option ClassId) : Class where
  name := name
  kind := .ordinary
  loader := none
  accessFlags := 33
  super := sup
  interfaces := #[]
  cf := none
  fields := #[]
  methods := #[]
  instanceTypes := #[]
  staticTypes := #[]
  resolved := #[]
  callSites := []
  init := .initialized
  statics := none
  mirror := none

def pool0 : Array CpInfo := pool [(5, u "<init>"), (0, u "()V"), (1, .class_ 10), (1, u "java/lang/Object")] 113

def k0c0 : Code := { maxStack := 0, maxLocals := 1, code := object_method_1_code, exceptionTable := #[], attributes := #[] }
def k0m0 : Method := { name := "<init>", desc := "()V", sig := { parameters := [], returnType := none }, accessFlags := 1, code := some k0c0 }
/-- java/lang/Object -/
def k0 : Class := { plain "java/lang/Object" none with
  accessFlags := 33
  interfaces := #[]
  cf := some (fileOf pool0 8 #[] #[{ accessFlags := 1, nameIndex := 5, descriptorIndex := 6, attributes := #[] }] 33 0 #[] #[])
  fields := #[]
  methods := #[k0m0]
  instanceTypes := #[]
  staticTypes := #[]
  resolved := Array.replicate 124 none
  statics := none }

def pool1 : Array CpInfo := pool [(2, .class_ 4), (1, u "java/lang/Object"), (0, u "<init>"), (0, u "()V"), (0, .class_ 8), (0, u "com/example/ponca/ponca/store/LogDamage$Whole"), (0, .methodref 7 10), (0, .nameAndType 5 11), (0, u "(III)V"), (0, .methodref 7 13), (0, .nameAndType 14 15), (0, u "first"), (0, u "()I"), (0, .class_ 17), (0, u "com/example/ponca/ponca/store/WholeFirstPinLaw"), (2, u "law"), (0, u "(IIII)Z")] 7

def k1m0 : Method := { name := "<init>", desc := "()V", sig := { parameters := [], returnType := none }, accessFlags := 2, code := none }
def k1c1 : Code := { maxStack := 5, maxLocals := 9, code := code, exceptionTable := #[], attributes := #[] }
def k1m1 : Method := { name := "law", desc := "(IIII)Z", sig := { parameters := [.int, .int, .int, .int], returnType := some .boolean }, accessFlags := 9, code := some k1c1 }
/-- com/example/ponca/ponca/store/WholeFirstPinLaw -/
def k1 : Class := { plain "com/example/ponca/ponca/store/WholeFirstPinLaw" (some 0) with
  accessFlags := 49
  interfaces := #[]
  cf := some (fileOf pool1 16 #[] #[{ accessFlags := 2, nameIndex := 5, descriptorIndex := 6, attributes := #[] }, { accessFlags := 9, nameIndex := 20, descriptorIndex := 21, attributes := #[] }] 49 2 #[] #[])
  fields := #[]
  methods := #[k1m0, k1m1]
  instanceTypes := #[]
  staticTypes := #[]
  resolved := Array.replicate 29 none
  statics := none }

def pool2 : Array CpInfo := pool [(1, .methodref 2 3), (0, .class_ 4), (0, .nameAndType 5 6), (0, u "java/lang/Object"), (0, u "<init>"), (0, u "()V"), (0, .class_ 8), (0, u "java/lang/Record")] 13

def k2c0 : Code := { maxStack := 1, maxLocals := 1, code := jdk_30_method_1_code, exceptionTable := #[], attributes := #[] }
def k2m0 : Method := { name := "<init>", desc := "()V", sig := { parameters := [], returnType := none }, accessFlags := 4, code := some k2c0 }
/-- java/lang/Record -/
def k2 : Class := { plain "java/lang/Record" (some 0) with
  accessFlags := 1057
  interfaces := #[]
  cf := some (fileOf pool2 7 #[] #[{ accessFlags := 4, nameIndex := 5, descriptorIndex := 6, attributes := #[] }] 1057 2 #[] #[])
  fields := #[]
  methods := #[k2m0]
  instanceTypes := #[]
  staticTypes := #[]
  resolved := Array.replicate 22 none
  statics := none }

def pool3 : Array CpInfo := pool [(1, .methodref 2 3), (0, .class_ 4), (0, .nameAndType 5 6), (0, u "java/lang/Record"), (0, u "<init>"), (0, u "()V"), (0, .fieldref 8 9), (0, .class_ 10), (0, .nameAndType 11 12), (0, u "com/example/ponca/ponca/store/LogDamage$Whole"), (0, u "next"), (0, u "I"), (0, .fieldref 8 14), (0, .nameAndType 15 12), (0, u "inKeyOrValue"), (0, .fieldref 8 17), (0, .nameAndType 18 12), (0, u "lengthEnd"), (14, u "(III)V"), (2, u "NONE"), (0, u "Lcom/example/ponca/ponca/store/LogDamage$Whole;"), (2, u "UNTOLD"), (3, u "first"), (0, u "()I"), (7, .class_ 54), (0, u "com/example/ponca/ponca/store/LogDamage")] 21

def k3c0 : Code := { maxStack := 2, maxLocals := 4, code := prog_56_method_1_code, exceptionTable := #[], attributes := #[] }
def k3m0 : Method := { name := "<init>", desc := "(III)V", sig := { parameters := [.int, .int, .int], returnType := none }, accessFlags := 0, code := some k3c0 }
def k3c1 : Code := { maxStack := 1, maxLocals := 1, code := prog_56_method_2_code, exceptionTable := #[], attributes := #[] }
def k3m1 : Method := { name := "first", desc := "()I", sig := { parameters := [], returnType := some .int }, accessFlags := 0, code := some k3c1 }
/-- com/example/ponca/ponca/store/LogDamage$Whole -/
def k3 : Class := { plain "com/example/ponca/ponca/store/LogDamage$Whole" (some 2) with
  accessFlags := 48
  interfaces := #[]
  cf := some (fileOf pool3 8 #[.nestHost 53] #[{ accessFlags := 0, nameIndex := 5, descriptorIndex := 33, attributes := #[] }, { accessFlags := 0, nameIndex := 44, descriptorIndex := 45, attributes := #[] }] 48 2 #[] #[{ accessFlags := 18, nameIndex := 11, descriptorIndex := 12, attributes := #[] }, { accessFlags := 18, nameIndex := 15, descriptorIndex := 12, attributes := #[] }, { accessFlags := 18, nameIndex := 18, descriptorIndex := 12, attributes := #[] }, { accessFlags := 24, nameIndex := 36, descriptorIndex := 37, attributes := #[] }, { accessFlags := 24, nameIndex := 40, descriptorIndex := 37, attributes := #[] }])
  fields := #[{ name := "next", type := .int, accessFlags := 18, slot := 0, constantValue := 0 }, { name := "inKeyOrValue", type := .int, accessFlags := 18, slot := 1, constantValue := 0 }, { name := "lengthEnd", type := .int, accessFlags := 18, slot := 2, constantValue := 0 }, { name := "NONE", type := (.object "com/example/ponca/ponca/store/LogDamage$Whole"), accessFlags := 24, slot := 0, constantValue := 0 }, { name := "UNTOLD", type := (.object "com/example/ponca/ponca/store/LogDamage$Whole"), accessFlags := 24, slot := 1, constantValue := 0 }]
  methods := #[k3m0, k3m1]
  instanceTypes := #[.int, .int, .int]
  staticTypes := #[(.object "com/example/ponca/ponca/store/LogDamage$Whole"), (.object "com/example/ponca/ponca/store/LogDamage$Whole")]
  resolved := Array.replicate 76 none
  statics := none }

def pool4 : Array CpInfo := pool [(1, u "java/lang/Cloneable"), (0, .class_ 1), (0, u "java/lang/Object"), (0, .class_ 3)] 3

/-- java/lang/Cloneable -/
def k4 : Class := { plain "java/lang/Cloneable" (some 0) with
  accessFlags := 1537
  interfaces := #[]
  cf := some (fileOf pool4 2 #[] #[] 1537 4 #[] #[])
  fields := #[]
  methods := #[]
  instanceTypes := #[]
  staticTypes := #[]
  resolved := Array.replicate 8 none
  statics := none }

def pool5 : Array CpInfo := pool [(1, u "java/io/Serializable"), (0, .class_ 1), (0, u "java/lang/Object"), (0, .class_ 3)] 3

/-- java/io/Serializable -/
def k5 : Class := { plain "java/io/Serializable" (some 0) with
  accessFlags := 1537
  interfaces := #[]
  cf := some (fileOf pool5 2 #[] #[] 1537 4 #[] #[])
  fields := #[]
  methods := #[]
  instanceTypes := #[]
  staticTypes := #[]
  resolved := Array.replicate 8 none
  statics := none }

/-- the primitive byte -/
def k6 : Class := { plain "byte" none with kind := .primitive 'B', accessFlags := 0x411 }
/-- [B -/
def k7 : Class := { plain "[B" (some 0) with kind := .array 6 .byte, interfaces := #[4, 5], accessFlags := 1041 }

/-- the primitive int -/
def k8 : Class := { plain "int" none with kind := .primitive 'I', accessFlags := 0x411 }
/-- [I -/
def k9 : Class := { plain "[I" (some 0) with kind := .array 8 .int, interfaces := #[4, 5], accessFlags := 1041 }

def heap : Heap := #[]
def classes : Array Class := #[k0, k1, k2, k3, k4, k5, k6, k7, k8, k9]
def interned : List (Array UInt16 × Addr) := []
def slotsUsed : Nat := 0
def theMethod : MethodId := ⟨1, 1⟩
def args0 : Array Value := #[.int 5, .int 5, .int 5, .int 5]
def aboutOver (below : List Frame) : State where
  vm := { classes := classes, interned := interned.toArray }
  heap := heap
  slotsUsed := slotsUsed
  threads := #[{ frames := .invoking theMethod args0 :: below }]
def below0 : List Frame := [.native { method := ⟨0, 0⟩, args := #[] }]
def about1 : State := aboutOver below0
def p0 : Program := .bare "" "" ""
def e0 : Env := launch0.env 0 0 0
theorem w_frames : about1.frames = Frame.invoking theMethod args0 :: below0 := rfl
set_option maxRecDepth 65536 in
theorem w_args : argsFit about1.vm theMethod args0 = true := by decide +kernel
set_option maxRecDepth 65536 in
theorem w_heap : heapFits about1 = true := by decide +kernel
set_option maxRecDepth 65536 in
theorem w_runnable : about1.curStatus? = some .runnable := by decide +kernel
set_option maxRecDepth 65536 in
theorem w_alone : about1.alone = true := by decide +kernel
set_option maxRecDepth 65536 in
theorem w_named : about1.methodNamed? x = some theMethod := by decide +kernel
set_option maxRecDepth 65536 in
theorem w_hears : about1.hears theMethod below0 = true := by decide +kernel
set_option maxRecDepth 65536 in
theorem w_ripe : about1.ripe theMethod args0 below0 = true := by decide +kernel
theorem w_running : about1.status = .running := rfl
set_option maxRecDepth 65536 in
theorem w_room : about1.hasRoom e0.platform room_1 = true :=
  launch0.hasRoom_least _ room_1 (by decide +kernel) (by decide +kernel) (by decide +kernel) (by decide +kernel) (by decide +kernel) (by decide +kernel)
theorem allAtoms_all (ts : List Jvm.Cond) (a : Array Jvm.Value) (st : Jvm.State) : (allAtoms ts).before a st = ts.all (fun c => c.before a st) := by
  induction ts with
  | nil => rfl
  | cons c t ih =>
    show (Jvm.Cond.and c (allAtoms t)).before a st = _
    rw [Jvm.Cond.before_and, ih, List.all_cons]
def words1 : List Jvm.Cond := Jvm.Cond.code x code maxLocals ret :: tables_1
/-- a 'code' word, met by the world's own term for the bytes: nothing is compared byte by byte -/
theorem code_word {y : MethodName} {bytes : ByteArray} {mx : Nat} {rt : Option FieldType} {a : Array Value} {s : State} {m : MethodId} {meth : Method} {c : Code} (h1 : s.methodNamed? y = some m) (h2 : s.vm.method? m = some meth) (h3 : meth.code = some c) (h4 : c.code = bytes)
    (h5 : (c.maxLocals == mx && c.exceptionTable.isEmpty && decide (c.maxStack ≤ mostOperands) && decide (meth.sig.returnType = rt) && !meth.locks && decide (parseMethodDescriptor y.desc = some meth.sig)) = true) : (Jvm.Cond.code y bytes mx rt).before a s = true := by
  simp only [Bool.and_eq_true, beq_iff_eq, Bool.not_eq_true', decide_eq_true_eq] at h5
  obtain ⟨⟨⟨⟨⟨g1, g2⟩, g3⟩, g4⟩, g5⟩, g6⟩ := h5
  simp [Cond.before, Cond.holds, Cond.value, h1, h2, h3, h4, g1, g2, g3, g4, g5, g6]
def isCode : Jvm.Cond → Bool
  | .code _ _ _ _ => true
  | _ => false
theorem all_split {L : List Jvm.Cond} {P : Jvm.Cond → Bool} (h1 : L.all (fun c => isCode c || P c) = true) (h2 : ∀ c ∈ L.filter isCode, P c = true) : L.all P = true := by
  refine List.all_eq_true.mpr fun c hc => ?_
  have h := List.all_eq_true.mp h1 c hc
  rcases Bool.eq_false_or_eq_true (isCode c) with hi | hi
  · exact h2 c (List.mem_filter.mpr ⟨hc, hi⟩)
  · simpa [hi] using h
set_option maxRecDepth 65536 in
theorem w_c0 : (Jvm.Cond.code x code maxLocals ret).before args0 about1 = true := code_word (m := ⟨1, 1⟩) (meth := k1m1) (c := k1c1) (by decide +kernel) rfl rfl rfl (by decide +kernel)
set_option maxRecDepth 65536 in
theorem w_c1 : (Jvm.Cond.code ({ cls := "com/example/ponca/ponca/store/LogDamage$Whole", name := "<init>", desc := "(III)V" } : Jvm.MethodName) prog_56_method_1_code (4 : Nat) (Option.none : Option Jvm.ClassFile.FieldType)).before args0 about1 = true := code_word (m := ⟨3, 0⟩) (meth := k3m0) (c := k3c0) (by decide +kernel) rfl rfl rfl (by decide +kernel)
set_option maxRecDepth 65536 in
theorem w_c2 : (Jvm.Cond.code ({ cls := "java/lang/Record", name := "<init>", desc := "()V" } : Jvm.MethodName) jdk_30_method_1_code (1 : Nat) (Option.none : Option Jvm.ClassFile.FieldType)).before args0 about1 = true := code_word (m := ⟨2, 0⟩) (meth := k2m0) (c := k2c0) (by decide +kernel) rfl rfl rfl (by decide +kernel)
set_option maxRecDepth 65536 in
theorem w_c3 : (Jvm.Cond.code ({ cls := "java/lang/Object", name := "<init>", desc := "()V" } : Jvm.MethodName) object_method_1_code (1 : Nat) (Option.none : Option Jvm.ClassFile.FieldType)).before args0 about1 = true := code_word (m := ⟨0, 0⟩) (meth := k0m0) (c := k0c0) (by decide +kernel) rfl rfl rfl (by decide +kernel)
set_option maxRecDepth 65536 in
theorem w_c4 : (Jvm.Cond.code ({ cls := "com/example/ponca/ponca/store/LogDamage$Whole", name := "first", desc := "()I" } : Jvm.MethodName) prog_56_method_2_code (1 : Nat) (Option.some Jvm.ClassFile.FieldType.int)).before args0 about1 = true := code_word (m := ⟨3, 1⟩) (meth := k3m1) (c := k3c1) (by decide +kernel) rfl rfl rfl (by decide +kernel)
def codes1 : List Jvm.Cond := [Jvm.Cond.code x code maxLocals ret, Jvm.Cond.code ({ cls := "com/example/ponca/ponca/store/LogDamage$Whole", name := "<init>", desc := "(III)V" } : Jvm.MethodName) prog_56_method_1_code (4 : Nat) (Option.none : Option Jvm.ClassFile.FieldType), Jvm.Cond.code ({ cls := "java/lang/Record", name := "<init>", desc := "()V" } : Jvm.MethodName) jdk_30_method_1_code (1 : Nat) (Option.none : Option Jvm.ClassFile.FieldType), Jvm.Cond.code ({ cls := "java/lang/Object", name := "<init>", desc := "()V" } : Jvm.MethodName) object_method_1_code (1 : Nat) (Option.none : Option Jvm.ClassFile.FieldType), Jvm.Cond.code ({ cls := "com/example/ponca/ponca/store/LogDamage$Whole", name := "first", desc := "()I" } : Jvm.MethodName) prog_56_method_2_code (1 : Nat) (Option.some Jvm.ClassFile.FieldType.int)]
set_option maxRecDepth 65536 in
theorem codes_eq : words1.filter isCode = codes1 := rfl
theorem w_codes : ∀ c ∈ words1.filter isCode, c.before args0 about1 = true := by
  rw [codes_eq]
  intro c hc
  simp only [codes1, List.mem_cons, List.not_mem_nil, or_false] at hc
  rcases hc with rfl | rfl | rfl | rfl | rfl
  · exact w_c0
  · exact w_c1
  · exact w_c2
  · exact w_c3
  · exact w_c4
set_option maxRecDepth 65536 in
theorem w_t1 : (words1.take 24).all (fun c => isCode c || c.before args0 about1) = true := by decide +kernel
set_option maxRecDepth 65536 in
theorem w_t2 : (words1.drop 24).all (fun c => isCode c || c.before args0 about1) = true := by decide +kernel
theorem w_tables : (allAtoms (Jvm.Cond.code x code maxLocals ret :: tables_1)).before args0 about1 = true := by
  rw [allAtoms_all]
  show words1.all (fun c => c.before args0 about1) = true
  refine all_split ?_ w_codes
  rw [← List.take_append_drop 24 words1, List.all_append, w_t1, w_t2]
  rfl
set_option maxRecDepth 65536 in
theorem w_case : (Jvm.Cond.and given_1 narrow_1).before args0 about1 = true := by decide +kernel
theorem w_applies : (headSpec (Jvm.Cond.code x code maxLocals ret :: tables_1) room_1).applies x e0.platform about1 = true :=
  (Spec.applies_iff w_frames).mpr ⟨w_running, w_runnable, w_alone, w_named, w_hears, w_ripe, w_room, w_tables⟩
theorem atStart : AtStart classFile x code maxLocals ret World_1 tables_1 room_1 Calls_1 rest_1 Pre_1 launch0 p0 e0 about1 theMethod args0 below0 :=
  ⟨lists_1, trivial, launch0.admits_env _ _ _, launch0.least_env, fairChoices_fair.cas, fairChoices_fair.clock, w_frames, w_args, w_heap, w_applies, trivial, trivial, w_case⟩
end start1
theorem witness_1 : WitnessClaimed_1 := ⟨start1.p0, start1.e0, start1.about1, start1.theMethod, start1.args0, start1.below0, start1.atStart⟩
end Jvm.Pilot.@@N@@
