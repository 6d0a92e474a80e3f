import JvmDerived
import JvmDerived.Pilot.@@N@@Statement
import JvmDerived.Pilot.@@N@@Code
set_option linter.unusedVariables false
set_option linter.unusedSimpArgs false
@@BLOCK:NumsL.lean.txt@@
namespace Jvm.RoadKit
open Sem ClassFile Op Lib Jvm.Stand Jvm.Free Jvm.LawKit
section New
variable {p : Program} {l : Launch} {e : Env} {R : Room} {s : State} {m : MethodId} {args : Array Value} {below : List Frame} {meth : Method} {c : Code} {T : State} {locs : List Loc} {cells slots : Nat}
theorem retI (X : Stand p l e R s m args below meth c T locs cells slots) (hx : p.tables.exec = Jvm.exec) {pc : Nat} {Ls : Array Slot} {z : Int32} {rest : List Value} (hret : meth.sig.returnType = some .int) (hd : decode c.code pc = .ok (.ireturn, 1)) {fs : List Frame}
    (hl : ∀ (f : JFrame) (acts : List Action), f.method = m → f.locked = none → f.entered = [] → (doReturn e (T.setTop f) acts (some (.int z))).1 = T.setFrames fs) : Steps p.tables e below (T.setTop (mkF m pc Ls (.int z :: rest))) (T.setFrames fs) := by
  have hm' : T.vm.method? m = some meth := X.method'
  have hn : narrow .int (.int z) = .int z := rfl
  show Steps p.tables e below (T.setTop { method := m, pc := pc, locals := Ls, stack := _ :: rest, locked := none }) _
  jvm_step X.here [X.here.top, hx, hd, hm', hret, hn]
  first | (intro acts; rw [hl _ acts rfl rfl rfl]) | rw [hl _ _ rfl rfl rfl]
  exact Steps.refl _
end New
theorem own_dia {tb : Tables} {e : Env} {below : List Frame} {T tgt : State} {g : JFrame} {A : Type} {u v : A} (q : Prop) [Decidable q] (f : A → JFrame)
    (h1 : q → Steps tb e below (T.setTop (f u)) tgt → Steps tb e below (T.setTop g) tgt) (h0 : ¬ q → Steps tb e below (T.setTop (f v)) tgt → Steps tb e below (T.setTop g) tgt)
    (k : Steps tb e below (T.setTop (f (if q then u else v))) tgt) : Steps tb e below (T.setTop g) tgt := by
  by_cases hq : q
  · rw [if_pos hq] at k; exact h1 hq k
  · rw [if_neg hq] at k; exact h0 hq k
theorem own_cast {tb : Tables} {e : Env} {below : List Frame} {T tgt : State} {A : Type} {u v : A} (f : A → JFrame) (h : u = v) (k : Steps tb e below (T.setTop (f v)) tgt) : Steps tb e below (T.setTop (f u)) tgt := h ▸ k
theorem own_llt {x y : Int64} (h : x < y) : ifCond.holds .lt (lcmpW x y) = true ∧ ifCond.holds .ge (lcmpW x y) = false := by
  rw [if0, if0]; exact ⟨(tlt ((lw_lt x y).mpr h)).1, (tlt ((lw_lt x y).mpr h)).2.1⟩
theorem own_lge {x y : Int64} (h : ¬ x < y) : ifCond.holds .lt (lcmpW x y) = false ∧ ifCond.holds .ge (lcmpW x y) = true := by
  rw [if0, if0]; exact ⟨(flt fun q => h ((lw_lt x y).mp q)).1, (flt fun q => h ((lw_lt x y).mp q)).2.1⟩
theorem own_lgt {x y : Int64} (h : y < x) : ifCond.holds .gt (lcmpW x y) = true ∧ ifCond.holds .le (lcmpW x y) = false := by
  rw [if0, if0]; exact ⟨(tlt ((lw_gt x y).mpr h)).2.2.1, (tlt ((lw_gt x y).mpr h)).2.2.2⟩
theorem own_lle {x y : Int64} (h : ¬ y < x) : ifCond.holds .gt (lcmpW x y) = false ∧ ifCond.holds .le (lcmpW x y) = true := by
  rw [if0, if0]; exact ⟨(flt fun q => h ((lw_gt x y).mp q)).2.2.1, (flt fun q => h ((lw_gt x y).mp q)).2.2.2⟩
theorem own_leq {x y : Int64} (h : x = y) : ifCond.holds .eq (lcmpW x y) = true ∧ ifCond.holds .ne (lcmpW x y) = false := by
  rw [if0, if0]; exact ⟨(teq ((lw_eq x y).mpr h)).1, (teq ((lw_eq x y).mpr h)).2⟩
theorem own_lne {x y : Int64} (h : ¬ x = y) : ifCond.holds .eq (lcmpW x y) = false ∧ ifCond.holds .ne (lcmpW x y) = true := by
  rw [if0, if0]; exact ⟨(feq fun q => h ((lw_eq x y).mp q)).1, (feq fun q => h ((lw_eq x y).mp q)).2⟩
theorem own_bt {q : Prop} [Decidable q] (h : q) : ifCond.holds .ne (if q then (1 : Int32) else (0 : Int32)) = true ∧ ifCond.holds .eq (if q then (1 : Int32) else (0 : Int32)) = false := by
  rw [if_pos h]; exact ⟨rfl, rfl⟩
theorem own_bf {q : Prop} [Decidable q] (h : ¬ q) : ifCond.holds .ne (if q then (1 : Int32) else (0 : Int32)) = false ∧ ifCond.holds .eq (if q then (1 : Int32) else (0 : Int32)) = true := by
  rw [if_neg h]; exact ⟨rfl, rfl⟩
theorem own_ct {q : Prop} [Decidable q] (h : q) : ifCond.holds .ne (if q then (0 : Int32) else (1 : Int32)) = false ∧ ifCond.holds .eq (if q then (0 : Int32) else (1 : Int32)) = true := by
  rw [if_pos h]; exact ⟨rfl, rfl⟩
theorem own_cf {q : Prop} [Decidable q] (h : ¬ q) : ifCond.holds .ne (if q then (0 : Int32) else (1 : Int32)) = true ∧ ifCond.holds .eq (if q then (0 : Int32) else (1 : Int32)) = false := by
  rw [if_neg h]; exact ⟨rfl, rfl⟩
theorem own_b01 {q : Prop} [Decidable q] {x y : Int32} (hx : x = 0 ∨ x = 1) (hy : y = 0 ∨ y = 1) : (if q then x else y) = 0 ∨ (if q then x else y) = 1 := by
  split <;> assumption
def Arf (Z : State) (h : Heap) (a : Addr) (ty : FieldType) (n : Int32) (f : Nat → Value) : Prop :=
  ∃ c : Cell, Arr Z h a c ty ∧ c.slots.size = n.toNatClampNeg ∧ ¬ n < 0 ∧ ∀ i, i < n.toNatClampNeg → c.slots[i]? = some (f i)
theorem Arf.lt {Z : State} {h : Heap} {a : Addr} {ty : FieldType} {n : Int32} {f : Nat → Value} (F : Arf Z h a ty n f) : a < h.size := by
  obtain ⟨c, A, -⟩ := F; exact A.lt
theorem Arf.ext {Z : State} {h h' : Heap} {a : Addr} {ty : FieldType} {n : Int32} {f : Nat → Value} (F : Arf Z h a ty n f) (E : Ext h h') : Arf Z h' a ty n f := by
  obtain ⟨c, A, r⟩ := F; exact ⟨c, A.ext E, r⟩
theorem Arf.other {Z : State} {h h' : Heap} {a b : Addr} {sl : Nat} {v : Value} {ty : FieldType} {n : Int32} {f : Nat → Value} (F : Arf Z h b ty n f) (W : Wr h h' a sl v) (q : b ≠ a) : Arf Z h' b ty n f := by
  obtain ⟨c, A, r⟩ := F; exact ⟨c, A.other W q, r⟩
theorem Arf.keep {Z : State} {h h' : Heap} {a : Addr} {ws : List Addr} {ty : FieldType} {n : Int32} {f : Nat → Value} (F : Arf Z h a ty n f) (K : Keep h h' ws) (q : a ∉ ws) : Arf Z h' a ty n f := by
  obtain ⟨c, A, r⟩ := F; exact ⟨c, ⟨K.2.1 a c A.1 q, A.2⟩, r⟩
theorem own_arf_new {Z : State} {h : Heap} {a : Addr} {k : ClassId} {ty : FieldType} {z : Int32} (A : Arr Z h a (newA k ty z) ty) (q : ¬ z < 0) : Arf Z h a ty z (fun _ => defaultValue ty) :=
  ⟨_, A, sz_new _ _ _, q, fun i hi => by simp [newA, hi]⟩
theorem own_arf_set {Z : State} {h h' : Heap} {a : Addr} {ty : FieldType} {n : Int32} {f : Nat → Value} {j : Nat} {v : Value} (F : Arf Z h a ty n f) (W : Wr h h' a j v) : Arf Z h' a ty n (fun i => if i = j then v else f i) := by
  obtain ⟨c, A, S, M, H⟩ := F
  refine ⟨_, A.same W, by rw [sz_set]; exact S, M, fun i hi => ?_⟩
  show _ = some (if i = j then v else f i)
  by_cases u : i = j
  · subst u; rw [if_pos rfl]; rw [← S] at hi; simp [Cell.setSlot, hi]
  · rw [if_neg u]; have := H i hi; simp only [Cell.setSlot]; rw [Array.getElem?_setIfInBounds_ne (Ne.symm u)]; exact this
theorem own_arf_fn {Z : State} {h : Heap} {a : Addr} {ty : FieldType} {n : Int32} {f g : Nat → Value} (F : Arf Z h a ty n f) (q : ∀ i, i < n.toNatClampNeg → f i = g i) : Arf Z h a ty n g := by
  obtain ⟨c, A, S, M, H⟩ := F
  exact ⟨c, A, S, M, fun i hi => by rw [← q i hi]; exact H i hi⟩
theorem own_arf_setI {Z : State} {h h' : Heap} {a : Addr} {ty : FieldType} {n : Int32} {f : Nat → Int32} {j : Nat} {v : Int32} (F : Arf Z h a ty n (fun i => Value.int (f i))) (W : Wr h h' a j (.int v)) : Arf Z h' a ty n (fun i => Value.int (if i = j then v else f i)) :=
  own_arf_fn (own_arf_set F W) fun i _ => by by_cases u : i = j <;> simp [u]
theorem own_arf_setL {Z : State} {h h' : Heap} {a : Addr} {ty : FieldType} {n : Int32} {f : Nat → Int64} {j : Nat} {v : Int64} (F : Arf Z h a ty n (fun i => Value.long (f i))) (W : Wr h h' a j (.long v)) : Arf Z h' a ty n (fun i => Value.long (if i = j then v else f i)) :=
  own_arf_fn (own_arf_set F W) fun i _ => by by_cases u : i = j <;> simp [u]
theorem own_arf_at {c : Cell} {n j : Int32} {f : Nat → Value} (H : ∀ i, i < n.toNatClampNeg → c.slots[i]? = some (f i)) (S : c.slots.size = n.toNatClampNeg) (q : ¬ (j < 0 ∨ c.slots.size ≤ j.toNatClampNeg)) : c.slots[j.toNatClampNeg]? = some (f j.toNatClampNeg) :=
  H _ (by rw [← S]; exact Nat.lt_of_not_le fun y => q (Or.inr y))
theorem own_nb {x : Int32} (h : x = 0 ∨ x = 1) : nar .boolean x = x := by
  rcases h with rfl | rfl <;> rfl
end Jvm.RoadKit
namespace Jvm.Pilot.@@N@@
open Jvm Jvm.ClassFile Sem Op Lib Jvm.Free Jvm.Stand Jvm.LawKit Jvm.RoadKit Bundle Jvm.Pilot.@@N@@.Jvm.D
theorem d2_0 : decode jdk_30_method_1_code 0 = .ok (.aload_n 0, 1) := by decide +kernel
theorem d2_1 : decode jdk_30_method_1_code 1 = .ok (.invokespecial 1, 3) := by decide +kernel
theorem d2_4 : decode jdk_30_method_1_code 4 = .ok (.return_, 1) := by decide +kernel
theorem pn_2 : plainName "java/lang/Record" = true := by first | (simp [plainName, overriddenIn]; done) | decide +kernel
theorem ef_2 (m : MethodId) (va : Addr) : entryFrame m #[(.ref va)] 1 = mkF m 0 #[.val (.ref va)] [] := by first | (simp [entryFrame, mkF, argsToLocals, Value.category]; done) | rfl
def Q2 (Z : State) (va : Addr) (h0 : Heap) (n0 : Nat) (v : Option Value) (h : Heap) (L : List Loc) : Prop := v = none ∧ Fr n0 L ∧ h = h0
set_option maxRecDepth 65536 in
set_option maxHeartbeats 40000000 in
theorem rm2 (l : Launch) (Z : State) (a0 : Array Value) (hw : ∀ d ∈ tables_1, d.before a0 Z = true) (ws : List Jvm.Cond) (va : Addr) (h0 : Heap) (n0 : Nat) (Z0 : n0 ≤ h0.size)  :
    MetFree l (⟨"java/lang/Record", "<init>", "()V"⟩ : MethodName) (head1 (Jvm.Cond.code (⟨"java/lang/Record", "<init>", "()V"⟩ : MethodName) jdk_30_method_1_code 1 none :: ws) ({ frames := 1, cells := 0, slots := 0, locals := 12 } : Room)) (fun a U => a = #[(.ref va)] ∧ Z.Warmed39 U.vm ∧ U.heap = h0) (fun _ _ _ _ _ => True) (fun _ U o U' => ∃ v L, o = .returned v ∧ Q2 Z va h0 n0 v U'.heap L ∧ FrameEnd U o U' L ({ frames := 1, cells := 0, slots := 0, locals := 12 } : Room).cells ({ frames := 1, cells := 0, slots := 0, locals := 12 } : Room).slots) := by
  refine MetFree.of_bodySF (plainFor_of_name pn_2) hisR ?_
  intro p e s m args below meth c s₁ Bd hml0 hP hK
  obtain ⟨rfl, hZ, hh⟩ := hP
  have hx := Bd.exec
  have hby := Bd.bytes
  have hml : c.maxLocals = 1 := hml0
  have hown : s.vm.findClass "java/lang/Record" = some m.cls := findClass_of_methodNamed Bd.named
  have hnm := (name_of_methodNamed Bd.named Bd.method).1
  have X0 : Stand p l e ({ frames := 1, cells := 0, slots := 0, locals := 12 } : Room) s m #[(.ref va)] below meth c s₁ [] 0 0 := Stand.of_body Bd
  have e0 : s₁.heap = h0 := by rw [← hh, Bd.state]; rfl
  have N0 := Fr.nil n0
  have pre0 : ∀ t, Steps p.tables e below (s₁.setTop (mkF m 0 #[.val (.ref va)] [])) t → Steps p.tables e below (s₁.setTop (entryFrame m #[(.ref va)] 1)) t := fun t k => castTop (ef_2 m va) k
  obtain ⟨T1, X1, e1, st1⟩ := initO X0 hx hZ hown (hw _ (List.mem_of_getElem? (i := 14) rfl)) (hw _ (List.mem_of_getElem? (i := 15) rfl)) (hw _ (List.mem_of_getElem? (i := 16) rfl)) e0 (g := (mkF m 1 #[.val (.ref va)] [(.ref va)])) rfl (by rw [hml]; rfl) rfl (hb hby d2_1) (by decide) (W := 0) (by show 2 * 0 + _ ≤ _; exact Nat.le_of_eq rfl) (by decide)
  obtain ⟨fs, hr, hrun, hended, hW, hsame⟩ := X1.leave (v := none) (fun _ => rfl)
  refine ⟨_, _, pre0 _ ?_, hrun, hended, _, _, rfl, ?_, ⟨_, rfl⟩, hW, hsame.mono (by decide) (by decide)⟩
  · show Steps p.tables e below (s₁.setTop (mkF m 0 #[.val (.ref va)] [])) _
    refine XS.aloadN X0.here hx rfl (hb hby d2_0) rfl rfl ?_
    show Steps p.tables e below (s₁.setTop (mkF m 1 #[.val (.ref va)] [(.ref va)])) _
    refine st1 _ ?_
    show Steps p.tables e below (T1.setTop (mkF m 4 #[.val (.ref va)] [])) _
    exact X1.returnOut hx Bd.returns (hb hby d2_4) hr
  · show Q2 Z va h0 n0 _ T1.heap _
    rw [e1]
    exact ⟨rfl, N0, rfl⟩
theorem pd_0 : parseMethodDescriptor "()V" = some ⟨[], none⟩ := by decide +kernel
theorem d1_0 : decode prog_29_method_1_code 0 = .ok (.aload_n 0, 1) := by decide +kernel
theorem d1_1 : decode prog_29_method_1_code 1 = .ok (.invokespecial 3, 3) := by decide +kernel
theorem d1_4 : decode prog_29_method_1_code 4 = .ok (.aload_n 0, 1) := by decide +kernel
theorem d1_5 : decode prog_29_method_1_code 5 = .ok (.iload_n 1, 1) := by decide +kernel
theorem d1_6 : decode prog_29_method_1_code 6 = .ok (.putfield 9, 3) := by decide +kernel
theorem d1_9 : decode prog_29_method_1_code 9 = .ok (.aload_n 0, 1) := by decide +kernel
theorem d1_10 : decode prog_29_method_1_code 10 = .ok (.iload_n 2, 1) := by decide +kernel
theorem d1_11 : decode prog_29_method_1_code 11 = .ok (.putfield 15, 3) := by decide +kernel
theorem d1_14 : decode prog_29_method_1_code 14 = .ok (.return_, 1) := by decide +kernel
theorem pn_1 : plainName "com/example/threadkeep/threadkeep/store/Blocks$Shape" = true := by first | (simp [plainName, overriddenIn]; done) | decide +kernel
theorem ef_1 (m : MethodId) (va : Addr) (vc : Int32) (vl : Int32) : entryFrame m #[(.ref va), (.int vc), (.int vl)] 3 = mkF m 0 #[.val (.ref va), .val (.int vc), .val (.int vl)] [] := by first | (simp [entryFrame, mkF, argsToLocals, Value.category]; done) | rfl
def Q1 (Z : State) (va : Addr) (vc : Int32) (vl : Int32) (h0 : Heap) (n0 : Nat) (v : Option Value) (h : Heap) (L : List Loc) : Prop := v = none ∧ Fr n0 L ∧ Keep h0 h [va] ∧ Exa Z h va "com/example/threadkeep/threadkeep/store/Blocks$Shape" ∧ Fld Z h va "com/example/threadkeep/threadkeep/store/Blocks$Shape" "count" "I" (.int vc) ∧ Fld Z h va "com/example/threadkeep/threadkeep/store/Blocks$Shape" "lastLength" "I" (.int vl)
set_option maxRecDepth 65536 in
set_option maxHeartbeats 40000000 in
theorem rm1 (l : Launch) (Z : State) (a0 : Array Value) (hw : ∀ d ∈ tables_1, d.before a0 Z = true) (ws : List Jvm.Cond) (va : Addr) (vc : Int32) (vl : Int32) (h0 : Heap) (n0 : Nat) (Z0 : n0 ≤ h0.size) (E_va : Exa Z h0 va "com/example/threadkeep/threadkeep/store/Blocks$Shape") (g_va : n0 ≤ va) (F_va_count : Fld Z h0 va "com/example/threadkeep/threadkeep/store/Blocks$Shape" "count" "I" (.int (0 : Int32))) (F_va_lastLength : Fld Z h0 va "com/example/threadkeep/threadkeep/store/Blocks$Shape" "lastLength" "I" (.int (0 : Int32))) :
    MetFree l (⟨"com/example/threadkeep/threadkeep/store/Blocks$Shape", "<init>", "(II)V"⟩ : MethodName) (head1 (Jvm.Cond.code (⟨"com/example/threadkeep/threadkeep/store/Blocks$Shape", "<init>", "(II)V"⟩ : MethodName) prog_29_method_1_code 3 none :: ws) ({ frames := 2, cells := 0, slots := 0, locals := 24 } : Room)) (fun a U => a = #[(.ref va), (.int vc), (.int vl)] ∧ Z.Warmed39 U.vm ∧ U.heap = h0) (fun _ _ _ _ _ => True) (fun _ U o U' => ∃ v L, o = .returned v ∧ Q1 Z va vc vl h0 n0 v U'.heap L ∧ FrameEnd U o U' L ({ frames := 2, cells := 0, slots := 0, locals := 24 } : Room).cells ({ frames := 2, cells := 0, slots := 0, locals := 24 } : Room).slots) := by
  refine MetFree.of_bodySF (plainFor_of_name pn_1) hisR ?_
  intro p e s m args below meth c s₁ Bd hml0 hP hK
  obtain ⟨rfl, hZ, hh⟩ := hP
  have hx := Bd.exec
  have hby := Bd.bytes
  have hml : c.maxLocals = 3 := hml0
  have hown : s.vm.findClass "com/example/threadkeep/threadkeep/store/Blocks$Shape" = some m.cls := findClass_of_methodNamed Bd.named
  have hnm := (name_of_methodNamed Bd.named Bd.method).1
  have X0 : Stand p l e ({ frames := 2, cells := 0, slots := 0, locals := 24 } : Room) s m #[(.ref va), (.int vc), (.int vl)] below meth c s₁ [] 0 0 := Stand.of_body Bd
  have e0 : s₁.heap = h0 := by rw [← hh, Bd.state]; rfl
  have N0 := Fr.nil n0
  have pre0 : ∀ t, Steps p.tables e below (s₁.setTop (mkF m 0 #[.val (.ref va), .val (.int vc), .val (.int vl)] [])) t → Steps p.tables e below (s₁.setTop (entryFrame m #[(.ref va), (.int vc), (.int vl)] 3)) t := fun t k => castTop (ef_1 m va vc vl) k
  have K0 := Keep.refl h0 [va]
  obtain ⟨_, _, ⟨T1, L1, k1, n1⟩, -, X1, ⟨Lc1, hQ1, l1, y1, z1⟩, st1⟩ := X0.specialBack hx (y := (⟨"java/lang/Record", "<init>", "()V"⟩ : MethodName)) rfl hown (mvT hZ (hw _ (List.mem_of_getElem? (i := 9) rfl))) (mvT hZ (hw _ (List.mem_of_getElem? (i := 10) rfl))) (mvT hZ (hw _ (List.mem_of_getElem? (i := 13) rfl))) (by decide) (backOf (W := 0) (rm2 l Z a0 hw [] va  h0 n0 Z0 ) hZ (hw _ (List.mem_of_getElem? (i := 13) rfl)) (hw _ (List.mem_of_getElem? (i := 12) rfl)) (by decide) (by decide)) (g := (mkF m 1 #[.val (.ref va), .val (.int vc), .val (.int vl)] [(.ref va)])) rfl (by rw [hml]; rfl) (Steps.refl _) (a := va) (argsL := []) (rest := []) (lenOf pd_0 rfl) rfl (by show 2 * 0 + _ ≤ _; exact Nat.le_of_eq rfl) (hb hby d1_1) (fun _ _ => ⟨rfl, e0, (by decide : 0 + 0 ≤ _), (by decide : 0 + 0 ≤ _)⟩)
  dsimp only [Pt.U, Pt.locs, Pt.cells, Pt.slots] at X1 l1 y1 z1 st1 hQ1
  subst l1 y1 z1
  obtain ⟨rfl, N1q, e1⟩ := hQ1
  have N1 := Fr.app N0 N1q
  obtain ⟨T2, h2, X2, e2, W2, st2⟩ := putF X1 hx hZ hown (host := "") (Or.inl (hw _ (List.mem_of_getElem? (i := 17) rfl))) Via.refl e1 F_va_count E_va (Or.inr ⟨(hw _ (List.mem_of_getElem? (i := 18) rfl)), rfl, hnm⟩) (hw _ (List.mem_of_getElem? (i := 4) rfl)) (ty := .int) (by decide) rfl rfl (g := (mkF m 6 #[.val (.ref va), .val (.int vc), .val (.int vl)] [(.int vc), (.ref va)])) rfl rfl (hb hby d1_6)
  have Z3 : n0 ≤ h2.size := Nat.le_trans Z0 (Keep.of_wr W2).1
  have E4_va := E_va.wr W2
  have F6_va_lastLength := F_va_lastLength.other W2 (Or.inr (slot_ne (Or.inr (hw _ (List.mem_of_getElem? (i := 20) rfl))) (Or.inr (hw _ (List.mem_of_getElem? (i := 18) rfl))) (by decide) (t := .int) (t' := .int) (by decide) (by decide)))
  have Fw2 := F_va_count.same W2
  have N2 := Fr.snoc X2 N1 g_va
  have K2 := K0.wr W2 (Or.inl (List.mem_of_getElem? (i := 0) rfl))
  obtain ⟨T7, h7, X7, e7, W7, st7⟩ := putF X2 hx hZ hown (host := "") (Or.inl (hw _ (List.mem_of_getElem? (i := 19) rfl))) Via.refl e2 F6_va_lastLength E4_va (Or.inr ⟨(hw _ (List.mem_of_getElem? (i := 20) rfl)), rfl, hnm⟩) (hw _ (List.mem_of_getElem? (i := 4) rfl)) (ty := .int) (by decide) rfl rfl (g := (mkF m 11 #[.val (.ref va), .val (.int vc), .val (.int vl)] [(.int vl), (.ref va)])) rfl rfl (hb hby d1_11)
  have Z8 : n0 ≤ h7.size := Nat.le_trans Z3 (Keep.of_wr W7).1
  have E9_va := E4_va.wr W7
  have F10_va_count := Fw2.other W7 (Or.inr (slot_ne (Or.inr (hw _ (List.mem_of_getElem? (i := 18) rfl))) (Or.inr (hw _ (List.mem_of_getElem? (i := 20) rfl))) (by decide) (t := .int) (t' := .int) (by decide) (by decide)))
  have Fw7 := F6_va_lastLength.same W7
  have N7 := Fr.snoc X7 N2 g_va
  have K7 := K2.wr W7 (Or.inl (List.mem_of_getElem? (i := 0) rfl))
  obtain ⟨fs, hr, hrun, hended, hW, hsame⟩ := X7.leave (v := none) (fun _ => rfl)
  refine ⟨_, _, pre0 _ ?_, hrun, hended, _, _, rfl, ?_, ⟨_, rfl⟩, hW, hsame.mono (by decide) (by decide)⟩
  · show Steps p.tables e below (s₁.setTop (mkF m 0 #[.val (.ref va), .val (.int vc), .val (.int vl)] [])) _
    refine XS.aloadN X0.here hx rfl (hb hby d1_0) rfl rfl ?_
    show Steps p.tables e below (s₁.setTop (mkF m 1 #[.val (.ref va), .val (.int vc), .val (.int vl)] [(.ref va)])) _
    refine st1.trans ?_
    show Steps p.tables e below (T1.setTop (mkF m 4 #[.val (.ref va), .val (.int vc), .val (.int vl)] [])) _
    refine XS.aloadN X1.here hx rfl (hb hby d1_4) rfl rfl ?_
    show Steps p.tables e below (T1.setTop (mkF m 5 #[.val (.ref va), .val (.int vc), .val (.int vl)] [(.ref va)])) _
    refine XS.iloadN X1.here hx rfl (hb hby d1_5) rfl ?_
    show Steps p.tables e below (T1.setTop (mkF m 6 #[.val (.ref va), .val (.int vc), .val (.int vl)] [(.int vc), (.ref va)])) _
    refine st2 _ ?_
    show Steps p.tables e below (T2.setTop (mkF m 9 #[.val (.ref va), .val (.int vc), .val (.int vl)] [])) _
    refine XS.aloadN X2.here hx rfl (hb hby d1_9) rfl rfl ?_
    show Steps p.tables e below (T2.setTop (mkF m 10 #[.val (.ref va), .val (.int vc), .val (.int vl)] [(.ref va)])) _
    refine XS.iloadN X2.here hx rfl (hb hby d1_10) rfl ?_
    show Steps p.tables e below (T2.setTop (mkF m 11 #[.val (.ref va), .val (.int vc), .val (.int vl)] [(.int vl), (.ref va)])) _
    refine st7 _ ?_
    show Steps p.tables e below (T7.setTop (mkF m 14 #[.val (.ref va), .val (.int vc), .val (.int vl)] [])) _
    exact X7.returnOut hx Bd.returns (hb hby d1_14) hr
  · show Q1 Z va vc vl h0 n0 _ T7.heap _
    rw [e7]
    exact ⟨rfl, N7, K7, E9_va, F10_va_count, Fw7⟩
theorem d4_0 : decode prog_29_method_2_code 0 = .ok (.aload_n 0, 1) := by decide +kernel
theorem d4_1 : decode prog_29_method_2_code 1 = .ok (.getfield 9, 3) := by decide +kernel
theorem d4_4 : decode prog_29_method_2_code 4 = .ok (.ifCond .ne 7, 3) := by decide +kernel
theorem d4_7 : decode prog_29_method_2_code 7 = .ok (.iconst 0, 1) := by decide +kernel
theorem d4_8 : decode prog_29_method_2_code 8 = .ok (.goto 17, 3) := by decide +kernel
theorem d4_11 : decode prog_29_method_2_code 11 = .ok (.aload_n 0, 1) := by decide +kernel
theorem d4_12 : decode prog_29_method_2_code 12 = .ok (.getfield 9, 3) := by decide +kernel
theorem d4_15 : decode prog_29_method_2_code 15 = .ok (.iconst 1, 1) := by decide +kernel
theorem d4_16 : decode prog_29_method_2_code 16 = .ok (.isub, 1) := by decide +kernel
theorem d4_17 : decode prog_29_method_2_code 17 = .ok (.ldc 18, 2) := by decide +kernel
theorem d4_19 : decode prog_29_method_2_code 19 = .ok (.imul, 1) := by decide +kernel
theorem d4_20 : decode prog_29_method_2_code 20 = .ok (.aload_n 0, 1) := by decide +kernel
theorem d4_21 : decode prog_29_method_2_code 21 = .ok (.getfield 15, 3) := by decide +kernel
theorem d4_24 : decode prog_29_method_2_code 24 = .ok (.iadd, 1) := by decide +kernel
theorem d4_25 : decode prog_29_method_2_code 25 = .ok (.ireturn, 1) := by decide +kernel
theorem pn_4 : plainName "com/example/threadkeep/threadkeep/store/Blocks$Shape" = true := by first | (simp [plainName, overriddenIn]; done) | decide +kernel
theorem ef_4 (m : MethodId) (va : Addr) : entryFrame m #[(.ref va)] 1 = mkF m 0 #[.val (.ref va)] [] := by first | (simp [entryFrame, mkF, argsToLocals, Value.category]; done) | rfl
def F4 (vc : Int32) (vl : Int32) : Int32 := (if vc = (0 : Int32) then (0 : Int32) else (((vc - (1 : Int32)) * (32768 : Int32)) + vl))
def Q4 (Z : State) (va : Addr) (vc : Int32) (vl : Int32) (h0 : Heap) (n0 : Nat) (v : Option Value) (h : Heap) (L : List Loc) : Prop := v = some (.int (F4 vc vl)) ∧ Fr n0 L ∧ h = h0
set_option maxRecDepth 65536 in
set_option maxHeartbeats 40000000 in
theorem rm4 (l : Launch) (Z : State) (a0 : Array Value) (hw : ∀ d ∈ tables_1, d.before a0 Z = true) (ws : List Jvm.Cond) (va : Addr) (vc : Int32) (vl : Int32) (h0 : Heap) (n0 : Nat) (Z0 : n0 ≤ h0.size) (F_va_count : Fld Z h0 va "com/example/threadkeep/threadkeep/store/Blocks$Shape" "count" "I" (.int vc)) (F_va_lastLength : Fld Z h0 va "com/example/threadkeep/threadkeep/store/Blocks$Shape" "lastLength" "I" (.int vl)) :
    MetFree l (⟨"com/example/threadkeep/threadkeep/store/Blocks$Shape", "room", "()I"⟩ : MethodName) (head1 (Jvm.Cond.code (⟨"com/example/threadkeep/threadkeep/store/Blocks$Shape", "room", "()I"⟩ : MethodName) prog_29_method_2_code 1 (some .int) :: ws) ({ frames := 0, cells := 0, slots := 0, locals := 0 } : Room)) (fun a U => a = #[(.ref va)] ∧ Z.Warmed39 U.vm ∧ U.heap = h0) (fun _ _ _ _ _ => True) (fun _ U o U' => ∃ v L, o = .returned v ∧ Q4 Z va vc vl h0 n0 v U'.heap L ∧ FrameEnd U o U' L ({ frames := 0, cells := 0, slots := 0, locals := 0 } : Room).cells ({ frames := 0, cells := 0, slots := 0, locals := 0 } : Room).slots) := by
  refine MetFree.of_bodySF (plainFor_of_name pn_4) hisR ?_
  intro p e s m args below meth c s₁ Bd hml0 hP hK
  obtain ⟨rfl, hZ, hh⟩ := hP
  have hx := Bd.exec
  have hby := Bd.bytes
  have hml : c.maxLocals = 1 := hml0
  have hown : s.vm.findClass "com/example/threadkeep/threadkeep/store/Blocks$Shape" = some m.cls := findClass_of_methodNamed Bd.named
  have hnm := (name_of_methodNamed Bd.named Bd.method).1
  have X0 : Stand p l e ({ frames := 0, cells := 0, slots := 0, locals := 0 } : Room) s m #[(.ref va)] below meth c s₁ [] 0 0 := Stand.of_body Bd
  have e0 : s₁.heap = h0 := by rw [← hh, Bd.state]; rfl
  have N0 := Fr.nil n0
  have pre0 : ∀ t, Steps p.tables e below (s₁.setTop (mkF m 0 #[.val (.ref va)] [])) t → Steps p.tables e below (s₁.setTop (entryFrame m #[(.ref va)] 1)) t := fun t k => castTop (ef_4 m va) k
  obtain ⟨T1, X1, e1, st1⟩ := getF X0 hx hZ hown (host := "") (Or.inl (hw _ (List.mem_of_getElem? (i := 17) rfl))) Via.refl e0 F_va_count (g := (mkF m 1 #[.val (.ref va)] [(.ref va)])) rfl rfl (hb hby d4_1)
  by_cases hb2 : vc = (0 : Int32)
  · obtain ⟨fs, hr, hrun, hended, hW, hsame⟩ := X1.leave (v := some (.int (0 : Int32))) (fun h => by rw [Bd.returns] at h; cases h)
    refine ⟨_, _, pre0 _ ?_, hrun, hended, _, _, rfl, ?_, ⟨_, rfl⟩, hW, hsame.mono (by decide) (by decide)⟩
    · show Steps p.tables e below (s₁.setTop (mkF m 0 #[.val (.ref va)] [])) _
      refine XS.aloadN X0.here hx rfl (hb hby d4_0) rfl rfl ?_
      show Steps p.tables e below (s₁.setTop (mkF m 1 #[.val (.ref va)] [(.ref va)])) _
      refine st1 _ ?_
      show Steps p.tables e below (T1.setTop (mkF m 4 #[.val (.ref va)] [(.int vc)])) _
      refine XS.ifNo X1.here hx rfl (hb hby d4_4) rfl ((if0 _ _).trans (teq hb2).2) ?_
      show Steps p.tables e below (T1.setTop (mkF m 7 #[.val (.ref va)] [])) _
      refine XS.iconst X1.here hx rfl (hb hby d4_7) ?_
      show Steps p.tables e below (T1.setTop (mkF m 8 #[.val (.ref va)] [(.int (0 : Int32))])) _
      refine XS.goto X1.here hx rfl (pc0 := 8) (pc' := 25) rfl (hb hby d4_8) (by decide) (by decide) ?_
      show Steps p.tables e below (T1.setTop (mkF m 25 #[.val (.ref va)] [(.int (0 : Int32))])) _
      exact retI X1 hx Bd.returns (hb hby d4_25) hr
    · show Q4 Z va vc vl h0 n0 _ T1.heap _
      rw [e1]
      exact ⟨(congrArg (fun z => some (Value.int z)) (Eq.symm (if_pos hb2))), N0, rfl⟩
  · obtain ⟨T3, X3, e3, st3⟩ := getF X1 hx hZ hown (host := "") (Or.inl (hw _ (List.mem_of_getElem? (i := 17) rfl))) Via.refl e1 F_va_count (g := (mkF m 12 #[.val (.ref va)] [(.ref va)])) rfl rfl (hb hby d4_12)
    obtain ⟨T4, X4, e4, st4⟩ := getF X3 hx hZ hown (host := "") (Or.inl (hw _ (List.mem_of_getElem? (i := 19) rfl))) Via.refl e3 F_va_lastLength (g := (mkF m 21 #[.val (.ref va)] [(.ref va), (.int ((vc - (1 : Int32)) * (32768 : Int32)))])) rfl rfl (hb hby d4_21)
    obtain ⟨fs, hr, hrun, hended, hW, hsame⟩ := X4.leave (v := some (.int (((vc - (1 : Int32)) * (32768 : Int32)) + vl))) (fun h => by rw [Bd.returns] at h; cases h)
    refine ⟨_, _, pre0 _ ?_, hrun, hended, _, _, rfl, ?_, ⟨_, rfl⟩, hW, hsame.mono (by decide) (by decide)⟩
    · show Steps p.tables e below (s₁.setTop (mkF m 0 #[.val (.ref va)] [])) _
      refine XS.aloadN X0.here hx rfl (hb hby d4_0) rfl rfl ?_
      show Steps p.tables e below (s₁.setTop (mkF m 1 #[.val (.ref va)] [(.ref va)])) _
      refine st1 _ ?_
      show Steps p.tables e below (T1.setTop (mkF m 4 #[.val (.ref va)] [(.int vc)])) _
      refine XS.ifYes X1.here hx rfl (pc0 := 4) (pc' := 11) rfl (hb hby d4_4) rfl ((if0 _ _).trans (feq hb2).2) (by decide) (by decide) ?_
      show Steps p.tables e below (T1.setTop (mkF m 11 #[.val (.ref va)] [])) _
      refine XS.aloadN X1.here hx rfl (hb hby d4_11) rfl rfl ?_
      show Steps p.tables e below (T1.setTop (mkF m 12 #[.val (.ref va)] [(.ref va)])) _
      refine st3 _ ?_
      show Steps p.tables e below (T3.setTop (mkF m 15 #[.val (.ref va)] [(.int vc)])) _
      refine XS.iconst X3.here hx rfl (hb hby d4_15) ?_
      show Steps p.tables e below (T3.setTop (mkF m 16 #[.val (.ref va)] [(.int (1 : Int32)), (.int vc)])) _
      refine XS.isub X3.here hx rfl (hb hby d4_16) rfl ?_
      show Steps p.tables e below (T3.setTop (mkF m 17 #[.val (.ref va)] [(.int (vc - (1 : Int32)))])) _
      refine X3.ldcInt hx hown (mvT hZ (hw _ (List.mem_of_getElem? (i := 26) rfl))) (g := (mkF m 17 #[.val (.ref va)] [(.int (vc - (1 : Int32)))])) rfl (hb hby d4_17) _ ?_
      show Steps p.tables e below (T3.setTop (mkF m 19 #[.val (.ref va)] [(.int (32768 : Int32)), (.int (vc - (1 : Int32)))])) _
      refine XS.imul X3.here hx rfl (hb hby d4_19) rfl ?_
      show Steps p.tables e below (T3.setTop (mkF m 20 #[.val (.ref va)] [(.int ((vc - (1 : Int32)) * (32768 : Int32)))])) _
      refine XS.aloadN X3.here hx rfl (hb hby d4_20) rfl rfl ?_
      show Steps p.tables e below (T3.setTop (mkF m 21 #[.val (.ref va)] [(.ref va), (.int ((vc - (1 : Int32)) * (32768 : Int32)))])) _
      refine st4 _ ?_
      show Steps p.tables e below (T4.setTop (mkF m 24 #[.val (.ref va)] [(.int vl), (.int ((vc - (1 : Int32)) * (32768 : Int32)))])) _
      refine XS.iadd X4.here hx rfl (hb hby d4_24) rfl ?_
      show Steps p.tables e below (T4.setTop (mkF m 25 #[.val (.ref va)] [(.int (((vc - (1 : Int32)) * (32768 : Int32)) + vl))])) _
      exact retI X4 hx Bd.returns (hb hby d4_25) hr
    · show Q4 Z va vc vl h0 n0 _ T4.heap _
      rw [e4]
      exact ⟨(congrArg (fun z => some (Value.int z)) (Eq.symm (if_neg hb2))), N0, rfl⟩
theorem d5_0 : decode prog_28_method_2_code 0 = .ok (.iload_n 0, 1) := by decide +kernel
theorem d5_1 : decode prog_28_method_2_code 1 = .ok (.bipush 15, 2) := by decide +kernel
theorem d5_3 : decode prog_28_method_2_code 3 = .ok (.iushr, 1) := by decide +kernel
theorem d5_4 : decode prog_28_method_2_code 4 = .ok (.ireturn, 1) := by decide +kernel
theorem pn_5 : plainName "com/example/threadkeep/threadkeep/store/Blocks" = true := by first | (simp [plainName, overriddenIn]; done) | decide +kernel
theorem ef_5 (m : MethodId) (vi : Int32) : entryFrame m #[(.int vi)] 1 = mkF m 0 #[.val (.int vi)] [] := by first | (simp [entryFrame, mkF, argsToLocals, Value.category]; done) | rfl
def F5 (vi : Int32) : Int32 := ((vi.toUInt32 >>> ((15 : Int32) &&& 31).toUInt32).toInt32)
def Q5 (Z : State) (vi : Int32) (h0 : Heap) (n0 : Nat) (v : Option Value) (h : Heap) (L : List Loc) : Prop := v = some (.int (F5 vi)) ∧ Fr n0 L ∧ h = h0
set_option maxRecDepth 65536 in
set_option maxHeartbeats 40000000 in
theorem rm5 (l : Launch) (Z : State) (a0 : Array Value) (hw : ∀ d ∈ tables_1, d.before a0 Z = true) (ws : List Jvm.Cond) (vi : Int32) (h0 : Heap) (n0 : Nat) (Z0 : n0 ≤ h0.size)  :
    MetFree l (⟨"com/example/threadkeep/threadkeep/store/Blocks", "block", "(I)I"⟩ : MethodName) (head1 (Jvm.Cond.code (⟨"com/example/threadkeep/threadkeep/store/Blocks", "block", "(I)I"⟩ : MethodName) prog_28_method_2_code 1 (some .int) :: ws) ({ frames := 0, cells := 0, slots := 0, locals := 0 } : Room)) (fun a U => a = #[(.int vi)] ∧ Z.Warmed39 U.vm ∧ U.heap = h0) (fun _ _ _ _ _ => True) (fun _ U o U' => ∃ v L, o = .returned v ∧ Q5 Z vi h0 n0 v U'.heap L ∧ FrameEnd U o U' L ({ frames := 0, cells := 0, slots := 0, locals := 0 } : Room).cells ({ frames := 0, cells := 0, slots := 0, locals := 0 } : Room).slots) := by
  refine MetFree.of_bodySF (plainFor_of_name pn_5) hisR ?_
  intro p e s m args below meth c s₁ Bd hml0 hP hK
  obtain ⟨rfl, hZ, hh⟩ := hP
  have hx := Bd.exec
  have hby := Bd.bytes
  have hml : c.maxLocals = 1 := hml0
  have hown : s.vm.findClass "com/example/threadkeep/threadkeep/store/Blocks" = some m.cls := findClass_of_methodNamed Bd.named
  have hnm := (name_of_methodNamed Bd.named Bd.method).1
  have X0 : Stand p l e ({ frames := 0, cells := 0, slots := 0, locals := 0 } : Room) s m #[(.int vi)] below meth c s₁ [] 0 0 := Stand.of_body Bd
  have e0 : s₁.heap = h0 := by rw [← hh, Bd.state]; rfl
  have N0 := Fr.nil n0
  have pre0 : ∀ t, Steps p.tables e below (s₁.setTop (mkF m 0 #[.val (.int vi)] [])) t → Steps p.tables e below (s₁.setTop (entryFrame m #[(.int vi)] 1)) t := fun t k => castTop (ef_5 m vi) k
  obtain ⟨fs, hr, hrun, hended, hW, hsame⟩ := X0.leave (v := some (.int ((vi.toUInt32 >>> ((15 : Int32) &&& 31).toUInt32).toInt32))) (fun h => by rw [Bd.returns] at h; cases h)
  refine ⟨_, _, pre0 _ ?_, hrun, hended, _, _, rfl, ?_, ⟨_, rfl⟩, hW, hsame.mono (by decide) (by decide)⟩
  · show Steps p.tables e below (s₁.setTop (mkF m 0 #[.val (.int vi)] [])) _
    refine XS.iloadN X0.here hx rfl (hb hby d5_0) rfl ?_
    show Steps p.tables e below (s₁.setTop (mkF m 1 #[.val (.int vi)] [(.int vi)])) _
    refine XS.bipush X0.here hx rfl (hb hby d5_1) ?_
    show Steps p.tables e below (s₁.setTop (mkF m 3 #[.val (.int vi)] [(.int (15 : Int32)), (.int vi)])) _
    refine XS.iushr X0.here hx rfl (hb hby d5_3) rfl ?_
    show Steps p.tables e below (s₁.setTop (mkF m 4 #[.val (.int vi)] [(.int ((vi.toUInt32 >>> ((15 : Int32) &&& 31).toUInt32).toInt32))])) _
    exact retI X0 hx Bd.returns (hb hby d5_4) hr
  · show Q5 Z vi h0 n0 _ s₁.heap _
    rw [e0]
    exact ⟨rfl, N0, rfl⟩
theorem d6_0 : decode prog_28_method_3_code 0 = .ok (.iload_n 0, 1) := by decide +kernel
theorem d6_1 : decode prog_28_method_3_code 1 = .ok (.sipush 32767, 3) := by decide +kernel
theorem d6_4 : decode prog_28_method_3_code 4 = .ok (.iand, 1) := by decide +kernel
theorem d6_5 : decode prog_28_method_3_code 5 = .ok (.ireturn, 1) := by decide +kernel
theorem pn_6 : plainName "com/example/threadkeep/threadkeep/store/Blocks" = true := by first | (simp [plainName, overriddenIn]; done) | decide +kernel
theorem ef_6 (m : MethodId) (vi : Int32) : entryFrame m #[(.int vi)] 1 = mkF m 0 #[.val (.int vi)] [] := by first | (simp [entryFrame, mkF, argsToLocals, Value.category]; done) | rfl
def F6 (vi : Int32) : Int32 := (vi &&& (32767 : Int32))
def Q6 (Z : State) (vi : Int32) (h0 : Heap) (n0 : Nat) (v : Option Value) (h : Heap) (L : List Loc) : Prop := v = some (.int (F6 vi)) ∧ Fr n0 L ∧ h = h0
set_option maxRecDepth 65536 in
set_option maxHeartbeats 40000000 in
theorem rm6 (l : Launch) (Z : State) (a0 : Array Value) (hw : ∀ d ∈ tables_1, d.before a0 Z = true) (ws : List Jvm.Cond) (vi : Int32) (h0 : Heap) (n0 : Nat) (Z0 : n0 ≤ h0.size)  :
    MetFree l (⟨"com/example/threadkeep/threadkeep/store/Blocks", "inBlock", "(I)I"⟩ : MethodName) (head1 (Jvm.Cond.code (⟨"com/example/threadkeep/threadkeep/store/Blocks", "inBlock", "(I)I"⟩ : MethodName) prog_28_method_3_code 1 (some .int) :: ws) ({ frames := 0, cells := 0, slots := 0, locals := 0 } : Room)) (fun a U => a = #[(.int vi)] ∧ Z.Warmed39 U.vm ∧ U.heap = h0) (fun _ _ _ _ _ => True) (fun _ U o U' => ∃ v L, o = .returned v ∧ Q6 Z vi h0 n0 v U'.heap L ∧ FrameEnd U o U' L ({ frames := 0, cells := 0, slots := 0, locals := 0 } : Room).cells ({ frames := 0, cells := 0, slots := 0, locals := 0 } : Room).slots) := by
  refine MetFree.of_bodySF (plainFor_of_name pn_6) hisR ?_
  intro p e s m args below meth c s₁ Bd hml0 hP hK
  obtain ⟨rfl, hZ, hh⟩ := hP
  have hx := Bd.exec
  have hby := Bd.bytes
  have hml : c.maxLocals = 1 := hml0
  have hown : s.vm.findClass "com/example/threadkeep/threadkeep/store/Blocks" = some m.cls := findClass_of_methodNamed Bd.named
  have hnm := (name_of_methodNamed Bd.named Bd.method).1
  have X0 : Stand p l e ({ frames := 0, cells := 0, slots := 0, locals := 0 } : Room) s m #[(.int vi)] below meth c s₁ [] 0 0 := Stand.of_body Bd
  have e0 : s₁.heap = h0 := by rw [← hh, Bd.state]; rfl
  have N0 := Fr.nil n0
  have pre0 : ∀ t, Steps p.tables e below (s₁.setTop (mkF m 0 #[.val (.int vi)] [])) t → Steps p.tables e below (s₁.setTop (entryFrame m #[(.int vi)] 1)) t := fun t k => castTop (ef_6 m vi) k
  obtain ⟨fs, hr, hrun, hended, hW, hsame⟩ := X0.leave (v := some (.int (vi &&& (32767 : Int32)))) (fun h => by rw [Bd.returns] at h; cases h)
  refine ⟨_, _, pre0 _ ?_, hrun, hended, _, _, rfl, ?_, ⟨_, rfl⟩, hW, hsame.mono (by decide) (by decide)⟩
  · show Steps p.tables e below (s₁.setTop (mkF m 0 #[.val (.int vi)] [])) _
    refine XS.iloadN X0.here hx rfl (hb hby d6_0) rfl ?_
    show Steps p.tables e below (s₁.setTop (mkF m 1 #[.val (.int vi)] [(.int vi)])) _
    refine XS.sipush X0.here hx rfl (hb hby d6_1) ?_
    show Steps p.tables e below (s₁.setTop (mkF m 4 #[.val (.int vi)] [(.int (32767 : Int32)), (.int vi)])) _
    refine XS.iand X0.here hx rfl (hb hby d6_4) rfl ?_
    show Steps p.tables e below (s₁.setTop (mkF m 5 #[.val (.int vi)] [(.int (vi &&& (32767 : Int32)))])) _
    exact retI X0 hx Bd.returns (hb hby d6_5) hr
  · show Q6 Z vi h0 n0 _ s₁.heap _
    rw [e0]
    exact ⟨rfl, N0, rfl⟩
theorem pd_1 : parseMethodDescriptor "(II)V" = some ⟨[.int, .int], none⟩ := by decide +kernel
theorem pd_2 : parseMethodDescriptor "()I" = some ⟨[], some .int⟩ := by decide +kernel
theorem pd_3 : parseMethodDescriptor "(I)I" = some ⟨[.int], some .int⟩ := by decide +kernel
theorem pn_0 : plainName "com/example/threadkeep/threadkeep/store/ShapeRoomPinLaw" = true := by first | (simp [plainName, overriddenIn]; done) | decide +kernel
theorem ef_0 (m : MethodId) (x1 : Int32) (x2 : Int32) (x3 : Int32) : entryFrame m #[(.int x1), (.int x2), (.int x3)] maxLocals = mkF m 0 #[.val (.int x1), .val (.int x2), .val (.int x3), .unset, .unset, .unset, .unset, .unset] [] := by first | (simp [entryFrame, mkF, argsToLocals, Value.category, maxLocals]; done) | rfl
def F0 (x1 : Int32) (x2 : Int32) (x3 : Int32) : Int32 := (if (x3 &&& (3 : Int32)) = (0 : Int32) then (if (F4 ((0 : Int32)) ((0 : Int32))) = (0 : Int32) then (1 : Int32) else (0 : Int32)) else (if (((x1 &&& (2147483647 : Int32)) % (65536 : Int32)) + (1 : Int32)) = (65536 : Int32) then (if (((x2 &&& (2147483647 : Int32)) % (32768 : Int32)) + (1 : Int32)) = (32768 : Int32) then (1 : Int32) else (if (F4 ((((x1 &&& (2147483647 : Int32)) % (65536 : Int32)) + (1 : Int32))) ((((x2 &&& (2147483647 : Int32)) % (32768 : Int32)) + (1 : Int32)))) < (1 : Int32) then (0 : Int32) else (if (F5 ((F4 ((((x1 &&& (2147483647 : Int32)) % (65536 : Int32)) + (1 : Int32))) ((((x2 &&& (2147483647 : Int32)) % (32768 : Int32)) + (1 : Int32)))) - (1 : Int32))) = ((((x1 &&& (2147483647 : Int32)) % (65536 : Int32)) + (1 : Int32)) - (1 : Int32)) then (if (F6 ((F4 ((((x1 &&& (2147483647 : Int32)) % (65536 : Int32)) + (1 : Int32))) ((((x2 &&& (2147483647 : Int32)) % (32768 : Int32)) + (1 : Int32)))) - (1 : Int32))) = ((((x2 &&& (2147483647 : Int32)) % (32768 : Int32)) + (1 : Int32)) - (1 : Int32)) then (1 : Int32) else (0 : Int32)) else (0 : Int32)))) else (if (F4 ((((x1 &&& (2147483647 : Int32)) % (65536 : Int32)) + (1 : Int32))) ((((x2 &&& (2147483647 : Int32)) % (32768 : Int32)) + (1 : Int32)))) < (1 : Int32) then (0 : Int32) else (if (F5 ((F4 ((((x1 &&& (2147483647 : Int32)) % (65536 : Int32)) + (1 : Int32))) ((((x2 &&& (2147483647 : Int32)) % (32768 : Int32)) + (1 : Int32)))) - (1 : Int32))) = ((((x1 &&& (2147483647 : Int32)) % (65536 : Int32)) + (1 : Int32)) - (1 : Int32)) then (if (F6 ((F4 ((((x1 &&& (2147483647 : Int32)) % (65536 : Int32)) + (1 : Int32))) ((((x2 &&& (2147483647 : Int32)) % (32768 : Int32)) + (1 : Int32)))) - (1 : Int32))) = ((((x2 &&& (2147483647 : Int32)) % (32768 : Int32)) + (1 : Int32)) - (1 : Int32)) then (1 : Int32) else (0 : Int32)) else (0 : Int32)))))
def Q0 (Z : State) (x1 : Int32) (x2 : Int32) (x3 : Int32) (h0 : Heap) (n0 : Nat) (v : Option Value) (h : Heap) (L : List Loc) : Prop := v = some (.int (F0 x1 x2 x3)) ∧ Fr n0 L
set_option maxRecDepth 65536 in
set_option maxHeartbeats 40000000 in
theorem rm0 (l : Launch) (Z : State) (a0 : Array Value) (hw : ∀ d ∈ tables_1, d.before a0 Z = true) (ws : List Jvm.Cond) (x1 : Int32) (x2 : Int32) (x3 : Int32) (h0 : Heap) (n0 : Nat) (Z0 : n0 ≤ h0.size)  :
    MetFree l x (head1 (Jvm.Cond.code x code maxLocals ret :: ws) room_1) (fun a U => a = #[(.int x1), (.int x2), (.int x3)] ∧ Z.Warmed39 U.vm ∧ U.heap = h0) (fun _ _ _ _ _ => True) (fun _ U o U' => ∃ v L, o = .returned v ∧ Q0 Z x1 x2 x3 h0 n0 v U'.heap L ∧ FrameEnd U o U' L room_1.cells room_1.slots) := by
  refine MetFree.of_bodySF (plainFor_of_name pn_0) hisR ?_
  intro p e s m args below meth c s₁ Bd hml0 hP hK
  obtain ⟨rfl, hZ, hh⟩ := hP
  have hx := Bd.exec
  have hby := Bd.bytes
  have hml : c.maxLocals = 8 := hml0
  have hown : s.vm.findClass "com/example/threadkeep/threadkeep/store/ShapeRoomPinLaw" = some m.cls := findClass_of_methodNamed Bd.named
  have hnm := (name_of_methodNamed Bd.named Bd.method).1
  have X0 : Stand p l e room_1 s m #[(.int x1), (.int x2), (.int x3)] below meth c s₁ [] 0 0 := Stand.of_body Bd
  have e0 : s₁.heap = h0 := by rw [← hh, Bd.state]; rfl
  have N0 := Fr.nil n0
  have pre0 : ∀ t, Steps p.tables e below (s₁.setTop (mkF m 0 #[.val (.int x1), .val (.int x2), .val (.int x3), .unset, .unset, .unset, .unset, .unset] [])) t → Steps p.tables e below (s₁.setTop (entryFrame m #[(.int x1), (.int x2), (.int x3)] maxLocals)) t := fun t k => castTop (ef_0 m x1 x2 x3) k
  by_cases hb1 : (x3 &&& (3 : Int32)) = (0 : Int32)
  · obtain ⟨T2, h2, X2, e2, E2, A2, D2, -, st2⟩ := newO X0 hx hZ hown (hw _ (List.mem_of_getElem? (i := 3) rfl)) (hw _ (List.mem_of_getElem? (i := 4) rfl)) (hw _ (List.mem_of_getElem? (i := 5) rfl)) e0 (g := (mkF m 6 #[.val (.int x1), .val (.int x2), .val (.int x3), .unset, .unset, .unset, .unset, .unset] [])) rfl (hb hby at_6) (by decide) (by decide)
    obtain ⟨b2, g2⟩ : ∃ z, z = h0.size := ⟨_, rfl⟩
    rw [← g2] at A2 D2 st2
    have g_b2 : n0 ≤ b2 := Nat.le_trans Z0 (Nat.le_of_eq g2.symm)
    have Z3 : n0 ≤ h2.size := Nat.le_trans Z0 E2.1
    have F2_count : Fld Z h2 b2 "com/example/threadkeep/threadkeep/store/Blocks$Shape" "count" "I" (.int (0 : Int32)) := D2 (Or.inr (hw _ (List.mem_of_getElem? (i := 18) rfl))) (ty := .int) (by decide)
    have F2_lastLength : Fld Z h2 b2 "com/example/threadkeep/threadkeep/store/Blocks$Shape" "lastLength" "I" (.int (0 : Int32)) := D2 (Or.inr (hw _ (List.mem_of_getElem? (i := 20) rfl))) (ty := .int) (by decide)
    obtain ⟨_, _, ⟨T4, L4, k4, n4⟩, -, X4, ⟨Lc4, hQ4, l4, y4, z4⟩, st4⟩ := X2.specialBack hx (y := (⟨"com/example/threadkeep/threadkeep/store/Blocks$Shape", "<init>", "(II)V"⟩ : MethodName)) rfl hown (mvT hZ (hw _ (List.mem_of_getElem? (i := 6) rfl))) (mvT hZ (hw _ (List.mem_of_getElem? (i := 7) rfl))) (mvT hZ (hw _ (List.mem_of_getElem? (i := 8) rfl))) (by decide) (backOf (W := 1) (rm1 l Z a0 hw [] b2 (0 : Int32) (0 : Int32)  h2 n0 Z3 A2 g_b2 F2_count F2_lastLength) hZ (hw _ (List.mem_of_getElem? (i := 8) rfl)) (hw _ (List.mem_of_getElem? (i := 5) rfl)) (by decide) (by decide)) (g := (mkF m 12 #[.val (.int x1), .val (.int x2), .val (.int x3), .unset, .unset, .unset, .unset, .unset] [(.int (0 : Int32)), (.int (0 : Int32)), (.ref b2), (.ref b2)])) rfl (by rw [hml]; rfl) (Steps.refl _) (a := b2) (argsL := [(.int (0 : Int32)), (.int (0 : Int32))]) (rest := [(.ref b2)]) (lenOf pd_1 rfl) rfl (by show 2 * 0 + _ ≤ _; exact Nat.le_of_eq rfl) (hb hby at_12) (fun _ _ => ⟨rfl, e2, (by decide : 1 + 0 ≤ _), (by decide : 2 + 0 ≤ _)⟩)
    dsimp only [Pt.U, Pt.locs, Pt.cells, Pt.slots] at X4 l4 y4 z4 st4 hQ4
    subst l4 y4 z4
    obtain ⟨rfl, N4q, Q4_0, Q4_1, Q4_2, Q4_3⟩ := hQ4
    have Z5 : n0 ≤ T4.heap.size := Nat.le_trans Z3 Q4_0.1
    have E6_b2 := A2.keep Q4_0
    have N4 := Fr.app N0 N4q
    obtain ⟨cq9, kq9, q9a, q9b, q9c⟩ := isOf hZ rfl Q4_1
    obtain ⟨_, _, ⟨T9, L9, k9, n9⟩, -, X9, ⟨Lc9, hQ9, l9, y9, z9⟩, st9⟩ := X4.virtualBack hx (y := (⟨"com/example/threadkeep/threadkeep/store/Blocks$Shape", "room", "()I"⟩ : MethodName)) (z := (⟨"com/example/threadkeep/threadkeep/store/Blocks$Shape", "room", "()I"⟩ : MethodName)) hown (mvT hZ (hw _ (List.mem_of_getElem? (i := 21) rfl))) (mvT hZ (hw _ (List.mem_of_getElem? (i := 22) rfl))) (notFace_of_selects (args := #[]) (mvT hZ (hw _ (List.mem_of_getElem? (i := 24) rfl)))) (mvT hZ (hw _ (List.mem_of_getElem? (i := 24) rfl))) (mvT hZ (hw _ (List.mem_of_getElem? (i := 23) rfl))) (by decide) (backOf (W := 0) (rm4 l Z a0 hw [] b2 ((0 : Int32)) ((0 : Int32)) T4.heap n0 Z5 Q4_2 Q4_3) hZ (hw _ (List.mem_of_getElem? (i := 25) rfl)) (hw _ (List.mem_of_getElem? (i := 5) rfl)) (by decide) (by decide)) q9a q9c (g := (mkF m 17 #[.val (.int x1), .val (.int x2), .val (.int x3), .val (.ref b2), .unset, .unset, .unset, .unset] [(.ref b2)])) rfl (by rw [hml]; rfl) (Steps.refl _) (argsL := []) (rest := []) (lenOf pd_2 rfl) rfl (by show 2 * 0 + _ ≤ _; exact Nat.le_of_eq rfl) (hb hby at_17) (fun _ _ => ⟨rfl, rfl, (by decide : 1 + 0 ≤ _), (by decide : 2 + 0 ≤ _)⟩)
    dsimp only [Pt.U, Pt.locs, Pt.cells, Pt.slots] at X9 l9 y9 z9 st9 hQ9
    subst l9 y9 z9
    obtain ⟨rfl, N9q, e9⟩ := hQ9
    have N9 := Fr.app N4 N9q
    obtain ⟨fs, hr, hrun, hended, hW, hsame⟩ := X9.leave (v := some (.int (if (F4 ((0 : Int32)) ((0 : Int32))) = (0 : Int32) then (1 : Int32) else (0 : Int32)))) (fun h => by rw [Bd.returns] at h; cases h)
    refine ⟨_, _, pre0 _ ?_, hrun, hended, _, _, rfl, ?_, ⟨_, rfl⟩, hW, hsame.mono (by decide) (by decide)⟩
    · show Steps p.tables e below (s₁.setTop (mkF m 0 #[.val (.int x1), .val (.int x2), .val (.int x3), .unset, .unset, .unset, .unset, .unset] [])) _
      refine XS.iloadN X0.here hx rfl (hb hby at_0) rfl ?_
      show Steps p.tables e below (s₁.setTop (mkF m 1 #[.val (.int x1), .val (.int x2), .val (.int x3), .unset, .unset, .unset, .unset, .unset] [(.int x3)])) _
      refine XS.iconst X0.here hx rfl (hb hby at_1) ?_
      show Steps p.tables e below (s₁.setTop (mkF m 2 #[.val (.int x1), .val (.int x2), .val (.int x3), .unset, .unset, .unset, .unset, .unset] [(.int (3 : Int32)), (.int x3)])) _
      refine XS.iand X0.here hx rfl (hb hby at_2) rfl ?_
      show Steps p.tables e below (s₁.setTop (mkF m 3 #[.val (.int x1), .val (.int x2), .val (.int x3), .unset, .unset, .unset, .unset, .unset] [(.int (x3 &&& (3 : Int32)))])) _
      refine XS.ifNo X0.here hx rfl (hb hby at_3) rfl ((if0 _ _).trans (teq hb1).2) ?_
      show Steps p.tables e below (s₁.setTop (mkF m 6 #[.val (.int x1), .val (.int x2), .val (.int x3), .unset, .unset, .unset, .unset, .unset] [])) _
      refine st2 _ ?_
      show Steps p.tables e below (T2.setTop (mkF m 9 #[.val (.int x1), .val (.int x2), .val (.int x3), .unset, .unset, .unset, .unset, .unset] [(.ref b2)])) _
      refine XS.dup X2.here hx rfl (hb hby at_9) rfl rfl ?_
      show Steps p.tables e below (T2.setTop (mkF m 10 #[.val (.int x1), .val (.int x2), .val (.int x3), .unset, .unset, .unset, .unset, .unset] [(.ref b2), (.ref b2)])) _
      refine XS.iconst X2.here hx rfl (hb hby at_10) ?_
      show Steps p.tables e below (T2.setTop (mkF m 11 #[.val (.int x1), .val (.int x2), .val (.int x3), .unset, .unset, .unset, .unset, .unset] [(.int (0 : Int32)), (.ref b2), (.ref b2)])) _
      refine XS.iconst X2.here hx rfl (hb hby at_11) ?_
      show Steps p.tables e below (T2.setTop (mkF m 12 #[.val (.int x1), .val (.int x2), .val (.int x3), .unset, .unset, .unset, .unset, .unset] [(.int (0 : Int32)), (.int (0 : Int32)), (.ref b2), (.ref b2)])) _
      refine st4.trans ?_
      show Steps p.tables e below (T4.setTop (mkF m 15 #[.val (.int x1), .val (.int x2), .val (.int x3), .unset, .unset, .unset, .unset, .unset] [(.ref b2)])) _
      refine XS.astoreN X4.here hx rfl (hb hby at_15) rfl rfl (l' := #[.val (.int x1), .val (.int x2), .val (.int x3), .val (.ref b2), .unset, .unset, .unset, .unset]) rfl ?_
      show Steps p.tables e below (T4.setTop (mkF m 16 #[.val (.int x1), .val (.int x2), .val (.int x3), .val (.ref b2), .unset, .unset, .unset, .unset] [])) _
      refine XS.aloadN X4.here hx rfl (hb hby at_16) rfl rfl ?_
      show Steps p.tables e below (T4.setTop (mkF m 17 #[.val (.int x1), .val (.int x2), .val (.int x3), .val (.ref b2), .unset, .unset, .unset, .unset] [(.ref b2)])) _
      refine st9.trans ?_
      show Steps p.tables e below (T9.setTop (mkF m 20 #[.val (.int x1), .val (.int x2), .val (.int x3), .val (.ref b2), .unset, .unset, .unset, .unset] [(.int (F4 ((0 : Int32)) ((0 : Int32))))])) _
      refine own_dia (u := ((1 : Int32) : Int32)) (v := (0 : Int32)) ((F4 ((0 : Int32)) ((0 : Int32))) = (0 : Int32)) (fun z10 => (mkF m 28 #[.val (.int x1), .val (.int x2), .val (.int x3), .val (.ref b2), .unset, .unset, .unset, .unset] [(.int z10)])) (fun hc10 k10 => ?_) (fun hc10 k10 => ?_) ?_
      · refine XS.ifNo X9.here hx rfl (hb hby at_20) rfl ((if0 _ _).trans (teq hc10).2) ?_
        show Steps p.tables e below (T9.setTop (mkF m 23 #[.val (.int x1), .val (.int x2), .val (.int x3), .val (.ref b2), .unset, .unset, .unset, .unset] [])) _
        refine XS.iconst X9.here hx rfl (hb hby at_23) ?_
        show Steps p.tables e below (T9.setTop (mkF m 24 #[.val (.int x1), .val (.int x2), .val (.int x3), .val (.ref b2), .unset, .unset, .unset, .unset] [(.int (1 : Int32))])) _
        refine XS.goto X9.here hx rfl (pc0 := 24) (pc' := 28) rfl (hb hby at_24) (by decide) (by decide) ?_
        exact k10
      · refine XS.ifYes X9.here hx rfl (pc0 := 20) (pc' := 27) rfl (hb hby at_20) rfl ((if0 _ _).trans (feq hc10).2) (by decide) (by decide) ?_
        show Steps p.tables e below (T9.setTop (mkF m 27 #[.val (.int x1), .val (.int x2), .val (.int x3), .val (.ref b2), .unset, .unset, .unset, .unset] [])) _
        refine XS.iconst X9.here hx rfl (hb hby at_27) ?_
        exact k10
      -- meets at 28
      show Steps p.tables e below (T9.setTop (mkF m 28 #[.val (.int x1), .val (.int x2), .val (.int x3), .val (.ref b2), .unset, .unset, .unset, .unset] [(.int (if (F4 ((0 : Int32)) ((0 : Int32))) = (0 : Int32) then (1 : Int32) else (0 : Int32)))])) _
      exact retN X9 hx (t := .boolean) Bd.returns (by simp) (hb hby at_28) (by rw [own_nb (own_b01 (Or.inr rfl) (Or.inl rfl))]; exact hr)
    · show Q0 Z x1 x2 x3 h0 n0 _ T9.heap _
      rw [e9]
      exact ⟨(congrArg (fun z => some (Value.int z)) (Eq.symm (if_pos hb1))), N9⟩
  · by_cases hb11 : (((x1 &&& (2147483647 : Int32)) % (65536 : Int32)) + (1 : Int32)) = (65536 : Int32)
    · by_cases hb12 : (((x2 &&& (2147483647 : Int32)) % (32768 : Int32)) + (1 : Int32)) = (32768 : Int32)
      · obtain ⟨fs, hr, hrun, hended, hW, hsame⟩ := X0.leave (v := some (.int (1 : Int32))) (fun h => by rw [Bd.returns] at h; cases h)
        refine ⟨_, _, pre0 _ ?_, hrun, hended, _, _, rfl, ?_, ⟨_, rfl⟩, hW, hsame.mono (by decide) (by decide)⟩
        · show Steps p.tables e below (s₁.setTop (mkF m 0 #[.val (.int x1), .val (.int x2), .val (.int x3), .unset, .unset, .unset, .unset, .unset] [])) _
          refine XS.iloadN X0.here hx rfl (hb hby at_0) rfl ?_
          show Steps p.tables e below (s₁.setTop (mkF m 1 #[.val (.int x1), .val (.int x2), .val (.int x3), .unset, .unset, .unset, .unset, .unset] [(.int x3)])) _
          refine XS.iconst X0.here hx rfl (hb hby at_1) ?_
          show Steps p.tables e below (s₁.setTop (mkF m 2 #[.val (.int x1), .val (.int x2), .val (.int x3), .unset, .unset, .unset, .unset, .unset] [(.int (3 : Int32)), (.int x3)])) _
          refine XS.iand X0.here hx rfl (hb hby at_2) rfl ?_
          show Steps p.tables e below (s₁.setTop (mkF m 3 #[.val (.int x1), .val (.int x2), .val (.int x3), .unset, .unset, .unset, .unset, .unset] [(.int (x3 &&& (3 : Int32)))])) _
          refine XS.ifYes X0.here hx rfl (pc0 := 3) (pc' := 29) rfl (hb hby at_3) rfl ((if0 _ _).trans (feq hb1).2) (by decide) (by decide) ?_
          show Steps p.tables e below (s₁.setTop (mkF m 29 #[.val (.int x1), .val (.int x2), .val (.int x3), .unset, .unset, .unset, .unset, .unset] [])) _
          refine XS.iloadN X0.here hx rfl (hb hby at_29) rfl ?_
          show Steps p.tables e below (s₁.setTop (mkF m 30 #[.val (.int x1), .val (.int x2), .val (.int x3), .unset, .unset, .unset, .unset, .unset] [(.int x1)])) _
          refine X0.ldcInt hx hown (mvT hZ (hw _ (List.mem_of_getElem? (i := 0) rfl))) (g := (mkF m 30 #[.val (.int x1), .val (.int x2), .val (.int x3), .unset, .unset, .unset, .unset, .unset] [(.int x1)])) rfl (hb hby at_30) _ ?_
          show Steps p.tables e below (s₁.setTop (mkF m 32 #[.val (.int x1), .val (.int x2), .val (.int x3), .unset, .unset, .unset, .unset, .unset] [(.int (2147483647 : Int32)), (.int x1)])) _
          refine XS.iand X0.here hx rfl (hb hby at_32) rfl ?_
          show Steps p.tables e below (s₁.setTop (mkF m 33 #[.val (.int x1), .val (.int x2), .val (.int x3), .unset, .unset, .unset, .unset, .unset] [(.int (x1 &&& (2147483647 : Int32)))])) _
          refine X0.ldcInt hx hown (mvT hZ (hw _ (List.mem_of_getElem? (i := 1) rfl))) (g := (mkF m 33 #[.val (.int x1), .val (.int x2), .val (.int x3), .unset, .unset, .unset, .unset, .unset] [(.int (x1 &&& (2147483647 : Int32)))])) rfl (hb hby at_33) _ ?_
          show Steps p.tables e below (s₁.setTop (mkF m 35 #[.val (.int x1), .val (.int x2), .val (.int x3), .unset, .unset, .unset, .unset, .unset] [(.int (65536 : Int32)), (.int (x1 &&& (2147483647 : Int32)))])) _
          refine iremM X0 hx rfl (hb hby at_35) rfl (by decide) ?_
          show Steps p.tables e below (s₁.setTop (mkF m 36 #[.val (.int x1), .val (.int x2), .val (.int x3), .unset, .unset, .unset, .unset, .unset] [(.int ((x1 &&& (2147483647 : Int32)) % (65536 : Int32)))])) _
          refine XS.iconst X0.here hx rfl (hb hby at_36) ?_
          show Steps p.tables e below (s₁.setTop (mkF m 37 #[.val (.int x1), .val (.int x2), .val (.int x3), .unset, .unset, .unset, .unset, .unset] [(.int (1 : Int32)), (.int ((x1 &&& (2147483647 : Int32)) % (65536 : Int32)))])) _
          refine XS.iadd X0.here hx rfl (hb hby at_37) rfl ?_
          show Steps p.tables e below (s₁.setTop (mkF m 38 #[.val (.int x1), .val (.int x2), .val (.int x3), .unset, .unset, .unset, .unset, .unset] [(.int (((x1 &&& (2147483647 : Int32)) % (65536 : Int32)) + (1 : Int32)))])) _
          refine XS.istoreN X0.here hx rfl (hb hby at_38) rfl (l' := #[.val (.int x1), .val (.int x2), .val (.int x3), .val (.int (((x1 &&& (2147483647 : Int32)) % (65536 : Int32)) + (1 : Int32))), .unset, .unset, .unset, .unset]) rfl ?_
          show Steps p.tables e below (s₁.setTop (mkF m 39 #[.val (.int x1), .val (.int x2), .val (.int x3), .val (.int (((x1 &&& (2147483647 : Int32)) % (65536 : Int32)) + (1 : Int32))), .unset, .unset, .unset, .unset] [])) _
          refine XS.iloadN X0.here hx rfl (hb hby at_39) rfl ?_
          show Steps p.tables e below (s₁.setTop (mkF m 40 #[.val (.int x1), .val (.int x2), .val (.int x3), .val (.int (((x1 &&& (2147483647 : Int32)) % (65536 : Int32)) + (1 : Int32))), .unset, .unset, .unset, .unset] [(.int x2)])) _
          refine X0.ldcInt hx hown (mvT hZ (hw _ (List.mem_of_getElem? (i := 0) rfl))) (g := (mkF m 40 #[.val (.int x1), .val (.int x2), .val (.int x3), .val (.int (((x1 &&& (2147483647 : Int32)) % (65536 : Int32)) + (1 : Int32))), .unset, .unset, .unset, .unset] [(.int x2)])) rfl (hb hby at_40) _ ?_
          show Steps p.tables e below (s₁.setTop (mkF m 42 #[.val (.int x1), .val (.int x2), .val (.int x3), .val (.int (((x1 &&& (2147483647 : Int32)) % (65536 : Int32)) + (1 : Int32))), .unset, .unset, .unset, .unset] [(.int (2147483647 : Int32)), (.int x2)])) _
          refine XS.iand X0.here hx rfl (hb hby at_42) rfl ?_
          show Steps p.tables e below (s₁.setTop (mkF m 43 #[.val (.int x1), .val (.int x2), .val (.int x3), .val (.int (((x1 &&& (2147483647 : Int32)) % (65536 : Int32)) + (1 : Int32))), .unset, .unset, .unset, .unset] [(.int (x2 &&& (2147483647 : Int32)))])) _
          refine X0.ldcInt hx hown (mvT hZ (hw _ (List.mem_of_getElem? (i := 2) rfl))) (g := (mkF m 43 #[.val (.int x1), .val (.int x2), .val (.int x3), .val (.int (((x1 &&& (2147483647 : Int32)) % (65536 : Int32)) + (1 : Int32))), .unset, .unset, .unset, .unset] [(.int (x2 &&& (2147483647 : Int32)))])) rfl (hb hby at_43) _ ?_
          show Steps p.tables e below (s₁.setTop (mkF m 45 #[.val (.int x1), .val (.int x2), .val (.int x3), .val (.int (((x1 &&& (2147483647 : Int32)) % (65536 : Int32)) + (1 : Int32))), .unset, .unset, .unset, .unset] [(.int (32768 : Int32)), (.int (x2 &&& (2147483647 : Int32)))])) _
          refine iremM X0 hx rfl (hb hby at_45) rfl (by decide) ?_
          show Steps p.tables e below (s₁.setTop (mkF m 46 #[.val (.int x1), .val (.int x2), .val (.int x3), .val (.int (((x1 &&& (2147483647 : Int32)) % (65536 : Int32)) + (1 : Int32))), .unset, .unset, .unset, .unset] [(.int ((x2 &&& (2147483647 : Int32)) % (32768 : Int32)))])) _
          refine XS.iconst X0.here hx rfl (hb hby at_46) ?_
          show Steps p.tables e below (s₁.setTop (mkF m 47 #[.val (.int x1), .val (.int x2), .val (.int x3), .val (.int (((x1 &&& (2147483647 : Int32)) % (65536 : Int32)) + (1 : Int32))), .unset, .unset, .unset, .unset] [(.int (1 : Int32)), (.int ((x2 &&& (2147483647 : Int32)) % (32768 : Int32)))])) _
          refine XS.iadd X0.here hx rfl (hb hby at_47) rfl ?_
          show Steps p.tables e below (s₁.setTop (mkF m 48 #[.val (.int x1), .val (.int x2), .val (.int x3), .val (.int (((x1 &&& (2147483647 : Int32)) % (65536 : Int32)) + (1 : Int32))), .unset, .unset, .unset, .unset] [(.int (((x2 &&& (2147483647 : Int32)) % (32768 : Int32)) + (1 : Int32)))])) _
          refine XS.istore X0.here hx rfl (hb hby at_48) rfl (l' := #[.val (.int x1), .val (.int x2), .val (.int x3), .val (.int (((x1 &&& (2147483647 : Int32)) % (65536 : Int32)) + (1 : Int32))), .val (.int (((x2 &&& (2147483647 : Int32)) % (32768 : Int32)) + (1 : Int32))), .unset, .unset, .unset]) rfl ?_
          show Steps p.tables e below (s₁.setTop (mkF m 50 #[.val (.int x1), .val (.int x2), .val (.int x3), .val (.int (((x1 &&& (2147483647 : Int32)) % (65536 : Int32)) + (1 : Int32))), .val (.int (((x2 &&& (2147483647 : Int32)) % (32768 : Int32)) + (1 : Int32))), .unset, .unset, .unset] [])) _
          refine XS.iloadN X0.here hx rfl (hb hby at_50) rfl ?_
          show Steps p.tables e below (s₁.setTop (mkF m 51 #[.val (.int x1), .val (.int x2), .val (.int x3), .val (.int (((x1 &&& (2147483647 : Int32)) % (65536 : Int32)) + (1 : Int32))), .val (.int (((x2 &&& (2147483647 : Int32)) % (32768 : Int32)) + (1 : Int32))), .unset, .unset, .unset] [(.int (((x1 &&& (2147483647 : Int32)) % (65536 : Int32)) + (1 : Int32)))])) _
          refine X0.ldcInt hx hown (mvT hZ (hw _ (List.mem_of_getElem? (i := 1) rfl))) (g := (mkF m 51 #[.val (.int x1), .val (.int x2), .val (.int x3), .val (.int (((x1 &&& (2147483647 : Int32)) % (65536 : Int32)) + (1 : Int32))), .val (.int (((x2 &&& (2147483647 : Int32)) % (32768 : Int32)) + (1 : Int32))), .unset, .unset, .unset] [(.int (((x1 &&& (2147483647 : Int32)) % (65536 : Int32)) + (1 : Int32)))])) rfl (hb hby at_51) _ ?_
          show Steps p.tables e below (s₁.setTop (mkF m 53 #[.val (.int x1), .val (.int x2), .val (.int x3), .val (.int (((x1 &&& (2147483647 : Int32)) % (65536 : Int32)) + (1 : Int32))), .val (.int (((x2 &&& (2147483647 : Int32)) % (32768 : Int32)) + (1 : Int32))), .unset, .unset, .unset] [(.int (65536 : Int32)), (.int (((x1 &&& (2147483647 : Int32)) % (65536 : Int32)) + (1 : Int32)))])) _
          refine XS.icmpNo X0.here hx rfl (hb hby at_53) rfl (teq hb11).2 ?_
          show Steps p.tables e below (s₁.setTop (mkF m 56 #[.val (.int x1), .val (.int x2), .val (.int x3), .val (.int (((x1 &&& (2147483647 : Int32)) % (65536 : Int32)) + (1 : Int32))), .val (.int (((x2 &&& (2147483647 : Int32)) % (32768 : Int32)) + (1 : Int32))), .unset, .unset, .unset] [])) _
          refine XS.iload X0.here hx rfl (hb hby at_56) rfl ?_
          show Steps p.tables e below (s₁.setTop (mkF m 58 #[.val (.int x1), .val (.int x2), .val (.int x3), .val (.int (((x1 &&& (2147483647 : Int32)) % (65536 : Int32)) + (1 : Int32))), .val (.int (((x2 &&& (2147483647 : Int32)) % (32768 : Int32)) + (1 : Int32))), .unset, .unset, .unset] [(.int (((x2 &&& (2147483647 : Int32)) % (32768 : Int32)) + (1 : Int32)))])) _
          refine X0.ldcInt hx hown (mvT hZ (hw _ (List.mem_of_getElem? (i := 2) rfl))) (g := (mkF m 58 #[.val (.int x1), .val (.int x2), .val (.int x3), .val (.int (((x1 &&& (2147483647 : Int32)) % (65536 : Int32)) + (1 : Int32))), .val (.int (((x2 &&& (2147483647 : Int32)) % (32768 : Int32)) + (1 : Int32))), .unset, .unset, .unset] [(.int (((x2 &&& (2147483647 : Int32)) % (32768 : Int32)) + (1 : Int32)))])) rfl (hb hby at_58) _ ?_
          show Steps p.tables e below (s₁.setTop (mkF m 60 #[.val (.int x1), .val (.int x2), .val (.int x3), .val (.int (((x1 &&& (2147483647 : Int32)) % (65536 : Int32)) + (1 : Int32))), .val (.int (((x2 &&& (2147483647 : Int32)) % (32768 : Int32)) + (1 : Int32))), .unset, .unset, .unset] [(.int (32768 : Int32)), (.int (((x2 &&& (2147483647 : Int32)) % (32768 : Int32)) + (1 : Int32)))])) _
          refine XS.icmpNo X0.here hx rfl (hb hby at_60) rfl (teq hb12).2 ?_
          show Steps p.tables e below (s₁.setTop (mkF m 63 #[.val (.int x1), .val (.int x2), .val (.int x3), .val (.int (((x1 &&& (2147483647 : Int32)) % (65536 : Int32)) + (1 : Int32))), .val (.int (((x2 &&& (2147483647 : Int32)) % (32768 : Int32)) + (1 : Int32))), .unset, .unset, .unset] [])) _
          refine XS.iconst X0.here hx rfl (hb hby at_63) ?_
          show Steps p.tables e below (s₁.setTop (mkF m 64 #[.val (.int x1), .val (.int x2), .val (.int x3), .val (.int (((x1 &&& (2147483647 : Int32)) % (65536 : Int32)) + (1 : Int32))), .val (.int (((x2 &&& (2147483647 : Int32)) % (32768 : Int32)) + (1 : Int32))), .unset, .unset, .unset] [(.int (1 : Int32))])) _
          exact retN X0 hx (t := .boolean) Bd.returns (by simp) (hb hby at_64) hr
        · show Q0 Z x1 x2 x3 h0 n0 _ s₁.heap _
          rw [e0]
          exact ⟨(congrArg (fun z => some (Value.int z)) (Eq.symm (Eq.trans (if_neg hb1) (Eq.trans (if_pos hb11) (if_pos hb12))))), N0⟩
      · obtain ⟨T13, h13, X13, e13, E13, A13, D13, -, st13⟩ := newO X0 hx hZ hown (hw _ (List.mem_of_getElem? (i := 3) rfl)) (hw _ (List.mem_of_getElem? (i := 4) rfl)) (hw _ (List.mem_of_getElem? (i := 5) rfl)) e0 (g := (mkF m 65 #[.val (.int x1), .val (.int x2), .val (.int x3), .val (.int (((x1 &&& (2147483647 : Int32)) % (65536 : Int32)) + (1 : Int32))), .val (.int (((x2 &&& (2147483647 : Int32)) % (32768 : Int32)) + (1 : Int32))), .unset, .unset, .unset] [])) rfl (hb hby at_65) (by decide) (by decide)
        obtain ⟨b13, g13⟩ : ∃ z, z = h0.size := ⟨_, rfl⟩
        rw [← g13] at A13 D13 st13
        have g_b13 : n0 ≤ b13 := Nat.le_trans Z0 (Nat.le_of_eq g13.symm)
        have Z14 : n0 ≤ h13.size := Nat.le_trans Z0 E13.1
        have F13_count : Fld Z h13 b13 "com/example/threadkeep/threadkeep/store/Blocks$Shape" "count" "I" (.int (0 : Int32)) := D13 (Or.inr (hw _ (List.mem_of_getElem? (i := 18) rfl))) (ty := .int) (by decide)
        have F13_lastLength : Fld Z h13 b13 "com/example/threadkeep/threadkeep/store/Blocks$Shape" "lastLength" "I" (.int (0 : Int32)) := D13 (Or.inr (hw _ (List.mem_of_getElem? (i := 20) rfl))) (ty := .int) (by decide)
        obtain ⟨_, _, ⟨T15, L15, k15, n15⟩, -, X15, ⟨Lc15, hQ15, l15, y15, z15⟩, st15⟩ := X13.specialBack hx (y := (⟨"com/example/threadkeep/threadkeep/store/Blocks$Shape", "<init>", "(II)V"⟩ : MethodName)) rfl hown (mvT hZ (hw _ (List.mem_of_getElem? (i := 6) rfl))) (mvT hZ (hw _ (List.mem_of_getElem? (i := 7) rfl))) (mvT hZ (hw _ (List.mem_of_getElem? (i := 8) rfl))) (by decide) (backOf (W := 1) (rm1 l Z a0 hw [] b13 (((x1 &&& (2147483647 : Int32)) % (65536 : Int32)) + (1 : Int32)) (((x2 &&& (2147483647 : Int32)) % (32768 : Int32)) + (1 : Int32))  h13 n0 Z14 A13 g_b13 F13_count F13_lastLength) hZ (hw _ (List.mem_of_getElem? (i := 8) rfl)) (hw _ (List.mem_of_getElem? (i := 5) rfl)) (by decide) (by decide)) (g := (mkF m 72 #[.val (.int x1), .val (.int x2), .val (.int x3), .val (.int (((x1 &&& (2147483647 : Int32)) % (65536 : Int32)) + (1 : Int32))), .val (.int (((x2 &&& (2147483647 : Int32)) % (32768 : Int32)) + (1 : Int32))), .unset, .unset, .unset] [(.int (((x2 &&& (2147483647 : Int32)) % (32768 : Int32)) + (1 : Int32))), (.int (((x1 &&& (2147483647 : Int32)) % (65536 : Int32)) + (1 : Int32))), (.ref b13), (.ref b13)])) rfl (by rw [hml]; rfl) (Steps.refl _) (a := b13) (argsL := [(.int (((x1 &&& (2147483647 : Int32)) % (65536 : Int32)) + (1 : Int32))), (.int (((x2 &&& (2147483647 : Int32)) % (32768 : Int32)) + (1 : Int32)))]) (rest := [(.ref b13)]) (lenOf pd_1 rfl) rfl (by show 2 * 0 + _ ≤ _; exact Nat.le_of_eq rfl) (hb hby at_72) (fun _ _ => ⟨rfl, e13, (by decide : 1 + 0 ≤ _), (by decide : 2 + 0 ≤ _)⟩)
        dsimp only [Pt.U, Pt.locs, Pt.cells, Pt.slots] at X15 l15 y15 z15 st15 hQ15
        subst l15 y15 z15
        obtain ⟨rfl, N15q, Q15_0, Q15_1, Q15_2, Q15_3⟩ := hQ15
        have Z16 : n0 ≤ T15.heap.size := Nat.le_trans Z14 Q15_0.1
        have E17_b13 := A13.keep Q15_0
        have N15 := Fr.app N0 N15q
        obtain ⟨cq20, kq20, q20a, q20b, q20c⟩ := isOf hZ rfl Q15_1
        obtain ⟨_, _, ⟨T20, L20, k20, n20⟩, -, X20, ⟨Lc20, hQ20, l20, y20, z20⟩, st20⟩ := X15.virtualBack hx (y := (⟨"com/example/threadkeep/threadkeep/store/Blocks$Shape", "room", "()I"⟩ : MethodName)) (z := (⟨"com/example/threadkeep/threadkeep/store/Blocks$Shape", "room", "()I"⟩ : MethodName)) hown (mvT hZ (hw _ (List.mem_of_getElem? (i := 21) rfl))) (mvT hZ (hw _ (List.mem_of_getElem? (i := 22) rfl))) (notFace_of_selects (args := #[]) (mvT hZ (hw _ (List.mem_of_getElem? (i := 24) rfl)))) (mvT hZ (hw _ (List.mem_of_getElem? (i := 24) rfl))) (mvT hZ (hw _ (List.mem_of_getElem? (i := 23) rfl))) (by decide) (backOf (W := 0) (rm4 l Z a0 hw [] b13 ((((x1 &&& (2147483647 : Int32)) % (65536 : Int32)) + (1 : Int32))) ((((x2 &&& (2147483647 : Int32)) % (32768 : Int32)) + (1 : Int32))) T15.heap n0 Z16 Q15_2 Q15_3) hZ (hw _ (List.mem_of_getElem? (i := 25) rfl)) (hw _ (List.mem_of_getElem? (i := 5) rfl)) (by decide) (by decide)) q20a q20c (g := (mkF m 79 #[.val (.int x1), .val (.int x2), .val (.int x3), .val (.int (((x1 &&& (2147483647 : Int32)) % (65536 : Int32)) + (1 : Int32))), .val (.int (((x2 &&& (2147483647 : Int32)) % (32768 : Int32)) + (1 : Int32))), .val (.ref b13), .unset, .unset] [(.ref b13)])) rfl (by rw [hml]; rfl) (Steps.refl _) (argsL := []) (rest := []) (lenOf pd_2 rfl) rfl (by show 2 * 0 + _ ≤ _; exact Nat.le_of_eq rfl) (hb hby at_79) (fun _ _ => ⟨rfl, rfl, (by decide : 1 + 0 ≤ _), (by decide : 2 + 0 ≤ _)⟩)
        dsimp only [Pt.U, Pt.locs, Pt.cells, Pt.slots] at X20 l20 y20 z20 st20 hQ20
        subst l20 y20 z20
        obtain ⟨rfl, N20q, e20⟩ := hQ20
        have N20 := Fr.app N15 N20q
        by_cases hb21 : (F4 ((((x1 &&& (2147483647 : Int32)) % (65536 : Int32)) + (1 : Int32))) ((((x2 &&& (2147483647 : Int32)) % (32768 : Int32)) + (1 : Int32)))) < (1 : Int32)
        · obtain ⟨fs, hr, hrun, hended, hW, hsame⟩ := X20.leave (v := some (.int (0 : Int32))) (fun h => by rw [Bd.returns] at h; cases h)
          refine ⟨_, _, pre0 _ ?_, hrun, hended, _, _, rfl, ?_, ⟨_, rfl⟩, hW, hsame.mono (by decide) (by decide)⟩
          · show Steps p.tables e below (s₁.setTop (mkF m 0 #[.val (.int x1), .val (.int x2), .val (.int x3), .unset, .unset, .unset, .unset, .unset] [])) _
            refine XS.iloadN X0.here hx rfl (hb hby at_0) rfl ?_
            show Steps p.tables e below (s₁.setTop (mkF m 1 #[.val (.int x1), .val (.int x2), .val (.int x3), .unset, .unset, .unset, .unset, .unset] [(.int x3)])) _
            refine XS.iconst X0.here hx rfl (hb hby at_1) ?_
            show Steps p.tables e below (s₁.setTop (mkF m 2 #[.val (.int x1), .val (.int x2), .val (.int x3), .unset, .unset, .unset, .unset, .unset] [(.int (3 : Int32)), (.int x3)])) _
            refine XS.iand X0.here hx rfl (hb hby at_2) rfl ?_
            show Steps p.tables e below (s₁.setTop (mkF m 3 #[.val (.int x1), .val (.int x2), .val (.int x3), .unset, .unset, .unset, .unset, .unset] [(.int (x3 &&& (3 : Int32)))])) _
            refine XS.ifYes X0.here hx rfl (pc0 := 3) (pc' := 29) rfl (hb hby at_3) rfl ((if0 _ _).trans (feq hb1).2) (by decide) (by decide) ?_
            show Steps p.tables e below (s₁.setTop (mkF m 29 #[.val (.int x1), .val (.int x2), .val (.int x3), .unset, .unset, .unset, .unset, .unset] [])) _
            refine XS.iloadN X0.here hx rfl (hb hby at_29) rfl ?_
            show Steps p.tables e below (s₁.setTop (mkF m 30 #[.val (.int x1), .val (.int x2), .val (.int x3), .unset, .unset, .unset, .unset, .unset] [(.int x1)])) _
            refine X0.ldcInt hx hown (mvT hZ (hw _ (List.mem_of_getElem? (i := 0) rfl))) (g := (mkF m 30 #[.val (.int x1), .val (.int x2), .val (.int x3), .unset, .unset, .unset, .unset, .unset] [(.int x1)])) rfl (hb hby at_30) _ ?_
            show Steps p.tables e below (s₁.setTop (mkF m 32 #[.val (.int x1), .val (.int x2), .val (.int x3), .unset, .unset, .unset, .unset, .unset] [(.int (2147483647 : Int32)), (.int x1)])) _
            refine XS.iand X0.here hx rfl (hb hby at_32) rfl ?_
            show Steps p.tables e below (s₁.setTop (mkF m 33 #[.val (.int x1), .val (.int x2), .val (.int x3), .unset, .unset, .unset, .unset, .unset] [(.int (x1 &&& (2147483647 : Int32)))])) _
            refine X0.ldcInt hx hown (mvT hZ (hw _ (List.mem_of_getElem? (i := 1) rfl))) (g := (mkF m 33 #[.val (.int x1), .val (.int x2), .val (.int x3), .unset, .unset, .unset, .unset, .unset] [(.int (x1 &&& (2147483647 : Int32)))])) rfl (hb hby at_33) _ ?_
            show Steps p.tables e below (s₁.setTop (mkF m 35 #[.val (.int x1), .val (.int x2), .val (.int x3), .unset, .unset, .unset, .unset, .unset] [(.int (65536 : Int32)), (.int (x1 &&& (2147483647 : Int32)))])) _
            refine iremM X0 hx rfl (hb hby at_35) rfl (by decide) ?_
            show Steps p.tables e below (s₁.setTop (mkF m 36 #[.val (.int x1), .val (.int x2), .val (.int x3), .unset, .unset, .unset, .unset, .unset] [(.int ((x1 &&& (2147483647 : Int32)) % (65536 : Int32)))])) _
            refine XS.iconst X0.here hx rfl (hb hby at_36) ?_
            show Steps p.tables e below (s₁.setTop (mkF m 37 #[.val (.int x1), .val (.int x2), .val (.int x3), .unset, .unset, .unset, .unset, .unset] [(.int (1 : Int32)), (.int ((x1 &&& (2147483647 : Int32)) % (65536 : Int32)))])) _
            refine XS.iadd X0.here hx rfl (hb hby at_37) rfl ?_
            show Steps p.tables e below (s₁.setTop (mkF m 38 #[.val (.int x1), .val (.int x2), .val (.int x3), .unset, .unset, .unset, .unset, .unset] [(.int (((x1 &&& (2147483647 : Int32)) % (65536 : Int32)) + (1 : Int32)))])) _
            refine XS.istoreN X0.here hx rfl (hb hby at_38) rfl (l' := #[.val (.int x1), .val (.int x2), .val (.int x3), .val (.int (((x1 &&& (2147483647 : Int32)) % (65536 : Int32)) + (1 : Int32))), .unset, .unset, .unset, .unset]) rfl ?_
            show Steps p.tables e below (s₁.setTop (mkF m 39 #[.val (.int x1), .val (.int x2), .val (.int x3), .val (.int (((x1 &&& (2147483647 : Int32)) % (65536 : Int32)) + (1 : Int32))), .unset, .unset, .unset, .unset] [])) _
            refine XS.iloadN X0.here hx rfl (hb hby at_39) rfl ?_
            show Steps p.tables e below (s₁.setTop (mkF m 40 #[.val (.int x1), .val (.int x2), .val (.int x3), .val (.int (((x1 &&& (2147483647 : Int32)) % (65536 : Int32)) + (1 : Int32))), .unset, .unset, .unset, .unset] [(.int x2)])) _
            refine X0.ldcInt hx hown (mvT hZ (hw _ (List.mem_of_getElem? (i := 0) rfl))) (g := (mkF m 40 #[.val (.int x1), .val (.int x2), .val (.int x3), .val (.int (((x1 &&& (2147483647 : Int32)) % (65536 : Int32)) + (1 : Int32))), .unset, .unset, .unset, .unset] [(.int x2)])) rfl (hb hby at_40) _ ?_
            show Steps p.tables e below (s₁.setTop (mkF m 42 #[.val (.int x1), .val (.int x2), .val (.int x3), .val (.int (((x1 &&& (2147483647 : Int32)) % (65536 : Int32)) + (1 : Int32))), .unset, .unset, .unset, .unset] [(.int (2147483647 : Int32)), (.int x2)])) _
            refine XS.iand X0.here hx rfl (hb hby at_42) rfl ?_
            show Steps p.tables e below (s₁.setTop (mkF m 43 #[.val (.int x1), .val (.int x2), .val (.int x3), .val (.int (((x1 &&& (2147483647 : Int32)) % (65536 : Int32)) + (1 : Int32))), .unset, .unset, .unset, .unset] [(.int (x2 &&& (2147483647 : Int32)))])) _
            refine X0.ldcInt hx hown (mvT hZ (hw _ (List.mem_of_getElem? (i := 2) rfl))) (g := (mkF m 43 #[.val (.int x1), .val (.int x2), .val (.int x3), .val (.int (((x1 &&& (2147483647 : Int32)) % (65536 : Int32)) + (1 : Int32))), .unset, .unset, .unset, .unset] [(.int (x2 &&& (2147483647 : Int32)))])) rfl (hb hby at_43) _ ?_
            show Steps p.tables e below (s₁.setTop (mkF m 45 #[.val (.int x1), .val (.int x2), .val (.int x3), .val (.int (((x1 &&& (2147483647 : Int32)) % (65536 : Int32)) + (1 : Int32))), .unset, .unset, .unset, .unset] [(.int (32768 : Int32)), (.int (x2 &&& (2147483647 : Int32)))])) _
            refine iremM X0 hx rfl (hb hby at_45) rfl (by decide) ?_
            show Steps p.tables e below (s₁.setTop (mkF m 46 #[.val (.int x1), .val (.int x2), .val (.int x3), .val (.int (((x1 &&& (2147483647 : Int32)) % (65536 : Int32)) + (1 : Int32))), .unset, .unset, .unset, .unset] [(.int ((x2 &&& (2147483647 : Int32)) % (32768 : Int32)))])) _
            refine XS.iconst X0.here hx rfl (hb hby at_46) ?_
            show Steps p.tables e below (s₁.setTop (mkF m 47 #[.val (.int x1), .val (.int x2), .val (.int x3), .val (.int (((x1 &&& (2147483647 : Int32)) % (65536 : Int32)) + (1 : Int32))), .unset, .unset, .unset, .unset] [(.int (1 : Int32)), (.int ((x2 &&& (2147483647 : Int32)) % (32768 : Int32)))])) _
            refine XS.iadd X0.here hx rfl (hb hby at_47) rfl ?_
            show Steps p.tables e below (s₁.setTop (mkF m 48 #[.val (.int x1), .val (.int x2), .val (.int x3), .val (.int (((x1 &&& (2147483647 : Int32)) % (65536 : Int32)) + (1 : Int32))), .unset, .unset, .unset, .unset] [(.int (((x2 &&& (2147483647 : Int32)) % (32768 : Int32)) + (1 : Int32)))])) _
            refine XS.istore X0.here hx rfl (hb hby at_48) rfl (l' := #[.val (.int x1), .val (.int x2), .val (.int x3), .val (.int (((x1 &&& (2147483647 : Int32)) % (65536 : Int32)) + (1 : Int32))), .val (.int (((x2 &&& (2147483647 : Int32)) % (32768 : Int32)) + (1 : Int32))), .unset, .unset, .unset]) rfl ?_
            show Steps p.tables e below (s₁.setTop (mkF m 50 #[.val (.int x1), .val (.int x2), .val (.int x3), .val (.int (((x1 &&& (2147483647 : Int32)) % (65536 : Int32)) + (1 : Int32))), .val (.int (((x2 &&& (2147483647 : Int32)) % (32768 : Int32)) + (1 : Int32))), .unset, .unset, .unset] [])) _
            refine XS.iloadN X0.here hx rfl (hb hby at_50) rfl ?_
            show Steps p.tables e below (s₁.setTop (mkF m 51 #[.val (.int x1), .val (.int x2), .val (.int x3), .val (.int (((x1 &&& (2147483647 : Int32)) % (65536 : Int32)) + (1 : Int32))), .val (.int (((x2 &&& (2147483647 : Int32)) % (32768 : Int32)) + (1 : Int32))), .unset, .unset, .unset] [(.int (((x1 &&& (2147483647 : Int32)) % (65536 : Int32)) + (1 : Int32)))])) _
            refine X0.ldcInt hx hown (mvT hZ (hw _ (List.mem_of_getElem? (i := 1) rfl))) (g := (mkF m 51 #[.val (.int x1), .val (.int x2), .val (.int x3), .val (.int (((x1 &&& (2147483647 : Int32)) % (65536 : Int32)) + (1 : Int32))), .val (.int (((x2 &&& (2147483647 : Int32)) % (32768 : Int32)) + (1 : Int32))), .unset, .unset, .unset] [(.int (((x1 &&& (2147483647 : Int32)) % (65536 : Int32)) + (1 : Int32)))])) rfl (hb hby at_51) _ ?_
            show Steps p.tables e below (s₁.setTop (mkF m 53 #[.val (.int x1), .val (.int x2), .val (.int x3), .val (.int (((x1 &&& (2147483647 : Int32)) % (65536 : Int32)) + (1 : Int32))), .val (.int (((x2 &&& (2147483647 : Int32)) % (32768 : Int32)) + (1 : Int32))), .unset, .unset, .unset] [(.int (65536 : Int32)), (.int (((x1 &&& (2147483647 : Int32)) % (65536 : Int32)) + (1 : Int32)))])) _
            refine XS.icmpNo X0.here hx rfl (hb hby at_53) rfl (teq hb11).2 ?_
            show Steps p.tables e below (s₁.setTop (mkF m 56 #[.val (.int x1), .val (.int x2), .val (.int x3), .val (.int (((x1 &&& (2147483647 : Int32)) % (65536 : Int32)) + (1 : Int32))), .val (.int (((x2 &&& (2147483647 : Int32)) % (32768 : Int32)) + (1 : Int32))), .unset, .unset, .unset] [])) _
            refine XS.iload X0.here hx rfl (hb hby at_56) rfl ?_
            show Steps p.tables e below (s₁.setTop (mkF m 58 #[.val (.int x1), .val (.int x2), .val (.int x3), .val (.int (((x1 &&& (2147483647 : Int32)) % (65536 : Int32)) + (1 : Int32))), .val (.int (((x2 &&& (2147483647 : Int32)) % (32768 : Int32)) + (1 : Int32))), .unset, .unset, .unset] [(.int (((x2 &&& (2147483647 : Int32)) % (32768 : Int32)) + (1 : Int32)))])) _
            refine X0.ldcInt hx hown (mvT hZ (hw _ (List.mem_of_getElem? (i := 2) rfl))) (g := (mkF m 58 #[.val (.int x1), .val (.int x2), .val (.int x3), .val (.int (((x1 &&& (2147483647 : Int32)) % (65536 : Int32)) + (1 : Int32))), .val (.int (((x2 &&& (2147483647 : Int32)) % (32768 : Int32)) + (1 : Int32))), .unset, .unset, .unset] [(.int (((x2 &&& (2147483647 : Int32)) % (32768 : Int32)) + (1 : Int32)))])) rfl (hb hby at_58) _ ?_
            show Steps p.tables e below (s₁.setTop (mkF m 60 #[.val (.int x1), .val (.int x2), .val (.int x3), .val (.int (((x1 &&& (2147483647 : Int32)) % (65536 : Int32)) + (1 : Int32))), .val (.int (((x2 &&& (2147483647 : Int32)) % (32768 : Int32)) + (1 : Int32))), .unset, .unset, .unset] [(.int (32768 : Int32)), (.int (((x2 &&& (2147483647 : Int32)) % (32768 : Int32)) + (1 : Int32)))])) _
            refine XS.icmpYes X0.here hx rfl (pc0 := 60) (pc' := 65) rfl (hb hby at_60) rfl (feq hb12).2 (by decide) (by decide) ?_
            show Steps p.tables e below (s₁.setTop (mkF m 65 #[.val (.int x1), .val (.int x2), .val (.int x3), .val (.int (((x1 &&& (2147483647 : Int32)) % (65536 : Int32)) + (1 : Int32))), .val (.int (((x2 &&& (2147483647 : Int32)) % (32768 : Int32)) + (1 : Int32))), .unset, .unset, .unset] [])) _
            refine st13 _ ?_
            show Steps p.tables e below (T13.setTop (mkF m 68 #[.val (.int x1), .val (.int x2), .val (.int x3), .val (.int (((x1 &&& (2147483647 : Int32)) % (65536 : Int32)) + (1 : Int32))), .val (.int (((x2 &&& (2147483647 : Int32)) % (32768 : Int32)) + (1 : Int32))), .unset, .unset, .unset] [(.ref b13)])) _
            refine XS.dup X13.here hx rfl (hb hby at_68) rfl rfl ?_
            show Steps p.tables e below (T13.setTop (mkF m 69 #[.val (.int x1), .val (.int x2), .val (.int x3), .val (.int (((x1 &&& (2147483647 : Int32)) % (65536 : Int32)) + (1 : Int32))), .val (.int (((x2 &&& (2147483647 : Int32)) % (32768 : Int32)) + (1 : Int32))), .unset, .unset, .unset] [(.ref b13), (.ref b13)])) _
            refine XS.iloadN X13.here hx rfl (hb hby at_69) rfl ?_
            show Steps p.tables e below (T13.setTop (mkF m 70 #[.val (.int x1), .val (.int x2), .val (.int x3), .val (.int (((x1 &&& (2147483647 : Int32)) % (65536 : Int32)) + (1 : Int32))), .val (.int (((x2 &&& (2147483647 : Int32)) % (32768 : Int32)) + (1 : Int32))), .unset, .unset, .unset] [(.int (((x1 &&& (2147483647 : Int32)) % (65536 : Int32)) + (1 : Int32))), (.ref b13), (.ref b13)])) _
            refine XS.iload X13.here hx rfl (hb hby at_70) rfl ?_
            show Steps p.tables e below (T13.setTop (mkF m 72 #[.val (.int x1), .val (.int x2), .val (.int x3), .val (.int (((x1 &&& (2147483647 : Int32)) % (65536 : Int32)) + (1 : Int32))), .val (.int (((x2 &&& (2147483647 : Int32)) % (32768 : Int32)) + (1 : Int32))), .unset, .unset, .unset] [(.int (((x2 &&& (2147483647 : Int32)) % (32768 : Int32)) + (1 : Int32))), (.int (((x1 &&& (2147483647 : Int32)) % (65536 : Int32)) + (1 : Int32))), (.ref b13), (.ref b13)])) _
            refine st15.trans ?_
            show Steps p.tables e below (T15.setTop (mkF m 75 #[.val (.int x1), .val (.int x2), .val (.int x3), .val (.int (((x1 &&& (2147483647 : Int32)) % (65536 : Int32)) + (1 : Int32))), .val (.int (((x2 &&& (2147483647 : Int32)) % (32768 : Int32)) + (1 : Int32))), .unset, .unset, .unset] [(.ref b13)])) _
            refine XS.astore X15.here hx rfl (hb hby at_75) rfl rfl (l' := #[.val (.int x1), .val (.int x2), .val (.int x3), .val (.int (((x1 &&& (2147483647 : Int32)) % (65536 : Int32)) + (1 : Int32))), .val (.int (((x2 &&& (2147483647 : Int32)) % (32768 : Int32)) + (1 : Int32))), .val (.ref b13), .unset, .unset]) rfl ?_
            show Steps p.tables e below (T15.setTop (mkF m 77 #[.val (.int x1), .val (.int x2), .val (.int x3), .val (.int (((x1 &&& (2147483647 : Int32)) % (65536 : Int32)) + (1 : Int32))), .val (.int (((x2 &&& (2147483647 : Int32)) % (32768 : Int32)) + (1 : Int32))), .val (.ref b13), .unset, .unset] [])) _
            refine XS.aload X15.here hx rfl (hb hby at_77) rfl rfl ?_
            show Steps p.tables e below (T15.setTop (mkF m 79 #[.val (.int x1), .val (.int x2), .val (.int x3), .val (.int (((x1 &&& (2147483647 : Int32)) % (65536 : Int32)) + (1 : Int32))), .val (.int (((x2 &&& (2147483647 : Int32)) % (32768 : Int32)) + (1 : Int32))), .val (.ref b13), .unset, .unset] [(.ref b13)])) _
            refine st20.trans ?_
            show Steps p.tables e below (T20.setTop (mkF m 82 #[.val (.int x1), .val (.int x2), .val (.int x3), .val (.int (((x1 &&& (2147483647 : Int32)) % (65536 : Int32)) + (1 : Int32))), .val (.int (((x2 &&& (2147483647 : Int32)) % (32768 : Int32)) + (1 : Int32))), .val (.ref b13), .unset, .unset] [(.int (F4 ((((x1 &&& (2147483647 : Int32)) % (65536 : Int32)) + (1 : Int32))) ((((x2 &&& (2147483647 : Int32)) % (32768 : Int32)) + (1 : Int32)))))])) _
            refine XS.istore X20.here hx rfl (hb hby at_82) rfl (l' := #[.val (.int x1), .val (.int x2), .val (.int x3), .val (.int (((x1 &&& (2147483647 : Int32)) % (65536 : Int32)) + (1 : Int32))), .val (.int (((x2 &&& (2147483647 : Int32)) % (32768 : Int32)) + (1 : Int32))), .val (.ref b13), .val (.int (F4 ((((x1 &&& (2147483647 : Int32)) % (65536 : Int32)) + (1 : Int32))) ((((x2 &&& (2147483647 : Int32)) % (32768 : Int32)) + (1 : Int32))))), .unset]) rfl ?_
            show Steps p.tables e below (T20.setTop (mkF m 84 #[.val (.int x1), .val (.int x2), .val (.int x3), .val (.int (((x1 &&& (2147483647 : Int32)) % (65536 : Int32)) + (1 : Int32))), .val (.int (((x2 &&& (2147483647 : Int32)) % (32768 : Int32)) + (1 : Int32))), .val (.ref b13), .val (.int (F4 ((((x1 &&& (2147483647 : Int32)) % (65536 : Int32)) + (1 : Int32))) ((((x2 &&& (2147483647 : Int32)) % (32768 : Int32)) + (1 : Int32))))), .unset] [])) _
            refine XS.iload X20.here hx rfl (hb hby at_84) rfl ?_
            show Steps p.tables e below (T20.setTop (mkF m 86 #[.val (.int x1), .val (.int x2), .val (.int x3), .val (.int (((x1 &&& (2147483647 : Int32)) % (65536 : Int32)) + (1 : Int32))), .val (.int (((x2 &&& (2147483647 : Int32)) % (32768 : Int32)) + (1 : Int32))), .val (.ref b13), .val (.int (F4 ((((x1 &&& (2147483647 : Int32)) % (65536 : Int32)) + (1 : Int32))) ((((x2 &&& (2147483647 : Int32)) % (32768 : Int32)) + (1 : Int32))))), .unset] [(.int (F4 ((((x1 &&& (2147483647 : Int32)) % (65536 : Int32)) + (1 : Int32))) ((((x2 &&& (2147483647 : Int32)) % (32768 : Int32)) + (1 : Int32)))))])) _
            refine XS.iconst X20.here hx rfl (hb hby at_86) ?_
            show Steps p.tables e below (T20.setTop (mkF m 87 #[.val (.int x1), .val (.int x2), .val (.int x3), .val (.int (((x1 &&& (2147483647 : Int32)) % (65536 : Int32)) + (1 : Int32))), .val (.int (((x2 &&& (2147483647 : Int32)) % (32768 : Int32)) + (1 : Int32))), .val (.ref b13), .val (.int (F4 ((((x1 &&& (2147483647 : Int32)) % (65536 : Int32)) + (1 : Int32))) ((((x2 &&& (2147483647 : Int32)) % (32768 : Int32)) + (1 : Int32))))), .unset] [(.int (1 : Int32)), (.int (F4 ((((x1 &&& (2147483647 : Int32)) % (65536 : Int32)) + (1 : Int32))) ((((x2 &&& (2147483647 : Int32)) % (32768 : Int32)) + (1 : Int32)))))])) _
            refine XS.icmpNo X20.here hx rfl (hb hby at_87) rfl (tlt hb21).2.1 ?_
            show Steps p.tables e below (T20.setTop (mkF m 90 #[.val (.int x1), .val (.int x2), .val (.int x3), .val (.int (((x1 &&& (2147483647 : Int32)) % (65536 : Int32)) + (1 : Int32))), .val (.int (((x2 &&& (2147483647 : Int32)) % (32768 : Int32)) + (1 : Int32))), .val (.ref b13), .val (.int (F4 ((((x1 &&& (2147483647 : Int32)) % (65536 : Int32)) + (1 : Int32))) ((((x2 &&& (2147483647 : Int32)) % (32768 : Int32)) + (1 : Int32))))), .unset] [])) _
            refine XS.iconst X20.here hx rfl (hb hby at_90) ?_
            show Steps p.tables e below (T20.setTop (mkF m 91 #[.val (.int x1), .val (.int x2), .val (.int x3), .val (.int (((x1 &&& (2147483647 : Int32)) % (65536 : Int32)) + (1 : Int32))), .val (.int (((x2 &&& (2147483647 : Int32)) % (32768 : Int32)) + (1 : Int32))), .val (.ref b13), .val (.int (F4 ((((x1 &&& (2147483647 : Int32)) % (65536 : Int32)) + (1 : Int32))) ((((x2 &&& (2147483647 : Int32)) % (32768 : Int32)) + (1 : Int32))))), .unset] [(.int (0 : Int32))])) _
            exact retN X20 hx (t := .boolean) Bd.returns (by simp) (hb hby at_91) hr
          · show Q0 Z x1 x2 x3 h0 n0 _ T20.heap _
            rw [e20]
            exact ⟨(congrArg (fun z => some (Value.int z)) (Eq.symm (Eq.trans (if_neg hb1) (Eq.trans (if_pos hb11) (Eq.trans (if_neg hb12) (if_pos hb21)))))), N20⟩
        · obtain ⟨_, _, ⟨T22, L22, k22, n22⟩, -, X22, ⟨Lc22, hQ22, l22, y22, z22⟩, st22⟩ := Jvm.LawKit.callS X20 hx (y := (⟨"com/example/threadkeep/threadkeep/store/Blocks", "block", "(I)I"⟩ : MethodName)) hown (mvT hZ (hw _ (List.mem_of_getElem? (i := 27) rfl))) (mvT hZ (hw _ (List.mem_of_getElem? (i := 28) rfl))) (mvT hZ (hw _ (List.mem_of_getElem? (i := 29) rfl))) (mvT hZ (hw _ (List.mem_of_getElem? (i := 30) rfl))) (by decide) (backOf (W := 0) (rm5 l Z a0 hw [] ((F4 ((((x1 &&& (2147483647 : Int32)) % (65536 : Int32)) + (1 : Int32))) ((((x2 &&& (2147483647 : Int32)) % (32768 : Int32)) + (1 : Int32)))) - (1 : Int32))  T15.heap n0 Z16 ) hZ (hw _ (List.mem_of_getElem? (i := 30) rfl)) (hw _ (List.mem_of_getElem? (i := 29) rfl)) (by decide) (by decide)) (g := (mkF m 100 #[.val (.int x1), .val (.int x2), .val (.int x3), .val (.int (((x1 &&& (2147483647 : Int32)) % (65536 : Int32)) + (1 : Int32))), .val (.int (((x2 &&& (2147483647 : Int32)) % (32768 : Int32)) + (1 : Int32))), .val (.ref b13), .val (.int (F4 ((((x1 &&& (2147483647 : Int32)) % (65536 : Int32)) + (1 : Int32))) ((((x2 &&& (2147483647 : Int32)) % (32768 : Int32)) + (1 : Int32))))), .val (.int ((F4 ((((x1 &&& (2147483647 : Int32)) % (65536 : Int32)) + (1 : Int32))) ((((x2 &&& (2147483647 : Int32)) % (32768 : Int32)) + (1 : Int32)))) - (1 : Int32)))] [(.int ((F4 ((((x1 &&& (2147483647 : Int32)) % (65536 : Int32)) + (1 : Int32))) ((((x2 &&& (2147483647 : Int32)) % (32768 : Int32)) + (1 : Int32)))) - (1 : Int32)))])) rfl (by rw [hml]; rfl) (argsL := [(.int ((F4 ((((x1 &&& (2147483647 : Int32)) % (65536 : Int32)) + (1 : Int32))) ((((x2 &&& (2147483647 : Int32)) % (32768 : Int32)) + (1 : Int32)))) - (1 : Int32)))]) (rest := []) (lenOf pd_3 rfl) rfl (by show 2 * 0 + _ ≤ _; exact Nat.le_of_eq rfl) (hb hby at_100) (fun _ _ => ⟨rfl, e20, (by decide : 1 + 0 ≤ _), (by decide : 2 + 0 ≤ _)⟩)
          dsimp only [Pt.U, Pt.locs, Pt.cells, Pt.slots] at X22 l22 y22 z22 st22 hQ22
          subst l22 y22 z22
          obtain ⟨rfl, N22q, e22⟩ := hQ22
          have N22 := Fr.app N20 N22q
          by_cases hb23 : (F5 ((F4 ((((x1 &&& (2147483647 : Int32)) % (65536 : Int32)) + (1 : Int32))) ((((x2 &&& (2147483647 : Int32)) % (32768 : Int32)) + (1 : Int32)))) - (1 : Int32))) = ((((x1 &&& (2147483647 : Int32)) % (65536 : Int32)) + (1 : Int32)) - (1 : Int32))
          · obtain ⟨_, _, ⟨T24, L24, k24, n24⟩, -, X24, ⟨Lc24, hQ24, l24, y24, z24⟩, st24⟩ := Jvm.LawKit.callS X22 hx (y := (⟨"com/example/threadkeep/threadkeep/store/Blocks", "inBlock", "(I)I"⟩ : MethodName)) hown (mvT hZ (hw _ (List.mem_of_getElem? (i := 31) rfl))) (mvT hZ (hw _ (List.mem_of_getElem? (i := 32) rfl))) (mvT hZ (hw _ (List.mem_of_getElem? (i := 29) rfl))) (mvT hZ (hw _ (List.mem_of_getElem? (i := 33) rfl))) (by decide) (backOf (W := 0) (rm6 l Z a0 hw [] ((F4 ((((x1 &&& (2147483647 : Int32)) % (65536 : Int32)) + (1 : Int32))) ((((x2 &&& (2147483647 : Int32)) % (32768 : Int32)) + (1 : Int32)))) - (1 : Int32))  T15.heap n0 Z16 ) hZ (hw _ (List.mem_of_getElem? (i := 33) rfl)) (hw _ (List.mem_of_getElem? (i := 29) rfl)) (by decide) (by decide)) (g := (mkF m 111 #[.val (.int x1), .val (.int x2), .val (.int x3), .val (.int (((x1 &&& (2147483647 : Int32)) % (65536 : Int32)) + (1 : Int32))), .val (.int (((x2 &&& (2147483647 : Int32)) % (32768 : Int32)) + (1 : Int32))), .val (.ref b13), .val (.int (F4 ((((x1 &&& (2147483647 : Int32)) % (65536 : Int32)) + (1 : Int32))) ((((x2 &&& (2147483647 : Int32)) % (32768 : Int32)) + (1 : Int32))))), .val (.int ((F4 ((((x1 &&& (2147483647 : Int32)) % (65536 : Int32)) + (1 : Int32))) ((((x2 &&& (2147483647 : Int32)) % (32768 : Int32)) + (1 : Int32)))) - (1 : Int32)))] [(.int ((F4 ((((x1 &&& (2147483647 : Int32)) % (65536 : Int32)) + (1 : Int32))) ((((x2 &&& (2147483647 : Int32)) % (32768 : Int32)) + (1 : Int32)))) - (1 : Int32)))])) rfl (by rw [hml]; rfl) (argsL := [(.int ((F4 ((((x1 &&& (2147483647 : Int32)) % (65536 : Int32)) + (1 : Int32))) ((((x2 &&& (2147483647 : Int32)) % (32768 : Int32)) + (1 : Int32)))) - (1 : Int32)))]) (rest := []) (lenOf pd_3 rfl) rfl (by show 2 * 0 + _ ≤ _; exact Nat.le_of_eq rfl) (hb hby at_111) (fun _ _ => ⟨rfl, e22, (by decide : 1 + 0 ≤ _), (by decide : 2 + 0 ≤ _)⟩)
            dsimp only [Pt.U, Pt.locs, Pt.cells, Pt.slots] at X24 l24 y24 z24 st24 hQ24
            subst l24 y24 z24
            obtain ⟨rfl, N24q, e24⟩ := hQ24
            have N24 := Fr.app N22 N24q
            obtain ⟨fs, hr, hrun, hended, hW, hsame⟩ := X24.leave (v := some (.int (if (F6 ((F4 ((((x1 &&& (2147483647 : Int32)) % (65536 : Int32)) + (1 : Int32))) ((((x2 &&& (2147483647 : Int32)) % (32768 : Int32)) + (1 : Int32)))) - (1 : Int32))) = ((((x2 &&& (2147483647 : Int32)) % (32768 : Int32)) + (1 : Int32)) - (1 : Int32)) then (1 : Int32) else (0 : Int32)))) (fun h => by rw [Bd.returns] at h; cases h)
            refine ⟨_, _, pre0 _ ?_, hrun, hended, _, _, rfl, ?_, ⟨_, rfl⟩, hW, hsame.mono (by decide) (by decide)⟩
            · show Steps p.tables e below (s₁.setTop (mkF m 0 #[.val (.int x1), .val (.int x2), .val (.int x3), .unset, .unset, .unset, .unset, .unset] [])) _
              refine XS.iloadN X0.here hx rfl (hb hby at_0) rfl ?_
              show Steps p.tables e below (s₁.setTop (mkF m 1 #[.val (.int x1), .val (.int x2), .val (.int x3), .unset, .unset, .unset, .unset, .unset] [(.int x3)])) _
              refine XS.iconst X0.here hx rfl (hb hby at_1) ?_
              show Steps p.tables e below (s₁.setTop (mkF m 2 #[.val (.int x1), .val (.int x2), .val (.int x3), .unset, .unset, .unset, .unset, .unset] [(.int (3 : Int32)), (.int x3)])) _
              refine XS.iand X0.here hx rfl (hb hby at_2) rfl ?_
              show Steps p.tables e below (s₁.setTop (mkF m 3 #[.val (.int x1), .val (.int x2), .val (.int x3), .unset, .unset, .unset, .unset, .unset] [(.int (x3 &&& (3 : Int32)))])) _
              refine XS.ifYes X0.here hx rfl (pc0 := 3) (pc' := 29) rfl (hb hby at_3) rfl ((if0 _ _).trans (feq hb1).2) (by decide) (by decide) ?_
              show Steps p.tables e below (s₁.setTop (mkF m 29 #[.val (.int x1), .val (.int x2), .val (.int x3), .unset, .unset, .unset, .unset, .unset] [])) _
              refine XS.iloadN X0.here hx rfl (hb hby at_29) rfl ?_
              show Steps p.tables e below (s₁.setTop (mkF m 30 #[.val (.int x1), .val (.int x2), .val (.int x3), .unset, .unset, .unset, .unset, .unset] [(.int x1)])) _
              refine X0.ldcInt hx hown (mvT hZ (hw _ (List.mem_of_getElem? (i := 0) rfl))) (g := (mkF m 30 #[.val (.int x1), .val (.int x2), .val (.int x3), .unset, .unset, .unset, .unset, .unset] [(.int x1)])) rfl (hb hby at_30) _ ?_
              show Steps p.tables e below (s₁.setTop (mkF m 32 #[.val (.int x1), .val (.int x2), .val (.int x3), .unset, .unset, .unset, .unset, .unset] [(.int (2147483647 : Int32)), (.int x1)])) _
              refine XS.iand X0.here hx rfl (hb hby at_32) rfl ?_
              show Steps p.tables e below (s₁.setTop (mkF m 33 #[.val (.int x1), .val (.int x2), .val (.int x3), .unset, .unset, .unset, .unset, .unset] [(.int (x1 &&& (2147483647 : Int32)))])) _
              refine X0.ldcInt hx hown (mvT hZ (hw _ (List.mem_of_getElem? (i := 1) rfl))) (g := (mkF m 33 #[.val (.int x1), .val (.int x2), .val (.int x3), .unset, .unset, .unset, .unset, .unset] [(.int (x1 &&& (2147483647 : Int32)))])) rfl (hb hby at_33) _ ?_
              show Steps p.tables e below (s₁.setTop (mkF m 35 #[.val (.int x1), .val (.int x2), .val (.int x3), .unset, .unset, .unset, .unset, .unset] [(.int (65536 : Int32)), (.int (x1 &&& (2147483647 : Int32)))])) _
              refine iremM X0 hx rfl (hb hby at_35) rfl (by decide) ?_
              show Steps p.tables e below (s₁.setTop (mkF m 36 #[.val (.int x1), .val (.int x2), .val (.int x3), .unset, .unset, .unset, .unset, .unset] [(.int ((x1 &&& (2147483647 : Int32)) % (65536 : Int32)))])) _
              refine XS.iconst X0.here hx rfl (hb hby at_36) ?_
              show Steps p.tables e below (s₁.setTop (mkF m 37 #[.val (.int x1), .val (.int x2), .val (.int x3), .unset, .unset, .unset, .unset, .unset] [(.int (1 : Int32)), (.int ((x1 &&& (2147483647 : Int32)) % (65536 : Int32)))])) _
              refine XS.iadd X0.here hx rfl (hb hby at_37) rfl ?_
              show Steps p.tables e below (s₁.setTop (mkF m 38 #[.val (.int x1), .val (.int x2), .val (.int x3), .unset, .unset, .unset, .unset, .unset] [(.int (((x1 &&& (2147483647 : Int32)) % (65536 : Int32)) + (1 : Int32)))])) _
              refine XS.istoreN X0.here hx rfl (hb hby at_38) rfl (l' := #[.val (.int x1), .val (.int x2), .val (.int x3), .val (.int (((x1 &&& (2147483647 : Int32)) % (65536 : Int32)) + (1 : Int32))), .unset, .unset, .unset, .unset]) rfl ?_
              show Steps p.tables e below (s₁.setTop (mkF m 39 #[.val (.int x1), .val (.int x2), .val (.int x3), .val (.int (((x1 &&& (2147483647 : Int32)) % (65536 : Int32)) + (1 : Int32))), .unset, .unset, .unset, .unset] [])) _
              refine XS.iloadN X0.here hx rfl (hb hby at_39) rfl ?_
              show Steps p.tables e below (s₁.setTop (mkF m 40 #[.val (.int x1), .val (.int x2), .val (.int x3), .val (.int (((x1 &&& (2147483647 : Int32)) % (65536 : Int32)) + (1 : Int32))), .unset, .unset, .unset, .unset] [(.int x2)])) _
              refine X0.ldcInt hx hown (mvT hZ (hw _ (List.mem_of_getElem? (i := 0) rfl))) (g := (mkF m 40 #[.val (.int x1), .val (.int x2), .val (.int x3), .val (.int (((x1 &&& (2147483647 : Int32)) % (65536 : Int32)) + (1 : Int32))), .unset, .unset, .unset, .unset] [(.int x2)])) rfl (hb hby at_40) _ ?_
              show Steps p.tables e below (s₁.setTop (mkF m 42 #[.val (.int x1), .val (.int x2), .val (.int x3), .val (.int (((x1 &&& (2147483647 : Int32)) % (65536 : Int32)) + (1 : Int32))), .unset, .unset, .unset, .unset] [(.int (2147483647 : Int32)), (.int x2)])) _
              refine XS.iand X0.here hx rfl (hb hby at_42) rfl ?_
              show Steps p.tables e below (s₁.setTop (mkF m 43 #[.val (.int x1), .val (.int x2), .val (.int x3), .val (.int (((x1 &&& (2147483647 : Int32)) % (65536 : Int32)) + (1 : Int32))), .unset, .unset, .unset, .unset] [(.int (x2 &&& (2147483647 : Int32)))])) _
              refine X0.ldcInt hx hown (mvT hZ (hw _ (List.mem_of_getElem? (i := 2) rfl))) (g := (mkF m 43 #[.val (.int x1), .val (.int x2), .val (.int x3), .val (.int (((x1 &&& (2147483647 : Int32)) % (65536 : Int32)) + (1 : Int32))), .unset, .unset, .unset, .unset] [(.int (x2 &&& (2147483647 : Int32)))])) rfl (hb hby at_43) _ ?_
              show Steps p.tables e below (s₁.setTop (mkF m 45 #[.val (.int x1), .val (.int x2), .val (.int x3), .val (.int (((x1 &&& (2147483647 : Int32)) % (65536 : Int32)) + (1 : Int32))), .unset, .unset, .unset, .unset] [(.int (32768 : Int32)), (.int (x2 &&& (2147483647 : Int32)))])) _
              refine iremM X0 hx rfl (hb hby at_45) rfl (by decide) ?_
              show Steps p.tables e below (s₁.setTop (mkF m 46 #[.val (.int x1), .val (.int x2), .val (.int x3), .val (.int (((x1 &&& (2147483647 : Int32)) % (65536 : Int32)) + (1 : Int32))), .unset, .unset, .unset, .unset] [(.int ((x2 &&& (2147483647 : Int32)) % (32768 : Int32)))])) _
              refine XS.iconst X0.here hx rfl (hb hby at_46) ?_
              show Steps p.tables e below (s₁.setTop (mkF m 47 #[.val (.int x1), .val (.int x2), .val (.int x3), .val (.int (((x1 &&& (2147483647 : Int32)) % (65536 : Int32)) + (1 : Int32))), .unset, .unset, .unset, .unset] [(.int (1 : Int32)), (.int ((x2 &&& (2147483647 : Int32)) % (32768 : Int32)))])) _
              refine XS.iadd X0.here hx rfl (hb hby at_47) rfl ?_
              show Steps p.tables e below (s₁.setTop (mkF m 48 #[.val (.int x1), .val (.int x2), .val (.int x3), .val (.int (((x1 &&& (2147483647 : Int32)) % (65536 : Int32)) + (1 : Int32))), .unset, .unset, .unset, .unset] [(.int (((x2 &&& (2147483647 : Int32)) % (32768 : Int32)) + (1 : Int32)))])) _
              refine XS.istore X0.here hx rfl (hb hby at_48) rfl (l' := #[.val (.int x1), .val (.int x2), .val (.int x3), .val (.int (((x1 &&& (2147483647 : Int32)) % (65536 : Int32)) + (1 : Int32))), .val (.int (((x2 &&& (2147483647 : Int32)) % (32768 : Int32)) + (1 : Int32))), .unset, .unset, .unset]) rfl ?_
              show Steps p.tables e below (s₁.setTop (mkF m 50 #[.val (.int x1), .val (.int x2), .val (.int x3), .val (.int (((x1 &&& (2147483647 : Int32)) % (65536 : Int32)) + (1 : Int32))), .val (.int (((x2 &&& (2147483647 : Int32)) % (32768 : Int32)) + (1 : Int32))), .unset, .unset, .unset] [])) _
              refine XS.iloadN X0.here hx rfl (hb hby at_50) rfl ?_
              show Steps p.tables e below (s₁.setTop (mkF m 51 #[.val (.int x1), .val (.int x2), .val (.int x3), .val (.int (((x1 &&& (2147483647 : Int32)) % (65536 : Int32)) + (1 : Int32))), .val (.int (((x2 &&& (2147483647 : Int32)) % (32768 : Int32)) + (1 : Int32))), .unset, .unset, .unset] [(.int (((x1 &&& (2147483647 : Int32)) % (65536 : Int32)) + (1 : Int32)))])) _
              refine X0.ldcInt hx hown (mvT hZ (hw _ (List.mem_of_getElem? (i := 1) rfl))) (g := (mkF m 51 #[.val (.int x1), .val (.int x2), .val (.int x3), .val (.int (((x1 &&& (2147483647 : Int32)) % (65536 : Int32)) + (1 : Int32))), .val (.int (((x2 &&& (2147483647 : Int32)) % (32768 : Int32)) + (1 : Int32))), .unset, .unset, .unset] [(.int (((x1 &&& (2147483647 : Int32)) % (65536 : Int32)) + (1 : Int32)))])) rfl (hb hby at_51) _ ?_
              show Steps p.tables e below (s₁.setTop (mkF m 53 #[.val (.int x1), .val (.int x2), .val (.int x3), .val (.int (((x1 &&& (2147483647 : Int32)) % (65536 : Int32)) + (1 : Int32))), .val (.int (((x2 &&& (2147483647 : Int32)) % (32768 : Int32)) + (1 : Int32))), .unset, .unset, .unset] [(.int (65536 : Int32)), (.int (((x1 &&& (2147483647 : Int32)) % (65536 : Int32)) + (1 : Int32)))])) _
              refine XS.icmpNo X0.here hx rfl (hb hby at_53) rfl (teq hb11).2 ?_
              show Steps p.tables e below (s₁.setTop (mkF m 56 #[.val (.int x1), .val (.int x2), .val (.int x3), .val (.int (((x1 &&& (2147483647 : Int32)) % (65536 : Int32)) + (1 : Int32))), .val (.int (((x2 &&& (2147483647 : Int32)) % (32768 : Int32)) + (1 : Int32))), .unset, .unset, .unset] [])) _
              refine XS.iload X0.here hx rfl (hb hby at_56) rfl ?_
              show Steps p.tables e below (s₁.setTop (mkF m 58 #[.val (.int x1), .val (.int x2), .val (.int x3), .val (.int (((x1 &&& (2147483647 : Int32)) % (65536 : Int32)) + (1 : Int32))), .val (.int (((x2 &&& (2147483647 : Int32)) % (32768 : Int32)) + (1 : Int32))), .unset, .unset, .unset] [(.int (((x2 &&& (2147483647 : Int32)) % (32768 : Int32)) + (1 : Int32)))])) _
              refine X0.ldcInt hx hown (mvT hZ (hw _ (List.mem_of_getElem? (i := 2) rfl))) (g := (mkF m 58 #[.val (.int x1), .val (.int x2), .val (.int x3), .val (.int (((x1 &&& (2147483647 : Int32)) % (65536 : Int32)) + (1 : Int32))), .val (.int (((x2 &&& (2147483647 : Int32)) % (32768 : Int32)) + (1 : Int32))), .unset, .unset, .unset] [(.int (((x2 &&& (2147483647 : Int32)) % (32768 : Int32)) + (1 : Int32)))])) rfl (hb hby at_58) _ ?_
              show Steps p.tables e below (s₁.setTop (mkF m 60 #[.val (.int x1), .val (.int x2), .val (.int x3), .val (.int (((x1 &&& (2147483647 : Int32)) % (65536 : Int32)) + (1 : Int32))), .val (.int (((x2 &&& (2147483647 : Int32)) % (32768 : Int32)) + (1 : Int32))), .unset, .unset, .unset] [(.int (32768 : Int32)), (.int (((x2 &&& (2147483647 : Int32)) % (32768 : Int32)) + (1 : Int32)))])) _
              refine XS.icmpYes X0.here hx rfl (pc0 := 60) (pc' := 65) rfl (hb hby at_60) rfl (feq hb12).2 (by decide) (by decide) ?_
              show Steps p.tables e below (s₁.setTop (mkF m 65 #[.val (.int x1), .val (.int x2), .val (.int x3), .val (.int (((x1 &&& (2147483647 : Int32)) % (65536 : Int32)) + (1 : Int32))), .val (.int (((x2 &&& (2147483647 : Int32)) % (32768 : Int32)) + (1 : Int32))), .unset, .unset, .unset] [])) _
              refine st13 _ ?_
              show Steps p.tables e below (T13.setTop (mkF m 68 #[.val (.int x1), .val (.int x2), .val (.int x3), .val (.int (((x1 &&& (2147483647 : Int32)) % (65536 : Int32)) + (1 : Int32))), .val (.int (((x2 &&& (2147483647 : Int32)) % (32768 : Int32)) + (1 : Int32))), .unset, .unset, .unset] [(.ref b13)])) _
              refine XS.dup X13.here hx rfl (hb hby at_68) rfl rfl ?_
              show Steps p.tables e below (T13.setTop (mkF m 69 #[.val (.int x1), .val (.int x2), .val (.int x3), .val (.int (((x1 &&& (2147483647 : Int32)) % (65536 : Int32)) + (1 : Int32))), .val (.int (((x2 &&& (2147483647 : Int32)) % (32768 : Int32)) + (1 : Int32))), .unset, .unset, .unset] [(.ref b13), (.ref b13)])) _
              refine XS.iloadN X13.here hx rfl (hb hby at_69) rfl ?_
              show Steps p.tables e below (T13.setTop (mkF m 70 #[.val (.int x1), .val (.int x2), .val (.int x3), .val (.int (((x1 &&& (2147483647 : Int32)) % (65536 : Int32)) + (1 : Int32))), .val (.int (((x2 &&& (2147483647 : Int32)) % (32768 : Int32)) + (1 : Int32))), .unset, .unset, .unset] [(.int (((x1 &&& (2147483647 : Int32)) % (65536 : Int32)) + (1 : Int32))), (.ref b13), (.ref b13)])) _
              refine XS.iload X13.here hx rfl (hb hby at_70) rfl ?_
              show Steps p.tables e below (T13.setTop (mkF m 72 #[.val (.int x1), .val (.int x2), .val (.int x3), .val (.int (((x1 &&& (2147483647 : Int32)) % (65536 : Int32)) + (1 : Int32))), .val (.int (((x2 &&& (2147483647 : Int32)) % (32768 : Int32)) + (1 : Int32))), .unset, .unset, .unset] [(.int (((x2 &&& (2147483647 : Int32)) % (32768 : Int32)) + (1 : Int32))), (.int (((x1 &&& (2147483647 : Int32)) % (65536 : Int32)) + (1 : Int32))), (.ref b13), (.ref b13)])) _
              refine st15.trans ?_
              show Steps p.tables e below (T15.setTop (mkF m 75 #[.val (.int x1), .val (.int x2), .val (.int x3), .val (.int (((x1 &&& (2147483647 : Int32)) % (65536 : Int32)) + (1 : Int32))), .val (.int (((x2 &&& (2147483647 : Int32)) % (32768 : Int32)) + (1 : Int32))), .unset, .unset, .unset] [(.ref b13)])) _
              refine XS.astore X15.here hx rfl (hb hby at_75) rfl rfl (l' := #[.val (.int x1), .val (.int x2), .val (.int x3), .val (.int (((x1 &&& (2147483647 : Int32)) % (65536 : Int32)) + (1 : Int32))), .val (.int (((x2 &&& (2147483647 : Int32)) % (32768 : Int32)) + (1 : Int32))), .val (.ref b13), .unset, .unset]) rfl ?_
              show Steps p.tables e below (T15.setTop (mkF m 77 #[.val (.int x1), .val (.int x2), .val (.int x3), .val (.int (((x1 &&& (2147483647 : Int32)) % (65536 : Int32)) + (1 : Int32))), .val (.int (((x2 &&& (2147483647 : Int32)) % (32768 : Int32)) + (1 : Int32))), .val (.ref b13), .unset, .unset] [])) _
              refine XS.aload X15.here hx rfl (hb hby at_77) rfl rfl ?_
              show Steps p.tables e below (T15.setTop (mkF m 79 #[.val (.int x1), .val (.int x2), .val (.int x3), .val (.int (((x1 &&& (2147483647 : Int32)) % (65536 : Int32)) + (1 : Int32))), .val (.int (((x2 &&& (2147483647 : Int32)) % (32768 : Int32)) + (1 : Int32))), .val (.ref b13), .unset, .unset] [(.ref b13)])) _
              refine st20.trans ?_
              show Steps p.tables e below (T20.setTop (mkF m 82 #[.val (.int x1), .val (.int x2), .val (.int x3), .val (.int (((x1 &&& (2147483647 : Int32)) % (65536 : Int32)) + (1 : Int32))), .val (.int (((x2 &&& (2147483647 : Int32)) % (32768 : Int32)) + (1 : Int32))), .val (.ref b13), .unset, .unset] [(.int (F4 ((((x1 &&& (2147483647 : Int32)) % (65536 : Int32)) + (1 : Int32))) ((((x2 &&& (2147483647 : Int32)) % (32768 : Int32)) + (1 : Int32)))))])) _
              refine XS.istore X20.here hx rfl (hb hby at_82) rfl (l' := #[.val (.int x1), .val (.int x2), .val (.int x3), .val (.int (((x1 &&& (2147483647 : Int32)) % (65536 : Int32)) + (1 : Int32))), .val (.int (((x2 &&& (2147483647 : Int32)) % (32768 : Int32)) + (1 : Int32))), .val (.ref b13), .val (.int (F4 ((((x1 &&& (2147483647 : Int32)) % (65536 : Int32)) + (1 : Int32))) ((((x2 &&& (2147483647 : Int32)) % (32768 : Int32)) + (1 : Int32))))), .unset]) rfl ?_
              show Steps p.tables e below (T20.setTop (mkF m 84 #[.val (.int x1), .val (.int x2), .val (.int x3), .val (.int (((x1 &&& (2147483647 : Int32)) % (65536 : Int32)) + (1 : Int32))), .val (.int (((x2 &&& (2147483647 : Int32)) % (32768 : Int32)) + (1 : Int32))), .val (.ref b13), .val (.int (F4 ((((x1 &&& (2147483647 : Int32)) % (65536 : Int32)) + (1 : Int32))) ((((x2 &&& (2147483647 : Int32)) % (32768 : Int32)) + (1 : Int32))))), .unset] [])) _
              refine XS.iload X20.here hx rfl (hb hby at_84) rfl ?_
              show Steps p.tables e below (T20.setTop (mkF m 86 #[.val (.int x1), .val (.int x2), .val (.int x3), .val (.int (((x1 &&& (2147483647 : Int32)) % (65536 : Int32)) + (1 : Int32))), .val (.int (((x2 &&& (2147483647 : Int32)) % (32768 : Int32)) + (1 : Int32))), .val (.ref b13), .val (.int (F4 ((((x1 &&& (2147483647 : Int32)) % (65536 : Int32)) + (1 : Int32))) ((((x2 &&& (2147483647 : Int32)) % (32768 : Int32)) + (1 : Int32))))), .unset] [(.int (F4 ((((x1 &&& (2147483647 : Int32)) % (65536 : Int32)) + (1 : Int32))) ((((x2 &&& (2147483647 : Int32)) % (32768 : Int32)) + (1 : Int32)))))])) _
              refine XS.iconst X20.here hx rfl (hb hby at_86) ?_
              show Steps p.tables e below (T20.setTop (mkF m 87 #[.val (.int x1), .val (.int x2), .val (.int x3), .val (.int (((x1 &&& (2147483647 : Int32)) % (65536 : Int32)) + (1 : Int32))), .val (.int (((x2 &&& (2147483647 : Int32)) % (32768 : Int32)) + (1 : Int32))), .val (.ref b13), .val (.int (F4 ((((x1 &&& (2147483647 : Int32)) % (65536 : Int32)) + (1 : Int32))) ((((x2 &&& (2147483647 : Int32)) % (32768 : Int32)) + (1 : Int32))))), .unset] [(.int (1 : Int32)), (.int (F4 ((((x1 &&& (2147483647 : Int32)) % (65536 : Int32)) + (1 : Int32))) ((((x2 &&& (2147483647 : Int32)) % (32768 : Int32)) + (1 : Int32)))))])) _
              refine XS.icmpYes X20.here hx rfl (pc0 := 87) (pc' := 92) rfl (hb hby at_87) rfl (flt hb21).2.1 (by decide) (by decide) ?_
              show Steps p.tables e below (T20.setTop (mkF m 92 #[.val (.int x1), .val (.int x2), .val (.int x3), .val (.int (((x1 &&& (2147483647 : Int32)) % (65536 : Int32)) + (1 : Int32))), .val (.int (((x2 &&& (2147483647 : Int32)) % (32768 : Int32)) + (1 : Int32))), .val (.ref b13), .val (.int (F4 ((((x1 &&& (2147483647 : Int32)) % (65536 : Int32)) + (1 : Int32))) ((((x2 &&& (2147483647 : Int32)) % (32768 : Int32)) + (1 : Int32))))), .unset] [])) _
              refine XS.iload X20.here hx rfl (hb hby at_92) rfl ?_
              show Steps p.tables e below (T20.setTop (mkF m 94 #[.val (.int x1), .val (.int x2), .val (.int x3), .val (.int (((x1 &&& (2147483647 : Int32)) % (65536 : Int32)) + (1 : Int32))), .val (.int (((x2 &&& (2147483647 : Int32)) % (32768 : Int32)) + (1 : Int32))), .val (.ref b13), .val (.int (F4 ((((x1 &&& (2147483647 : Int32)) % (65536 : Int32)) + (1 : Int32))) ((((x2 &&& (2147483647 : Int32)) % (32768 : Int32)) + (1 : Int32))))), .unset] [(.int (F4 ((((x1 &&& (2147483647 : Int32)) % (65536 : Int32)) + (1 : Int32))) ((((x2 &&& (2147483647 : Int32)) % (32768 : Int32)) + (1 : Int32)))))])) _
              refine XS.iconst X20.here hx rfl (hb hby at_94) ?_
              show Steps p.tables e below (T20.setTop (mkF m 95 #[.val (.int x1), .val (.int x2), .val (.int x3), .val (.int (((x1 &&& (2147483647 : Int32)) % (65536 : Int32)) + (1 : Int32))), .val (.int (((x2 &&& (2147483647 : Int32)) % (32768 : Int32)) + (1 : Int32))), .val (.ref b13), .val (.int (F4 ((((x1 &&& (2147483647 : Int32)) % (65536 : Int32)) + (1 : Int32))) ((((x2 &&& (2147483647 : Int32)) % (32768 : Int32)) + (1 : Int32))))), .unset] [(.int (1 : Int32)), (.int (F4 ((((x1 &&& (2147483647 : Int32)) % (65536 : Int32)) + (1 : Int32))) ((((x2 &&& (2147483647 : Int32)) % (32768 : Int32)) + (1 : Int32)))))])) _
              refine XS.isub X20.here hx rfl (hb hby at_95) rfl ?_
              show Steps p.tables e below (T20.setTop (mkF m 96 #[.val (.int x1), .val (.int x2), .val (.int x3), .val (.int (((x1 &&& (2147483647 : Int32)) % (65536 : Int32)) + (1 : Int32))), .val (.int (((x2 &&& (2147483647 : Int32)) % (32768 : Int32)) + (1 : Int32))), .val (.ref b13), .val (.int (F4 ((((x1 &&& (2147483647 : Int32)) % (65536 : Int32)) + (1 : Int32))) ((((x2 &&& (2147483647 : Int32)) % (32768 : Int32)) + (1 : Int32))))), .unset] [(.int ((F4 ((((x1 &&& (2147483647 : Int32)) % (65536 : Int32)) + (1 : Int32))) ((((x2 &&& (2147483647 : Int32)) % (32768 : Int32)) + (1 : Int32)))) - (1 : Int32)))])) _
              refine XS.istore X20.here hx rfl (hb hby at_96) rfl (l' := #[.val (.int x1), .val (.int x2), .val (.int x3), .val (.int (((x1 &&& (2147483647 : Int32)) % (65536 : Int32)) + (1 : Int32))), .val (.int (((x2 &&& (2147483647 : Int32)) % (32768 : Int32)) + (1 : Int32))), .val (.ref b13), .val (.int (F4 ((((x1 &&& (2147483647 : Int32)) % (65536 : Int32)) + (1 : Int32))) ((((x2 &&& (2147483647 : Int32)) % (32768 : Int32)) + (1 : Int32))))), .val (.int ((F4 ((((x1 &&& (2147483647 : Int32)) % (65536 : Int32)) + (1 : Int32))) ((((x2 &&& (2147483647 : Int32)) % (32768 : Int32)) + (1 : Int32)))) - (1 : Int32)))]) rfl ?_
              show Steps p.tables e below (T20.setTop (mkF m 98 #[.val (.int x1), .val (.int x2), .val (.int x3), .val (.int (((x1 &&& (2147483647 : Int32)) % (65536 : Int32)) + (1 : Int32))), .val (.int (((x2 &&& (2147483647 : Int32)) % (32768 : Int32)) + (1 : Int32))), .val (.ref b13), .val (.int (F4 ((((x1 &&& (2147483647 : Int32)) % (65536 : Int32)) + (1 : Int32))) ((((x2 &&& (2147483647 : Int32)) % (32768 : Int32)) + (1 : Int32))))), .val (.int ((F4 ((((x1 &&& (2147483647 : Int32)) % (65536 : Int32)) + (1 : Int32))) ((((x2 &&& (2147483647 : Int32)) % (32768 : Int32)) + (1 : Int32)))) - (1 : Int32)))] [])) _
              refine XS.iload X20.here hx rfl (hb hby at_98) rfl ?_
              show Steps p.tables e below (T20.setTop (mkF m 100 #[.val (.int x1), .val (.int x2), .val (.int x3), .val (.int (((x1 &&& (2147483647 : Int32)) % (65536 : Int32)) + (1 : Int32))), .val (.int (((x2 &&& (2147483647 : Int32)) % (32768 : Int32)) + (1 : Int32))), .val (.ref b13), .val (.int (F4 ((((x1 &&& (2147483647 : Int32)) % (65536 : Int32)) + (1 : Int32))) ((((x2 &&& (2147483647 : Int32)) % (32768 : Int32)) + (1 : Int32))))), .val (.int ((F4 ((((x1 &&& (2147483647 : Int32)) % (65536 : Int32)) + (1 : Int32))) ((((x2 &&& (2147483647 : Int32)) % (32768 : Int32)) + (1 : Int32)))) - (1 : Int32)))] [(.int ((F4 ((((x1 &&& (2147483647 : Int32)) % (65536 : Int32)) + (1 : Int32))) ((((x2 &&& (2147483647 : Int32)) % (32768 : Int32)) + (1 : Int32)))) - (1 : Int32)))])) _
              refine st22 _ ?_
              show Steps p.tables e below (T22.setTop (mkF m 103 #[.val (.int x1), .val (.int x2), .val (.int x3), .val (.int (((x1 &&& (2147483647 : Int32)) % (65536 : Int32)) + (1 : Int32))), .val (.int (((x2 &&& (2147483647 : Int32)) % (32768 : Int32)) + (1 : Int32))), .val (.ref b13), .val (.int (F4 ((((x1 &&& (2147483647 : Int32)) % (65536 : Int32)) + (1 : Int32))) ((((x2 &&& (2147483647 : Int32)) % (32768 : Int32)) + (1 : Int32))))), .val (.int ((F4 ((((x1 &&& (2147483647 : Int32)) % (65536 : Int32)) + (1 : Int32))) ((((x2 &&& (2147483647 : Int32)) % (32768 : Int32)) + (1 : Int32)))) - (1 : Int32)))] [(.int (F5 ((F4 ((((x1 &&& (2147483647 : Int32)) % (65536 : Int32)) + (1 : Int32))) ((((x2 &&& (2147483647 : Int32)) % (32768 : Int32)) + (1 : Int32)))) - (1 : Int32))))])) _
              refine XS.iloadN X22.here hx rfl (hb hby at_103) rfl ?_
              show Steps p.tables e below (T22.setTop (mkF m 104 #[.val (.int x1), .val (.int x2), .val (.int x3), .val (.int (((x1 &&& (2147483647 : Int32)) % (65536 : Int32)) + (1 : Int32))), .val (.int (((x2 &&& (2147483647 : Int32)) % (32768 : Int32)) + (1 : Int32))), .val (.ref b13), .val (.int (F4 ((((x1 &&& (2147483647 : Int32)) % (65536 : Int32)) + (1 : Int32))) ((((x2 &&& (2147483647 : Int32)) % (32768 : Int32)) + (1 : Int32))))), .val (.int ((F4 ((((x1 &&& (2147483647 : Int32)) % (65536 : Int32)) + (1 : Int32))) ((((x2 &&& (2147483647 : Int32)) % (32768 : Int32)) + (1 : Int32)))) - (1 : Int32)))] [(.int (((x1 &&& (2147483647 : Int32)) % (65536 : Int32)) + (1 : Int32))), (.int (F5 ((F4 ((((x1 &&& (2147483647 : Int32)) % (65536 : Int32)) + (1 : Int32))) ((((x2 &&& (2147483647 : Int32)) % (32768 : Int32)) + (1 : Int32)))) - (1 : Int32))))])) _
              refine XS.iconst X22.here hx rfl (hb hby at_104) ?_
              show Steps p.tables e below (T22.setTop (mkF m 105 #[.val (.int x1), .val (.int x2), .val (.int x3), .val (.int (((x1 &&& (2147483647 : Int32)) % (65536 : Int32)) + (1 : Int32))), .val (.int (((x2 &&& (2147483647 : Int32)) % (32768 : Int32)) + (1 : Int32))), .val (.ref b13), .val (.int (F4 ((((x1 &&& (2147483647 : Int32)) % (65536 : Int32)) + (1 : Int32))) ((((x2 &&& (2147483647 : Int32)) % (32768 : Int32)) + (1 : Int32))))), .val (.int ((F4 ((((x1 &&& (2147483647 : Int32)) % (65536 : Int32)) + (1 : Int32))) ((((x2 &&& (2147483647 : Int32)) % (32768 : Int32)) + (1 : Int32)))) - (1 : Int32)))] [(.int (1 : Int32)), (.int (((x1 &&& (2147483647 : Int32)) % (65536 : Int32)) + (1 : Int32))), (.int (F5 ((F4 ((((x1 &&& (2147483647 : Int32)) % (65536 : Int32)) + (1 : Int32))) ((((x2 &&& (2147483647 : Int32)) % (32768 : Int32)) + (1 : Int32)))) - (1 : Int32))))])) _
              refine XS.isub X22.here hx rfl (hb hby at_105) rfl ?_
              show Steps p.tables e below (T22.setTop (mkF m 106 #[.val (.int x1), .val (.int x2), .val (.int x3), .val (.int (((x1 &&& (2147483647 : Int32)) % (65536 : Int32)) + (1 : Int32))), .val (.int (((x2 &&& (2147483647 : Int32)) % (32768 : Int32)) + (1 : Int32))), .val (.ref b13), .val (.int (F4 ((((x1 &&& (2147483647 : Int32)) % (65536 : Int32)) + (1 : Int32))) ((((x2 &&& (2147483647 : Int32)) % (32768 : Int32)) + (1 : Int32))))), .val (.int ((F4 ((((x1 &&& (2147483647 : Int32)) % (65536 : Int32)) + (1 : Int32))) ((((x2 &&& (2147483647 : Int32)) % (32768 : Int32)) + (1 : Int32)))) - (1 : Int32)))] [(.int ((((x1 &&& (2147483647 : Int32)) % (65536 : Int32)) + (1 : Int32)) - (1 : Int32))), (.int (F5 ((F4 ((((x1 &&& (2147483647 : Int32)) % (65536 : Int32)) + (1 : Int32))) ((((x2 &&& (2147483647 : Int32)) % (32768 : Int32)) + (1 : Int32)))) - (1 : Int32))))])) _
              refine XS.icmpNo X22.here hx rfl (hb hby at_106) rfl (teq hb23).2 ?_
              show Steps p.tables e below (T22.setTop (mkF m 109 #[.val (.int x1), .val (.int x2), .val (.int x3), .val (.int (((x1 &&& (2147483647 : Int32)) % (65536 : Int32)) + (1 : Int32))), .val (.int (((x2 &&& (2147483647 : Int32)) % (32768 : Int32)) + (1 : Int32))), .val (.ref b13), .val (.int (F4 ((((x1 &&& (2147483647 : Int32)) % (65536 : Int32)) + (1 : Int32))) ((((x2 &&& (2147483647 : Int32)) % (32768 : Int32)) + (1 : Int32))))), .val (.int ((F4 ((((x1 &&& (2147483647 : Int32)) % (65536 : Int32)) + (1 : Int32))) ((((x2 &&& (2147483647 : Int32)) % (32768 : Int32)) + (1 : Int32)))) - (1 : Int32)))] [])) _
              refine XS.iload X22.here hx rfl (hb hby at_109) rfl ?_
              show Steps p.tables e below (T22.setTop (mkF m 111 #[.val (.int x1), .val (.int x2), .val (.int x3), .val (.int (((x1 &&& (2147483647 : Int32)) % (65536 : Int32)) + (1 : Int32))), .val (.int (((x2 &&& (2147483647 : Int32)) % (32768 : Int32)) + (1 : Int32))), .val (.ref b13), .val (.int (F4 ((((x1 &&& (2147483647 : Int32)) % (65536 : Int32)) + (1 : Int32))) ((((x2 &&& (2147483647 : Int32)) % (32768 : Int32)) + (1 : Int32))))), .val (.int ((F4 ((((x1 &&& (2147483647 : Int32)) % (65536 : Int32)) + (1 : Int32))) ((((x2 &&& (2147483647 : Int32)) % (32768 : Int32)) + (1 : Int32)))) - (1 : Int32)))] [(.int ((F4 ((((x1 &&& (2147483647 : Int32)) % (65536 : Int32)) + (1 : Int32))) ((((x2 &&& (2147483647 : Int32)) % (32768 : Int32)) + (1 : Int32)))) - (1 : Int32)))])) _
              refine st24 _ ?_
              show Steps p.tables e below (T24.setTop (mkF m 114 #[.val (.int x1), .val (.int x2), .val (.int x3), .val (.int (((x1 &&& (2147483647 : Int32)) % (65536 : Int32)) + (1 : Int32))), .val (.int (((x2 &&& (2147483647 : Int32)) % (32768 : Int32)) + (1 : Int32))), .val (.ref b13), .val (.int (F4 ((((x1 &&& (2147483647 : Int32)) % (65536 : Int32)) + (1 : Int32))) ((((x2 &&& (2147483647 : Int32)) % (32768 : Int32)) + (1 : Int32))))), .val (.int ((F4 ((((x1 &&& (2147483647 : Int32)) % (65536 : Int32)) + (1 : Int32))) ((((x2 &&& (2147483647 : Int32)) % (32768 : Int32)) + (1 : Int32)))) - (1 : Int32)))] [(.int (F6 ((F4 ((((x1 &&& (2147483647 : Int32)) % (65536 : Int32)) + (1 : Int32))) ((((x2 &&& (2147483647 : Int32)) % (32768 : Int32)) + (1 : Int32)))) - (1 : Int32))))])) _
              refine XS.iload X24.here hx rfl (hb hby at_114) rfl ?_
              show Steps p.tables e below (T24.setTop (mkF m 116 #[.val (.int x1), .val (.int x2), .val (.int x3), .val (.int (((x1 &&& (2147483647 : Int32)) % (65536 : Int32)) + (1 : Int32))), .val (.int (((x2 &&& (2147483647 : Int32)) % (32768 : Int32)) + (1 : Int32))), .val (.ref b13), .val (.int (F4 ((((x1 &&& (2147483647 : Int32)) % (65536 : Int32)) + (1 : Int32))) ((((x2 &&& (2147483647 : Int32)) % (32768 : Int32)) + (1 : Int32))))), .val (.int ((F4 ((((x1 &&& (2147483647 : Int32)) % (65536 : Int32)) + (1 : Int32))) ((((x2 &&& (2147483647 : Int32)) % (32768 : Int32)) + (1 : Int32)))) - (1 : Int32)))] [(.int (((x2 &&& (2147483647 : Int32)) % (32768 : Int32)) + (1 : Int32))), (.int (F6 ((F4 ((((x1 &&& (2147483647 : Int32)) % (65536 : Int32)) + (1 : Int32))) ((((x2 &&& (2147483647 : Int32)) % (32768 : Int32)) + (1 : Int32)))) - (1 : Int32))))])) _
              refine XS.iconst X24.here hx rfl (hb hby at_116) ?_
              show Steps p.tables e below (T24.setTop (mkF m 117 #[.val (.int x1), .val (.int x2), .val (.int x3), .val (.int (((x1 &&& (2147483647 : Int32)) % (65536 : Int32)) + (1 : Int32))), .val (.int (((x2 &&& (2147483647 : Int32)) % (32768 : Int32)) + (1 : Int32))), .val (.ref b13), .val (.int (F4 ((((x1 &&& (2147483647 : Int32)) % (65536 : Int32)) + (1 : Int32))) ((((x2 &&& (2147483647 : Int32)) % (32768 : Int32)) + (1 : Int32))))), .val (.int ((F4 ((((x1 &&& (2147483647 : Int32)) % (65536 : Int32)) + (1 : Int32))) ((((x2 &&& (2147483647 : Int32)) % (32768 : Int32)) + (1 : Int32)))) - (1 : Int32)))] [(.int (1 : Int32)), (.int (((x2 &&& (2147483647 : Int32)) % (32768 : Int32)) + (1 : Int32))), (.int (F6 ((F4 ((((x1 &&& (2147483647 : Int32)) % (65536 : Int32)) + (1 : Int32))) ((((x2 &&& (2147483647 : Int32)) % (32768 : Int32)) + (1 : Int32)))) - (1 : Int32))))])) _
              refine XS.isub X24.here hx rfl (hb hby at_117) rfl ?_
              show Steps p.tables e below (T24.setTop (mkF m 118 #[.val (.int x1), .val (.int x2), .val (.int x3), .val (.int (((x1 &&& (2147483647 : Int32)) % (65536 : Int32)) + (1 : Int32))), .val (.int (((x2 &&& (2147483647 : Int32)) % (32768 : Int32)) + (1 : Int32))), .val (.ref b13), .val (.int (F4 ((((x1 &&& (2147483647 : Int32)) % (65536 : Int32)) + (1 : Int32))) ((((x2 &&& (2147483647 : Int32)) % (32768 : Int32)) + (1 : Int32))))), .val (.int ((F4 ((((x1 &&& (2147483647 : Int32)) % (65536 : Int32)) + (1 : Int32))) ((((x2 &&& (2147483647 : Int32)) % (32768 : Int32)) + (1 : Int32)))) - (1 : Int32)))] [(.int ((((x2 &&& (2147483647 : Int32)) % (32768 : Int32)) + (1 : Int32)) - (1 : Int32))), (.int (F6 ((F4 ((((x1 &&& (2147483647 : Int32)) % (65536 : Int32)) + (1 : Int32))) ((((x2 &&& (2147483647 : Int32)) % (32768 : Int32)) + (1 : Int32)))) - (1 : Int32))))])) _
              refine own_dia (u := ((1 : Int32) : Int32)) (v := (0 : Int32)) ((F6 ((F4 ((((x1 &&& (2147483647 : Int32)) % (65536 : Int32)) + (1 : Int32))) ((((x2 &&& (2147483647 : Int32)) % (32768 : Int32)) + (1 : Int32)))) - (1 : Int32))) = ((((x2 &&& (2147483647 : Int32)) % (32768 : Int32)) + (1 : Int32)) - (1 : Int32))) (fun z25 => (mkF m 126 #[.val (.int x1), .val (.int x2), .val (.int x3), .val (.int (((x1 &&& (2147483647 : Int32)) % (65536 : Int32)) + (1 : Int32))), .val (.int (((x2 &&& (2147483647 : Int32)) % (32768 : Int32)) + (1 : Int32))), .val (.ref b13), .val (.int (F4 ((((x1 &&& (2147483647 : Int32)) % (65536 : Int32)) + (1 : Int32))) ((((x2 &&& (2147483647 : Int32)) % (32768 : Int32)) + (1 : Int32))))), .val (.int ((F4 ((((x1 &&& (2147483647 : Int32)) % (65536 : Int32)) + (1 : Int32))) ((((x2 &&& (2147483647 : Int32)) % (32768 : Int32)) + (1 : Int32)))) - (1 : Int32)))] [(.int z25)])) (fun hc25 k25 => ?_) (fun hc25 k25 => ?_) ?_
              · refine XS.icmpNo X24.here hx rfl (hb hby at_118) rfl (teq hc25).2 ?_
                show Steps p.tables e below (T24.setTop (mkF m 121 #[.val (.int x1), .val (.int x2), .val (.int x3), .val (.int (((x1 &&& (2147483647 : Int32)) % (65536 : Int32)) + (1 : Int32))), .val (.int (((x2 &&& (2147483647 : Int32)) % (32768 : Int32)) + (1 : Int32))), .val (.ref b13), .val (.int (F4 ((((x1 &&& (2147483647 : Int32)) % (65536 : Int32)) + (1 : Int32))) ((((x2 &&& (2147483647 : Int32)) % (32768 : Int32)) + (1 : Int32))))), .val (.int ((F4 ((((x1 &&& (2147483647 : Int32)) % (65536 : Int32)) + (1 : Int32))) ((((x2 &&& (2147483647 : Int32)) % (32768 : Int32)) + (1 : Int32)))) - (1 : Int32)))] [])) _
                refine XS.iconst X24.here hx rfl (hb hby at_121) ?_
                show Steps p.tables e below (T24.setTop (mkF m 122 #[.val (.int x1), .val (.int x2), .val (.int x3), .val (.int (((x1 &&& (2147483647 : Int32)) % (65536 : Int32)) + (1 : Int32))), .val (.int (((x2 &&& (2147483647 : Int32)) % (32768 : Int32)) + (1 : Int32))), .val (.ref b13), .val (.int (F4 ((((x1 &&& (2147483647 : Int32)) % (65536 : Int32)) + (1 : Int32))) ((((x2 &&& (2147483647 : Int32)) % (32768 : Int32)) + (1 : Int32))))), .val (.int ((F4 ((((x1 &&& (2147483647 : Int32)) % (65536 : Int32)) + (1 : Int32))) ((((x2 &&& (2147483647 : Int32)) % (32768 : Int32)) + (1 : Int32)))) - (1 : Int32)))] [(.int (1 : Int32))])) _
                refine XS.goto X24.here hx rfl (pc0 := 122) (pc' := 126) rfl (hb hby at_122) (by decide) (by decide) ?_
                exact k25
              · refine XS.icmpYes X24.here hx rfl (pc0 := 118) (pc' := 125) rfl (hb hby at_118) rfl (feq hc25).2 (by decide) (by decide) ?_
                show Steps p.tables e below (T24.setTop (mkF m 125 #[.val (.int x1), .val (.int x2), .val (.int x3), .val (.int (((x1 &&& (2147483647 : Int32)) % (65536 : Int32)) + (1 : Int32))), .val (.int (((x2 &&& (2147483647 : Int32)) % (32768 : Int32)) + (1 : Int32))), .val (.ref b13), .val (.int (F4 ((((x1 &&& (2147483647 : Int32)) % (65536 : Int32)) + (1 : Int32))) ((((x2 &&& (2147483647 : Int32)) % (32768 : Int32)) + (1 : Int32))))), .val (.int ((F4 ((((x1 &&& (2147483647 : Int32)) % (65536 : Int32)) + (1 : Int32))) ((((x2 &&& (2147483647 : Int32)) % (32768 : Int32)) + (1 : Int32)))) - (1 : Int32)))] [])) _
                refine XS.iconst X24.here hx rfl (hb hby at_125) ?_
                exact k25
              -- meets at 126
              show Steps p.tables e below (T24.setTop (mkF m 126 #[.val (.int x1), .val (.int x2), .val (.int x3), .val (.int (((x1 &&& (2147483647 : Int32)) % (65536 : Int32)) + (1 : Int32))), .val (.int (((x2 &&& (2147483647 : Int32)) % (32768 : Int32)) + (1 : Int32))), .val (.ref b13), .val (.int (F4 ((((x1 &&& (2147483647 : Int32)) % (65536 : Int32)) + (1 : Int32))) ((((x2 &&& (2147483647 : Int32)) % (32768 : Int32)) + (1 : Int32))))), .val (.int ((F4 ((((x1 &&& (2147483647 : Int32)) % (65536 : Int32)) + (1 : Int32))) ((((x2 &&& (2147483647 : Int32)) % (32768 : Int32)) + (1 : Int32)))) - (1 : Int32)))] [(.int (if (F6 ((F4 ((((x1 &&& (2147483647 : Int32)) % (65536 : Int32)) + (1 : Int32))) ((((x2 &&& (2147483647 : Int32)) % (32768 : Int32)) + (1 : Int32)))) - (1 : Int32))) = ((((x2 &&& (2147483647 : Int32)) % (32768 : Int32)) + (1 : Int32)) - (1 : Int32)) then (1 : Int32) else (0 : Int32)))])) _
              exact retN X24 hx (t := .boolean) Bd.returns (by simp) (hb hby at_126) (by rw [own_nb (own_b01 (Or.inr rfl) (Or.inl rfl))]; exact hr)
            · show Q0 Z x1 x2 x3 h0 n0 _ T24.heap _
              rw [e24]
              exact ⟨(congrArg (fun z => some (Value.int z)) (Eq.symm (Eq.trans (if_neg hb1) (Eq.trans (if_pos hb11) (Eq.trans (if_neg hb12) (Eq.trans (if_neg hb21) (if_pos hb23))))))), N24⟩
          · obtain ⟨fs, hr, hrun, hended, hW, hsame⟩ := X22.leave (v := some (.int (0 : Int32))) (fun h => by rw [Bd.returns] at h; cases h)
            refine ⟨_, _, pre0 _ ?_, hrun, hended, _, _, rfl, ?_, ⟨_, rfl⟩, hW, hsame.mono (by decide) (by decide)⟩
            · show Steps p.tables e below (s₁.setTop (mkF m 0 #[.val (.int x1), .val (.int x2), .val (.int x3), .unset, .unset, .unset, .unset, .unset] [])) _
              refine XS.iloadN X0.here hx rfl (hb hby at_0) rfl ?_
              show Steps p.tables e below (s₁.setTop (mkF m 1 #[.val (.int x1), .val (.int x2), .val (.int x3), .unset, .unset, .unset, .unset, .unset] [(.int x3)])) _
              refine XS.iconst X0.here hx rfl (hb hby at_1) ?_
              show Steps p.tables e below (s₁.setTop (mkF m 2 #[.val (.int x1), .val (.int x2), .val (.int x3), .unset, .unset, .unset, .unset, .unset] [(.int (3 : Int32)), (.int x3)])) _
              refine XS.iand X0.here hx rfl (hb hby at_2) rfl ?_
              show Steps p.tables e below (s₁.setTop (mkF m 3 #[.val (.int x1), .val (.int x2), .val (.int x3), .unset, .unset, .unset, .unset, .unset] [(.int (x3 &&& (3 : Int32)))])) _
              refine XS.ifYes X0.here hx rfl (pc0 := 3) (pc' := 29) rfl (hb hby at_3) rfl ((if0 _ _).trans (feq hb1).2) (by decide) (by decide) ?_
              show Steps p.tables e below (s₁.setTop (mkF m 29 #[.val (.int x1), .val (.int x2), .val (.int x3), .unset, .unset, .unset, .unset, .unset] [])) _
              refine XS.iloadN X0.here hx rfl (hb hby at_29) rfl ?_
              show Steps p.tables e below (s₁.setTop (mkF m 30 #[.val (.int x1), .val (.int x2), .val (.int x3), .unset, .unset, .unset, .unset, .unset] [(.int x1)])) _
              refine X0.ldcInt hx hown (mvT hZ (hw _ (List.mem_of_getElem? (i := 0) rfl))) (g := (mkF m 30 #[.val (.int x1), .val (.int x2), .val (.int x3), .unset, .unset, .unset, .unset, .unset] [(.int x1)])) rfl (hb hby at_30) _ ?_
              show Steps p.tables e below (s₁.setTop (mkF m 32 #[.val (.int x1), .val (.int x2), .val (.int x3), .unset, .unset, .unset, .unset, .unset] [(.int (2147483647 : Int32)), (.int x1)])) _
              refine XS.iand X0.here hx rfl (hb hby at_32) rfl ?_
              show Steps p.tables e below (s₁.setTop (mkF m 33 #[.val (.int x1), .val (.int x2), .val (.int x3), .unset, .unset, .unset, .unset, .unset] [(.int (x1 &&& (2147483647 : Int32)))])) _
              refine X0.ldcInt hx hown (mvT hZ (hw _ (List.mem_of_getElem? (i := 1) rfl))) (g := (mkF m 33 #[.val (.int x1), .val (.int x2), .val (.int x3), .unset, .unset, .unset, .unset, .unset] [(.int (x1 &&& (2147483647 : Int32)))])) rfl (hb hby at_33) _ ?_
              show Steps p.tables e below (s₁.setTop (mkF m 35 #[.val (.int x1), .val (.int x2), .val (.int x3), .unset, .unset, .unset, .unset, .unset] [(.int (65536 : Int32)), (.int (x1 &&& (2147483647 : Int32)))])) _
              refine iremM X0 hx rfl (hb hby at_35) rfl (by decide) ?_
              show Steps p.tables e below (s₁.setTop (mkF m 36 #[.val (.int x1), .val (.int x2), .val (.int x3), .unset, .unset, .unset, .unset, .unset] [(.int ((x1 &&& (2147483647 : Int32)) % (65536 : Int32)))])) _
              refine XS.iconst X0.here hx rfl (hb hby at_36) ?_
              show Steps p.tables e below (s₁.setTop (mkF m 37 #[.val (.int x1), .val (.int x2), .val (.int x3), .unset, .unset, .unset, .unset, .unset] [(.int (1 : Int32)), (.int ((x1 &&& (2147483647 : Int32)) % (65536 : Int32)))])) _
              refine XS.iadd X0.here hx rfl (hb hby at_37) rfl ?_
              show Steps p.tables e below (s₁.setTop (mkF m 38 #[.val (.int x1), .val (.int x2), .val (.int x3), .unset, .unset, .unset, .unset, .unset] [(.int (((x1 &&& (2147483647 : Int32)) % (65536 : Int32)) + (1 : Int32)))])) _
              refine XS.istoreN X0.here hx rfl (hb hby at_38) rfl (l' := #[.val (.int x1), .val (.int x2), .val (.int x3), .val (.int (((x1 &&& (2147483647 : Int32)) % (65536 : Int32)) + (1 : Int32))), .unset, .unset, .unset, .unset]) rfl ?_
              show Steps p.tables e below (s₁.setTop (mkF m 39 #[.val (.int x1), .val (.int x2), .val (.int x3), .val (.int (((x1 &&& (2147483647 : Int32)) % (65536 : Int32)) + (1 : Int32))), .unset, .unset, .unset, .unset] [])) _
              refine XS.iloadN X0.here hx rfl (hb hby at_39) rfl ?_
              show Steps p.tables e below (s₁.setTop (mkF m 40 #[.val (.int x1), .val (.int x2), .val (.int x3), .val (.int (((x1 &&& (2147483647 : Int32)) % (65536 : Int32)) + (1 : Int32))), .unset, .unset, .unset, .unset] [(.int x2)])) _
              refine X0.ldcInt hx hown (mvT hZ (hw _ (List.mem_of_getElem? (i := 0) rfl))) (g := (mkF m 40 #[.val (.int x1), .val (.int x2), .val (.int x3), .val (.int (((x1 &&& (2147483647 : Int32)) % (65536 : Int32)) + (1 : Int32))), .unset, .unset, .unset, .unset] [(.int x2)])) rfl (hb hby at_40) _ ?_
              show Steps p.tables e below (s₁.setTop (mkF m 42 #[.val (.int x1), .val (.int x2), .val (.int x3), .val (.int (((x1 &&& (2147483647 : Int32)) % (65536 : Int32)) + (1 : Int32))), .unset, .unset, .unset, .unset] [(.int (2147483647 : Int32)), (.int x2)])) _
              refine XS.iand X0.here hx rfl (hb hby at_42) rfl ?_
              show Steps p.tables e below (s₁.setTop (mkF m 43 #[.val (.int x1), .val (.int x2), .val (.int x3), .val (.int (((x1 &&& (2147483647 : Int32)) % (65536 : Int32)) + (1 : Int32))), .unset, .unset, .unset, .unset] [(.int (x2 &&& (2147483647 : Int32)))])) _
              refine X0.ldcInt hx hown (mvT hZ (hw _ (List.mem_of_getElem? (i := 2) rfl))) (g := (mkF m 43 #[.val (.int x1), .val (.int x2), .val (.int x3), .val (.int (((x1 &&& (2147483647 : Int32)) % (65536 : Int32)) + (1 : Int32))), .unset, .unset, .unset, .unset] [(.int (x2 &&& (2147483647 : Int32)))])) rfl (hb hby at_43) _ ?_
              show Steps p.tables e below (s₁.setTop (mkF m 45 #[.val (.int x1), .val (.int x2), .val (.int x3), .val (.int (((x1 &&& (2147483647 : Int32)) % (65536 : Int32)) + (1 : Int32))), .unset, .unset, .unset, .unset] [(.int (32768 : Int32)), (.int (x2 &&& (2147483647 : Int32)))])) _
              refine iremM X0 hx rfl (hb hby at_45) rfl (by decide) ?_
              show Steps p.tables e below (s₁.setTop (mkF m 46 #[.val (.int x1), .val (.int x2), .val (.int x3), .val (.int (((x1 &&& (2147483647 : Int32)) % (65536 : Int32)) + (1 : Int32))), .unset, .unset, .unset, .unset] [(.int ((x2 &&& (2147483647 : Int32)) % (32768 : Int32)))])) _
              refine XS.iconst X0.here hx rfl (hb hby at_46) ?_
              show Steps p.tables e below (s₁.setTop (mkF m 47 #[.val (.int x1), .val (.int x2), .val (.int x3), .val (.int (((x1 &&& (2147483647 : Int32)) % (65536 : Int32)) + (1 : Int32))), .unset, .unset, .unset, .unset] [(.int (1 : Int32)), (.int ((x2 &&& (2147483647 : Int32)) % (32768 : Int32)))])) _
              refine XS.iadd X0.here hx rfl (hb hby at_47) rfl ?_
              show Steps p.tables e below (s₁.setTop (mkF m 48 #[.val (.int x1), .val (.int x2), .val (.int x3), .val (.int (((x1 &&& (2147483647 : Int32)) % (65536 : Int32)) + (1 : Int32))), .unset, .unset, .unset, .unset] [(.int (((x2 &&& (2147483647 : Int32)) % (32768 : Int32)) + (1 : Int32)))])) _
              refine XS.istore X0.here hx rfl (hb hby at_48) rfl (l' := #[.val (.int x1), .val (.int x2), .val (.int x3), .val (.int (((x1 &&& (2147483647 : Int32)) % (65536 : Int32)) + (1 : Int32))), .val (.int (((x2 &&& (2147483647 : Int32)) % (32768 : Int32)) + (1 : Int32))), .unset, .unset, .unset]) rfl ?_
              show Steps p.tables e below (s₁.setTop (mkF m 50 #[.val (.int x1), .val (.int x2), .val (.int x3), .val (.int (((x1 &&& (2147483647 : Int32)) % (65536 : Int32)) + (1 : Int32))), .val (.int (((x2 &&& (2147483647 : Int32)) % (32768 : Int32)) + (1 : Int32))), .unset, .unset, .unset] [])) _
              refine XS.iloadN X0.here hx rfl (hb hby at_50) rfl ?_
              show Steps p.tables e below (s₁.setTop (mkF m 51 #[.val (.int x1), .val (.int x2), .val (.int x3), .val (.int (((x1 &&& (2147483647 : Int32)) % (65536 : Int32)) + (1 : Int32))), .val (.int (((x2 &&& (2147483647 : Int32)) % (32768 : Int32)) + (1 : Int32))), .unset, .unset, .unset] [(.int (((x1 &&& (2147483647 : Int32)) % (65536 : Int32)) + (1 : Int32)))])) _
              refine X0.ldcInt hx hown (mvT hZ (hw _ (List.mem_of_getElem? (i := 1) rfl))) (g := (mkF m 51 #[.val (.int x1), .val (.int x2), .val (.int x3), .val (.int (((x1 &&& (2147483647 : Int32)) % (65536 : Int32)) + (1 : Int32))), .val (.int (((x2 &&& (2147483647 : Int32)) % (32768 : Int32)) + (1 : Int32))), .unset, .unset, .unset] [(.int (((x1 &&& (2147483647 : Int32)) % (65536 : Int32)) + (1 : Int32)))])) rfl (hb hby at_51) _ ?_
              show Steps p.tables e below (s₁.setTop (mkF m 53 #[.val (.int x1), .val (.int x2), .val (.int x3), .val (.int (((x1 &&& (2147483647 : Int32)) % (65536 : Int32)) + (1 : Int32))), .val (.int (((x2 &&& (2147483647 : Int32)) % (32768 : Int32)) + (1 : Int32))), .unset, .unset, .unset] [(.int (65536 : Int32)), (.int (((x1 &&& (2147483647 : Int32)) % (65536 : Int32)) + (1 : Int32)))])) _
              refine XS.icmpNo X0.here hx rfl (hb hby at_53) rfl (teq hb11).2 ?_
              show Steps p.tables e below (s₁.setTop (mkF m 56 #[.val (.int x1), .val (.int x2), .val (.int x3), .val (.int (((x1 &&& (2147483647 : Int32)) % (65536 : Int32)) + (1 : Int32))), .val (.int (((x2 &&& (2147483647 : Int32)) % (32768 : Int32)) + (1 : Int32))), .unset, .unset, .unset] [])) _
              refine XS.iload X0.here hx rfl (hb hby at_56) rfl ?_
              show Steps p.tables e below (s₁.setTop (mkF m 58 #[.val (.int x1), .val (.int x2), .val (.int x3), .val (.int (((x1 &&& (2147483647 : Int32)) % (65536 : Int32)) + (1 : Int32))), .val (.int (((x2 &&& (2147483647 : Int32)) % (32768 : Int32)) + (1 : Int32))), .unset, .unset, .unset] [(.int (((x2 &&& (2147483647 : Int32)) % (32768 : Int32)) + (1 : Int32)))])) _
              refine X0.ldcInt hx hown (mvT hZ (hw _ (List.mem_of_getElem? (i := 2) rfl))) (g := (mkF m 58 #[.val (.int x1), .val (.int x2), .val (.int x3), .val (.int (((x1 &&& (2147483647 : Int32)) % (65536 : Int32)) + (1 : Int32))), .val (.int (((x2 &&& (2147483647 : Int32)) % (32768 : Int32)) + (1 : Int32))), .unset, .unset, .unset] [(.int (((x2 &&& (2147483647 : Int32)) % (32768 : Int32)) + (1 : Int32)))])) rfl (hb hby at_58) _ ?_
              show Steps p.tables e below (s₁.setTop (mkF m 60 #[.val (.int x1), .val (.int x2), .val (.int x3), .val (.int (((x1 &&& (2147483647 : Int32)) % (65536 : Int32)) + (1 : Int32))), .val (.int (((x2 &&& (2147483647 : Int32)) % (32768 : Int32)) + (1 : Int32))), .unset, .unset, .unset] [(.int (32768 : Int32)), (.int (((x2 &&& (2147483647 : Int32)) % (32768 : Int32)) + (1 : Int32)))])) _
              refine XS.icmpYes X0.here hx rfl (pc0 := 60) (pc' := 65) rfl (hb hby at_60) rfl (feq hb12).2 (by decide) (by decide) ?_
              show Steps p.tables e below (s₁.setTop (mkF m 65 #[.val (.int x1), .val (.int x2), .val (.int x3), .val (.int (((x1 &&& (2147483647 : Int32)) % (65536 : Int32)) + (1 : Int32))), .val (.int (((x2 &&& (2147483647 : Int32)) % (32768 : Int32)) + (1 : Int32))), .unset, .unset, .unset] [])) _
              refine st13 _ ?_
              show Steps p.tables e below (T13.setTop (mkF m 68 #[.val (.int x1), .val (.int x2), .val (.int x3), .val (.int (((x1 &&& (2147483647 : Int32)) % (65536 : Int32)) + (1 : Int32))), .val (.int (((x2 &&& (2147483647 : Int32)) % (32768 : Int32)) + (1 : Int32))), .unset, .unset, .unset] [(.ref b13)])) _
              refine XS.dup X13.here hx rfl (hb hby at_68) rfl rfl ?_
              show Steps p.tables e below (T13.setTop (mkF m 69 #[.val (.int x1), .val (.int x2), .val (.int x3), .val (.int (((x1 &&& (2147483647 : Int32)) % (65536 : Int32)) + (1 : Int32))), .val (.int (((x2 &&& (2147483647 : Int32)) % (32768 : Int32)) + (1 : Int32))), .unset, .unset, .unset] [(.ref b13), (.ref b13)])) _
              refine XS.iloadN X13.here hx rfl (hb hby at_69) rfl ?_
              show Steps p.tables e below (T13.setTop (mkF m 70 #[.val (.int x1), .val (.int x2), .val (.int x3), .val (.int (((x1 &&& (2147483647 : Int32)) % (65536 : Int32)) + (1 : Int32))), .val (.int (((x2 &&& (2147483647 : Int32)) % (32768 : Int32)) + (1 : Int32))), .unset, .unset, .unset] [(.int (((x1 &&& (2147483647 : Int32)) % (65536 : Int32)) + (1 : Int32))), (.ref b13), (.ref b13)])) _
              refine XS.iload X13.here hx rfl (hb hby at_70) rfl ?_
              show Steps p.tables e below (T13.setTop (mkF m 72 #[.val (.int x1), .val (.int x2), .val (.int x3), .val (.int (((x1 &&& (2147483647 : Int32)) % (65536 : Int32)) + (1 : Int32))), .val (.int (((x2 &&& (2147483647 : Int32)) % (32768 : Int32)) + (1 : Int32))), .unset, .unset, .unset] [(.int (((x2 &&& (2147483647 : Int32)) % (32768 : Int32)) + (1 : Int32))), (.int (((x1 &&& (2147483647 : Int32)) % (65536 : Int32)) + (1 : Int32))), (.ref b13), (.ref b13)])) _
              refine st15.trans ?_
              show Steps p.tables e below (T15.setTop (mkF m 75 #[.val (.int x1), .val (.int x2), .val (.int x3), .val (.int (((x1 &&& (2147483647 : Int32)) % (65536 : Int32)) + (1 : Int32))), .val (.int (((x2 &&& (2147483647 : Int32)) % (32768 : Int32)) + (1 : Int32))), .unset, .unset, .unset] [(.ref b13)])) _
              refine XS.astore X15.here hx rfl (hb hby at_75) rfl rfl (l' := #[.val (.int x1), .val (.int x2), .val (.int x3), .val (.int (((x1 &&& (2147483647 : Int32)) % (65536 : Int32)) + (1 : Int32))), .val (.int (((x2 &&& (2147483647 : Int32)) % (32768 : Int32)) + (1 : Int32))), .val (.ref b13), .unset, .unset]) rfl ?_
              show Steps p.tables e below (T15.setTop (mkF m 77 #[.val (.int x1), .val (.int x2), .val (.int x3), .val (.int (((x1 &&& (2147483647 : Int32)) % (65536 : Int32)) + (1 : Int32))), .val (.int (((x2 &&& (2147483647 : Int32)) % (32768 : Int32)) + (1 : Int32))), .val (.ref b13), .unset, .unset] [])) _
              refine XS.aload X15.here hx rfl (hb hby at_77) rfl rfl ?_
              show Steps p.tables e below (T15.setTop (mkF m 79 #[.val (.int x1), .val (.int x2), .val (.int x3), .val (.int (((x1 &&& (2147483647 : Int32)) % (65536 : Int32)) + (1 : Int32))), .val (.int (((x2 &&& (2147483647 : Int32)) % (32768 : Int32)) + (1 : Int32))), .val (.ref b13), .unset, .unset] [(.ref b13)])) _
              refine st20.trans ?_
              show Steps p.tables e below (T20.setTop (mkF m 82 #[.val (.int x1), .val (.int x2), .val (.int x3), .val (.int (((x1 &&& (2147483647 : Int32)) % (65536 : Int32)) + (1 : Int32))), .val (.int (((x2 &&& (2147483647 : Int32)) % (32768 : Int32)) + (1 : Int32))), .val (.ref b13), .unset, .unset] [(.int (F4 ((((x1 &&& (2147483647 : Int32)) % (65536 : Int32)) + (1 : Int32))) ((((x2 &&& (2147483647 : Int32)) % (32768 : Int32)) + (1 : Int32)))))])) _
              refine XS.istore X20.here hx rfl (hb hby at_82) rfl (l' := #[.val (.int x1), .val (.int x2), .val (.int x3), .val (.int (((x1 &&& (2147483647 : Int32)) % (65536 : Int32)) + (1 : Int32))), .val (.int (((x2 &&& (2147483647 : Int32)) % (32768 : Int32)) + (1 : Int32))), .val (.ref b13), .val (.int (F4 ((((x1 &&& (2147483647 : Int32)) % (65536 : Int32)) + (1 : Int32))) ((((x2 &&& (2147483647 : Int32)) % (32768 : Int32)) + (1 : Int32))))), .unset]) rfl ?_
              show Steps p.tables e below (T20.setTop (mkF m 84 #[.val (.int x1), .val (.int x2), .val (.int x3), .val (.int (((x1 &&& (2147483647 : Int32)) % (65536 : Int32)) + (1 : Int32))), .val (.int (((x2 &&& (2147483647 : Int32)) % (32768 : Int32)) + (1 : Int32))), .val (.ref b13), .val (.int (F4 ((((x1 &&& (2147483647 : Int32)) % (65536 : Int32)) + (1 : Int32))) ((((x2 &&& (2147483647 : Int32)) % (32768 : Int32)) + (1 : Int32))))), .unset] [])) _
              refine XS.iload X20.here hx rfl (hb hby at_84) rfl ?_
              show Steps p.tables e below (T20.setTop (mkF m 86 #[.val (.int x1), .val (.int x2), .val (.int x3), .val (.int (((x1 &&& (2147483647 : Int32)) % (65536 : Int32)) + (1 : Int32))), .val (.int (((x2 &&& (2147483647 : Int32)) % (32768 : Int32)) + (1 : Int32))), .val (.ref b13), .val (.int (F4 ((((x1 &&& (2147483647 : Int32)) % (65536 : Int32)) + (1 : Int32))) ((((x2 &&& (2147483647 : Int32)) % (32768 : Int32)) + (1 : Int32))))), .unset] [(.int (F4 ((((x1 &&& (2147483647 : Int32)) % (65536 : Int32)) + (1 : Int32))) ((((x2 &&& (2147483647 : Int32)) % (32768 : Int32)) + (1 : Int32)))))])) _
              refine XS.iconst X20.here hx rfl (hb hby at_86) ?_
              show Steps p.tables e below (T20.setTop (mkF m 87 #[.val (.int x1), .val (.int x2), .val (.int x3), .val (.int (((x1 &&& (2147483647 : Int32)) % (65536 : Int32)) + (1 : Int32))), .val (.int (((x2 &&& (2147483647 : Int32)) % (32768 : Int32)) + (1 : Int32))), .val (.ref b13), .val (.int (F4 ((((x1 &&& (2147483647 : Int32)) % (65536 : Int32)) + (1 : Int32))) ((((x2 &&& (2147483647 : Int32)) % (32768 : Int32)) + (1 : Int32))))), .unset] [(.int (1 : Int32)), (.int (F4 ((((x1 &&& (2147483647 : Int32)) % (65536 : Int32)) + (1 : Int32))) ((((x2 &&& (2147483647 : Int32)) % (32768 : Int32)) + (1 : Int32)))))])) _
              refine XS.icmpYes X20.here hx rfl (pc0 := 87) (pc' := 92) rfl (hb hby at_87) rfl (flt hb21).2.1 (by decide) (by decide) ?_
              show Steps p.tables e below (T20.setTop (mkF m 92 #[.val (.int x1), .val (.int x2), .val (.int x3), .val (.int (((x1 &&& (2147483647 : Int32)) % (65536 : Int32)) + (1 : Int32))), .val (.int (((x2 &&& (2147483647 : Int32)) % (32768 : Int32)) + (1 : Int32))), .val (.ref b13), .val (.int (F4 ((((x1 &&& (2147483647 : Int32)) % (65536 : Int32)) + (1 : Int32))) ((((x2 &&& (2147483647 : Int32)) % (32768 : Int32)) + (1 : Int32))))), .unset] [])) _
              refine XS.iload X20.here hx rfl (hb hby at_92) rfl ?_
              show Steps p.tables e below (T20.setTop (mkF m 94 #[.val (.int x1), .val (.int x2), .val (.int x3), .val (.int (((x1 &&& (2147483647 : Int32)) % (65536 : Int32)) + (1 : Int32))), .val (.int (((x2 &&& (2147483647 : Int32)) % (32768 : Int32)) + (1 : Int32))), .val (.ref b13), .val (.int (F4 ((((x1 &&& (2147483647 : Int32)) % (65536 : Int32)) + (1 : Int32))) ((((x2 &&& (2147483647 : Int32)) % (32768 : Int32)) + (1 : Int32))))), .unset] [(.int (F4 ((((x1 &&& (2147483647 : Int32)) % (65536 : Int32)) + (1 : Int32))) ((((x2 &&& (2147483647 : Int32)) % (32768 : Int32)) + (1 : Int32)))))])) _
              refine XS.iconst X20.here hx rfl (hb hby at_94) ?_
              show Steps p.tables e below (T20.setTop (mkF m 95 #[.val (.int x1), .val (.int x2), .val (.int x3), .val (.int (((x1 &&& (2147483647 : Int32)) % (65536 : Int32)) + (1 : Int32))), .val (.int (((x2 &&& (2147483647 : Int32)) % (32768 : Int32)) + (1 : Int32))), .val (.ref b13), .val (.int (F4 ((((x1 &&& (2147483647 : Int32)) % (65536 : Int32)) + (1 : Int32))) ((((x2 &&& (2147483647 : Int32)) % (32768 : Int32)) + (1 : Int32))))), .unset] [(.int (1 : Int32)), (.int (F4 ((((x1 &&& (2147483647 : Int32)) % (65536 : Int32)) + (1 : Int32))) ((((x2 &&& (2147483647 : Int32)) % (32768 : Int32)) + (1 : Int32)))))])) _
              refine XS.isub X20.here hx rfl (hb hby at_95) rfl ?_
              show Steps p.tables e below (T20.setTop (mkF m 96 #[.val (.int x1), .val (.int x2), .val (.int x3), .val (.int (((x1 &&& (2147483647 : Int32)) % (65536 : Int32)) + (1 : Int32))), .val (.int (((x2 &&& (2147483647 : Int32)) % (32768 : Int32)) + (1 : Int32))), .val (.ref b13), .val (.int (F4 ((((x1 &&& (2147483647 : Int32)) % (65536 : Int32)) + (1 : Int32))) ((((x2 &&& (2147483647 : Int32)) % (32768 : Int32)) + (1 : Int32))))), .unset] [(.int ((F4 ((((x1 &&& (2147483647 : Int32)) % (65536 : Int32)) + (1 : Int32))) ((((x2 &&& (2147483647 : Int32)) % (32768 : Int32)) + (1 : Int32)))) - (1 : Int32)))])) _
              refine XS.istore X20.here hx rfl (hb hby at_96) rfl (l' := #[.val (.int x1), .val (.int x2), .val (.int x3), .val (.int (((x1 &&& (2147483647 : Int32)) % (65536 : Int32)) + (1 : Int32))), .val (.int (((x2 &&& (2147483647 : Int32)) % (32768 : Int32)) + (1 : Int32))), .val (.ref b13), .val (.int (F4 ((((x1 &&& (2147483647 : Int32)) % (65536 : Int32)) + (1 : Int32))) ((((x2 &&& (2147483647 : Int32)) % (32768 : Int32)) + (1 : Int32))))), .val (.int ((F4 ((((x1 &&& (2147483647 : Int32)) % (65536 : Int32)) + (1 : Int32))) ((((x2 &&& (2147483647 : Int32)) % (32768 : Int32)) + (1 : Int32)))) - (1 : Int32)))]) rfl ?_
              show Steps p.tables e below (T20.setTop (mkF m 98 #[.val (.int x1), .val (.int x2), .val (.int x3), .val (.int (((x1 &&& (2147483647 : Int32)) % (65536 : Int32)) + (1 : Int32))), .val (.int (((x2 &&& (2147483647 : Int32)) % (32768 : Int32)) + (1 : Int32))), .val (.ref b13), .val (.int (F4 ((((x1 &&& (2147483647 : Int32)) % (65536 : Int32)) + (1 : Int32))) ((((x2 &&& (2147483647 : Int32)) % (32768 : Int32)) + (1 : Int32))))), .val (.int ((F4 ((((x1 &&& (2147483647 : Int32)) % (65536 : Int32)) + (1 : Int32))) ((((x2 &&& (2147483647 : Int32)) % (32768 : Int32)) + (1 : Int32)))) - (1 : Int32)))] [])) _
              refine XS.iload X20.here hx rfl (hb hby at_98) rfl ?_
              show Steps p.tables e below (T20.setTop (mkF m 100 #[.val (.int x1), .val (.int x2), .val (.int x3), .val (.int (((x1 &&& (2147483647 : Int32)) % (65536 : Int32)) + (1 : Int32))), .val (.int (((x2 &&& (2147483647 : Int32)) % (32768 : Int32)) + (1 : Int32))), .val (.ref b13), .val (.int (F4 ((((x1 &&& (2147483647 : Int32)) % (65536 : Int32)) + (1 : Int32))) ((((x2 &&& (2147483647 : Int32)) % (32768 : Int32)) + (1 : Int32))))), .val (.int ((F4 ((((x1 &&& (2147483647 : Int32)) % (65536 : Int32)) + (1 : Int32))) ((((x2 &&& (2147483647 : Int32)) % (32768 : Int32)) + (1 : Int32)))) - (1 : Int32)))] [(.int ((F4 ((((x1 &&& (2147483647 : Int32)) % (65536 : Int32)) + (1 : Int32))) ((((x2 &&& (2147483647 : Int32)) % (32768 : Int32)) + (1 : Int32)))) - (1 : Int32)))])) _
              refine st22 _ ?_
              show Steps p.tables e below (T22.setTop (mkF m 103 #[.val (.int x1), .val (.int x2), .val (.int x3), .val (.int (((x1 &&& (2147483647 : Int32)) % (65536 : Int32)) + (1 : Int32))), .val (.int (((x2 &&& (2147483647 : Int32)) % (32768 : Int32)) + (1 : Int32))), .val (.ref b13), .val (.int (F4 ((((x1 &&& (2147483647 : Int32)) % (65536 : Int32)) + (1 : Int32))) ((((x2 &&& (2147483647 : Int32)) % (32768 : Int32)) + (1 : Int32))))), .val (.int ((F4 ((((x1 &&& (2147483647 : Int32)) % (65536 : Int32)) + (1 : Int32))) ((((x2 &&& (2147483647 : Int32)) % (32768 : Int32)) + (1 : Int32)))) - (1 : Int32)))] [(.int (F5 ((F4 ((((x1 &&& (2147483647 : Int32)) % (65536 : Int32)) + (1 : Int32))) ((((x2 &&& (2147483647 : Int32)) % (32768 : Int32)) + (1 : Int32)))) - (1 : Int32))))])) _
              refine XS.iloadN X22.here hx rfl (hb hby at_103) rfl ?_
              show Steps p.tables e below (T22.setTop (mkF m 104 #[.val (.int x1), .val (.int x2), .val (.int x3), .val (.int (((x1 &&& (2147483647 : Int32)) % (65536 : Int32)) + (1 : Int32))), .val (.int (((x2 &&& (2147483647 : Int32)) % (32768 : Int32)) + (1 : Int32))), .val (.ref b13), .val (.int (F4 ((((x1 &&& (2147483647 : Int32)) % (65536 : Int32)) + (1 : Int32))) ((((x2 &&& (2147483647 : Int32)) % (32768 : Int32)) + (1 : Int32))))), .val (.int ((F4 ((((x1 &&& (2147483647 : Int32)) % (65536 : Int32)) + (1 : Int32))) ((((x2 &&& (2147483647 : Int32)) % (32768 : Int32)) + (1 : Int32)))) - (1 : Int32)))] [(.int (((x1 &&& (2147483647 : Int32)) % (65536 : Int32)) + (1 : Int32))), (.int (F5 ((F4 ((((x1 &&& (2147483647 : Int32)) % (65536 : Int32)) + (1 : Int32))) ((((x2 &&& (2147483647 : Int32)) % (32768 : Int32)) + (1 : Int32)))) - (1 : Int32))))])) _
              refine XS.iconst X22.here hx rfl (hb hby at_104) ?_
              show Steps p.tables e below (T22.setTop (mkF m 105 #[.val (.int x1), .val (.int x2), .val (.int x3), .val (.int (((x1 &&& (2147483647 : Int32)) % (65536 : Int32)) + (1 : Int32))), .val (.int (((x2 &&& (2147483647 : Int32)) % (32768 : Int32)) + (1 : Int32))), .val (.ref b13), .val (.int (F4 ((((x1 &&& (2147483647 : Int32)) % (65536 : Int32)) + (1 : Int32))) ((((x2 &&& (2147483647 : Int32)) % (32768 : Int32)) + (1 : Int32))))), .val (.int ((F4 ((((x1 &&& (2147483647 : Int32)) % (65536 : Int32)) + (1 : Int32))) ((((x2 &&& (2147483647 : Int32)) % (32768 : Int32)) + (1 : Int32)))) - (1 : Int32)))] [(.int (1 : Int32)), (.int (((x1 &&& (2147483647 : Int32)) % (65536 : Int32)) + (1 : Int32))), (.int (F5 ((F4 ((((x1 &&& (2147483647 : Int32)) % (65536 : Int32)) + (1 : Int32))) ((((x2 &&& (2147483647 : Int32)) % (32768 : Int32)) + (1 : Int32)))) - (1 : Int32))))])) _
              refine XS.isub X22.here hx rfl (hb hby at_105) rfl ?_
              show Steps p.tables e below (T22.setTop (mkF m 106 #[.val (.int x1), .val (.int x2), .val (.int x3), .val (.int (((x1 &&& (2147483647 : Int32)) % (65536 : Int32)) + (1 : Int32))), .val (.int (((x2 &&& (2147483647 : Int32)) % (32768 : Int32)) + (1 : Int32))), .val (.ref b13), .val (.int (F4 ((((x1 &&& (2147483647 : Int32)) % (65536 : Int32)) + (1 : Int32))) ((((x2 &&& (2147483647 : Int32)) % (32768 : Int32)) + (1 : Int32))))), .val (.int ((F4 ((((x1 &&& (2147483647 : Int32)) % (65536 : Int32)) + (1 : Int32))) ((((x2 &&& (2147483647 : Int32)) % (32768 : Int32)) + (1 : Int32)))) - (1 : Int32)))] [(.int ((((x1 &&& (2147483647 : Int32)) % (65536 : Int32)) + (1 : Int32)) - (1 : Int32))), (.int (F5 ((F4 ((((x1 &&& (2147483647 : Int32)) % (65536 : Int32)) + (1 : Int32))) ((((x2 &&& (2147483647 : Int32)) % (32768 : Int32)) + (1 : Int32)))) - (1 : Int32))))])) _
              refine XS.icmpYes X22.here hx rfl (pc0 := 106) (pc' := 125) rfl (hb hby at_106) rfl (feq hb23).2 (by decide) (by decide) ?_
              show Steps p.tables e below (T22.setTop (mkF m 125 #[.val (.int x1), .val (.int x2), .val (.int x3), .val (.int (((x1 &&& (2147483647 : Int32)) % (65536 : Int32)) + (1 : Int32))), .val (.int (((x2 &&& (2147483647 : Int32)) % (32768 : Int32)) + (1 : Int32))), .val (.ref b13), .val (.int (F4 ((((x1 &&& (2147483647 : Int32)) % (65536 : Int32)) + (1 : Int32))) ((((x2 &&& (2147483647 : Int32)) % (32768 : Int32)) + (1 : Int32))))), .val (.int ((F4 ((((x1 &&& (2147483647 : Int32)) % (65536 : Int32)) + (1 : Int32))) ((((x2 &&& (2147483647 : Int32)) % (32768 : Int32)) + (1 : Int32)))) - (1 : Int32)))] [])) _
              refine XS.iconst X22.here hx rfl (hb hby at_125) ?_
              show Steps p.tables e below (T22.setTop (mkF m 126 #[.val (.int x1), .val (.int x2), .val (.int x3), .val (.int (((x1 &&& (2147483647 : Int32)) % (65536 : Int32)) + (1 : Int32))), .val (.int (((x2 &&& (2147483647 : Int32)) % (32768 : Int32)) + (1 : Int32))), .val (.ref b13), .val (.int (F4 ((((x1 &&& (2147483647 : Int32)) % (65536 : Int32)) + (1 : Int32))) ((((x2 &&& (2147483647 : Int32)) % (32768 : Int32)) + (1 : Int32))))), .val (.int ((F4 ((((x1 &&& (2147483647 : Int32)) % (65536 : Int32)) + (1 : Int32))) ((((x2 &&& (2147483647 : Int32)) % (32768 : Int32)) + (1 : Int32)))) - (1 : Int32)))] [(.int (0 : Int32))])) _
              exact retN X22 hx (t := .boolean) Bd.returns (by simp) (hb hby at_126) hr
            · show Q0 Z x1 x2 x3 h0 n0 _ T22.heap _
              rw [e22]
              exact ⟨(congrArg (fun z => some (Value.int z)) (Eq.symm (Eq.trans (if_neg hb1) (Eq.trans (if_pos hb11) (Eq.trans (if_neg hb12) (Eq.trans (if_neg hb21) (if_neg hb23))))))), N22⟩
    · obtain ⟨T26, h26, X26, e26, E26, A26, D26, -, st26⟩ := newO X0 hx hZ hown (hw _ (List.mem_of_getElem? (i := 3) rfl)) (hw _ (List.mem_of_getElem? (i := 4) rfl)) (hw _ (List.mem_of_getElem? (i := 5) rfl)) e0 (g := (mkF m 65 #[.val (.int x1), .val (.int x2), .val (.int x3), .val (.int (((x1 &&& (2147483647 : Int32)) % (65536 : Int32)) + (1 : Int32))), .val (.int (((x2 &&& (2147483647 : Int32)) % (32768 : Int32)) + (1 : Int32))), .unset, .unset, .unset] [])) rfl (hb hby at_65) (by decide) (by decide)
      obtain ⟨b26, g26⟩ : ∃ z, z = h0.size := ⟨_, rfl⟩
      rw [← g26] at A26 D26 st26
      have g_b26 : n0 ≤ b26 := Nat.le_trans Z0 (Nat.le_of_eq g26.symm)
      have Z27 : n0 ≤ h26.size := Nat.le_trans Z0 E26.1
      have F26_count : Fld Z h26 b26 "com/example/threadkeep/threadkeep/store/Blocks$Shape" "count" "I" (.int (0 : Int32)) := D26 (Or.inr (hw _ (List.mem_of_getElem? (i := 18) rfl))) (ty := .int) (by decide)
      have F26_lastLength : Fld Z h26 b26 "com/example/threadkeep/threadkeep/store/Blocks$Shape" "lastLength" "I" (.int (0 : Int32)) := D26 (Or.inr (hw _ (List.mem_of_getElem? (i := 20) rfl))) (ty := .int) (by decide)
      obtain ⟨_, _, ⟨T28, L28, k28, n28⟩, -, X28, ⟨Lc28, hQ28, l28, y28, z28⟩, st28⟩ := X26.specialBack hx (y := (⟨"com/example/threadkeep/threadkeep/store/Blocks$Shape", "<init>", "(II)V"⟩ : MethodName)) rfl hown (mvT hZ (hw _ (List.mem_of_getElem? (i := 6) rfl))) (mvT hZ (hw _ (List.mem_of_getElem? (i := 7) rfl))) (mvT hZ (hw _ (List.mem_of_getElem? (i := 8) rfl))) (by decide) (backOf (W := 1) (rm1 l Z a0 hw [] b26 (((x1 &&& (2147483647 : Int32)) % (65536 : Int32)) + (1 : Int32)) (((x2 &&& (2147483647 : Int32)) % (32768 : Int32)) + (1 : Int32))  h26 n0 Z27 A26 g_b26 F26_count F26_lastLength) hZ (hw _ (List.mem_of_getElem? (i := 8) rfl)) (hw _ (List.mem_of_getElem? (i := 5) rfl)) (by decide) (by decide)) (g := (mkF m 72 #[.val (.int x1), .val (.int x2), .val (.int x3), .val (.int (((x1 &&& (2147483647 : Int32)) % (65536 : Int32)) + (1 : Int32))), .val (.int (((x2 &&& (2147483647 : Int32)) % (32768 : Int32)) + (1 : Int32))), .unset, .unset, .unset] [(.int (((x2 &&& (2147483647 : Int32)) % (32768 : Int32)) + (1 : Int32))), (.int (((x1 &&& (2147483647 : Int32)) % (65536 : Int32)) + (1 : Int32))), (.ref b26), (.ref b26)])) rfl (by rw [hml]; rfl) (Steps.refl _) (a := b26) (argsL := [(.int (((x1 &&& (2147483647 : Int32)) % (65536 : Int32)) + (1 : Int32))), (.int (((x2 &&& (2147483647 : Int32)) % (32768 : Int32)) + (1 : Int32)))]) (rest := [(.ref b26)]) (lenOf pd_1 rfl) rfl (by show 2 * 0 + _ ≤ _; exact Nat.le_of_eq rfl) (hb hby at_72) (fun _ _ => ⟨rfl, e26, (by decide : 1 + 0 ≤ _), (by decide : 2 + 0 ≤ _)⟩)
      dsimp only [Pt.U, Pt.locs, Pt.cells, Pt.slots] at X28 l28 y28 z28 st28 hQ28
      subst l28 y28 z28
      obtain ⟨rfl, N28q, Q28_0, Q28_1, Q28_2, Q28_3⟩ := hQ28
      have Z29 : n0 ≤ T28.heap.size := Nat.le_trans Z27 Q28_0.1
      have E30_b26 := A26.keep Q28_0
      have N28 := Fr.app N0 N28q
      obtain ⟨cq33, kq33, q33a, q33b, q33c⟩ := isOf hZ rfl Q28_1
      obtain ⟨_, _, ⟨T33, L33, k33, n33⟩, -, X33, ⟨Lc33, hQ33, l33, y33, z33⟩, st33⟩ := X28.virtualBack hx (y := (⟨"com/example/threadkeep/threadkeep/store/Blocks$Shape", "room", "()I"⟩ : MethodName)) (z := (⟨"com/example/threadkeep/threadkeep/store/Blocks$Shape", "room", "()I"⟩ : MethodName)) hown (mvT hZ (hw _ (List.mem_of_getElem? (i := 21) rfl))) (mvT hZ (hw _ (List.mem_of_getElem? (i := 22) rfl))) (notFace_of_selects (args := #[]) (mvT hZ (hw _ (List.mem_of_getElem? (i := 24) rfl)))) (mvT hZ (hw _ (List.mem_of_getElem? (i := 24) rfl))) (mvT hZ (hw _ (List.mem_of_getElem? (i := 23) rfl))) (by decide) (backOf (W := 0) (rm4 l Z a0 hw [] b26 ((((x1 &&& (2147483647 : Int32)) % (65536 : Int32)) + (1 : Int32))) ((((x2 &&& (2147483647 : Int32)) % (32768 : Int32)) + (1 : Int32))) T28.heap n0 Z29 Q28_2 Q28_3) hZ (hw _ (List.mem_of_getElem? (i := 25) rfl)) (hw _ (List.mem_of_getElem? (i := 5) rfl)) (by decide) (by decide)) q33a q33c (g := (mkF m 79 #[.val (.int x1), .val (.int x2), .val (.int x3), .val (.int (((x1 &&& (2147483647 : Int32)) % (65536 : Int32)) + (1 : Int32))), .val (.int (((x2 &&& (2147483647 : Int32)) % (32768 : Int32)) + (1 : Int32))), .val (.ref b26), .unset, .unset] [(.ref b26)])) rfl (by rw [hml]; rfl) (Steps.refl _) (argsL := []) (rest := []) (lenOf pd_2 rfl) rfl (by show 2 * 0 + _ ≤ _; exact Nat.le_of_eq rfl) (hb hby at_79) (fun _ _ => ⟨rfl, rfl, (by decide : 1 + 0 ≤ _), (by decide : 2 + 0 ≤ _)⟩)
      dsimp only [Pt.U, Pt.locs, Pt.cells, Pt.slots] at X33 l33 y33 z33 st33 hQ33
      subst l33 y33 z33
      obtain ⟨rfl, N33q, e33⟩ := hQ33
      have N33 := Fr.app N28 N33q
      by_cases hb34 : (F4 ((((x1 &&& (2147483647 : Int32)) % (65536 : Int32)) + (1 : Int32))) ((((x2 &&& (2147483647 : Int32)) % (32768 : Int32)) + (1 : Int32)))) < (1 : Int32)
      · obtain ⟨fs, hr, hrun, hended, hW, hsame⟩ := X33.leave (v := some (.int (0 : Int32))) (fun h => by rw [Bd.returns] at h; cases h)
        refine ⟨_, _, pre0 _ ?_, hrun, hended, _, _, rfl, ?_, ⟨_, rfl⟩, hW, hsame.mono (by decide) (by decide)⟩
        · show Steps p.tables e below (s₁.setTop (mkF m 0 #[.val (.int x1), .val (.int x2), .val (.int x3), .unset, .unset, .unset, .unset, .unset] [])) _
          refine XS.iloadN X0.here hx rfl (hb hby at_0) rfl ?_
          show Steps p.tables e below (s₁.setTop (mkF m 1 #[.val (.int x1), .val (.int x2), .val (.int x3), .unset, .unset, .unset, .unset, .unset] [(.int x3)])) _
          refine XS.iconst X0.here hx rfl (hb hby at_1) ?_
          show Steps p.tables e below (s₁.setTop (mkF m 2 #[.val (.int x1), .val (.int x2), .val (.int x3), .unset, .unset, .unset, .unset, .unset] [(.int (3 : Int32)), (.int x3)])) _
          refine XS.iand X0.here hx rfl (hb hby at_2) rfl ?_
          show Steps p.tables e below (s₁.setTop (mkF m 3 #[.val (.int x1), .val (.int x2), .val (.int x3), .unset, .unset, .unset, .unset, .unset] [(.int (x3 &&& (3 : Int32)))])) _
          refine XS.ifYes X0.here hx rfl (pc0 := 3) (pc' := 29) rfl (hb hby at_3) rfl ((if0 _ _).trans (feq hb1).2) (by decide) (by decide) ?_
          show Steps p.tables e below (s₁.setTop (mkF m 29 #[.val (.int x1), .val (.int x2), .val (.int x3), .unset, .unset, .unset, .unset, .unset] [])) _
          refine XS.iloadN X0.here hx rfl (hb hby at_29) rfl ?_
          show Steps p.tables e below (s₁.setTop (mkF m 30 #[.val (.int x1), .val (.int x2), .val (.int x3), .unset, .unset, .unset, .unset, .unset] [(.int x1)])) _
          refine X0.ldcInt hx hown (mvT hZ (hw _ (List.mem_of_getElem? (i := 0) rfl))) (g := (mkF m 30 #[.val (.int x1), .val (.int x2), .val (.int x3), .unset, .unset, .unset, .unset, .unset] [(.int x1)])) rfl (hb hby at_30) _ ?_
          show Steps p.tables e below (s₁.setTop (mkF m 32 #[.val (.int x1), .val (.int x2), .val (.int x3), .unset, .unset, .unset, .unset, .unset] [(.int (2147483647 : Int32)), (.int x1)])) _
          refine XS.iand X0.here hx rfl (hb hby at_32) rfl ?_
          show Steps p.tables e below (s₁.setTop (mkF m 33 #[.val (.int x1), .val (.int x2), .val (.int x3), .unset, .unset, .unset, .unset, .unset] [(.int (x1 &&& (2147483647 : Int32)))])) _
          refine X0.ldcInt hx hown (mvT hZ (hw _ (List.mem_of_getElem? (i := 1) rfl))) (g := (mkF m 33 #[.val (.int x1), .val (.int x2), .val (.int x3), .unset, .unset, .unset, .unset, .unset] [(.int (x1 &&& (2147483647 : Int32)))])) rfl (hb hby at_33) _ ?_
          show Steps p.tables e below (s₁.setTop (mkF m 35 #[.val (.int x1), .val (.int x2), .val (.int x3), .unset, .unset, .unset, .unset, .unset] [(.int (65536 : Int32)), (.int (x1 &&& (2147483647 : Int32)))])) _
          refine iremM X0 hx rfl (hb hby at_35) rfl (by decide) ?_
          show Steps p.tables e below (s₁.setTop (mkF m 36 #[.val (.int x1), .val (.int x2), .val (.int x3), .unset, .unset, .unset, .unset, .unset] [(.int ((x1 &&& (2147483647 : Int32)) % (65536 : Int32)))])) _
          refine XS.iconst X0.here hx rfl (hb hby at_36) ?_
          show Steps p.tables e below (s₁.setTop (mkF m 37 #[.val (.int x1), .val (.int x2), .val (.int x3), .unset, .unset, .unset, .unset, .unset] [(.int (1 : Int32)), (.int ((x1 &&& (2147483647 : Int32)) % (65536 : Int32)))])) _
          refine XS.iadd X0.here hx rfl (hb hby at_37) rfl ?_
          show Steps p.tables e below (s₁.setTop (mkF m 38 #[.val (.int x1), .val (.int x2), .val (.int x3), .unset, .unset, .unset, .unset, .unset] [(.int (((x1 &&& (2147483647 : Int32)) % (65536 : Int32)) + (1 : Int32)))])) _
          refine XS.istoreN X0.here hx rfl (hb hby at_38) rfl (l' := #[.val (.int x1), .val (.int x2), .val (.int x3), .val (.int (((x1 &&& (2147483647 : Int32)) % (65536 : Int32)) + (1 : Int32))), .unset, .unset, .unset, .unset]) rfl ?_
          show Steps p.tables e below (s₁.setTop (mkF m 39 #[.val (.int x1), .val (.int x2), .val (.int x3), .val (.int (((x1 &&& (2147483647 : Int32)) % (65536 : Int32)) + (1 : Int32))), .unset, .unset, .unset, .unset] [])) _
          refine XS.iloadN X0.here hx rfl (hb hby at_39) rfl ?_
          show Steps p.tables e below (s₁.setTop (mkF m 40 #[.val (.int x1), .val (.int x2), .val (.int x3), .val (.int (((x1 &&& (2147483647 : Int32)) % (65536 : Int32)) + (1 : Int32))), .unset, .unset, .unset, .unset] [(.int x2)])) _
          refine X0.ldcInt hx hown (mvT hZ (hw _ (List.mem_of_getElem? (i := 0) rfl))) (g := (mkF m 40 #[.val (.int x1), .val (.int x2), .val (.int x3), .val (.int (((x1 &&& (2147483647 : Int32)) % (65536 : Int32)) + (1 : Int32))), .unset, .unset, .unset, .unset] [(.int x2)])) rfl (hb hby at_40) _ ?_
          show Steps p.tables e below (s₁.setTop (mkF m 42 #[.val (.int x1), .val (.int x2), .val (.int x3), .val (.int (((x1 &&& (2147483647 : Int32)) % (65536 : Int32)) + (1 : Int32))), .unset, .unset, .unset, .unset] [(.int (2147483647 : Int32)), (.int x2)])) _
          refine XS.iand X0.here hx rfl (hb hby at_42) rfl ?_
          show Steps p.tables e below (s₁.setTop (mkF m 43 #[.val (.int x1), .val (.int x2), .val (.int x3), .val (.int (((x1 &&& (2147483647 : Int32)) % (65536 : Int32)) + (1 : Int32))), .unset, .unset, .unset, .unset] [(.int (x2 &&& (2147483647 : Int32)))])) _
          refine X0.ldcInt hx hown (mvT hZ (hw _ (List.mem_of_getElem? (i := 2) rfl))) (g := (mkF m 43 #[.val (.int x1), .val (.int x2), .val (.int x3), .val (.int (((x1 &&& (2147483647 : Int32)) % (65536 : Int32)) + (1 : Int32))), .unset, .unset, .unset, .unset] [(.int (x2 &&& (2147483647 : Int32)))])) rfl (hb hby at_43) _ ?_
          show Steps p.tables e below (s₁.setTop (mkF m 45 #[.val (.int x1), .val (.int x2), .val (.int x3), .val (.int (((x1 &&& (2147483647 : Int32)) % (65536 : Int32)) + (1 : Int32))), .unset, .unset, .unset, .unset] [(.int (32768 : Int32)), (.int (x2 &&& (2147483647 : Int32)))])) _
          refine iremM X0 hx rfl (hb hby at_45) rfl (by decide) ?_
          show Steps p.tables e below (s₁.setTop (mkF m 46 #[.val (.int x1), .val (.int x2), .val (.int x3), .val (.int (((x1 &&& (2147483647 : Int32)) % (65536 : Int32)) + (1 : Int32))), .unset, .unset, .unset, .unset] [(.int ((x2 &&& (2147483647 : Int32)) % (32768 : Int32)))])) _
          refine XS.iconst X0.here hx rfl (hb hby at_46) ?_
          show Steps p.tables e below (s₁.setTop (mkF m 47 #[.val (.int x1), .val (.int x2), .val (.int x3), .val (.int (((x1 &&& (2147483647 : Int32)) % (65536 : Int32)) + (1 : Int32))), .unset, .unset, .unset, .unset] [(.int (1 : Int32)), (.int ((x2 &&& (2147483647 : Int32)) % (32768 : Int32)))])) _
          refine XS.iadd X0.here hx rfl (hb hby at_47) rfl ?_
          show Steps p.tables e below (s₁.setTop (mkF m 48 #[.val (.int x1), .val (.int x2), .val (.int x3), .val (.int (((x1 &&& (2147483647 : Int32)) % (65536 : Int32)) + (1 : Int32))), .unset, .unset, .unset, .unset] [(.int (((x2 &&& (2147483647 : Int32)) % (32768 : Int32)) + (1 : Int32)))])) _
          refine XS.istore X0.here hx rfl (hb hby at_48) rfl (l' := #[.val (.int x1), .val (.int x2), .val (.int x3), .val (.int (((x1 &&& (2147483647 : Int32)) % (65536 : Int32)) + (1 : Int32))), .val (.int (((x2 &&& (2147483647 : Int32)) % (32768 : Int32)) + (1 : Int32))), .unset, .unset, .unset]) rfl ?_
          show Steps p.tables e below (s₁.setTop (mkF m 50 #[.val (.int x1), .val (.int x2), .val (.int x3), .val (.int (((x1 &&& (2147483647 : Int32)) % (65536 : Int32)) + (1 : Int32))), .val (.int (((x2 &&& (2147483647 : Int32)) % (32768 : Int32)) + (1 : Int32))), .unset, .unset, .unset] [])) _
          refine XS.iloadN X0.here hx rfl (hb hby at_50) rfl ?_
          show Steps p.tables e below (s₁.setTop (mkF m 51 #[.val (.int x1), .val (.int x2), .val (.int x3), .val (.int (((x1 &&& (2147483647 : Int32)) % (65536 : Int32)) + (1 : Int32))), .val (.int (((x2 &&& (2147483647 : Int32)) % (32768 : Int32)) + (1 : Int32))), .unset, .unset, .unset] [(.int (((x1 &&& (2147483647 : Int32)) % (65536 : Int32)) + (1 : Int32)))])) _
          refine X0.ldcInt hx hown (mvT hZ (hw _ (List.mem_of_getElem? (i := 1) rfl))) (g := (mkF m 51 #[.val (.int x1), .val (.int x2), .val (.int x3), .val (.int (((x1 &&& (2147483647 : Int32)) % (65536 : Int32)) + (1 : Int32))), .val (.int (((x2 &&& (2147483647 : Int32)) % (32768 : Int32)) + (1 : Int32))), .unset, .unset, .unset] [(.int (((x1 &&& (2147483647 : Int32)) % (65536 : Int32)) + (1 : Int32)))])) rfl (hb hby at_51) _ ?_
          show Steps p.tables e below (s₁.setTop (mkF m 53 #[.val (.int x1), .val (.int x2), .val (.int x3), .val (.int (((x1 &&& (2147483647 : Int32)) % (65536 : Int32)) + (1 : Int32))), .val (.int (((x2 &&& (2147483647 : Int32)) % (32768 : Int32)) + (1 : Int32))), .unset, .unset, .unset] [(.int (65536 : Int32)), (.int (((x1 &&& (2147483647 : Int32)) % (65536 : Int32)) + (1 : Int32)))])) _
          refine XS.icmpYes X0.here hx rfl (pc0 := 53) (pc' := 65) rfl (hb hby at_53) rfl (feq hb11).2 (by decide) (by decide) ?_
          show Steps p.tables e below (s₁.setTop (mkF m 65 #[.val (.int x1), .val (.int x2), .val (.int x3), .val (.int (((x1 &&& (2147483647 : Int32)) % (65536 : Int32)) + (1 : Int32))), .val (.int (((x2 &&& (2147483647 : Int32)) % (32768 : Int32)) + (1 : Int32))), .unset, .unset, .unset] [])) _
          refine st26 _ ?_
          show Steps p.tables e below (T26.setTop (mkF m 68 #[.val (.int x1), .val (.int x2), .val (.int x3), .val (.int (((x1 &&& (2147483647 : Int32)) % (65536 : Int32)) + (1 : Int32))), .val (.int (((x2 &&& (2147483647 : Int32)) % (32768 : Int32)) + (1 : Int32))), .unset, .unset, .unset] [(.ref b26)])) _
          refine XS.dup X26.here hx rfl (hb hby at_68) rfl rfl ?_
          show Steps p.tables e below (T26.setTop (mkF m 69 #[.val (.int x1), .val (.int x2), .val (.int x3), .val (.int (((x1 &&& (2147483647 : Int32)) % (65536 : Int32)) + (1 : Int32))), .val (.int (((x2 &&& (2147483647 : Int32)) % (32768 : Int32)) + (1 : Int32))), .unset, .unset, .unset] [(.ref b26), (.ref b26)])) _
          refine XS.iloadN X26.here hx rfl (hb hby at_69) rfl ?_
          show Steps p.tables e below (T26.setTop (mkF m 70 #[.val (.int x1), .val (.int x2), .val (.int x3), .val (.int (((x1 &&& (2147483647 : Int32)) % (65536 : Int32)) + (1 : Int32))), .val (.int (((x2 &&& (2147483647 : Int32)) % (32768 : Int32)) + (1 : Int32))), .unset, .unset, .unset] [(.int (((x1 &&& (2147483647 : Int32)) % (65536 : Int32)) + (1 : Int32))), (.ref b26), (.ref b26)])) _
          refine XS.iload X26.here hx rfl (hb hby at_70) rfl ?_
          show Steps p.tables e below (T26.setTop (mkF m 72 #[.val (.int x1), .val (.int x2), .val (.int x3), .val (.int (((x1 &&& (2147483647 : Int32)) % (65536 : Int32)) + (1 : Int32))), .val (.int (((x2 &&& (2147483647 : Int32)) % (32768 : Int32)) + (1 : Int32))), .unset, .unset, .unset] [(.int (((x2 &&& (2147483647 : Int32)) % (32768 : Int32)) + (1 : Int32))), (.int (((x1 &&& (2147483647 : Int32)) % (65536 : Int32)) + (1 : Int32))), (.ref b26), (.ref b26)])) _
          refine st28.trans ?_
          show Steps p.tables e below (T28.setTop (mkF m 75 #[.val (.int x1), .val (.int x2), .val (.int x3), .val (.int (((x1 &&& (2147483647 : Int32)) % (65536 : Int32)) + (1 : Int32))), .val (.int (((x2 &&& (2147483647 : Int32)) % (32768 : Int32)) + (1 : Int32))), .unset, .unset, .unset] [(.ref b26)])) _
          refine XS.astore X28.here hx rfl (hb hby at_75) rfl rfl (l' := #[.val (.int x1), .val (.int x2), .val (.int x3), .val (.int (((x1 &&& (2147483647 : Int32)) % (65536 : Int32)) + (1 : Int32))), .val (.int (((x2 &&& (2147483647 : Int32)) % (32768 : Int32)) + (1 : Int32))), .val (.ref b26), .unset, .unset]) rfl ?_
          show Steps p.tables e below (T28.setTop (mkF m 77 #[.val (.int x1), .val (.int x2), .val (.int x3), .val (.int (((x1 &&& (2147483647 : Int32)) % (65536 : Int32)) + (1 : Int32))), .val (.int (((x2 &&& (2147483647 : Int32)) % (32768 : Int32)) + (1 : Int32))), .val (.ref b26), .unset, .unset] [])) _
          refine XS.aload X28.here hx rfl (hb hby at_77) rfl rfl ?_
          show Steps p.tables e below (T28.setTop (mkF m 79 #[.val (.int x1), .val (.int x2), .val (.int x3), .val (.int (((x1 &&& (2147483647 : Int32)) % (65536 : Int32)) + (1 : Int32))), .val (.int (((x2 &&& (2147483647 : Int32)) % (32768 : Int32)) + (1 : Int32))), .val (.ref b26), .unset, .unset] [(.ref b26)])) _
          refine st33.trans ?_
          show Steps p.tables e below (T33.setTop (mkF m 82 #[.val (.int x1), .val (.int x2), .val (.int x3), .val (.int (((x1 &&& (2147483647 : Int32)) % (65536 : Int32)) + (1 : Int32))), .val (.int (((x2 &&& (2147483647 : Int32)) % (32768 : Int32)) + (1 : Int32))), .val (.ref b26), .unset, .unset] [(.int (F4 ((((x1 &&& (2147483647 : Int32)) % (65536 : Int32)) + (1 : Int32))) ((((x2 &&& (2147483647 : Int32)) % (32768 : Int32)) + (1 : Int32)))))])) _
          refine XS.istore X33.here hx rfl (hb hby at_82) rfl (l' := #[.val (.int x1), .val (.int x2), .val (.int x3), .val (.int (((x1 &&& (2147483647 : Int32)) % (65536 : Int32)) + (1 : Int32))), .val (.int (((x2 &&& (2147483647 : Int32)) % (32768 : Int32)) + (1 : Int32))), .val (.ref b26), .val (.int (F4 ((((x1 &&& (2147483647 : Int32)) % (65536 : Int32)) + (1 : Int32))) ((((x2 &&& (2147483647 : Int32)) % (32768 : Int32)) + (1 : Int32))))), .unset]) rfl ?_
          show Steps p.tables e below (T33.setTop (mkF m 84 #[.val (.int x1), .val (.int x2), .val (.int x3), .val (.int (((x1 &&& (2147483647 : Int32)) % (65536 : Int32)) + (1 : Int32))), .val (.int (((x2 &&& (2147483647 : Int32)) % (32768 : Int32)) + (1 : Int32))), .val (.ref b26), .val (.int (F4 ((((x1 &&& (2147483647 : Int32)) % (65536 : Int32)) + (1 : Int32))) ((((x2 &&& (2147483647 : Int32)) % (32768 : Int32)) + (1 : Int32))))), .unset] [])) _
          refine XS.iload X33.here hx rfl (hb hby at_84) rfl ?_
          show Steps p.tables e below (T33.setTop (mkF m 86 #[.val (.int x1), .val (.int x2), .val (.int x3), .val (.int (((x1 &&& (2147483647 : Int32)) % (65536 : Int32)) + (1 : Int32))), .val (.int (((x2 &&& (2147483647 : Int32)) % (32768 : Int32)) + (1 : Int32))), .val (.ref b26), .val (.int (F4 ((((x1 &&& (2147483647 : Int32)) % (65536 : Int32)) + (1 : Int32))) ((((x2 &&& (2147483647 : Int32)) % (32768 : Int32)) + (1 : Int32))))), .unset] [(.int (F4 ((((x1 &&& (2147483647 : Int32)) % (65536 : Int32)) + (1 : Int32))) ((((x2 &&& (2147483647 : Int32)) % (32768 : Int32)) + (1 : Int32)))))])) _
          refine XS.iconst X33.here hx rfl (hb hby at_86) ?_
          show Steps p.tables e below (T33.setTop (mkF m 87 #[.val (.int x1), .val (.int x2), .val (.int x3), .val (.int (((x1 &&& (2147483647 : Int32)) % (65536 : Int32)) + (1 : Int32))), .val (.int (((x2 &&& (2147483647 : Int32)) % (32768 : Int32)) + (1 : Int32))), .val (.ref b26), .val (.int (F4 ((((x1 &&& (2147483647 : Int32)) % (65536 : Int32)) + (1 : Int32))) ((((x2 &&& (2147483647 : Int32)) % (32768 : Int32)) + (1 : Int32))))), .unset] [(.int (1 : Int32)), (.int (F4 ((((x1 &&& (2147483647 : Int32)) % (65536 : Int32)) + (1 : Int32))) ((((x2 &&& (2147483647 : Int32)) % (32768 : Int32)) + (1 : Int32)))))])) _
          refine XS.icmpNo X33.here hx rfl (hb hby at_87) rfl (tlt hb34).2.1 ?_
          show Steps p.tables e below (T33.setTop (mkF m 90 #[.val (.int x1), .val (.int x2), .val (.int x3), .val (.int (((x1 &&& (2147483647 : Int32)) % (65536 : Int32)) + (1 : Int32))), .val (.int (((x2 &&& (2147483647 : Int32)) % (32768 : Int32)) + (1 : Int32))), .val (.ref b26), .val (.int (F4 ((((x1 &&& (2147483647 : Int32)) % (65536 : Int32)) + (1 : Int32))) ((((x2 &&& (2147483647 : Int32)) % (32768 : Int32)) + (1 : Int32))))), .unset] [])) _
          refine XS.iconst X33.here hx rfl (hb hby at_90) ?_
          show Steps p.tables e below (T33.setTop (mkF m 91 #[.val (.int x1), .val (.int x2), .val (.int x3), .val (.int (((x1 &&& (2147483647 : Int32)) % (65536 : Int32)) + (1 : Int32))), .val (.int (((x2 &&& (2147483647 : Int32)) % (32768 : Int32)) + (1 : Int32))), .val (.ref b26), .val (.int (F4 ((((x1 &&& (2147483647 : Int32)) % (65536 : Int32)) + (1 : Int32))) ((((x2 &&& (2147483647 : Int32)) % (32768 : Int32)) + (1 : Int32))))), .unset] [(.int (0 : Int32))])) _
          exact retN X33 hx (t := .boolean) Bd.returns (by simp) (hb hby at_91) hr
        · show Q0 Z x1 x2 x3 h0 n0 _ T33.heap _
          rw [e33]
          exact ⟨(congrArg (fun z => some (Value.int z)) (Eq.symm (Eq.trans (if_neg hb1) (Eq.trans (if_neg hb11) (if_pos hb34))))), N33⟩
      · obtain ⟨_, _, ⟨T35, L35, k35, n35⟩, -, X35, ⟨Lc35, hQ35, l35, y35, z35⟩, st35⟩ := Jvm.LawKit.callS X33 hx (y := (⟨"com/example/threadkeep/threadkeep/store/Blocks", "block", "(I)I"⟩ : MethodName)) hown (mvT hZ (hw _ (List.mem_of_getElem? (i := 27) rfl))) (mvT hZ (hw _ (List.mem_of_getElem? (i := 28) rfl))) (mvT hZ (hw _ (List.mem_of_getElem? (i := 29) rfl))) (mvT hZ (hw _ (List.mem_of_getElem? (i := 30) rfl))) (by decide) (backOf (W := 0) (rm5 l Z a0 hw [] ((F4 ((((x1 &&& (2147483647 : Int32)) % (65536 : Int32)) + (1 : Int32))) ((((x2 &&& (2147483647 : Int32)) % (32768 : Int32)) + (1 : Int32)))) - (1 : Int32))  T28.heap n0 Z29 ) hZ (hw _ (List.mem_of_getElem? (i := 30) rfl)) (hw _ (List.mem_of_getElem? (i := 29) rfl)) (by decide) (by decide)) (g := (mkF m 100 #[.val (.int x1), .val (.int x2), .val (.int x3), .val (.int (((x1 &&& (2147483647 : Int32)) % (65536 : Int32)) + (1 : Int32))), .val (.int (((x2 &&& (2147483647 : Int32)) % (32768 : Int32)) + (1 : Int32))), .val (.ref b26), .val (.int (F4 ((((x1 &&& (2147483647 : Int32)) % (65536 : Int32)) + (1 : Int32))) ((((x2 &&& (2147483647 : Int32)) % (32768 : Int32)) + (1 : Int32))))), .val (.int ((F4 ((((x1 &&& (2147483647 : Int32)) % (65536 : Int32)) + (1 : Int32))) ((((x2 &&& (2147483647 : Int32)) % (32768 : Int32)) + (1 : Int32)))) - (1 : Int32)))] [(.int ((F4 ((((x1 &&& (2147483647 : Int32)) % (65536 : Int32)) + (1 : Int32))) ((((x2 &&& (2147483647 : Int32)) % (32768 : Int32)) + (1 : Int32)))) - (1 : Int32)))])) rfl (by rw [hml]; rfl) (argsL := [(.int ((F4 ((((x1 &&& (2147483647 : Int32)) % (65536 : Int32)) + (1 : Int32))) ((((x2 &&& (2147483647 : Int32)) % (32768 : Int32)) + (1 : Int32)))) - (1 : Int32)))]) (rest := []) (lenOf pd_3 rfl) rfl (by show 2 * 0 + _ ≤ _; exact Nat.le_of_eq rfl) (hb hby at_100) (fun _ _ => ⟨rfl, e33, (by decide : 1 + 0 ≤ _), (by decide : 2 + 0 ≤ _)⟩)
        dsimp only [Pt.U, Pt.locs, Pt.cells, Pt.slots] at X35 l35 y35 z35 st35 hQ35
        subst l35 y35 z35
        obtain ⟨rfl, N35q, e35⟩ := hQ35
        have N35 := Fr.app N33 N35q
        by_cases hb36 : (F5 ((F4 ((((x1 &&& (2147483647 : Int32)) % (65536 : Int32)) + (1 : Int32))) ((((x2 &&& (2147483647 : Int32)) % (32768 : Int32)) + (1 : Int32)))) - (1 : Int32))) = ((((x1 &&& (2147483647 : Int32)) % (65536 : Int32)) + (1 : Int32)) - (1 : Int32))
        · obtain ⟨_, _, ⟨T37, L37, k37, n37⟩, -, X37, ⟨Lc37, hQ37, l37, y37, z37⟩, st37⟩ := Jvm.LawKit.callS X35 hx (y := (⟨"com/example/threadkeep/threadkeep/store/Blocks", "inBlock", "(I)I"⟩ : MethodName)) hown (mvT hZ (hw _ (List.mem_of_getElem? (i := 31) rfl))) (mvT hZ (hw _ (List.mem_of_getElem? (i := 32) rfl))) (mvT hZ (hw _ (List.mem_of_getElem? (i := 29) rfl))) (mvT hZ (hw _ (List.mem_of_getElem? (i := 33) rfl))) (by decide) (backOf (W := 0) (rm6 l Z a0 hw [] ((F4 ((((x1 &&& (2147483647 : Int32)) % (65536 : Int32)) + (1 : Int32))) ((((x2 &&& (2147483647 : Int32)) % (32768 : Int32)) + (1 : Int32)))) - (1 : Int32))  T28.heap n0 Z29 ) hZ (hw _ (List.mem_of_getElem? (i := 33) rfl)) (hw _ (List.mem_of_getElem? (i := 29) rfl)) (by decide) (by decide)) (g := (mkF m 111 #[.val (.int x1), .val (.int x2), .val (.int x3), .val (.int (((x1 &&& (2147483647 : Int32)) % (65536 : Int32)) + (1 : Int32))), .val (.int (((x2 &&& (2147483647 : Int32)) % (32768 : Int32)) + (1 : Int32))), .val (.ref b26), .val (.int (F4 ((((x1 &&& (2147483647 : Int32)) % (65536 : Int32)) + (1 : Int32))) ((((x2 &&& (2147483647 : Int32)) % (32768 : Int32)) + (1 : Int32))))), .val (.int ((F4 ((((x1 &&& (2147483647 : Int32)) % (65536 : Int32)) + (1 : Int32))) ((((x2 &&& (2147483647 : Int32)) % (32768 : Int32)) + (1 : Int32)))) - (1 : Int32)))] [(.int ((F4 ((((x1 &&& (2147483647 : Int32)) % (65536 : Int32)) + (1 : Int32))) ((((x2 &&& (2147483647 : Int32)) % (32768 : Int32)) + (1 : Int32)))) - (1 : Int32)))])) rfl (by rw [hml]; rfl) (argsL := [(.int ((F4 ((((x1 &&& (2147483647 : Int32)) % (65536 : Int32)) + (1 : Int32))) ((((x2 &&& (2147483647 : Int32)) % (32768 : Int32)) + (1 : Int32)))) - (1 : Int32)))]) (rest := []) (lenOf pd_3 rfl) rfl (by show 2 * 0 + _ ≤ _; exact Nat.le_of_eq rfl) (hb hby at_111) (fun _ _ => ⟨rfl, e35, (by decide : 1 + 0 ≤ _), (by decide : 2 + 0 ≤ _)⟩)
          dsimp only [Pt.U, Pt.locs, Pt.cells, Pt.slots] at X37 l37 y37 z37 st37 hQ37
          subst l37 y37 z37
          obtain ⟨rfl, N37q, e37⟩ := hQ37
          have N37 := Fr.app N35 N37q
          obtain ⟨fs, hr, hrun, hended, hW, hsame⟩ := X37.leave (v := some (.int (if (F6 ((F4 ((((x1 &&& (2147483647 : Int32)) % (65536 : Int32)) + (1 : Int32))) ((((x2 &&& (2147483647 : Int32)) % (32768 : Int32)) + (1 : Int32)))) - (1 : Int32))) = ((((x2 &&& (2147483647 : Int32)) % (32768 : Int32)) + (1 : Int32)) - (1 : Int32)) then (1 : Int32) else (0 : Int32)))) (fun h => by rw [Bd.returns] at h; cases h)
          refine ⟨_, _, pre0 _ ?_, hrun, hended, _, _, rfl, ?_, ⟨_, rfl⟩, hW, hsame.mono (by decide) (by decide)⟩
          · show Steps p.tables e below (s₁.setTop (mkF m 0 #[.val (.int x1), .val (.int x2), .val (.int x3), .unset, .unset, .unset, .unset, .unset] [])) _
            refine XS.iloadN X0.here hx rfl (hb hby at_0) rfl ?_
            show Steps p.tables e below (s₁.setTop (mkF m 1 #[.val (.int x1), .val (.int x2), .val (.int x3), .unset, .unset, .unset, .unset, .unset] [(.int x3)])) _
            refine XS.iconst X0.here hx rfl (hb hby at_1) ?_
            show Steps p.tables e below (s₁.setTop (mkF m 2 #[.val (.int x1), .val (.int x2), .val (.int x3), .unset, .unset, .unset, .unset, .unset] [(.int (3 : Int32)), (.int x3)])) _
            refine XS.iand X0.here hx rfl (hb hby at_2) rfl ?_
            show Steps p.tables e below (s₁.setTop (mkF m 3 #[.val (.int x1), .val (.int x2), .val (.int x3), .unset, .unset, .unset, .unset, .unset] [(.int (x3 &&& (3 : Int32)))])) _
            refine XS.ifYes X0.here hx rfl (pc0 := 3) (pc' := 29) rfl (hb hby at_3) rfl ((if0 _ _).trans (feq hb1).2) (by decide) (by decide) ?_
            show Steps p.tables e below (s₁.setTop (mkF m 29 #[.val (.int x1), .val (.int x2), .val (.int x3), .unset, .unset, .unset, .unset, .unset] [])) _
            refine XS.iloadN X0.here hx rfl (hb hby at_29) rfl ?_
            show Steps p.tables e below (s₁.setTop (mkF m 30 #[.val (.int x1), .val (.int x2), .val (.int x3), .unset, .unset, .unset, .unset, .unset] [(.int x1)])) _
            refine X0.ldcInt hx hown (mvT hZ (hw _ (List.mem_of_getElem? (i := 0) rfl))) (g := (mkF m 30 #[.val (.int x1), .val (.int x2), .val (.int x3), .unset, .unset, .unset, .unset, .unset] [(.int x1)])) rfl (hb hby at_30) _ ?_
            show Steps p.tables e below (s₁.setTop (mkF m 32 #[.val (.int x1), .val (.int x2), .val (.int x3), .unset, .unset, .unset, .unset, .unset] [(.int (2147483647 : Int32)), (.int x1)])) _
            refine XS.iand X0.here hx rfl (hb hby at_32) rfl ?_
            show Steps p.tables e below (s₁.setTop (mkF m 33 #[.val (.int x1), .val (.int x2), .val (.int x3), .unset, .unset, .unset, .unset, .unset] [(.int (x1 &&& (2147483647 : Int32)))])) _
            refine X0.ldcInt hx hown (mvT hZ (hw _ (List.mem_of_getElem? (i := 1) rfl))) (g := (mkF m 33 #[.val (.int x1), .val (.int x2), .val (.int x3), .unset, .unset, .unset, .unset, .unset] [(.int (x1 &&& (2147483647 : Int32)))])) rfl (hb hby at_33) _ ?_
            show Steps p.tables e below (s₁.setTop (mkF m 35 #[.val (.int x1), .val (.int x2), .val (.int x3), .unset, .unset, .unset, .unset, .unset] [(.int (65536 : Int32)), (.int (x1 &&& (2147483647 : Int32)))])) _
            refine iremM X0 hx rfl (hb hby at_35) rfl (by decide) ?_
            show Steps p.tables e below (s₁.setTop (mkF m 36 #[.val (.int x1), .val (.int x2), .val (.int x3), .unset, .unset, .unset, .unset, .unset] [(.int ((x1 &&& (2147483647 : Int32)) % (65536 : Int32)))])) _
            refine XS.iconst X0.here hx rfl (hb hby at_36) ?_
            show Steps p.tables e below (s₁.setTop (mkF m 37 #[.val (.int x1), .val (.int x2), .val (.int x3), .unset, .unset, .unset, .unset, .unset] [(.int (1 : Int32)), (.int ((x1 &&& (2147483647 : Int32)) % (65536 : Int32)))])) _
            refine XS.iadd X0.here hx rfl (hb hby at_37) rfl ?_
            show Steps p.tables e below (s₁.setTop (mkF m 38 #[.val (.int x1), .val (.int x2), .val (.int x3), .unset, .unset, .unset, .unset, .unset] [(.int (((x1 &&& (2147483647 : Int32)) % (65536 : Int32)) + (1 : Int32)))])) _
            refine XS.istoreN X0.here hx rfl (hb hby at_38) rfl (l' := #[.val (.int x1), .val (.int x2), .val (.int x3), .val (.int (((x1 &&& (2147483647 : Int32)) % (65536 : Int32)) + (1 : Int32))), .unset, .unset, .unset, .unset]) rfl ?_
            show Steps p.tables e below (s₁.setTop (mkF m 39 #[.val (.int x1), .val (.int x2), .val (.int x3), .val (.int (((x1 &&& (2147483647 : Int32)) % (65536 : Int32)) + (1 : Int32))), .unset, .unset, .unset, .unset] [])) _
            refine XS.iloadN X0.here hx rfl (hb hby at_39) rfl ?_
            show Steps p.tables e below (s₁.setTop (mkF m 40 #[.val (.int x1), .val (.int x2), .val (.int x3), .val (.int (((x1 &&& (2147483647 : Int32)) % (65536 : Int32)) + (1 : Int32))), .unset, .unset, .unset, .unset] [(.int x2)])) _
            refine X0.ldcInt hx hown (mvT hZ (hw _ (List.mem_of_getElem? (i := 0) rfl))) (g := (mkF m 40 #[.val (.int x1), .val (.int x2), .val (.int x3), .val (.int (((x1 &&& (2147483647 : Int32)) % (65536 : Int32)) + (1 : Int32))), .unset, .unset, .unset, .unset] [(.int x2)])) rfl (hb hby at_40) _ ?_
            show Steps p.tables e below (s₁.setTop (mkF m 42 #[.val (.int x1), .val (.int x2), .val (.int x3), .val (.int (((x1 &&& (2147483647 : Int32)) % (65536 : Int32)) + (1 : Int32))), .unset, .unset, .unset, .unset] [(.int (2147483647 : Int32)), (.int x2)])) _
            refine XS.iand X0.here hx rfl (hb hby at_42) rfl ?_
            show Steps p.tables e below (s₁.setTop (mkF m 43 #[.val (.int x1), .val (.int x2), .val (.int x3), .val (.int (((x1 &&& (2147483647 : Int32)) % (65536 : Int32)) + (1 : Int32))), .unset, .unset, .unset, .unset] [(.int (x2 &&& (2147483647 : Int32)))])) _
            refine X0.ldcInt hx hown (mvT hZ (hw _ (List.mem_of_getElem? (i := 2) rfl))) (g := (mkF m 43 #[.val (.int x1), .val (.int x2), .val (.int x3), .val (.int (((x1 &&& (2147483647 : Int32)) % (65536 : Int32)) + (1 : Int32))), .unset, .unset, .unset, .unset] [(.int (x2 &&& (2147483647 : Int32)))])) rfl (hb hby at_43) _ ?_
            show Steps p.tables e below (s₁.setTop (mkF m 45 #[.val (.int x1), .val (.int x2), .val (.int x3), .val (.int (((x1 &&& (2147483647 : Int32)) % (65536 : Int32)) + (1 : Int32))), .unset, .unset, .unset, .unset] [(.int (32768 : Int32)), (.int (x2 &&& (2147483647 : Int32)))])) _
            refine iremM X0 hx rfl (hb hby at_45) rfl (by decide) ?_
            show Steps p.tables e below (s₁.setTop (mkF m 46 #[.val (.int x1), .val (.int x2), .val (.int x3), .val (.int (((x1 &&& (2147483647 : Int32)) % (65536 : Int32)) + (1 : Int32))), .unset, .unset, .unset, .unset] [(.int ((x2 &&& (2147483647 : Int32)) % (32768 : Int32)))])) _
            refine XS.iconst X0.here hx rfl (hb hby at_46) ?_
            show Steps p.tables e below (s₁.setTop (mkF m 47 #[.val (.int x1), .val (.int x2), .val (.int x3), .val (.int (((x1 &&& (2147483647 : Int32)) % (65536 : Int32)) + (1 : Int32))), .unset, .unset, .unset, .unset] [(.int (1 : Int32)), (.int ((x2 &&& (2147483647 : Int32)) % (32768 : Int32)))])) _
            refine XS.iadd X0.here hx rfl (hb hby at_47) rfl ?_
            show Steps p.tables e below (s₁.setTop (mkF m 48 #[.val (.int x1), .val (.int x2), .val (.int x3), .val (.int (((x1 &&& (2147483647 : Int32)) % (65536 : Int32)) + (1 : Int32))), .unset, .unset, .unset, .unset] [(.int (((x2 &&& (2147483647 : Int32)) % (32768 : Int32)) + (1 : Int32)))])) _
            refine XS.istore X0.here hx rfl (hb hby at_48) rfl (l' := #[.val (.int x1), .val (.int x2), .val (.int x3), .val (.int (((x1 &&& (2147483647 : Int32)) % (65536 : Int32)) + (1 : Int32))), .val (.int (((x2 &&& (2147483647 : Int32)) % (32768 : Int32)) + (1 : Int32))), .unset, .unset, .unset]) rfl ?_
            show Steps p.tables e below (s₁.setTop (mkF m 50 #[.val (.int x1), .val (.int x2), .val (.int x3), .val (.int (((x1 &&& (2147483647 : Int32)) % (65536 : Int32)) + (1 : Int32))), .val (.int (((x2 &&& (2147483647 : Int32)) % (32768 : Int32)) + (1 : Int32))), .unset, .unset, .unset] [])) _
            refine XS.iloadN X0.here hx rfl (hb hby at_50) rfl ?_
            show Steps p.tables e below (s₁.setTop (mkF m 51 #[.val (.int x1), .val (.int x2), .val (.int x3), .val (.int (((x1 &&& (2147483647 : Int32)) % (65536 : Int32)) + (1 : Int32))), .val (.int (((x2 &&& (2147483647 : Int32)) % (32768 : Int32)) + (1 : Int32))), .unset, .unset, .unset] [(.int (((x1 &&& (2147483647 : Int32)) % (65536 : Int32)) + (1 : Int32)))])) _
            refine X0.ldcInt hx hown (mvT hZ (hw _ (List.mem_of_getElem? (i := 1) rfl))) (g := (mkF m 51 #[.val (.int x1), .val (.int x2), .val (.int x3), .val (.int (((x1 &&& (2147483647 : Int32)) % (65536 : Int32)) + (1 : Int32))), .val (.int (((x2 &&& (2147483647 : Int32)) % (32768 : Int32)) + (1 : Int32))), .unset, .unset, .unset] [(.int (((x1 &&& (2147483647 : Int32)) % (65536 : Int32)) + (1 : Int32)))])) rfl (hb hby at_51) _ ?_
            show Steps p.tables e below (s₁.setTop (mkF m 53 #[.val (.int x1), .val (.int x2), .val (.int x3), .val (.int (((x1 &&& (2147483647 : Int32)) % (65536 : Int32)) + (1 : Int32))), .val (.int (((x2 &&& (2147483647 : Int32)) % (32768 : Int32)) + (1 : Int32))), .unset, .unset, .unset] [(.int (65536 : Int32)), (.int (((x1 &&& (2147483647 : Int32)) % (65536 : Int32)) + (1 : Int32)))])) _
            refine XS.icmpYes X0.here hx rfl (pc0 := 53) (pc' := 65) rfl (hb hby at_53) rfl (feq hb11).2 (by decide) (by decide) ?_
            show Steps p.tables e below (s₁.setTop (mkF m 65 #[.val (.int x1), .val (.int x2), .val (.int x3), .val (.int (((x1 &&& (2147483647 : Int32)) % (65536 : Int32)) + (1 : Int32))), .val (.int (((x2 &&& (2147483647 : Int32)) % (32768 : Int32)) + (1 : Int32))), .unset, .unset, .unset] [])) _
            refine st26 _ ?_
            show Steps p.tables e below (T26.setTop (mkF m 68 #[.val (.int x1), .val (.int x2), .val (.int x3), .val (.int (((x1 &&& (2147483647 : Int32)) % (65536 : Int32)) + (1 : Int32))), .val (.int (((x2 &&& (2147483647 : Int32)) % (32768 : Int32)) + (1 : Int32))), .unset, .unset, .unset] [(.ref b26)])) _
            refine XS.dup X26.here hx rfl (hb hby at_68) rfl rfl ?_
            show Steps p.tables e below (T26.setTop (mkF m 69 #[.val (.int x1), .val (.int x2), .val (.int x3), .val (.int (((x1 &&& (2147483647 : Int32)) % (65536 : Int32)) + (1 : Int32))), .val (.int (((x2 &&& (2147483647 : Int32)) % (32768 : Int32)) + (1 : Int32))), .unset, .unset, .unset] [(.ref b26), (.ref b26)])) _
            refine XS.iloadN X26.here hx rfl (hb hby at_69) rfl ?_
            show Steps p.tables e below (T26.setTop (mkF m 70 #[.val (.int x1), .val (.int x2), .val (.int x3), .val (.int (((x1 &&& (2147483647 : Int32)) % (65536 : Int32)) + (1 : Int32))), .val (.int (((x2 &&& (2147483647 : Int32)) % (32768 : Int32)) + (1 : Int32))), .unset, .unset, .unset] [(.int (((x1 &&& (2147483647 : Int32)) % (65536 : Int32)) + (1 : Int32))), (.ref b26), (.ref b26)])) _
            refine XS.iload X26.here hx rfl (hb hby at_70) rfl ?_
            show Steps p.tables e below (T26.setTop (mkF m 72 #[.val (.int x1), .val (.int x2), .val (.int x3), .val (.int (((x1 &&& (2147483647 : Int32)) % (65536 : Int32)) + (1 : Int32))), .val (.int (((x2 &&& (2147483647 : Int32)) % (32768 : Int32)) + (1 : Int32))), .unset, .unset, .unset] [(.int (((x2 &&& (2147483647 : Int32)) % (32768 : Int32)) + (1 : Int32))), (.int (((x1 &&& (2147483647 : Int32)) % (65536 : Int32)) + (1 : Int32))), (.ref b26), (.ref b26)])) _
            refine st28.trans ?_
            show Steps p.tables e below (T28.setTop (mkF m 75 #[.val (.int x1), .val (.int x2), .val (.int x3), .val (.int (((x1 &&& (2147483647 : Int32)) % (65536 : Int32)) + (1 : Int32))), .val (.int (((x2 &&& (2147483647 : Int32)) % (32768 : Int32)) + (1 : Int32))), .unset, .unset, .unset] [(.ref b26)])) _
            refine XS.astore X28.here hx rfl (hb hby at_75) rfl rfl (l' := #[.val (.int x1), .val (.int x2), .val (.int x3), .val (.int (((x1 &&& (2147483647 : Int32)) % (65536 : Int32)) + (1 : Int32))), .val (.int (((x2 &&& (2147483647 : Int32)) % (32768 : Int32)) + (1 : Int32))), .val (.ref b26), .unset, .unset]) rfl ?_
            show Steps p.tables e below (T28.setTop (mkF m 77 #[.val (.int x1), .val (.int x2), .val (.int x3), .val (.int (((x1 &&& (2147483647 : Int32)) % (65536 : Int32)) + (1 : Int32))), .val (.int (((x2 &&& (2147483647 : Int32)) % (32768 : Int32)) + (1 : Int32))), .val (.ref b26), .unset, .unset] [])) _
            refine XS.aload X28.here hx rfl (hb hby at_77) rfl rfl ?_
            show Steps p.tables e below (T28.setTop (mkF m 79 #[.val (.int x1), .val (.int x2), .val (.int x3), .val (.int (((x1 &&& (2147483647 : Int32)) % (65536 : Int32)) + (1 : Int32))), .val (.int (((x2 &&& (2147483647 : Int32)) % (32768 : Int32)) + (1 : Int32))), .val (.ref b26), .unset, .unset] [(.ref b26)])) _
            refine st33.trans ?_
            show Steps p.tables e below (T33.setTop (mkF m 82 #[.val (.int x1), .val (.int x2), .val (.int x3), .val (.int (((x1 &&& (2147483647 : Int32)) % (65536 : Int32)) + (1 : Int32))), .val (.int (((x2 &&& (2147483647 : Int32)) % (32768 : Int32)) + (1 : Int32))), .val (.ref b26), .unset, .unset] [(.int (F4 ((((x1 &&& (2147483647 : Int32)) % (65536 : Int32)) + (1 : Int32))) ((((x2 &&& (2147483647 : Int32)) % (32768 : Int32)) + (1 : Int32)))))])) _
            refine XS.istore X33.here hx rfl (hb hby at_82) rfl (l' := #[.val (.int x1), .val (.int x2), .val (.int x3), .val (.int (((x1 &&& (2147483647 : Int32)) % (65536 : Int32)) + (1 : Int32))), .val (.int (((x2 &&& (2147483647 : Int32)) % (32768 : Int32)) + (1 : Int32))), .val (.ref b26), .val (.int (F4 ((((x1 &&& (2147483647 : Int32)) % (65536 : Int32)) + (1 : Int32))) ((((x2 &&& (2147483647 : Int32)) % (32768 : Int32)) + (1 : Int32))))), .unset]) rfl ?_
            show Steps p.tables e below (T33.setTop (mkF m 84 #[.val (.int x1), .val (.int x2), .val (.int x3), .val (.int (((x1 &&& (2147483647 : Int32)) % (65536 : Int32)) + (1 : Int32))), .val (.int (((x2 &&& (2147483647 : Int32)) % (32768 : Int32)) + (1 : Int32))), .val (.ref b26), .val (.int (F4 ((((x1 &&& (2147483647 : Int32)) % (65536 : Int32)) + (1 : Int32))) ((((x2 &&& (2147483647 : Int32)) % (32768 : Int32)) + (1 : Int32))))), .unset] [])) _
            refine XS.iload X33.here hx rfl (hb hby at_84) rfl ?_
            show Steps p.tables e below (T33.setTop (mkF m 86 #[.val (.int x1), .val (.int x2), .val (.int x3), .val (.int (((x1 &&& (2147483647 : Int32)) % (65536 : Int32)) + (1 : Int32))), .val (.int (((x2 &&& (2147483647 : Int32)) % (32768 : Int32)) + (1 : Int32))), .val (.ref b26), .val (.int (F4 ((((x1 &&& (2147483647 : Int32)) % (65536 : Int32)) + (1 : Int32))) ((((x2 &&& (2147483647 : Int32)) % (32768 : Int32)) + (1 : Int32))))), .unset] [(.int (F4 ((((x1 &&& (2147483647 : Int32)) % (65536 : Int32)) + (1 : Int32))) ((((x2 &&& (2147483647 : Int32)) % (32768 : Int32)) + (1 : Int32)))))])) _
            refine XS.iconst X33.here hx rfl (hb hby at_86) ?_
            show Steps p.tables e below (T33.setTop (mkF m 87 #[.val (.int x1), .val (.int x2), .val (.int x3), .val (.int (((x1 &&& (2147483647 : Int32)) % (65536 : Int32)) + (1 : Int32))), .val (.int (((x2 &&& (2147483647 : Int32)) % (32768 : Int32)) + (1 : Int32))), .val (.ref b26), .val (.int (F4 ((((x1 &&& (2147483647 : Int32)) % (65536 : Int32)) + (1 : Int32))) ((((x2 &&& (2147483647 : Int32)) % (32768 : Int32)) + (1 : Int32))))), .unset] [(.int (1 : Int32)), (.int (F4 ((((x1 &&& (2147483647 : Int32)) % (65536 : Int32)) + (1 : Int32))) ((((x2 &&& (2147483647 : Int32)) % (32768 : Int32)) + (1 : Int32)))))])) _
            refine XS.icmpYes X33.here hx rfl (pc0 := 87) (pc' := 92) rfl (hb hby at_87) rfl (flt hb34).2.1 (by decide) (by decide) ?_
            show Steps p.tables e below (T33.setTop (mkF m 92 #[.val (.int x1), .val (.int x2), .val (.int x3), .val (.int (((x1 &&& (2147483647 : Int32)) % (65536 : Int32)) + (1 : Int32))), .val (.int (((x2 &&& (2147483647 : Int32)) % (32768 : Int32)) + (1 : Int32))), .val (.ref b26), .val (.int (F4 ((((x1 &&& (2147483647 : Int32)) % (65536 : Int32)) + (1 : Int32))) ((((x2 &&& (2147483647 : Int32)) % (32768 : Int32)) + (1 : Int32))))), .unset] [])) _
            refine XS.iload X33.here hx rfl (hb hby at_92) rfl ?_
            show Steps p.tables e below (T33.setTop (mkF m 94 #[.val (.int x1), .val (.int x2), .val (.int x3), .val (.int (((x1 &&& (2147483647 : Int32)) % (65536 : Int32)) + (1 : Int32))), .val (.int (((x2 &&& (2147483647 : Int32)) % (32768 : Int32)) + (1 : Int32))), .val (.ref b26), .val (.int (F4 ((((x1 &&& (2147483647 : Int32)) % (65536 : Int32)) + (1 : Int32))) ((((x2 &&& (2147483647 : Int32)) % (32768 : Int32)) + (1 : Int32))))), .unset] [(.int (F4 ((((x1 &&& (2147483647 : Int32)) % (65536 : Int32)) + (1 : Int32))) ((((x2 &&& (2147483647 : Int32)) % (32768 : Int32)) + (1 : Int32)))))])) _
            refine XS.iconst X33.here hx rfl (hb hby at_94) ?_
            show Steps p.tables e below (T33.setTop (mkF m 95 #[.val (.int x1), .val (.int x2), .val (.int x3), .val (.int (((x1 &&& (2147483647 : Int32)) % (65536 : Int32)) + (1 : Int32))), .val (.int (((x2 &&& (2147483647 : Int32)) % (32768 : Int32)) + (1 : Int32))), .val (.ref b26), .val (.int (F4 ((((x1 &&& (2147483647 : Int32)) % (65536 : Int32)) + (1 : Int32))) ((((x2 &&& (2147483647 : Int32)) % (32768 : Int32)) + (1 : Int32))))), .unset] [(.int (1 : Int32)), (.int (F4 ((((x1 &&& (2147483647 : Int32)) % (65536 : Int32)) + (1 : Int32))) ((((x2 &&& (2147483647 : Int32)) % (32768 : Int32)) + (1 : Int32)))))])) _
            refine XS.isub X33.here hx rfl (hb hby at_95) rfl ?_
            show Steps p.tables e below (T33.setTop (mkF m 96 #[.val (.int x1), .val (.int x2), .val (.int x3), .val (.int (((x1 &&& (2147483647 : Int32)) % (65536 : Int32)) + (1 : Int32))), .val (.int (((x2 &&& (2147483647 : Int32)) % (32768 : Int32)) + (1 : Int32))), .val (.ref b26), .val (.int (F4 ((((x1 &&& (2147483647 : Int32)) % (65536 : Int32)) + (1 : Int32))) ((((x2 &&& (2147483647 : Int32)) % (32768 : Int32)) + (1 : Int32))))), .unset] [(.int ((F4 ((((x1 &&& (2147483647 : Int32)) % (65536 : Int32)) + (1 : Int32))) ((((x2 &&& (2147483647 : Int32)) % (32768 : Int32)) + (1 : Int32)))) - (1 : Int32)))])) _
            refine XS.istore X33.here hx rfl (hb hby at_96) rfl (l' := #[.val (.int x1), .val (.int x2), .val (.int x3), .val (.int (((x1 &&& (2147483647 : Int32)) % (65536 : Int32)) + (1 : Int32))), .val (.int (((x2 &&& (2147483647 : Int32)) % (32768 : Int32)) + (1 : Int32))), .val (.ref b26), .val (.int (F4 ((((x1 &&& (2147483647 : Int32)) % (65536 : Int32)) + (1 : Int32))) ((((x2 &&& (2147483647 : Int32)) % (32768 : Int32)) + (1 : Int32))))), .val (.int ((F4 ((((x1 &&& (2147483647 : Int32)) % (65536 : Int32)) + (1 : Int32))) ((((x2 &&& (2147483647 : Int32)) % (32768 : Int32)) + (1 : Int32)))) - (1 : Int32)))]) rfl ?_
            show Steps p.tables e below (T33.setTop (mkF m 98 #[.val (.int x1), .val (.int x2), .val (.int x3), .val (.int (((x1 &&& (2147483647 : Int32)) % (65536 : Int32)) + (1 : Int32))), .val (.int (((x2 &&& (2147483647 : Int32)) % (32768 : Int32)) + (1 : Int32))), .val (.ref b26), .val (.int (F4 ((((x1 &&& (2147483647 : Int32)) % (65536 : Int32)) + (1 : Int32))) ((((x2 &&& (2147483647 : Int32)) % (32768 : Int32)) + (1 : Int32))))), .val (.int ((F4 ((((x1 &&& (2147483647 : Int32)) % (65536 : Int32)) + (1 : Int32))) ((((x2 &&& (2147483647 : Int32)) % (32768 : Int32)) + (1 : Int32)))) - (1 : Int32)))] [])) _
            refine XS.iload X33.here hx rfl (hb hby at_98) rfl ?_
            show Steps p.tables e below (T33.setTop (mkF m 100 #[.val (.int x1), .val (.int x2), .val (.int x3), .val (.int (((x1 &&& (2147483647 : Int32)) % (65536 : Int32)) + (1 : Int32))), .val (.int (((x2 &&& (2147483647 : Int32)) % (32768 : Int32)) + (1 : Int32))), .val (.ref b26), .val (.int (F4 ((((x1 &&& (2147483647 : Int32)) % (65536 : Int32)) + (1 : Int32))) ((((x2 &&& (2147483647 : Int32)) % (32768 : Int32)) + (1 : Int32))))), .val (.int ((F4 ((((x1 &&& (2147483647 : Int32)) % (65536 : Int32)) + (1 : Int32))) ((((x2 &&& (2147483647 : Int32)) % (32768 : Int32)) + (1 : Int32)))) - (1 : Int32)))] [(.int ((F4 ((((x1 &&& (2147483647 : Int32)) % (65536 : Int32)) + (1 : Int32))) ((((x2 &&& (2147483647 : Int32)) % (32768 : Int32)) + (1 : Int32)))) - (1 : Int32)))])) _
            refine st35 _ ?_
            show Steps p.tables e below (T35.setTop (mkF m 103 #[.val (.int x1), .val (.int x2), .val (.int x3), .val (.int (((x1 &&& (2147483647 : Int32)) % (65536 : Int32)) + (1 : Int32))), .val (.int (((x2 &&& (2147483647 : Int32)) % (32768 : Int32)) + (1 : Int32))), .val (.ref b26), .val (.int (F4 ((((x1 &&& (2147483647 : Int32)) % (65536 : Int32)) + (1 : Int32))) ((((x2 &&& (2147483647 : Int32)) % (32768 : Int32)) + (1 : Int32))))), .val (.int ((F4 ((((x1 &&& (2147483647 : Int32)) % (65536 : Int32)) + (1 : Int32))) ((((x2 &&& (2147483647 : Int32)) % (32768 : Int32)) + (1 : Int32)))) - (1 : Int32)))] [(.int (F5 ((F4 ((((x1 &&& (2147483647 : Int32)) % (65536 : Int32)) + (1 : Int32))) ((((x2 &&& (2147483647 : Int32)) % (32768 : Int32)) + (1 : Int32)))) - (1 : Int32))))])) _
            refine XS.iloadN X35.here hx rfl (hb hby at_103) rfl ?_
            show Steps p.tables e below (T35.setTop (mkF m 104 #[.val (.int x1), .val (.int x2), .val (.int x3), .val (.int (((x1 &&& (2147483647 : Int32)) % (65536 : Int32)) + (1 : Int32))), .val (.int (((x2 &&& (2147483647 : Int32)) % (32768 : Int32)) + (1 : Int32))), .val (.ref b26), .val (.int (F4 ((((x1 &&& (2147483647 : Int32)) % (65536 : Int32)) + (1 : Int32))) ((((x2 &&& (2147483647 : Int32)) % (32768 : Int32)) + (1 : Int32))))), .val (.int ((F4 ((((x1 &&& (2147483647 : Int32)) % (65536 : Int32)) + (1 : Int32))) ((((x2 &&& (2147483647 : Int32)) % (32768 : Int32)) + (1 : Int32)))) - (1 : Int32)))] [(.int (((x1 &&& (2147483647 : Int32)) % (65536 : Int32)) + (1 : Int32))), (.int (F5 ((F4 ((((x1 &&& (2147483647 : Int32)) % (65536 : Int32)) + (1 : Int32))) ((((x2 &&& (2147483647 : Int32)) % (32768 : Int32)) + (1 : Int32)))) - (1 : Int32))))])) _
            refine XS.iconst X35.here hx rfl (hb hby at_104) ?_
            show Steps p.tables e below (T35.setTop (mkF m 105 #[.val (.int x1), .val (.int x2), .val (.int x3), .val (.int (((x1 &&& (2147483647 : Int32)) % (65536 : Int32)) + (1 : Int32))), .val (.int (((x2 &&& (2147483647 : Int32)) % (32768 : Int32)) + (1 : Int32))), .val (.ref b26), .val (.int (F4 ((((x1 &&& (2147483647 : Int32)) % (65536 : Int32)) + (1 : Int32))) ((((x2 &&& (2147483647 : Int32)) % (32768 : Int32)) + (1 : Int32))))), .val (.int ((F4 ((((x1 &&& (2147483647 : Int32)) % (65536 : Int32)) + (1 : Int32))) ((((x2 &&& (2147483647 : Int32)) % (32768 : Int32)) + (1 : Int32)))) - (1 : Int32)))] [(.int (1 : Int32)), (.int (((x1 &&& (2147483647 : Int32)) % (65536 : Int32)) + (1 : Int32))), (.int (F5 ((F4 ((((x1 &&& (2147483647 : Int32)) % (65536 : Int32)) + (1 : Int32))) ((((x2 &&& (2147483647 : Int32)) % (32768 : Int32)) + (1 : Int32)))) - (1 : Int32))))])) _
            refine XS.isub X35.here hx rfl (hb hby at_105) rfl ?_
            show Steps p.tables e below (T35.setTop (mkF m 106 #[.val (.int x1), .val (.int x2), .val (.int x3), .val (.int (((x1 &&& (2147483647 : Int32)) % (65536 : Int32)) + (1 : Int32))), .val (.int (((x2 &&& (2147483647 : Int32)) % (32768 : Int32)) + (1 : Int32))), .val (.ref b26), .val (.int (F4 ((((x1 &&& (2147483647 : Int32)) % (65536 : Int32)) + (1 : Int32))) ((((x2 &&& (2147483647 : Int32)) % (32768 : Int32)) + (1 : Int32))))), .val (.int ((F4 ((((x1 &&& (2147483647 : Int32)) % (65536 : Int32)) + (1 : Int32))) ((((x2 &&& (2147483647 : Int32)) % (32768 : Int32)) + (1 : Int32)))) - (1 : Int32)))] [(.int ((((x1 &&& (2147483647 : Int32)) % (65536 : Int32)) + (1 : Int32)) - (1 : Int32))), (.int (F5 ((F4 ((((x1 &&& (2147483647 : Int32)) % (65536 : Int32)) + (1 : Int32))) ((((x2 &&& (2147483647 : Int32)) % (32768 : Int32)) + (1 : Int32)))) - (1 : Int32))))])) _
            refine XS.icmpNo X35.here hx rfl (hb hby at_106) rfl (teq hb36).2 ?_
            show Steps p.tables e below (T35.setTop (mkF m 109 #[.val (.int x1), .val (.int x2), .val (.int x3), .val (.int (((x1 &&& (2147483647 : Int32)) % (65536 : Int32)) + (1 : Int32))), .val (.int (((x2 &&& (2147483647 : Int32)) % (32768 : Int32)) + (1 : Int32))), .val (.ref b26), .val (.int (F4 ((((x1 &&& (2147483647 : Int32)) % (65536 : Int32)) + (1 : Int32))) ((((x2 &&& (2147483647 : Int32)) % (32768 : Int32)) + (1 : Int32))))), .val (.int ((F4 ((((x1 &&& (2147483647 : Int32)) % (65536 : Int32)) + (1 : Int32))) ((((x2 &&& (2147483647 : Int32)) % (32768 : Int32)) + (1 : Int32)))) - (1 : Int32)))] [])) _
            refine XS.iload X35.here hx rfl (hb hby at_109) rfl ?_
            show Steps p.tables e below (T35.setTop (mkF m 111 #[.val (.int x1), .val (.int x2), .val (.int x3), .val (.int (((x1 &&& (2147483647 : Int32)) % (65536 : Int32)) + (1 : Int32))), .val (.int (((x2 &&& (2147483647 : Int32)) % (32768 : Int32)) + (1 : Int32))), .val (.ref b26), .val (.int (F4 ((((x1 &&& (2147483647 : Int32)) % (65536 : Int32)) + (1 : Int32))) ((((x2 &&& (2147483647 : Int32)) % (32768 : Int32)) + (1 : Int32))))), .val (.int ((F4 ((((x1 &&& (2147483647 : Int32)) % (65536 : Int32)) + (1 : Int32))) ((((x2 &&& (2147483647 : Int32)) % (32768 : Int32)) + (1 : Int32)))) - (1 : Int32)))] [(.int ((F4 ((((x1 &&& (2147483647 : Int32)) % (65536 : Int32)) + (1 : Int32))) ((((x2 &&& (2147483647 : Int32)) % (32768 : Int32)) + (1 : Int32)))) - (1 : Int32)))])) _
            refine st37 _ ?_
            show Steps p.tables e below (T37.setTop (mkF m 114 #[.val (.int x1), .val (.int x2), .val (.int x3), .val (.int (((x1 &&& (2147483647 : Int32)) % (65536 : Int32)) + (1 : Int32))), .val (.int (((x2 &&& (2147483647 : Int32)) % (32768 : Int32)) + (1 : Int32))), .val (.ref b26), .val (.int (F4 ((((x1 &&& (2147483647 : Int32)) % (65536 : Int32)) + (1 : Int32))) ((((x2 &&& (2147483647 : Int32)) % (32768 : Int32)) + (1 : Int32))))), .val (.int ((F4 ((((x1 &&& (2147483647 : Int32)) % (65536 : Int32)) + (1 : Int32))) ((((x2 &&& (2147483647 : Int32)) % (32768 : Int32)) + (1 : Int32)))) - (1 : Int32)))] [(.int (F6 ((F4 ((((x1 &&& (2147483647 : Int32)) % (65536 : Int32)) + (1 : Int32))) ((((x2 &&& (2147483647 : Int32)) % (32768 : Int32)) + (1 : Int32)))) - (1 : Int32))))])) _
            refine XS.iload X37.here hx rfl (hb hby at_114) rfl ?_
            show Steps p.tables e below (T37.setTop (mkF m 116 #[.val (.int x1), .val (.int x2), .val (.int x3), .val (.int (((x1 &&& (2147483647 : Int32)) % (65536 : Int32)) + (1 : Int32))), .val (.int (((x2 &&& (2147483647 : Int32)) % (32768 : Int32)) + (1 : Int32))), .val (.ref b26), .val (.int (F4 ((((x1 &&& (2147483647 : Int32)) % (65536 : Int32)) + (1 : Int32))) ((((x2 &&& (2147483647 : Int32)) % (32768 : Int32)) + (1 : Int32))))), .val (.int ((F4 ((((x1 &&& (2147483647 : Int32)) % (65536 : Int32)) + (1 : Int32))) ((((x2 &&& (2147483647 : Int32)) % (32768 : Int32)) + (1 : Int32)))) - (1 : Int32)))] [(.int (((x2 &&& (2147483647 : Int32)) % (32768 : Int32)) + (1 : Int32))), (.int (F6 ((F4 ((((x1 &&& (2147483647 : Int32)) % (65536 : Int32)) + (1 : Int32))) ((((x2 &&& (2147483647 : Int32)) % (32768 : Int32)) + (1 : Int32)))) - (1 : Int32))))])) _
            refine XS.iconst X37.here hx rfl (hb hby at_116) ?_
            show Steps p.tables e below (T37.setTop (mkF m 117 #[.val (.int x1), .val (.int x2), .val (.int x3), .val (.int (((x1 &&& (2147483647 : Int32)) % (65536 : Int32)) + (1 : Int32))), .val (.int (((x2 &&& (2147483647 : Int32)) % (32768 : Int32)) + (1 : Int32))), .val (.ref b26), .val (.int (F4 ((((x1 &&& (2147483647 : Int32)) % (65536 : Int32)) + (1 : Int32))) ((((x2 &&& (2147483647 : Int32)) % (32768 : Int32)) + (1 : Int32))))), .val (.int ((F4 ((((x1 &&& (2147483647 : Int32)) % (65536 : Int32)) + (1 : Int32))) ((((x2 &&& (2147483647 : Int32)) % (32768 : Int32)) + (1 : Int32)))) - (1 : Int32)))] [(.int (1 : Int32)), (.int (((x2 &&& (2147483647 : Int32)) % (32768 : Int32)) + (1 : Int32))), (.int (F6 ((F4 ((((x1 &&& (2147483647 : Int32)) % (65536 : Int32)) + (1 : Int32))) ((((x2 &&& (2147483647 : Int32)) % (32768 : Int32)) + (1 : Int32)))) - (1 : Int32))))])) _
            refine XS.isub X37.here hx rfl (hb hby at_117) rfl ?_
            show Steps p.tables e below (T37.setTop (mkF m 118 #[.val (.int x1), .val (.int x2), .val (.int x3), .val (.int (((x1 &&& (2147483647 : Int32)) % (65536 : Int32)) + (1 : Int32))), .val (.int (((x2 &&& (2147483647 : Int32)) % (32768 : Int32)) + (1 : Int32))), .val (.ref b26), .val (.int (F4 ((((x1 &&& (2147483647 : Int32)) % (65536 : Int32)) + (1 : Int32))) ((((x2 &&& (2147483647 : Int32)) % (32768 : Int32)) + (1 : Int32))))), .val (.int ((F4 ((((x1 &&& (2147483647 : Int32)) % (65536 : Int32)) + (1 : Int32))) ((((x2 &&& (2147483647 : Int32)) % (32768 : Int32)) + (1 : Int32)))) - (1 : Int32)))] [(.int ((((x2 &&& (2147483647 : Int32)) % (32768 : Int32)) + (1 : Int32)) - (1 : Int32))), (.int (F6 ((F4 ((((x1 &&& (2147483647 : Int32)) % (65536 : Int32)) + (1 : Int32))) ((((x2 &&& (2147483647 : Int32)) % (32768 : Int32)) + (1 : Int32)))) - (1 : Int32))))])) _
            refine own_dia (u := ((1 : Int32) : Int32)) (v := (0 : Int32)) ((F6 ((F4 ((((x1 &&& (2147483647 : Int32)) % (65536 : Int32)) + (1 : Int32))) ((((x2 &&& (2147483647 : Int32)) % (32768 : Int32)) + (1 : Int32)))) - (1 : Int32))) = ((((x2 &&& (2147483647 : Int32)) % (32768 : Int32)) + (1 : Int32)) - (1 : Int32))) (fun z38 => (mkF m 126 #[.val (.int x1), .val (.int x2), .val (.int x3), .val (.int (((x1 &&& (2147483647 : Int32)) % (65536 : Int32)) + (1 : Int32))), .val (.int (((x2 &&& (2147483647 : Int32)) % (32768 : Int32)) + (1 : Int32))), .val (.ref b26), .val (.int (F4 ((((x1 &&& (2147483647 : Int32)) % (65536 : Int32)) + (1 : Int32))) ((((x2 &&& (2147483647 : Int32)) % (32768 : Int32)) + (1 : Int32))))), .val (.int ((F4 ((((x1 &&& (2147483647 : Int32)) % (65536 : Int32)) + (1 : Int32))) ((((x2 &&& (2147483647 : Int32)) % (32768 : Int32)) + (1 : Int32)))) - (1 : Int32)))] [(.int z38)])) (fun hc38 k38 => ?_) (fun hc38 k38 => ?_) ?_
            · refine XS.icmpNo X37.here hx rfl (hb hby at_118) rfl (teq hc38).2 ?_
              show Steps p.tables e below (T37.setTop (mkF m 121 #[.val (.int x1), .val (.int x2), .val (.int x3), .val (.int (((x1 &&& (2147483647 : Int32)) % (65536 : Int32)) + (1 : Int32))), .val (.int (((x2 &&& (2147483647 : Int32)) % (32768 : Int32)) + (1 : Int32))), .val (.ref b26), .val (.int (F4 ((((x1 &&& (2147483647 : Int32)) % (65536 : Int32)) + (1 : Int32))) ((((x2 &&& (2147483647 : Int32)) % (32768 : Int32)) + (1 : Int32))))), .val (.int ((F4 ((((x1 &&& (2147483647 : Int32)) % (65536 : Int32)) + (1 : Int32))) ((((x2 &&& (2147483647 : Int32)) % (32768 : Int32)) + (1 : Int32)))) - (1 : Int32)))] [])) _
              refine XS.iconst X37.here hx rfl (hb hby at_121) ?_
              show Steps p.tables e below (T37.setTop (mkF m 122 #[.val (.int x1), .val (.int x2), .val (.int x3), .val (.int (((x1 &&& (2147483647 : Int32)) % (65536 : Int32)) + (1 : Int32))), .val (.int (((x2 &&& (2147483647 : Int32)) % (32768 : Int32)) + (1 : Int32))), .val (.ref b26), .val (.int (F4 ((((x1 &&& (2147483647 : Int32)) % (65536 : Int32)) + (1 : Int32))) ((((x2 &&& (2147483647 : Int32)) % (32768 : Int32)) + (1 : Int32))))), .val (.int ((F4 ((((x1 &&& (2147483647 : Int32)) % (65536 : Int32)) + (1 : Int32))) ((((x2 &&& (2147483647 : Int32)) % (32768 : Int32)) + (1 : Int32)))) - (1 : Int32)))] [(.int (1 : Int32))])) _
              refine XS.goto X37.here hx rfl (pc0 := 122) (pc' := 126) rfl (hb hby at_122) (by decide) (by decide) ?_
              exact k38
            · refine XS.icmpYes X37.here hx rfl (pc0 := 118) (pc' := 125) rfl (hb hby at_118) rfl (feq hc38).2 (by decide) (by decide) ?_
              show Steps p.tables e below (T37.setTop (mkF m 125 #[.val (.int x1), .val (.int x2), .val (.int x3), .val (.int (((x1 &&& (2147483647 : Int32)) % (65536 : Int32)) + (1 : Int32))), .val (.int (((x2 &&& (2147483647 : Int32)) % (32768 : Int32)) + (1 : Int32))), .val (.ref b26), .val (.int (F4 ((((x1 &&& (2147483647 : Int32)) % (65536 : Int32)) + (1 : Int32))) ((((x2 &&& (2147483647 : Int32)) % (32768 : Int32)) + (1 : Int32))))), .val (.int ((F4 ((((x1 &&& (2147483647 : Int32)) % (65536 : Int32)) + (1 : Int32))) ((((x2 &&& (2147483647 : Int32)) % (32768 : Int32)) + (1 : Int32)))) - (1 : Int32)))] [])) _
              refine XS.iconst X37.here hx rfl (hb hby at_125) ?_
              exact k38
            -- meets at 126
            show Steps p.tables e below (T37.setTop (mkF m 126 #[.val (.int x1), .val (.int x2), .val (.int x3), .val (.int (((x1 &&& (2147483647 : Int32)) % (65536 : Int32)) + (1 : Int32))), .val (.int (((x2 &&& (2147483647 : Int32)) % (32768 : Int32)) + (1 : Int32))), .val (.ref b26), .val (.int (F4 ((((x1 &&& (2147483647 : Int32)) % (65536 : Int32)) + (1 : Int32))) ((((x2 &&& (2147483647 : Int32)) % (32768 : Int32)) + (1 : Int32))))), .val (.int ((F4 ((((x1 &&& (2147483647 : Int32)) % (65536 : Int32)) + (1 : Int32))) ((((x2 &&& (2147483647 : Int32)) % (32768 : Int32)) + (1 : Int32)))) - (1 : Int32)))] [(.int (if (F6 ((F4 ((((x1 &&& (2147483647 : Int32)) % (65536 : Int32)) + (1 : Int32))) ((((x2 &&& (2147483647 : Int32)) % (32768 : Int32)) + (1 : Int32)))) - (1 : Int32))) = ((((x2 &&& (2147483647 : Int32)) % (32768 : Int32)) + (1 : Int32)) - (1 : Int32)) then (1 : Int32) else (0 : Int32)))])) _
            exact retN X37 hx (t := .boolean) Bd.returns (by simp) (hb hby at_126) (by rw [own_nb (own_b01 (Or.inr rfl) (Or.inl rfl))]; exact hr)
          · show Q0 Z x1 x2 x3 h0 n0 _ T37.heap _
            rw [e37]
            exact ⟨(congrArg (fun z => some (Value.int z)) (Eq.symm (Eq.trans (if_neg hb1) (Eq.trans (if_neg hb11) (Eq.trans (if_neg hb34) (if_pos hb36)))))), N37⟩
        · obtain ⟨fs, hr, hrun, hended, hW, hsame⟩ := X35.leave (v := some (.int (0 : Int32))) (fun h => by rw [Bd.returns] at h; cases h)
          refine ⟨_, _, pre0 _ ?_, hrun, hended, _, _, rfl, ?_, ⟨_, rfl⟩, hW, hsame.mono (by decide) (by decide)⟩
          · show Steps p.tables e below (s₁.setTop (mkF m 0 #[.val (.int x1), .val (.int x2), .val (.int x3), .unset, .unset, .unset, .unset, .unset] [])) _
            refine XS.iloadN X0.here hx rfl (hb hby at_0) rfl ?_
            show Steps p.tables e below (s₁.setTop (mkF m 1 #[.val (.int x1), .val (.int x2), .val (.int x3), .unset, .unset, .unset, .unset, .unset] [(.int x3)])) _
            refine XS.iconst X0.here hx rfl (hb hby at_1) ?_
            show Steps p.tables e below (s₁.setTop (mkF m 2 #[.val (.int x1), .val (.int x2), .val (.int x3), .unset, .unset, .unset, .unset, .unset] [(.int (3 : Int32)), (.int x3)])) _
            refine XS.iand X0.here hx rfl (hb hby at_2) rfl ?_
            show Steps p.tables e below (s₁.setTop (mkF m 3 #[.val (.int x1), .val (.int x2), .val (.int x3), .unset, .unset, .unset, .unset, .unset] [(.int (x3 &&& (3 : Int32)))])) _
            refine XS.ifYes X0.here hx rfl (pc0 := 3) (pc' := 29) rfl (hb hby at_3) rfl ((if0 _ _).trans (feq hb1).2) (by decide) (by decide) ?_
            show Steps p.tables e below (s₁.setTop (mkF m 29 #[.val (.int x1), .val (.int x2), .val (.int x3), .unset, .unset, .unset, .unset, .unset] [])) _
            refine XS.iloadN X0.here hx rfl (hb hby at_29) rfl ?_
            show Steps p.tables e below (s₁.setTop (mkF m 30 #[.val (.int x1), .val (.int x2), .val (.int x3), .unset, .unset, .unset, .unset, .unset] [(.int x1)])) _
            refine X0.ldcInt hx hown (mvT hZ (hw _ (List.mem_of_getElem? (i := 0) rfl))) (g := (mkF m 30 #[.val (.int x1), .val (.int x2), .val (.int x3), .unset, .unset, .unset, .unset, .unset] [(.int x1)])) rfl (hb hby at_30) _ ?_
            show Steps p.tables e below (s₁.setTop (mkF m 32 #[.val (.int x1), .val (.int x2), .val (.int x3), .unset, .unset, .unset, .unset, .unset] [(.int (2147483647 : Int32)), (.int x1)])) _
            refine XS.iand X0.here hx rfl (hb hby at_32) rfl ?_
            show Steps p.tables e below (s₁.setTop (mkF m 33 #[.val (.int x1), .val (.int x2), .val (.int x3), .unset, .unset, .unset, .unset, .unset] [(.int (x1 &&& (2147483647 : Int32)))])) _
            refine X0.ldcInt hx hown (mvT hZ (hw _ (List.mem_of_getElem? (i := 1) rfl))) (g := (mkF m 33 #[.val (.int x1), .val (.int x2), .val (.int x3), .unset, .unset, .unset, .unset, .unset] [(.int (x1 &&& (2147483647 : Int32)))])) rfl (hb hby at_33) _ ?_
            show Steps p.tables e below (s₁.setTop (mkF m 35 #[.val (.int x1), .val (.int x2), .val (.int x3), .unset, .unset, .unset, .unset, .unset] [(.int (65536 : Int32)), (.int (x1 &&& (2147483647 : Int32)))])) _
            refine iremM X0 hx rfl (hb hby at_35) rfl (by decide) ?_
            show Steps p.tables e below (s₁.setTop (mkF m 36 #[.val (.int x1), .val (.int x2), .val (.int x3), .unset, .unset, .unset, .unset, .unset] [(.int ((x1 &&& (2147483647 : Int32)) % (65536 : Int32)))])) _
            refine XS.iconst X0.here hx rfl (hb hby at_36) ?_
            show Steps p.tables e below (s₁.setTop (mkF m 37 #[.val (.int x1), .val (.int x2), .val (.int x3), .unset, .unset, .unset, .unset, .unset] [(.int (1 : Int32)), (.int ((x1 &&& (2147483647 : Int32)) % (65536 : Int32)))])) _
            refine XS.iadd X0.here hx rfl (hb hby at_37) rfl ?_
            show Steps p.tables e below (s₁.setTop (mkF m 38 #[.val (.int x1), .val (.int x2), .val (.int x3), .unset, .unset, .unset, .unset, .unset] [(.int (((x1 &&& (2147483647 : Int32)) % (65536 : Int32)) + (1 : Int32)))])) _
            refine XS.istoreN X0.here hx rfl (hb hby at_38) rfl (l' := #[.val (.int x1), .val (.int x2), .val (.int x3), .val (.int (((x1 &&& (2147483647 : Int32)) % (65536 : Int32)) + (1 : Int32))), .unset, .unset, .unset, .unset]) rfl ?_
            show Steps p.tables e below (s₁.setTop (mkF m 39 #[.val (.int x1), .val (.int x2), .val (.int x3), .val (.int (((x1 &&& (2147483647 : Int32)) % (65536 : Int32)) + (1 : Int32))), .unset, .unset, .unset, .unset] [])) _
            refine XS.iloadN X0.here hx rfl (hb hby at_39) rfl ?_
            show Steps p.tables e below (s₁.setTop (mkF m 40 #[.val (.int x1), .val (.int x2), .val (.int x3), .val (.int (((x1 &&& (2147483647 : Int32)) % (65536 : Int32)) + (1 : Int32))), .unset, .unset, .unset, .unset] [(.int x2)])) _
            refine X0.ldcInt hx hown (mvT hZ (hw _ (List.mem_of_getElem? (i := 0) rfl))) (g := (mkF m 40 #[.val (.int x1), .val (.int x2), .val (.int x3), .val (.int (((x1 &&& (2147483647 : Int32)) % (65536 : Int32)) + (1 : Int32))), .unset, .unset, .unset, .unset] [(.int x2)])) rfl (hb hby at_40) _ ?_
            show Steps p.tables e below (s₁.setTop (mkF m 42 #[.val (.int x1), .val (.int x2), .val (.int x3), .val (.int (((x1 &&& (2147483647 : Int32)) % (65536 : Int32)) + (1 : Int32))), .unset, .unset, .unset, .unset] [(.int (2147483647 : Int32)), (.int x2)])) _
            refine XS.iand X0.here hx rfl (hb hby at_42) rfl ?_
            show Steps p.tables e below (s₁.setTop (mkF m 43 #[.val (.int x1), .val (.int x2), .val (.int x3), .val (.int (((x1 &&& (2147483647 : Int32)) % (65536 : Int32)) + (1 : Int32))), .unset, .unset, .unset, .unset] [(.int (x2 &&& (2147483647 : Int32)))])) _
            refine X0.ldcInt hx hown (mvT hZ (hw _ (List.mem_of_getElem? (i := 2) rfl))) (g := (mkF m 43 #[.val (.int x1), .val (.int x2), .val (.int x3), .val (.int (((x1 &&& (2147483647 : Int32)) % (65536 : Int32)) + (1 : Int32))), .unset, .unset, .unset, .unset] [(.int (x2 &&& (2147483647 : Int32)))])) rfl (hb hby at_43) _ ?_
            show Steps p.tables e below (s₁.setTop (mkF m 45 #[.val (.int x1), .val (.int x2), .val (.int x3), .val (.int (((x1 &&& (2147483647 : Int32)) % (65536 : Int32)) + (1 : Int32))), .unset, .unset, .unset, .unset] [(.int (32768 : Int32)), (.int (x2 &&& (2147483647 : Int32)))])) _
            refine iremM X0 hx rfl (hb hby at_45) rfl (by decide) ?_
            show Steps p.tables e below (s₁.setTop (mkF m 46 #[.val (.int x1), .val (.int x2), .val (.int x3), .val (.int (((x1 &&& (2147483647 : Int32)) % (65536 : Int32)) + (1 : Int32))), .unset, .unset, .unset, .unset] [(.int ((x2 &&& (2147483647 : Int32)) % (32768 : Int32)))])) _
            refine XS.iconst X0.here hx rfl (hb hby at_46) ?_
            show Steps p.tables e below (s₁.setTop (mkF m 47 #[.val (.int x1), .val (.int x2), .val (.int x3), .val (.int (((x1 &&& (2147483647 : Int32)) % (65536 : Int32)) + (1 : Int32))), .unset, .unset, .unset, .unset] [(.int (1 : Int32)), (.int ((x2 &&& (2147483647 : Int32)) % (32768 : Int32)))])) _
            refine XS.iadd X0.here hx rfl (hb hby at_47) rfl ?_
            show Steps p.tables e below (s₁.setTop (mkF m 48 #[.val (.int x1), .val (.int x2), .val (.int x3), .val (.int (((x1 &&& (2147483647 : Int32)) % (65536 : Int32)) + (1 : Int32))), .unset, .unset, .unset, .unset] [(.int (((x2 &&& (2147483647 : Int32)) % (32768 : Int32)) + (1 : Int32)))])) _
            refine XS.istore X0.here hx rfl (hb hby at_48) rfl (l' := #[.val (.int x1), .val (.int x2), .val (.int x3), .val (.int (((x1 &&& (2147483647 : Int32)) % (65536 : Int32)) + (1 : Int32))), .val (.int (((x2 &&& (2147483647 : Int32)) % (32768 : Int32)) + (1 : Int32))), .unset, .unset, .unset]) rfl ?_
            show Steps p.tables e below (s₁.setTop (mkF m 50 #[.val (.int x1), .val (.int x2), .val (.int x3), .val (.int (((x1 &&& (2147483647 : Int32)) % (65536 : Int32)) + (1 : Int32))), .val (.int (((x2 &&& (2147483647 : Int32)) % (32768 : Int32)) + (1 : Int32))), .unset, .unset, .unset] [])) _
            refine XS.iloadN X0.here hx rfl (hb hby at_50) rfl ?_
            show Steps p.tables e below (s₁.setTop (mkF m 51 #[.val (.int x1), .val (.int x2), .val (.int x3), .val (.int (((x1 &&& (2147483647 : Int32)) % (65536 : Int32)) + (1 : Int32))), .val (.int (((x2 &&& (2147483647 : Int32)) % (32768 : Int32)) + (1 : Int32))), .unset, .unset, .unset] [(.int (((x1 &&& (2147483647 : Int32)) % (65536 : Int32)) + (1 : Int32)))])) _
            refine X0.ldcInt hx hown (mvT hZ (hw _ (List.mem_of_getElem? (i := 1) rfl))) (g := (mkF m 51 #[.val (.int x1), .val (.int x2), .val (.int x3), .val (.int (((x1 &&& (2147483647 : Int32)) % (65536 : Int32)) + (1 : Int32))), .val (.int (((x2 &&& (2147483647 : Int32)) % (32768 : Int32)) + (1 : Int32))), .unset, .unset, .unset] [(.int (((x1 &&& (2147483647 : Int32)) % (65536 : Int32)) + (1 : Int32)))])) rfl (hb hby at_51) _ ?_
            show Steps p.tables e below (s₁.setTop (mkF m 53 #[.val (.int x1), .val (.int x2), .val (.int x3), .val (.int (((x1 &&& (2147483647 : Int32)) % (65536 : Int32)) + (1 : Int32))), .val (.int (((x2 &&& (2147483647 : Int32)) % (32768 : Int32)) + (1 : Int32))), .unset, .unset, .unset] [(.int (65536 : Int32)), (.int (((x1 &&& (2147483647 : Int32)) % (65536 : Int32)) + (1 : Int32)))])) _
            refine XS.icmpYes X0.here hx rfl (pc0 := 53) (pc' := 65) rfl (hb hby at_53) rfl (feq hb11).2 (by decide) (by decide) ?_
            show Steps p.tables e below (s₁.setTop (mkF m 65 #[.val (.int x1), .val (.int x2), .val (.int x3), .val (.int (((x1 &&& (2147483647 : Int32)) % (65536 : Int32)) + (1 : Int32))), .val (.int (((x2 &&& (2147483647 : Int32)) % (32768 : Int32)) + (1 : Int32))), .unset, .unset, .unset] [])) _
            refine st26 _ ?_
            show Steps p.tables e below (T26.setTop (mkF m 68 #[.val (.int x1), .val (.int x2), .val (.int x3), .val (.int (((x1 &&& (2147483647 : Int32)) % (65536 : Int32)) + (1 : Int32))), .val (.int (((x2 &&& (2147483647 : Int32)) % (32768 : Int32)) + (1 : Int32))), .unset, .unset, .unset] [(.ref b26)])) _
            refine XS.dup X26.here hx rfl (hb hby at_68) rfl rfl ?_
            show Steps p.tables e below (T26.setTop (mkF m 69 #[.val (.int x1), .val (.int x2), .val (.int x3), .val (.int (((x1 &&& (2147483647 : Int32)) % (65536 : Int32)) + (1 : Int32))), .val (.int (((x2 &&& (2147483647 : Int32)) % (32768 : Int32)) + (1 : Int32))), .unset, .unset, .unset] [(.ref b26), (.ref b26)])) _
            refine XS.iloadN X26.here hx rfl (hb hby at_69) rfl ?_
            show Steps p.tables e below (T26.setTop (mkF m 70 #[.val (.int x1), .val (.int x2), .val (.int x3), .val (.int (((x1 &&& (2147483647 : Int32)) % (65536 : Int32)) + (1 : Int32))), .val (.int (((x2 &&& (2147483647 : Int32)) % (32768 : Int32)) + (1 : Int32))), .unset, .unset, .unset] [(.int (((x1 &&& (2147483647 : Int32)) % (65536 : Int32)) + (1 : Int32))), (.ref b26), (.ref b26)])) _
            refine XS.iload X26.here hx rfl (hb hby at_70) rfl ?_
            show Steps p.tables e below (T26.setTop (mkF m 72 #[.val (.int x1), .val (.int x2), .val (.int x3), .val (.int (((x1 &&& (2147483647 : Int32)) % (65536 : Int32)) + (1 : Int32))), .val (.int (((x2 &&& (2147483647 : Int32)) % (32768 : Int32)) + (1 : Int32))), .unset, .unset, .unset] [(.int (((x2 &&& (2147483647 : Int32)) % (32768 : Int32)) + (1 : Int32))), (.int (((x1 &&& (2147483647 : Int32)) % (65536 : Int32)) + (1 : Int32))), (.ref b26), (.ref b26)])) _
            refine st28.trans ?_
            show Steps p.tables e below (T28.setTop (mkF m 75 #[.val (.int x1), .val (.int x2), .val (.int x3), .val (.int (((x1 &&& (2147483647 : Int32)) % (65536 : Int32)) + (1 : Int32))), .val (.int (((x2 &&& (2147483647 : Int32)) % (32768 : Int32)) + (1 : Int32))), .unset, .unset, .unset] [(.ref b26)])) _
            refine XS.astore X28.here hx rfl (hb hby at_75) rfl rfl (l' := #[.val (.int x1), .val (.int x2), .val (.int x3), .val (.int (((x1 &&& (2147483647 : Int32)) % (65536 : Int32)) + (1 : Int32))), .val (.int (((x2 &&& (2147483647 : Int32)) % (32768 : Int32)) + (1 : Int32))), .val (.ref b26), .unset, .unset]) rfl ?_
            show Steps p.tables e below (T28.setTop (mkF m 77 #[.val (.int x1), .val (.int x2), .val (.int x3), .val (.int (((x1 &&& (2147483647 : Int32)) % (65536 : Int32)) + (1 : Int32))), .val (.int (((x2 &&& (2147483647 : Int32)) % (32768 : Int32)) + (1 : Int32))), .val (.ref b26), .unset, .unset] [])) _
            refine XS.aload X28.here hx rfl (hb hby at_77) rfl rfl ?_
            show Steps p.tables e below (T28.setTop (mkF m 79 #[.val (.int x1), .val (.int x2), .val (.int x3), .val (.int (((x1 &&& (2147483647 : Int32)) % (65536 : Int32)) + (1 : Int32))), .val (.int (((x2 &&& (2147483647 : Int32)) % (32768 : Int32)) + (1 : Int32))), .val (.ref b26), .unset, .unset] [(.ref b26)])) _
            refine st33.trans ?_
            show Steps p.tables e below (T33.setTop (mkF m 82 #[.val (.int x1), .val (.int x2), .val (.int x3), .val (.int (((x1 &&& (2147483647 : Int32)) % (65536 : Int32)) + (1 : Int32))), .val (.int (((x2 &&& (2147483647 : Int32)) % (32768 : Int32)) + (1 : Int32))), .val (.ref b26), .unset, .unset] [(.int (F4 ((((x1 &&& (2147483647 : Int32)) % (65536 : Int32)) + (1 : Int32))) ((((x2 &&& (2147483647 : Int32)) % (32768 : Int32)) + (1 : Int32)))))])) _
            refine XS.istore X33.here hx rfl (hb hby at_82) rfl (l' := #[.val (.int x1), .val (.int x2), .val (.int x3), .val (.int (((x1 &&& (2147483647 : Int32)) % (65536 : Int32)) + (1 : Int32))), .val (.int (((x2 &&& (2147483647 : Int32)) % (32768 : Int32)) + (1 : Int32))), .val (.ref b26), .val (.int (F4 ((((x1 &&& (2147483647 : Int32)) % (65536 : Int32)) + (1 : Int32))) ((((x2 &&& (2147483647 : Int32)) % (32768 : Int32)) + (1 : Int32))))), .unset]) rfl ?_
            show Steps p.tables e below (T33.setTop (mkF m 84 #[.val (.int x1), .val (.int x2), .val (.int x3), .val (.int (((x1 &&& (2147483647 : Int32)) % (65536 : Int32)) + (1 : Int32))), .val (.int (((x2 &&& (2147483647 : Int32)) % (32768 : Int32)) + (1 : Int32))), .val (.ref b26), .val (.int (F4 ((((x1 &&& (2147483647 : Int32)) % (65536 : Int32)) + (1 : Int32))) ((((x2 &&& (2147483647 : Int32)) % (32768 : Int32)) + (1 : Int32))))), .unset] [])) _
            refine XS.iload X33.here hx rfl (hb hby at_84) rfl ?_
            show Steps p.tables e below (T33.setTop (mkF m 86 #[.val (.int x1), .val (.int x2), .val (.int x3), .val (.int (((x1 &&& (2147483647 : Int32)) % (65536 : Int32)) + (1 : Int32))), .val (.int (((x2 &&& (2147483647 : Int32)) % (32768 : Int32)) + (1 : Int32))), .val (.ref b26), .val (.int (F4 ((((x1 &&& (2147483647 : Int32)) % (65536 : Int32)) + (1 : Int32))) ((((x2 &&& (2147483647 : Int32)) % (32768 : Int32)) + (1 : Int32))))), .unset] [(.int (F4 ((((x1 &&& (2147483647 : Int32)) % (65536 : Int32)) + (1 : Int32))) ((((x2 &&& (2147483647 : Int32)) % (32768 : Int32)) + (1 : Int32)))))])) _
            refine XS.iconst X33.here hx rfl (hb hby at_86) ?_
            show Steps p.tables e below (T33.setTop (mkF m 87 #[.val (.int x1), .val (.int x2), .val (.int x3), .val (.int (((x1 &&& (2147483647 : Int32)) % (65536 : Int32)) + (1 : Int32))), .val (.int (((x2 &&& (2147483647 : Int32)) % (32768 : Int32)) + (1 : Int32))), .val (.ref b26), .val (.int (F4 ((((x1 &&& (2147483647 : Int32)) % (65536 : Int32)) + (1 : Int32))) ((((x2 &&& (2147483647 : Int32)) % (32768 : Int32)) + (1 : Int32))))), .unset] [(.int (1 : Int32)), (.int (F4 ((((x1 &&& (2147483647 : Int32)) % (65536 : Int32)) + (1 : Int32))) ((((x2 &&& (2147483647 : Int32)) % (32768 : Int32)) + (1 : Int32)))))])) _
            refine XS.icmpYes X33.here hx rfl (pc0 := 87) (pc' := 92) rfl (hb hby at_87) rfl (flt hb34).2.1 (by decide) (by decide) ?_
            show Steps p.tables e below (T33.setTop (mkF m 92 #[.val (.int x1), .val (.int x2), .val (.int x3), .val (.int (((x1 &&& (2147483647 : Int32)) % (65536 : Int32)) + (1 : Int32))), .val (.int (((x2 &&& (2147483647 : Int32)) % (32768 : Int32)) + (1 : Int32))), .val (.ref b26), .val (.int (F4 ((((x1 &&& (2147483647 : Int32)) % (65536 : Int32)) + (1 : Int32))) ((((x2 &&& (2147483647 : Int32)) % (32768 : Int32)) + (1 : Int32))))), .unset] [])) _
            refine XS.iload X33.here hx rfl (hb hby at_92) rfl ?_
            show Steps p.tables e below (T33.setTop (mkF m 94 #[.val (.int x1), .val (.int x2), .val (.int x3), .val (.int (((x1 &&& (2147483647 : Int32)) % (65536 : Int32)) + (1 : Int32))), .val (.int (((x2 &&& (2147483647 : Int32)) % (32768 : Int32)) + (1 : Int32))), .val (.ref b26), .val (.int (F4 ((((x1 &&& (2147483647 : Int32)) % (65536 : Int32)) + (1 : Int32))) ((((x2 &&& (2147483647 : Int32)) % (32768 : Int32)) + (1 : Int32))))), .unset] [(.int (F4 ((((x1 &&& (2147483647 : Int32)) % (65536 : Int32)) + (1 : Int32))) ((((x2 &&& (2147483647 : Int32)) % (32768 : Int32)) + (1 : Int32)))))])) _
            refine XS.iconst X33.here hx rfl (hb hby at_94) ?_
            show Steps p.tables e below (T33.setTop (mkF m 95 #[.val (.int x1), .val (.int x2), .val (.int x3), .val (.int (((x1 &&& (2147483647 : Int32)) % (65536 : Int32)) + (1 : Int32))), .val (.int (((x2 &&& (2147483647 : Int32)) % (32768 : Int32)) + (1 : Int32))), .val (.ref b26), .val (.int (F4 ((((x1 &&& (2147483647 : Int32)) % (65536 : Int32)) + (1 : Int32))) ((((x2 &&& (2147483647 : Int32)) % (32768 : Int32)) + (1 : Int32))))), .unset] [(.int (1 : Int32)), (.int (F4 ((((x1 &&& (2147483647 : Int32)) % (65536 : Int32)) + (1 : Int32))) ((((x2 &&& (2147483647 : Int32)) % (32768 : Int32)) + (1 : Int32)))))])) _
            refine XS.isub X33.here hx rfl (hb hby at_95) rfl ?_
            show Steps p.tables e below (T33.setTop (mkF m 96 #[.val (.int x1), .val (.int x2), .val (.int x3), .val (.int (((x1 &&& (2147483647 : Int32)) % (65536 : Int32)) + (1 : Int32))), .val (.int (((x2 &&& (2147483647 : Int32)) % (32768 : Int32)) + (1 : Int32))), .val (.ref b26), .val (.int (F4 ((((x1 &&& (2147483647 : Int32)) % (65536 : Int32)) + (1 : Int32))) ((((x2 &&& (2147483647 : Int32)) % (32768 : Int32)) + (1 : Int32))))), .unset] [(.int ((F4 ((((x1 &&& (2147483647 : Int32)) % (65536 : Int32)) + (1 : Int32))) ((((x2 &&& (2147483647 : Int32)) % (32768 : Int32)) + (1 : Int32)))) - (1 : Int32)))])) _
            refine XS.istore X33.here hx rfl (hb hby at_96) rfl (l' := #[.val (.int x1), .val (.int x2), .val (.int x3), .val (.int (((x1 &&& (2147483647 : Int32)) % (65536 : Int32)) + (1 : Int32))), .val (.int (((x2 &&& (2147483647 : Int32)) % (32768 : Int32)) + (1 : Int32))), .val (.ref b26), .val (.int (F4 ((((x1 &&& (2147483647 : Int32)) % (65536 : Int32)) + (1 : Int32))) ((((x2 &&& (2147483647 : Int32)) % (32768 : Int32)) + (1 : Int32))))), .val (.int ((F4 ((((x1 &&& (2147483647 : Int32)) % (65536 : Int32)) + (1 : Int32))) ((((x2 &&& (2147483647 : Int32)) % (32768 : Int32)) + (1 : Int32)))) - (1 : Int32)))]) rfl ?_
            show Steps p.tables e below (T33.setTop (mkF m 98 #[.val (.int x1), .val (.int x2), .val (.int x3), .val (.int (((x1 &&& (2147483647 : Int32)) % (65536 : Int32)) + (1 : Int32))), .val (.int (((x2 &&& (2147483647 : Int32)) % (32768 : Int32)) + (1 : Int32))), .val (.ref b26), .val (.int (F4 ((((x1 &&& (2147483647 : Int32)) % (65536 : Int32)) + (1 : Int32))) ((((x2 &&& (2147483647 : Int32)) % (32768 : Int32)) + (1 : Int32))))), .val (.int ((F4 ((((x1 &&& (2147483647 : Int32)) % (65536 : Int32)) + (1 : Int32))) ((((x2 &&& (2147483647 : Int32)) % (32768 : Int32)) + (1 : Int32)))) - (1 : Int32)))] [])) _
            refine XS.iload X33.here hx rfl (hb hby at_98) rfl ?_
            show Steps p.tables e below (T33.setTop (mkF m 100 #[.val (.int x1), .val (.int x2), .val (.int x3), .val (.int (((x1 &&& (2147483647 : Int32)) % (65536 : Int32)) + (1 : Int32))), .val (.int (((x2 &&& (2147483647 : Int32)) % (32768 : Int32)) + (1 : Int32))), .val (.ref b26), .val (.int (F4 ((((x1 &&& (2147483647 : Int32)) % (65536 : Int32)) + (1 : Int32))) ((((x2 &&& (2147483647 : Int32)) % (32768 : Int32)) + (1 : Int32))))), .val (.int ((F4 ((((x1 &&& (2147483647 : Int32)) % (65536 : Int32)) + (1 : Int32))) ((((x2 &&& (2147483647 : Int32)) % (32768 : Int32)) + (1 : Int32)))) - (1 : Int32)))] [(.int ((F4 ((((x1 &&& (2147483647 : Int32)) % (65536 : Int32)) + (1 : Int32))) ((((x2 &&& (2147483647 : Int32)) % (32768 : Int32)) + (1 : Int32)))) - (1 : Int32)))])) _
            refine st35 _ ?_
            show Steps p.tables e below (T35.setTop (mkF m 103 #[.val (.int x1), .val (.int x2), .val (.int x3), .val (.int (((x1 &&& (2147483647 : Int32)) % (65536 : Int32)) + (1 : Int32))), .val (.int (((x2 &&& (2147483647 : Int32)) % (32768 : Int32)) + (1 : Int32))), .val (.ref b26), .val (.int (F4 ((((x1 &&& (2147483647 : Int32)) % (65536 : Int32)) + (1 : Int32))) ((((x2 &&& (2147483647 : Int32)) % (32768 : Int32)) + (1 : Int32))))), .val (.int ((F4 ((((x1 &&& (2147483647 : Int32)) % (65536 : Int32)) + (1 : Int32))) ((((x2 &&& (2147483647 : Int32)) % (32768 : Int32)) + (1 : Int32)))) - (1 : Int32)))] [(.int (F5 ((F4 ((((x1 &&& (2147483647 : Int32)) % (65536 : Int32)) + (1 : Int32))) ((((x2 &&& (2147483647 : Int32)) % (32768 : Int32)) + (1 : Int32)))) - (1 : Int32))))])) _
            refine XS.iloadN X35.here hx rfl (hb hby at_103) rfl ?_
            show Steps p.tables e below (T35.setTop (mkF m 104 #[.val (.int x1), .val (.int x2), .val (.int x3), .val (.int (((x1 &&& (2147483647 : Int32)) % (65536 : Int32)) + (1 : Int32))), .val (.int (((x2 &&& (2147483647 : Int32)) % (32768 : Int32)) + (1 : Int32))), .val (.ref b26), .val (.int (F4 ((((x1 &&& (2147483647 : Int32)) % (65536 : Int32)) + (1 : Int32))) ((((x2 &&& (2147483647 : Int32)) % (32768 : Int32)) + (1 : Int32))))), .val (.int ((F4 ((((x1 &&& (2147483647 : Int32)) % (65536 : Int32)) + (1 : Int32))) ((((x2 &&& (2147483647 : Int32)) % (32768 : Int32)) + (1 : Int32)))) - (1 : Int32)))] [(.int (((x1 &&& (2147483647 : Int32)) % (65536 : Int32)) + (1 : Int32))), (.int (F5 ((F4 ((((x1 &&& (2147483647 : Int32)) % (65536 : Int32)) + (1 : Int32))) ((((x2 &&& (2147483647 : Int32)) % (32768 : Int32)) + (1 : Int32)))) - (1 : Int32))))])) _
            refine XS.iconst X35.here hx rfl (hb hby at_104) ?_
            show Steps p.tables e below (T35.setTop (mkF m 105 #[.val (.int x1), .val (.int x2), .val (.int x3), .val (.int (((x1 &&& (2147483647 : Int32)) % (65536 : Int32)) + (1 : Int32))), .val (.int (((x2 &&& (2147483647 : Int32)) % (32768 : Int32)) + (1 : Int32))), .val (.ref b26), .val (.int (F4 ((((x1 &&& (2147483647 : Int32)) % (65536 : Int32)) + (1 : Int32))) ((((x2 &&& (2147483647 : Int32)) % (32768 : Int32)) + (1 : Int32))))), .val (.int ((F4 ((((x1 &&& (2147483647 : Int32)) % (65536 : Int32)) + (1 : Int32))) ((((x2 &&& (2147483647 : Int32)) % (32768 : Int32)) + (1 : Int32)))) - (1 : Int32)))] [(.int (1 : Int32)), (.int (((x1 &&& (2147483647 : Int32)) % (65536 : Int32)) + (1 : Int32))), (.int (F5 ((F4 ((((x1 &&& (2147483647 : Int32)) % (65536 : Int32)) + (1 : Int32))) ((((x2 &&& (2147483647 : Int32)) % (32768 : Int32)) + (1 : Int32)))) - (1 : Int32))))])) _
            refine XS.isub X35.here hx rfl (hb hby at_105) rfl ?_
            show Steps p.tables e below (T35.setTop (mkF m 106 #[.val (.int x1), .val (.int x2), .val (.int x3), .val (.int (((x1 &&& (2147483647 : Int32)) % (65536 : Int32)) + (1 : Int32))), .val (.int (((x2 &&& (2147483647 : Int32)) % (32768 : Int32)) + (1 : Int32))), .val (.ref b26), .val (.int (F4 ((((x1 &&& (2147483647 : Int32)) % (65536 : Int32)) + (1 : Int32))) ((((x2 &&& (2147483647 : Int32)) % (32768 : Int32)) + (1 : Int32))))), .val (.int ((F4 ((((x1 &&& (2147483647 : Int32)) % (65536 : Int32)) + (1 : Int32))) ((((x2 &&& (2147483647 : Int32)) % (32768 : Int32)) + (1 : Int32)))) - (1 : Int32)))] [(.int ((((x1 &&& (2147483647 : Int32)) % (65536 : Int32)) + (1 : Int32)) - (1 : Int32))), (.int (F5 ((F4 ((((x1 &&& (2147483647 : Int32)) % (65536 : Int32)) + (1 : Int32))) ((((x2 &&& (2147483647 : Int32)) % (32768 : Int32)) + (1 : Int32)))) - (1 : Int32))))])) _
            refine XS.icmpYes X35.here hx rfl (pc0 := 106) (pc' := 125) rfl (hb hby at_106) rfl (feq hb36).2 (by decide) (by decide) ?_
            show Steps p.tables e below (T35.setTop (mkF m 125 #[.val (.int x1), .val (.int x2), .val (.int x3), .val (.int (((x1 &&& (2147483647 : Int32)) % (65536 : Int32)) + (1 : Int32))), .val (.int (((x2 &&& (2147483647 : Int32)) % (32768 : Int32)) + (1 : Int32))), .val (.ref b26), .val (.int (F4 ((((x1 &&& (2147483647 : Int32)) % (65536 : Int32)) + (1 : Int32))) ((((x2 &&& (2147483647 : Int32)) % (32768 : Int32)) + (1 : Int32))))), .val (.int ((F4 ((((x1 &&& (2147483647 : Int32)) % (65536 : Int32)) + (1 : Int32))) ((((x2 &&& (2147483647 : Int32)) % (32768 : Int32)) + (1 : Int32)))) - (1 : Int32)))] [])) _
            refine XS.iconst X35.here hx rfl (hb hby at_125) ?_
            show Steps p.tables e below (T35.setTop (mkF m 126 #[.val (.int x1), .val (.int x2), .val (.int x3), .val (.int (((x1 &&& (2147483647 : Int32)) % (65536 : Int32)) + (1 : Int32))), .val (.int (((x2 &&& (2147483647 : Int32)) % (32768 : Int32)) + (1 : Int32))), .val (.ref b26), .val (.int (F4 ((((x1 &&& (2147483647 : Int32)) % (65536 : Int32)) + (1 : Int32))) ((((x2 &&& (2147483647 : Int32)) % (32768 : Int32)) + (1 : Int32))))), .val (.int ((F4 ((((x1 &&& (2147483647 : Int32)) % (65536 : Int32)) + (1 : Int32))) ((((x2 &&& (2147483647 : Int32)) % (32768 : Int32)) + (1 : Int32)))) - (1 : Int32)))] [(.int (0 : Int32))])) _
            exact retN X35 hx (t := .boolean) Bd.returns (by simp) (hb hby at_126) hr
          · show Q0 Z x1 x2 x3 h0 n0 _ T35.heap _
            rw [e35]
            exact ⟨(congrArg (fun z => some (Value.int z)) (Eq.symm (Eq.trans (if_neg hb1) (Eq.trans (if_neg hb11) (Eq.trans (if_neg hb34) (if_neg hb36)))))), N35⟩

theorem own_core {c l : Int32} (c1 : 1 ≤ c.toInt) (c2 : c.toInt ≤ 65536) (l1 : 1 ≤ l.toInt) (l2 : l.toInt ≤ 32768) (hn : ¬ (c.toInt = 65536 ∧ l.toInt = 32768)) :
    ¬ F4 c l < (1 : Int32) ∧ F5 (F4 c l - (1 : Int32)) = c - (1 : Int32) ∧ F6 (F4 c l - (1 : Int32)) = l - (1 : Int32) := by
  have k1 : (1 : Int32).toInt = 1 := rfl
  have k0 : (0 : Int32).toInt = 0 := rfl
  have kb : (32768 : Int32).toInt = 32768 := rfl
  have hc : ¬ c = 0 := by rw [← Int32.toInt_inj, k0]; omega
  have a1 : (c - (1 : Int32)).toInt = c.toInt - (1 : Int32).toInt := Jvm.Kit.i32_sub (by rw [k1]; omega) (by rw [k1]; omega)
  rw [k1] at a1
  have a2 : ((c - (1 : Int32)) * (32768 : Int32)).toInt = (c - (1 : Int32)).toInt * (32768 : Int32).toInt := Jvm.Kit.i32_mul (by rw [kb]; omega) (by rw [kb]; omega)
  rw [kb, a1] at a2
  have a3 : (((c - (1 : Int32)) * (32768 : Int32)) + l).toInt = ((c - (1 : Int32)) * (32768 : Int32)).toInt + l.toInt := Jvm.Kit.i32_add (by omega) (by omega)
  have e : F4 c l = ((c - (1 : Int32)) * (32768 : Int32)) + l := if_neg hc
  rw [← e, a2] at a3
  generalize F4 c l = r at a3 ⊢
  have a4 : (r - (1 : Int32)).toInt = r.toInt - (1 : Int32).toInt := Jvm.Kit.i32_sub (by rw [k1]; omega) (by rw [k1]; omega)
  rw [k1] at a4
  have a5 : (l - (1 : Int32)).toInt = l.toInt - (1 : Int32).toInt := Jvm.Kit.i32_sub (by rw [k1]; omega) (by rw [k1]; omega)
  rw [k1] at a5
  have a6 : (F5 (r - (1 : Int32))).toInt = (r - (1 : Int32)).toInt / 2 ^ 15 := Jvm.Kit.i32_iushr (Jvm.Kit.i32_nonneg.mpr (by omega)) (by decide) (by decide)
  have a7 : (F6 (r - (1 : Int32))).toInt = (r - (1 : Int32)).toInt % 2 ^ 15 := Jvm.Kit.i32_mask _ 32767 (by decide) (by decide)
  refine ⟨?_, ?_, ?_⟩
  · rw [Int32.lt_iff_toInt_lt, k1]; omega
  · rw [← Int32.toInt_inj, a6, a1, a4, a3]; omega
  · rw [← Int32.toInt_inj, a7, a5, a4, a3]; omega
theorem own_c (x1 : Int32) : 1 ≤ (((x1 &&& (2147483647 : Int32)) % (65536 : Int32)) + (1 : Int32)).toInt ∧ (((x1 &&& (2147483647 : Int32)) % (65536 : Int32)) + (1 : Int32)).toInt ≤ 65536 := by
  have e1 : (x1 &&& (2147483647 : Int32)).toInt = x1.toInt % 2 ^ 31 := Jvm.Kit.i32_mask x1 2147483647 (by decide) (by decide)
  have e2 : ((x1 &&& (2147483647 : Int32)) % (65536 : Int32)).toInt = (x1 &&& (2147483647 : Int32)).toInt % (65536 : Int32).toInt := Jvm.Kit.i32_rem_nonneg (by omega)
  have k : (65536 : Int32).toInt = 65536 := rfl
  have k1 : (1 : Int32).toInt = 1 := rfl
  rw [k] at e2
  have e3 := Jvm.Kit.i32_add (p := ((x1 &&& (2147483647 : Int32)) % (65536 : Int32))) (q := (1 : Int32)) (by rw [k1]; omega) (by rw [k1]; omega)
  rw [e3, k1]; omega
theorem own_l (x2 : Int32) : 1 ≤ (((x2 &&& (2147483647 : Int32)) % (32768 : Int32)) + (1 : Int32)).toInt ∧ (((x2 &&& (2147483647 : Int32)) % (32768 : Int32)) + (1 : Int32)).toInt ≤ 32768 := by
  have e1 : (x2 &&& (2147483647 : Int32)).toInt = x2.toInt % 2 ^ 31 := Jvm.Kit.i32_mask x2 2147483647 (by decide) (by decide)
  have e2 : ((x2 &&& (2147483647 : Int32)) % (32768 : Int32)).toInt = (x2 &&& (2147483647 : Int32)).toInt % (32768 : Int32).toInt := Jvm.Kit.i32_rem_nonneg (by omega)
  have k : (32768 : Int32).toInt = 32768 := rfl
  have k1 : (1 : Int32).toInt = 1 := rfl
  rw [k] at e2
  have e3 := Jvm.Kit.i32_add (p := ((x2 &&& (2147483647 : Int32)) % (32768 : Int32))) (q := (1 : Int32)) (by rw [k1]; omega) (by rw [k1]; omega)
  rw [e3, k1]; omega
theorem own_gen (z c l : Int32) (c1 : 1 ≤ c.toInt ∧ c.toInt ≤ 65536) (l1 : 1 ≤ l.toInt ∧ l.toInt ≤ 32768) :
    (if z = (0 : Int32) then (if (F4 (0 : Int32) (0 : Int32)) = (0 : Int32) then (1 : Int32) else (0 : Int32)) else (if c = (65536 : Int32) then (if l = (32768 : Int32) then (1 : Int32) else (if F4 c l < (1 : Int32) then (0 : Int32) else (if F5 (F4 c l - (1 : Int32)) = c - (1 : Int32) then (if F6 (F4 c l - (1 : Int32)) = l - (1 : Int32) then (1 : Int32) else (0 : Int32)) else (0 : Int32)))) else (if F4 c l < (1 : Int32) then (0 : Int32) else (if F5 (F4 c l - (1 : Int32)) = c - (1 : Int32) then (if F6 (F4 c l - (1 : Int32)) = l - (1 : Int32) then (1 : Int32) else (0 : Int32)) else (0 : Int32))))) = 1 := by
  have kc : (65536 : Int32).toInt = 65536 := rfl
  have kl : (32768 : Int32).toInt = 32768 := rfl
  by_cases hz : z = 0
  · rw [if_pos hz]; decide
  · rw [if_neg hz]
    by_cases hc : c = 65536
    · rw [if_pos hc]
      by_cases hl : l = 32768
      · rw [if_pos hl]
      · obtain ⟨a, b, d⟩ := own_core c1.1 c1.2 l1.1 l1.2 (by rw [← Int32.toInt_inj, kl] at hl; omega)
        rw [if_neg hl, if_neg a, if_pos b, if_pos d]
    · obtain ⟨a, b, d⟩ := own_core c1.1 c1.2 l1.1 l1.2 (by rw [← Int32.toInt_inj, kc] at hc; omega)
      rw [if_neg hc, if_neg a, if_pos b, if_pos d]
theorem own_plain (x1 x2 x3 : Int32) : F0 x1 x2 x3 = 1 := own_gen _ _ _ (own_c x1) (own_l x2)

set_option maxRecDepth 65536 in
set_option maxHeartbeats 40000000 in
theorem comes_1 {Post : Tables → Env → Array Value → State → Outcome → State → Prop} (hpost : ∀ tb e args s v u, (limb_1_1.after args s (.returned v) u = true ∧ limb_1_2.after args s (.returned v) u = true ∧ True) → FrameEnd s (.returned v) u (Jvm.fieldLocs frame_1_writes args s ++ Jvm.arrayLocs frame_1_arrays args s ++ Jvm.staticLocs frame_1_statics s) 16 128 → Post tb e args s (.returned v) u) :
    ArmFor flags0 classFile x code maxLocals ret World_1 tables_1 room_1 Calls_1 rest_1 Pre_1 Post := by
  intro l hfl _ _ p e ha hc hk s m args below hf hA hF happ hP
  obtain ⟨hcalls, hrest, hpre⟩ := hP
  obtain ⟨-, -, -, hnamed, -, -, -, hat⟩ := (Spec.applies_iff hf).mp happ
  obtain ⟨hg, hn⟩ := and_e (Cond.before_iff.mp (show (Jvm.Cond.and given_1 narrow_1).before args s = true from hpre))
  obtain ⟨hcount, t0⟩ := and_e hg
  obtain ⟨k0, t1⟩ := and_e t0
  obtain ⟨k1, t2⟩ := and_e t1
  have k2 := t2
  obtain ⟨w0, w1, w2, rfl⟩ : ∃ w0 w1 w2 : Value, args = #[w0, w1, w2] := by
    have hs : args.size = 3 := by simpa [Cond.value, given_1] using hcount
    obtain ⟨L⟩ := args
    match L, hs with
    | [w0, w1, w2], _ => exact ⟨w0, w1, w2, rfl⟩
  have hw := fun d (hd : d ∈ tables_1) => atoms_spec (ws := Jvm.Cond.code x code maxLocals ret :: tables_1) hat d (List.mem_cons_of_mem _ hd)
  obtain ⟨i0, ei0⟩ := is_v k0
  obtain rfl : w0 = (.int i0) := Option.some.inj ei0
  obtain ⟨i1, ei1⟩ := is_v k1
  obtain rfl : w1 = (.int i1) := Option.some.inj ei1
  obtain ⟨i2, ei2⟩ := is_v k2
  obtain rfl : w2 = (.int i2) := Option.some.inj ei2
  obtain ⟨n, o, h1, h2, h3, _, L, rfl, ⟨hv, N⟩, hq⟩ := rm0 l s _ hw tables_1 i0 i1 i2 s.heap s.heap.size (Nat.le_refl _) p e ha hc hk s m _ below hf ((Spec.applies_iff_loose hf).mp happ).1 ⟨rfl, State.Warmed39.refl s, rfl⟩ trivial
  rw [own_plain i0 i1 i2] at hv
  subst hv
  refine ⟨n, _, h1, h2, h3, hpost _ _ _ _ _ _ ⟨Cond.after_iff.mpr rfl, Cond.after_iff.mpr (eq_i res_at (Term.int_eval (1)) rfl), trivial⟩ ⟨hq.1, hq.2.1, (hq.2.2.sift fun y hy => Or.inr (N y hy)).mono (by decide) (by decide)⟩⟩
theorem main_1_1 : Claimed_1_1 := comes_1 fun _ _ _ _ _ _ h hF => ⟨h.1, hF⟩
theorem main_1_2 : Claimed_1_2 := comes_1 fun _ _ _ _ _ _ h hF => ⟨h.2.1, hF⟩
end Jvm.Pilot.@@N@@
namespace Jvm.Pilot.@@N@@
open Jvm Jvm.ClassFile Sem Op Lib Jvm.Free Jvm.Stand Jvm.Pilot.@@N@@.Jvm.D
/-! MADE BY PROGRAM (witnessworld.py) out of the Statement's table words and the real class files: 11 classes; the members and pool entries that the words name. The judged class is class 1, her method 1. -/
namespace start1
open Jvm.ClassFile
def u (s : String) : CpInfo := .utf8 (stringToUtf16 s)
/-- a pool by its gaps: so many unusable entries, then the entry; so many at the end -/
def gap : Nat → List CpInfo → List CpInfo
  | 0, r => r
  | n + 1, r => .unusable :: gap n r
def poolList (es : List (Nat × CpInfo)) (last : Nat) : List CpInfo := es.foldr (fun e r => gap e.1 (e.2 :: r)) (gap last [])
def pool (es : List (Nat × CpInfo)) (last : Nat) : Array CpInfo := ⟨poolList es last⟩
def fileOf (pool : Array CpInfo) (this : Nat) (attrs : Array Attribute := #[]) (ms : Array MethodInfo := #[]) (fl : Nat := 33) (sup : Nat := 0) (ifs : Array Nat := #[]) (fds : Array FieldInfo := #[]) : ClassFile where
  minorVersion := 0
  majorVersion := 65
  constantPool := pool
  accessFlags := fl
  thisClass := this
  superClass := sup
  interfaces := ifs
  fields := fds
  methods := ms
  attributes := attrs
def plain (name : String) (sup : Option ClassId) : Class where
  name := name
  kind := .ordinary
  loader := none
  accessFlags := 33
  super := sup
  interfaces := #[]
  cf := none
  fields := #[]
  methods := #[]
  instanceTypes := #[]
  staticTypes := #[]
  resolved := #[]
  callSites := []
  init := .initialized
  statics := none
  mirror := none

def pool0 : Array CpInfo := pool [(5, u "<init>"), (0, u "()V"), (1, .class_ 10), (1, u "java/lang/Object")] 113

def k0c0 : Code := { maxStack := 0, maxLocals := 1, code := object_method_1_code, exceptionTable := #[], attributes := #[] }
def k0m0 : Method := { name := "<init>", desc := "()V", sig := { parameters := [], returnType := none }, accessFlags := 1, code := some k0c0 }
/-- java/lang/Object -/
def k0 : Class := { plain "java/lang/Object" none with
  accessFlags := 33
  interfaces := #[]
  cf := some (fileOf pool0 8 #[] #[{ accessFlags := 1, nameIndex := 5, descriptorIndex := 6, attributes := #[] }] 33 0 #[] #[])
  fields := #[]
  methods := #[k0m0]
  instanceTypes := #[]
  staticTypes := #[]
  resolved := Array.replicate 124 none
  statics := none }

def pool1 : Array CpInfo := pool [(2, .class_ 4), (1, u "java/lang/Object"), (0, u "<init>"), (0, u "()V"), (0, .class_ 8), (0, u "com/example/threadkeep/threadkeep/store/Blocks$Shape"), (0, .methodref 7 10), (0, .nameAndType 5 11), (0, u "(II)V"), (0, .methodref 7 13), (0, .nameAndType 14 15), (0, u "room"), (0, u "()I"), (0, .integer 2147483647), (0, .integer 65536), (0, .integer 32768), (0, .methodref 20 21), (0, .class_ 22), (0, .nameAndType 23 24), (0, u "com/example/threadkeep/threadkeep/store/Blocks"), (0, u "block"), (0, u "(I)I"), (0, .methodref 20 26), (0, .nameAndType 27 24), (0, u "inBlock"), (0, .class_ 29), (0, u "com/example/threadkeep/threadkeep/store/ShapeRoomPinLaw"), (2, u "law"), (0, u "(III)Z")] 5

def k1m0 : Method := { name := "<init>", desc := "()V", sig := { parameters := [], returnType := none }, accessFlags := 1, code := none }
def k1c1 : Code := { maxStack := 4, maxLocals := 8, code := code, exceptionTable := #[], attributes := #[] }
def k1m1 : Method := { name := "law", desc := "(III)Z", sig := { parameters := [.int, .int, .int], returnType := some .boolean }, accessFlags := 9, code := some k1c1 }
/-- com/example/threadkeep/threadkeep/store/ShapeRoomPinLaw -/
def k1 : Class := { plain "com/example/threadkeep/threadkeep/store/ShapeRoomPinLaw" (some 0) with
  accessFlags := 49
  interfaces := #[]
  cf := some (fileOf pool1 28 #[] #[{ accessFlags := 1, nameIndex := 5, descriptorIndex := 6, attributes := #[] }, { accessFlags := 9, nameIndex := 32, descriptorIndex := 33, attributes := #[] }] 49 2 #[] #[])
  fields := #[]
  methods := #[k1m0, k1m1]
  instanceTypes := #[]
  staticTypes := #[]
  resolved := Array.replicate 39 none
  statics := none }

def pool2 : Array CpInfo := pool [(1, .methodref 2 3), (0, .class_ 4), (0, .nameAndType 5 6), (0, u "java/lang/Object"), (0, u "<init>"), (0, u "()V"), (0, .class_ 8), (0, u "java/lang/Record")] 13

def k2c0 : Code := { maxStack := 1, maxLocals := 1, code := jdk_30_method_1_code, exceptionTable := #[], attributes := #[] }
def k2m0 : Method := { name := "<init>", desc := "()V", sig := { parameters := [], returnType := none }, accessFlags := 4, code := some k2c0 }
/-- java/lang/Record -/
def k2 : Class := { plain "java/lang/Record" (some 0) with
  accessFlags := 1057
  interfaces := #[]
  cf := some (fileOf pool2 7 #[] #[{ accessFlags := 4, nameIndex := 5, descriptorIndex := 6, attributes := #[] }] 1057 2 #[] #[])
  fields := #[]
  methods := #[k2m0]
  instanceTypes := #[]
  staticTypes := #[]
  resolved := Array.replicate 22 none
  statics := none }

def pool3 : Array CpInfo := pool [(1, .class_ 2), (0, u "com/example/threadkeep/threadkeep/store/Blocks"), (0, .methodref 4 5), (0, .class_ 6), (0, .nameAndType 7 8), (0, u "java/lang/Record"), (0, u "<init>"), (0, u "()V"), (0, .fieldref 10 11), (0, .class_ 12), (0, .nameAndType 13 14), (0, u "com/example/threadkeep/threadkeep/store/Blocks$Shape"), (0, u "count"), (0, u "I"), (0, .fieldref 10 16), (0, .nameAndType 17 14), (0, u "lastLength"), (0, .integer 32768), (2, u "room"), (0, u "()I"), (11, u "(II)V"), (14, u "NONE"), (0, u "Lcom/example/threadkeep/threadkeep/store/Blocks$Shape;")] 32

def k3c0 : Code := { maxStack := 2, maxLocals := 3, code := prog_29_method_1_code, exceptionTable := #[], attributes := #[] }
def k3m0 : Method := { name := "<init>", desc := "(II)V", sig := { parameters := [.int, .int], returnType := none }, accessFlags := 0, code := some k3c0 }
def k3c1 : Code := { maxStack := 2, maxLocals := 1, code := prog_29_method_2_code, exceptionTable := #[], attributes := #[] }
def k3m1 : Method := { name := "room", desc := "()I", sig := { parameters := [], returnType := some .int }, accessFlags := 0, code := some k3c1 }
/-- com/example/threadkeep/threadkeep/store/Blocks$Shape -/
def k3 : Class := { plain "com/example/threadkeep/threadkeep/store/Blocks$Shape" (some 2) with
  accessFlags := 48
  interfaces := #[]
  cf := some (fileOf pool3 10 #[.nestHost 1] #[{ accessFlags := 0, nameIndex := 7, descriptorIndex := 34, attributes := #[] }, { accessFlags := 0, nameIndex := 21, descriptorIndex := 22, attributes := #[] }] 48 4 #[] #[{ accessFlags := 18, nameIndex := 13, descriptorIndex := 14, attributes := #[] }, { accessFlags := 18, nameIndex := 17, descriptorIndex := 14, attributes := #[] }, { accessFlags := 24, nameIndex := 49, descriptorIndex := 50, attributes := #[] }])
  fields := #[{ name := "count", type := .int, accessFlags := 18, slot := 0, constantValue := 0 }, { name := "lastLength", type := .int, accessFlags := 18, slot := 1, constantValue := 0 }, { name := "NONE", type := (.object "com/example/threadkeep/threadkeep/store/Blocks$Shape"), accessFlags := 24, slot := 0, constantValue := 0 }]
  methods := #[k3m0, k3m1]
  instanceTypes := #[.int, .int]
  staticTypes := #[(.object "com/example/threadkeep/threadkeep/store/Blocks$Shape")]
  resolved := Array.replicate 83 none
  statics := none }

def pool4 : Array CpInfo := pool [(1, .class_ 2), (0, u "com/example/threadkeep/threadkeep/store/Blocks"), (1, .class_ 6), (1, u "java/lang/Object"), (0, u "<init>"), (0, u "()V"), (1, .class_ 12), (1, u "com/example/threadkeep/threadkeep/store/Blocks$Shape"), (30, u "BLOCK_BITS"), (0, u "I"), (2, u "BLOCK"), (0, u "FIRST_ROOM"), (3, u "block"), (0, u "(I)I"), (0, u "inBlock")] 12

def k4m0 : Method := { name := "<init>", desc := "()V", sig := { parameters := [], returnType := none }, accessFlags := 2, code := none }
def k4c1 : Code := { maxStack := 2, maxLocals := 1, code := prog_28_method_2_code, exceptionTable := #[], attributes := #[] }
def k4m1 : Method := { name := "block", desc := "(I)I", sig := { parameters := [.int], returnType := some .int }, accessFlags := 8, code := some k4c1 }
def k4c2 : Code := { maxStack := 2, maxLocals := 1, code := prog_28_method_3_code, exceptionTable := #[], attributes := #[] }
def k4m2 : Method := { name := "inBlock", desc := "(I)I", sig := { parameters := [.int], returnType := some .int }, accessFlags := 8, code := some k4c2 }
/-- com/example/threadkeep/threadkeep/store/Blocks -/
def k4 : Class := { plain "com/example/threadkeep/threadkeep/store/Blocks" (some 0) with
  accessFlags := 48
  interfaces := #[]
  cf := some (fileOf pool4 1 #[.nestMembers #[10]] #[{ accessFlags := 2, nameIndex := 7, descriptorIndex := 8, attributes := #[] }, { accessFlags := 8, nameIndex := 52, descriptorIndex := 53, attributes := #[] }, { accessFlags := 8, nameIndex := 54, descriptorIndex := 53, attributes := #[] }] 48 4 #[] #[{ accessFlags := 26, nameIndex := 43, descriptorIndex := 44, attributes := #[] }, { accessFlags := 24, nameIndex := 47, descriptorIndex := 44, attributes := #[] }, { accessFlags := 24, nameIndex := 48, descriptorIndex := 44, attributes := #[] }])
  fields := #[{ name := "BLOCK_BITS", type := .int, accessFlags := 26, slot := 0, constantValue := 0 }, { name := "BLOCK", type := .int, accessFlags := 24, slot := 1, constantValue := 0 }, { name := "FIRST_ROOM", type := .int, accessFlags := 24, slot := 2, constantValue := 0 }]
  methods := #[k4m0, k4m1, k4m2]
  instanceTypes := #[]
  staticTypes := #[.int, .int, .int]
  resolved := Array.replicate 67 none
  statics := none }

def pool5 : Array CpInfo := pool [(1, u "java/lang/Cloneable"), (0, .class_ 1), (0, u "java/lang/Object"), (0, .class_ 3)] 3

/-- java/lang/Cloneable -/
def k5 : Class := { plain "java/lang/Cloneable" (some 0) with
  accessFlags := 1537
  interfaces := #[]
  cf := some (fileOf pool5 2 #[] #[] 1537 4 #[] #[])
  fields := #[]
  methods := #[]
  instanceTypes := #[]
  staticTypes := #[]
  resolved := Array.replicate 8 none
  statics := none }

def pool6 : Array CpInfo := pool [(1, u "java/io/Serializable"), (0, .class_ 1), (0, u "java/lang/Object"), (0, .class_ 3)] 3

/-- java/io/Serializable -/
def k6 : Class := { plain "java/io/Serializable" (some 0) with
  accessFlags := 1537
  interfaces := #[]
  cf := some (fileOf pool6 2 #[] #[] 1537 4 #[] #[])
  fields := #[]
  methods := #[]
  instanceTypes := #[]
  staticTypes := #[]
  resolved := Array.replicate 8 none
  statics := none }

/-- the primitive byte -/
def k7 : Class := { plain "byte" none with kind := .primitive 'B', accessFlags := 0x411 }
/-- [B -/
def k8 : Class := { plain "[B" (some 0) with kind := .array 7 .byte, interfaces := #[5, 6], accessFlags := 1041 }

/-- the primitive int -/
def k9 : Class := { plain "int" none with kind := .primitive 'I', accessFlags := 0x411 }
/-- [I -/
def k10 : Class := { plain "[I" (some 0) with kind := .array 9 .int, interfaces := #[5, 6], accessFlags := 1041 }

def heap : Heap := #[]
def classes : Array Class := #[k0, k1, k2, k3, k4, k5, k6, k7, k8, k9, k10]
def interned : List (Array UInt16 × Addr) := []
def slotsUsed : Nat := 0
def theMethod : MethodId := ⟨1, 1⟩
def args0 : Array Value := #[.int 5, .int 5, .int 5]
def aboutOver (below : List Frame) : State where
  vm := { classes := classes, interned := interned.toArray }
  heap := heap
  slotsUsed := slotsUsed
  threads := #[{ frames := .invoking theMethod args0 :: below }]
def below0 : List Frame := [.native { method := ⟨0, 0⟩, args := #[] }]
def about1 : State := aboutOver below0
def p0 : Program := .bare "" "" ""
def e0 : Env := launch0.env 0 0 0
theorem w_frames : about1.frames = Frame.invoking theMethod args0 :: below0 := rfl
set_option maxRecDepth 65536 in
theorem w_args : argsFit about1.vm theMethod args0 = true := by decide +kernel
set_option maxRecDepth 65536 in
theorem w_heap : heapFits about1 = true := by decide +kernel
set_option maxRecDepth 65536 in
theorem w_runnable : about1.curStatus? = some .runnable := by decide +kernel
set_option maxRecDepth 65536 in
theorem w_alone : about1.alone = true := by decide +kernel
set_option maxRecDepth 65536 in
theorem w_named : about1.methodNamed? x = some theMethod := by decide +kernel
set_option maxRecDepth 65536 in
theorem w_hears : about1.hears theMethod below0 = true := by decide +kernel
set_option maxRecDepth 65536 in
theorem w_ripe : about1.ripe theMethod args0 below0 = true := by decide +kernel
theorem w_running : about1.status = .running := rfl
set_option maxRecDepth 65536 in
theorem w_room : about1.hasRoom e0.platform room_1 = true :=
  launch0.hasRoom_least _ room_1 (by decide +kernel) (by decide +kernel) (by decide +kernel) (by decide +kernel) (by decide +kernel) (by decide +kernel)
theorem allAtoms_all (ts : List Jvm.Cond) (a : Array Jvm.Value) (st : Jvm.State) : (allAtoms ts).before a st = ts.all (fun c => c.before a st) := by
  induction ts with
  | nil => rfl
  | cons c t ih =>
    show (Jvm.Cond.and c (allAtoms t)).before a st = _
    rw [Jvm.Cond.before_and, ih, List.all_cons]
def words1 : List Jvm.Cond := Jvm.Cond.code x code maxLocals ret :: tables_1
/-- a 'code' word, met by the world's own term for the bytes: nothing is compared byte by byte -/
theorem code_word {y : MethodName} {bytes : ByteArray} {mx : Nat} {rt : Option FieldType} {a : Array Value} {s : State} {m : MethodId} {meth : Method} {c : Code} (h1 : s.methodNamed? y = some m) (h2 : s.vm.method? m = some meth) (h3 : meth.code = some c) (h4 : c.code = bytes)
    (h5 : (c.maxLocals == mx && c.exceptionTable.isEmpty && decide (c.maxStack ≤ mostOperands) && decide (meth.sig.returnType = rt) && !meth.locks && decide (parseMethodDescriptor y.desc = some meth.sig)) = true) : (Jvm.Cond.code y bytes mx rt).before a s = true := by
  simp only [Bool.and_eq_true, beq_iff_eq, Bool.not_eq_true', decide_eq_true_eq] at h5
  obtain ⟨⟨⟨⟨⟨g1, g2⟩, g3⟩, g4⟩, g5⟩, g6⟩ := h5
  simp [Cond.before, Cond.holds, Cond.value, h1, h2, h3, h4, g1, g2, g3, g4, g5, g6]
def isCode : Jvm.Cond → Bool
  | .code _ _ _ _ => true
  | _ => false
theorem all_split {L : List Jvm.Cond} {P : Jvm.Cond → Bool} (h1 : L.all (fun c => isCode c || P c) = true) (h2 : ∀ c ∈ L.filter isCode, P c = true) : L.all P = true := by
  refine List.all_eq_true.mpr fun c hc => ?_
  have h := List.all_eq_true.mp h1 c hc
  rcases Bool.eq_false_or_eq_true (isCode c) with hi | hi
  · exact h2 c (List.mem_filter.mpr ⟨hc, hi⟩)
  · simpa [hi] using h
set_option maxRecDepth 65536 in
theorem w_c0 : (Jvm.Cond.code x code maxLocals ret).before args0 about1 = true := code_word (m := ⟨1, 1⟩) (meth := k1m1) (c := k1c1) (by decide +kernel) rfl rfl rfl (by decide +kernel)
set_option maxRecDepth 65536 in
theorem w_c1 : (Jvm.Cond.code ({ cls := "com/example/threadkeep/threadkeep/store/Blocks$Shape", name := "<init>", desc := "(II)V" } : Jvm.MethodName) prog_29_method_1_code (3 : Nat) (Option.none : Option Jvm.ClassFile.FieldType)).before args0 about1 = true := code_word (m := ⟨3, 0⟩) (meth := k3m0) (c := k3c0) (by decide +kernel) rfl rfl rfl (by decide +kernel)
set_option maxRecDepth 65536 in
theorem w_c2 : (Jvm.Cond.code ({ cls := "java/lang/Record", name := "<init>", desc := "()V" } : Jvm.MethodName) jdk_30_method_1_code (1 : Nat) (Option.none : Option Jvm.ClassFile.FieldType)).before args0 about1 = true := code_word (m := ⟨2, 0⟩) (meth := k2m0) (c := k2c0) (by decide +kernel) rfl rfl rfl (by decide +kernel)
set_option maxRecDepth 65536 in
theorem w_c3 : (Jvm.Cond.code ({ cls := "java/lang/Object", name := "<init>", desc := "()V" } : Jvm.MethodName) object_method_1_code (1 : Nat) (Option.none : Option Jvm.ClassFile.FieldType)).before args0 about1 = true := code_word (m := ⟨0, 0⟩) (meth := k0m0) (c := k0c0) (by decide +kernel) rfl rfl rfl (by decide +kernel)
set_option maxRecDepth 65536 in
theorem w_c4 : (Jvm.Cond.code ({ cls := "com/example/threadkeep/threadkeep/store/Blocks$Shape", name := "room", desc := "()I" } : Jvm.MethodName) prog_29_method_2_code (1 : Nat) (Option.some Jvm.ClassFile.FieldType.int)).before args0 about1 = true := code_word (m := ⟨3, 1⟩) (meth := k3m1) (c := k3c1) (by decide +kernel) rfl rfl rfl (by decide +kernel)
set_option maxRecDepth 65536 in
theorem w_c5 : (Jvm.Cond.code ({ cls := "com/example/threadkeep/threadkeep/store/Blocks", name := "block", desc := "(I)I" } : Jvm.MethodName) prog_28_method_2_code (1 : Nat) (Option.some Jvm.ClassFile.FieldType.int)).before args0 about1 = true := code_word (m := ⟨4, 1⟩) (meth := k4m1) (c := k4c1) (by decide +kernel) rfl rfl rfl (by decide +kernel)
set_option maxRecDepth 65536 in
theorem w_c6 : (Jvm.Cond.code ({ cls := "com/example/threadkeep/threadkeep/store/Blocks", name := "inBlock", desc := "(I)I" } : Jvm.MethodName) prog_28_method_3_code (1 : Nat) (Option.some Jvm.ClassFile.FieldType.int)).before args0 about1 = true := code_word (m := ⟨4, 2⟩) (meth := k4m2) (c := k4c2) (by decide +kernel) rfl rfl rfl (by decide +kernel)
def codes1 : List Jvm.Cond := [Jvm.Cond.code x code maxLocals ret, Jvm.Cond.code ({ cls := "com/example/threadkeep/threadkeep/store/Blocks$Shape", name := "<init>", desc := "(II)V" } : Jvm.MethodName) prog_29_method_1_code (3 : Nat) (Option.none : Option Jvm.ClassFile.FieldType), Jvm.Cond.code ({ cls := "java/lang/Record", name := "<init>", desc := "()V" } : Jvm.MethodName) jdk_30_method_1_code (1 : Nat) (Option.none : Option Jvm.ClassFile.FieldType), Jvm.Cond.code ({ cls := "java/lang/Object", name := "<init>", desc := "()V" } : Jvm.MethodName) object_method_1_code (1 : Nat) (Option.none : Option Jvm.ClassFile.FieldType), Jvm.Cond.code ({ cls := "com/example/threadkeep/threadkeep/store/Blocks$Shape", name := "room", desc := "()I" } : Jvm.MethodName) prog_29_method_2_code (1 : Nat) (Option.some Jvm.ClassFile.FieldType.int), Jvm.Cond.code ({ cls := "com/example/threadkeep/threadkeep/store/Blocks", name := "block", desc := "(I)I" } : Jvm.MethodName) prog_28_method_2_code (1 : Nat) (Option.some Jvm.ClassFile.FieldType.int), Jvm.Cond.code ({ cls := "com/example/threadkeep/threadkeep/store/Blocks", name := "inBlock", desc := "(I)I" } : Jvm.MethodName) prog_28_method_3_code (1 : Nat) (Option.some Jvm.ClassFile.FieldType.int)]
set_option maxRecDepth 65536 in
theorem codes_eq : words1.filter isCode = codes1 := rfl
theorem w_codes : ∀ c ∈ words1.filter isCode, c.before args0 about1 = true := by
  rw [codes_eq]
  intro c hc
  simp only [codes1, List.mem_cons, List.not_mem_nil, or_false] at hc
  rcases hc with rfl | rfl | rfl | rfl | rfl | rfl | rfl
  · exact w_c0
  · exact w_c1
  · exact w_c2
  · exact w_c3
  · exact w_c4
  · exact w_c5
  · exact w_c6
set_option maxRecDepth 65536 in
theorem w_t1 : (words1.take 24).all (fun c => isCode c || c.before args0 about1) = true := by decide +kernel
set_option maxRecDepth 65536 in
theorem w_t2 : (words1.drop 24).all (fun c => isCode c || c.before args0 about1) = true := by decide +kernel
theorem w_tables : (allAtoms (Jvm.Cond.code x code maxLocals ret :: tables_1)).before args0 about1 = true := by
  rw [allAtoms_all]
  show words1.all (fun c => c.before args0 about1) = true
  refine all_split ?_ w_codes
  rw [← List.take_append_drop 24 words1, List.all_append, w_t1, w_t2]
  rfl
set_option maxRecDepth 65536 in
theorem w_case : (Jvm.Cond.and given_1 narrow_1).before args0 about1 = true := by decide +kernel
theorem w_applies : (headSpec (Jvm.Cond.code x code maxLocals ret :: tables_1) room_1).applies x e0.platform about1 = true :=
  (Spec.applies_iff w_frames).mpr ⟨w_running, w_runnable, w_alone, w_named, w_hears, w_ripe, w_room, w_tables⟩
theorem atStart : AtStart classFile x code maxLocals ret World_1 tables_1 room_1 Calls_1 rest_1 Pre_1 launch0 p0 e0 about1 theMethod args0 below0 :=
  ⟨lists_1, trivial, launch0.admits_env _ _ _, launch0.least_env, fairChoices_fair.cas, fairChoices_fair.clock, w_frames, w_args, w_heap, w_applies, trivial, trivial, w_case⟩
end start1
theorem witness_1 : WitnessClaimed_1 := ⟨start1.p0, start1.e0, start1.about1, start1.theMethod, start1.args0, start1.below0, start1.atStart⟩
end Jvm.Pilot.@@N@@
