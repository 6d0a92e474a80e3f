import JvmDerived
import JvmDerived.Pilot.@@N@@Statement
import JvmDerived.Pilot.@@N@@Code
set_option linter.unusedVariables false
set_option linter.unusedSimpArgs false
@@BLOCK:NumsL.lean.txt@@
namespace Jvm.RoadKit
open Sem ClassFile Op Lib Jvm.Stand Jvm.Free Jvm.LawKit
section New
variable {p : Program} {l : Launch} {e : Env} {R : Room} {s : State} {m : MethodId} {args : Array Value} {below : List Frame} {meth : Method} {c : Code} {T : State} {locs : List Loc} {cells slots : Nat}
theorem retI (X : Stand p l e R s m args below meth c T locs cells slots) (hx : p.tables.exec = Jvm.exec) {pc : Nat} {Ls : Array Slot} {z : Int32} {rest : List Value} (hret : meth.sig.returnType = some .int) (hd : decode c.code pc = .ok (.ireturn, 1)) {fs : List Frame}
    (hl : ∀ (f : JFrame) (acts : List Action), f.method = m → f.locked = none → f.entered = [] → (doReturn e (T.setTop f) acts (some (.int z))).1 = T.setFrames fs) : Steps p.tables e below (T.setTop (mkF m pc Ls (.int z :: rest))) (T.setFrames fs) := by
  have hm' : T.vm.method? m = some meth := X.method'
  have hn : narrow .int (.int z) = .int z := rfl
  show Steps p.tables e below (T.setTop { method := m, pc := pc, locals := Ls, stack := _ :: rest, locked := none }) _
  jvm_step X.here [X.here.top, hx, hd, hm', hret, hn]
  first | (intro acts; rw [hl _ acts rfl rfl rfl]) | rw [hl _ _ rfl rfl rfl]
  exact Steps.refl _
end New
theorem own_dia {tb : Tables} {e : Env} {below : List Frame} {T tgt : State} {g : JFrame} {A : Type} {u v : A} (q : Prop) [Decidable q] (f : A → JFrame)
    (h1 : q → Steps tb e below (T.setTop (f u)) tgt → Steps tb e below (T.setTop g) tgt) (h0 : ¬ q → Steps tb e below (T.setTop (f v)) tgt → Steps tb e below (T.setTop g) tgt)
    (k : Steps tb e below (T.setTop (f (if q then u else v))) tgt) : Steps tb e below (T.setTop g) tgt := by
  by_cases hq : q
  · rw [if_pos hq] at k; exact h1 hq k
  · rw [if_neg hq] at k; exact h0 hq k
theorem own_cast {tb : Tables} {e : Env} {below : List Frame} {T tgt : State} {A : Type} {u v : A} (f : A → JFrame) (h : u = v) (k : Steps tb e below (T.setTop (f v)) tgt) : Steps tb e below (T.setTop (f u)) tgt := h ▸ k
theorem own_llt {x y : Int64} (h : x < y) : ifCond.holds .lt (lcmpW x y) = true ∧ ifCond.holds .ge (lcmpW x y) = false := by
  rw [if0, if0]; exact ⟨(tlt ((lw_lt x y).mpr h)).1, (tlt ((lw_lt x y).mpr h)).2.1⟩
theorem own_lge {x y : Int64} (h : ¬ x < y) : ifCond.holds .lt (lcmpW x y) = false ∧ ifCond.holds .ge (lcmpW x y) = true := by
  rw [if0, if0]; exact ⟨(flt fun q => h ((lw_lt x y).mp q)).1, (flt fun q => h ((lw_lt x y).mp q)).2.1⟩
theorem own_lgt {x y : Int64} (h : y < x) : ifCond.holds .gt (lcmpW x y) = true ∧ ifCond.holds .le (lcmpW x y) = false := by
  rw [if0, if0]; exact ⟨(tlt ((lw_gt x y).mpr h)).2.2.1, (tlt ((lw_gt x y).mpr h)).2.2.2⟩
theorem own_lle {x y : Int64} (h : ¬ y < x) : ifCond.holds .gt (lcmpW x y) = false ∧ ifCond.holds .le (lcmpW x y) = true := by
  rw [if0, if0]; exact ⟨(flt fun q => h ((lw_gt x y).mp q)).2.2.1, (flt fun q => h ((lw_gt x y).mp q)).2.2.2⟩
theorem own_leq {x y : Int64} (h : x = y) : ifCond.holds .eq (lcmpW x y) = true ∧ ifCond.holds .ne (lcmpW x y) = false := by
  rw [if0, if0]; exact ⟨(teq ((lw_eq x y).mpr h)).1, (teq ((lw_eq x y).mpr h)).2⟩
theorem own_lne {x y : Int64} (h : ¬ x = y) : ifCond.holds .eq (lcmpW x y) = false ∧ ifCond.holds .ne (lcmpW x y) = true := by
  rw [if0, if0]; exact ⟨(feq fun q => h ((lw_eq x y).mp q)).1, (feq fun q => h ((lw_eq x y).mp q)).2⟩
theorem own_bt {q : Prop} [Decidable q] (h : q) : ifCond.holds .ne (if q then (1 : Int32) else (0 : Int32)) = true ∧ ifCond.holds .eq (if q then (1 : Int32) else (0 : Int32)) = false := by
  rw [if_pos h]; exact ⟨rfl, rfl⟩
theorem own_bf {q : Prop} [Decidable q] (h : ¬ q) : ifCond.holds .ne (if q then (1 : Int32) else (0 : Int32)) = false ∧ ifCond.holds .eq (if q then (1 : Int32) else (0 : Int32)) = true := by
  rw [if_neg h]; exact ⟨rfl, rfl⟩
theorem own_ct {q : Prop} [Decidable q] (h : q) : ifCond.holds .ne (if q then (0 : Int32) else (1 : Int32)) = false ∧ ifCond.holds .eq (if q then (0 : Int32) else (1 : Int32)) = true := by
  rw [if_pos h]; exact ⟨rfl, rfl⟩
theorem own_cf {q : Prop} [Decidable q] (h : ¬ q) : ifCond.holds .ne (if q then (0 : Int32) else (1 : Int32)) = true ∧ ifCond.holds .eq (if q then (0 : Int32) else (1 : Int32)) = false := by
  rw [if_neg h]; exact ⟨rfl, rfl⟩
theorem own_b01 {q : Prop} [Decidable q] {x y : Int32} (hx : x = 0 ∨ x = 1) (hy : y = 0 ∨ y = 1) : (if q then x else y) = 0 ∨ (if q then x else y) = 1 := by
  split <;> assumption
def Arf (Z : State) (h : Heap) (a : Addr) (ty : FieldType) (n : Int32) (f : Nat → Value) : Prop :=
  ∃ c : Cell, Arr Z h a c ty ∧ c.slots.size = n.toNatClampNeg ∧ ¬ n < 0 ∧ ∀ i, i < n.toNatClampNeg → c.slots[i]? = some (f i)
theorem Arf.lt {Z : State} {h : Heap} {a : Addr} {ty : FieldType} {n : Int32} {f : Nat → Value} (F : Arf Z h a ty n f) : a < h.size := by
  obtain ⟨c, A, -⟩ := F; exact A.lt
theorem Arf.ext {Z : State} {h h' : Heap} {a : Addr} {ty : FieldType} {n : Int32} {f : Nat → Value} (F : Arf Z h a ty n f) (E : Ext h h') : Arf Z h' a ty n f := by
  obtain ⟨c, A, r⟩ := F; exact ⟨c, A.ext E, r⟩
theorem Arf.other {Z : State} {h h' : Heap} {a b : Addr} {sl : Nat} {v : Value} {ty : FieldType} {n : Int32} {f : Nat → Value} (F : Arf Z h b ty n f) (W : Wr h h' a sl v) (q : b ≠ a) : Arf Z h' b ty n f := by
  obtain ⟨c, A, r⟩ := F; exact ⟨c, A.other W q, r⟩
theorem Arf.keep {Z : State} {h h' : Heap} {a : Addr} {ws : List Addr} {ty : FieldType} {n : Int32} {f : Nat → Value} (F : Arf Z h a ty n f) (K : Keep h h' ws) (q : a ∉ ws) : Arf Z h' a ty n f := by
  obtain ⟨c, A, r⟩ := F; exact ⟨c, ⟨K.2.1 a c A.1 q, A.2⟩, r⟩
theorem own_arf_new {Z : State} {h : Heap} {a : Addr} {k : ClassId} {ty : FieldType} {z : Int32} (A : Arr Z h a (newA k ty z) ty) (q : ¬ z < 0) : Arf Z h a ty z (fun _ => defaultValue ty) :=
  ⟨_, A, sz_new _ _ _, q, fun i hi => by simp [newA, hi]⟩
theorem own_arf_set {Z : State} {h h' : Heap} {a : Addr} {ty : FieldType} {n : Int32} {f : Nat → Value} {j : Nat} {v : Value} (F : Arf Z h a ty n f) (W : Wr h h' a j v) : Arf Z h' a ty n (fun i => if i = j then v else f i) := by
  obtain ⟨c, A, S, M, H⟩ := F
  refine ⟨_, A.same W, by rw [sz_set]; exact S, M, fun i hi => ?_⟩
  show _ = some (if i = j then v else f i)
  by_cases u : i = j
  · subst u; rw [if_pos rfl]; rw [← S] at hi; simp [Cell.setSlot, hi]
  · rw [if_neg u]; have := H i hi; simp only [Cell.setSlot]; rw [Array.getElem?_setIfInBounds_ne (Ne.symm u)]; exact this
theorem own_arf_fn {Z : State} {h : Heap} {a : Addr} {ty : FieldType} {n : Int32} {f g : Nat → Value} (F : Arf Z h a ty n f) (q : ∀ i, i < n.toNatClampNeg → f i = g i) : Arf Z h a ty n g := by
  obtain ⟨c, A, S, M, H⟩ := F
  exact ⟨c, A, S, M, fun i hi => by rw [← q i hi]; exact H i hi⟩
theorem own_arf_setI {Z : State} {h h' : Heap} {a : Addr} {ty : FieldType} {n : Int32} {f : Nat → Int32} {j : Nat} {v : Int32} (F : Arf Z h a ty n (fun i => Value.int (f i))) (W : Wr h h' a j (.int v)) : Arf Z h' a ty n (fun i => Value.int (if i = j then v else f i)) :=
  own_arf_fn (own_arf_set F W) fun i _ => by by_cases u : i = j <;> simp [u]
theorem own_arf_setL {Z : State} {h h' : Heap} {a : Addr} {ty : FieldType} {n : Int32} {f : Nat → Int64} {j : Nat} {v : Int64} (F : Arf Z h a ty n (fun i => Value.long (f i))) (W : Wr h h' a j (.long v)) : Arf Z h' a ty n (fun i => Value.long (if i = j then v else f i)) :=
  own_arf_fn (own_arf_set F W) fun i _ => by by_cases u : i = j <;> simp [u]
theorem own_arf_at {c : Cell} {n j : Int32} {f : Nat → Value} (H : ∀ i, i < n.toNatClampNeg → c.slots[i]? = some (f i)) (S : c.slots.size = n.toNatClampNeg) (q : ¬ (j < 0 ∨ c.slots.size ≤ j.toNatClampNeg)) : c.slots[j.toNatClampNeg]? = some (f j.toNatClampNeg) :=
  H _ (by rw [← S]; exact Nat.lt_of_not_le fun y => q (Or.inr y))
theorem own_nb {x : Int32} (h : x = 0 ∨ x = 1) : nar .boolean x = x := by
  rcases h with rfl | rfl <;> rfl
end Jvm.RoadKit
namespace Jvm.Pilot.@@N@@
open Jvm Jvm.ClassFile Sem Op Lib Jvm.Free Jvm.Stand Jvm.LawKit Jvm.RoadKit Bundle Jvm.Pilot.@@N@@.Jvm.D
theorem d2_0 : decode jdk_30_method_1_code 0 = .ok (.aload_n 0, 1) := by decide +kernel
theorem d2_1 : decode jdk_30_method_1_code 1 = .ok (.invokespecial 1, 3) := by decide +kernel
theorem d2_4 : decode jdk_30_method_1_code 4 = .ok (.return_, 1) := by decide +kernel
theorem pn_2 : plainName "java/lang/Record" = true := by first | (simp [plainName, overriddenIn]; done) | decide +kernel
theorem ef_2 (m : MethodId) (va : Addr) : entryFrame m #[(.ref va)] 1 = mkF m 0 #[.val (.ref va)] [] := by first | (simp [entryFrame, mkF, argsToLocals, Value.category]; done) | rfl
def Q2 (Z : State) (va : Addr) (h0 : Heap) (n0 : Nat) (v : Option Value) (h : Heap) (L : List Loc) : Prop := v = none ∧ Fr n0 L ∧ h = h0
set_option maxRecDepth 65536 in
set_option maxHeartbeats 40000000 in
theorem rm2 (l : Launch) (Z : State) (a0 : Array Value) (hw : ∀ d ∈ tables_1, d.before a0 Z = true) (ws : List Jvm.Cond) (va : Addr) (h0 : Heap) (n0 : Nat) (Z0 : n0 ≤ h0.size)  :
    MetFree l (⟨"java/lang/Record", "<init>", "()V"⟩ : MethodName) (head1 (Jvm.Cond.code (⟨"java/lang/Record", "<init>", "()V"⟩ : MethodName) jdk_30_method_1_code 1 none :: ws) ({ frames := 1, cells := 0, slots := 0, locals := 12 } : Room)) (fun a U => a = #[(.ref va)] ∧ Z.Warmed39 U.vm ∧ U.heap = h0) (fun _ _ _ _ _ => True) (fun _ U o U' => ∃ v L, o = .returned v ∧ Q2 Z va h0 n0 v U'.heap L ∧ FrameEnd U o U' L ({ frames := 1, cells := 0, slots := 0, locals := 12 } : Room).cells ({ frames := 1, cells := 0, slots := 0, locals := 12 } : Room).slots) := by
  refine MetFree.of_bodySF (plainFor_of_name pn_2) hisR ?_
  intro p e s m args below meth c s₁ Bd hml0 hP hK
  obtain ⟨rfl, hZ, hh⟩ := hP
  have hx := Bd.exec
  have hby := Bd.bytes
  have hml : c.maxLocals = 1 := hml0
  have hown : s.vm.findClass "java/lang/Record" = some m.cls := findClass_of_methodNamed Bd.named
  have hnm := (name_of_methodNamed Bd.named Bd.method).1
  have X0 : Stand p l e ({ frames := 1, cells := 0, slots := 0, locals := 12 } : Room) s m #[(.ref va)] below meth c s₁ [] 0 0 := Stand.of_body Bd
  have e0 : s₁.heap = h0 := by rw [← hh, Bd.state]; rfl
  have N0 := Fr.nil n0
  have pre0 : ∀ t, Steps p.tables e below (s₁.setTop (mkF m 0 #[.val (.ref va)] [])) t → Steps p.tables e below (s₁.setTop (entryFrame m #[(.ref va)] 1)) t := fun t k => castTop (ef_2 m va) k
  obtain ⟨T1, X1, e1, st1⟩ := initO X0 hx hZ hown (hw _ (List.mem_of_getElem? (i := 11) rfl)) (hw _ (List.mem_of_getElem? (i := 12) rfl)) (hw _ (List.mem_of_getElem? (i := 13) rfl)) e0 (g := (mkF m 1 #[.val (.ref va)] [(.ref va)])) rfl (by rw [hml]; rfl) rfl (hb hby d2_1) (by decide) (W := 0) (by show 2 * 0 + _ ≤ _; exact Nat.le_of_eq rfl) (by decide)
  obtain ⟨fs, hr, hrun, hended, hW, hsame⟩ := X1.leave (v := none) (fun _ => rfl)
  refine ⟨_, _, pre0 _ ?_, hrun, hended, _, _, rfl, ?_, ⟨_, rfl⟩, hW, hsame.mono (by decide) (by decide)⟩
  · show Steps p.tables e below (s₁.setTop (mkF m 0 #[.val (.ref va)] [])) _
    refine XS.aloadN X0.here hx rfl (hb hby d2_0) rfl rfl ?_
    show Steps p.tables e below (s₁.setTop (mkF m 1 #[.val (.ref va)] [(.ref va)])) _
    refine st1 _ ?_
    show Steps p.tables e below (T1.setTop (mkF m 4 #[.val (.ref va)] [])) _
    exact X1.returnOut hx Bd.returns (hb hby d2_4) hr
  · show Q2 Z va h0 n0 _ T1.heap _
    rw [e1]
    exact ⟨rfl, N0, rfl⟩
theorem pd_0 : parseMethodDescriptor "()V" = some ⟨[], none⟩ := by decide +kernel
theorem d1_0 : decode prog_27_method_1_code 0 = .ok (.aload_n 0, 1) := by decide +kernel
theorem d1_1 : decode prog_27_method_1_code 1 = .ok (.invokespecial 1, 3) := by decide +kernel
theorem d1_4 : decode prog_27_method_1_code 4 = .ok (.aload_n 0, 1) := by decide +kernel
theorem d1_5 : decode prog_27_method_1_code 5 = .ok (.lload_n 1, 1) := by decide +kernel
theorem d1_6 : decode prog_27_method_1_code 6 = .ok (.putfield 7, 3) := by decide +kernel
theorem d1_9 : decode prog_27_method_1_code 9 = .ok (.aload_n 0, 1) := by decide +kernel
theorem d1_10 : decode prog_27_method_1_code 10 = .ok (.lload_n 3, 1) := by decide +kernel
theorem d1_11 : decode prog_27_method_1_code 11 = .ok (.putfield 13, 3) := by decide +kernel
theorem d1_14 : decode prog_27_method_1_code 14 = .ok (.return_, 1) := by decide +kernel
theorem pn_1 : plainName "com/example/threadkeep/threadkeep/store/AppendResult" = true := by first | (simp [plainName, overriddenIn]; done) | decide +kernel
theorem ef_1 (m : MethodId) (va : Addr) (vf : Int64) (vl : Int64) : entryFrame m #[(.ref va), (.long vf), (.long vl)] 5 = mkF m 0 #[.val (.ref va), .val (.long vf), .second, .val (.long vl), .second] [] := by first | (simp [entryFrame, mkF, argsToLocals, Value.category]; done) | rfl
def Q1 (Z : State) (va : Addr) (vf : Int64) (vl : Int64) (h0 : Heap) (n0 : Nat) (v : Option Value) (h : Heap) (L : List Loc) : Prop := v = none ∧ Fr n0 L ∧ Keep h0 h [va] ∧ Exa Z h va "com/example/threadkeep/threadkeep/store/AppendResult" ∧ Fld Z h va "com/example/threadkeep/threadkeep/store/AppendResult" "firstSeq" "J" (.long vf) ∧ Fld Z h va "com/example/threadkeep/threadkeep/store/AppendResult" "lastSeq" "J" (.long vl)
set_option maxRecDepth 65536 in
set_option maxHeartbeats 40000000 in
theorem rm1 (l : Launch) (Z : State) (a0 : Array Value) (hw : ∀ d ∈ tables_1, d.before a0 Z = true) (ws : List Jvm.Cond) (va : Addr) (vf : Int64) (vl : Int64) (h0 : Heap) (n0 : Nat) (Z0 : n0 ≤ h0.size) (E_va : Exa Z h0 va "com/example/threadkeep/threadkeep/store/AppendResult") (g_va : n0 ≤ va) (F_va_firstSeq : Fld Z h0 va "com/example/threadkeep/threadkeep/store/AppendResult" "firstSeq" "J" (.long (0 : Int64))) (F_va_lastSeq : Fld Z h0 va "com/example/threadkeep/threadkeep/store/AppendResult" "lastSeq" "J" (.long (0 : Int64))) :
    MetFree l (⟨"com/example/threadkeep/threadkeep/store/AppendResult", "<init>", "(JJ)V"⟩ : MethodName) (head1 (Jvm.Cond.code (⟨"com/example/threadkeep/threadkeep/store/AppendResult", "<init>", "(JJ)V"⟩ : MethodName) prog_27_method_1_code 5 none :: ws) ({ frames := 2, cells := 0, slots := 0, locals := 24 } : Room)) (fun a U => a = #[(.ref va), (.long vf), (.long vl)] ∧ Z.Warmed39 U.vm ∧ U.heap = h0) (fun _ _ _ _ _ => True) (fun _ U o U' => ∃ v L, o = .returned v ∧ Q1 Z va vf vl h0 n0 v U'.heap L ∧ FrameEnd U o U' L ({ frames := 2, cells := 0, slots := 0, locals := 24 } : Room).cells ({ frames := 2, cells := 0, slots := 0, locals := 24 } : Room).slots) := by
  refine MetFree.of_bodySF (plainFor_of_name pn_1) hisR ?_
  intro p e s m args below meth c s₁ Bd hml0 hP hK
  obtain ⟨rfl, hZ, hh⟩ := hP
  have hx := Bd.exec
  have hby := Bd.bytes
  have hml : c.maxLocals = 5 := hml0
  have hown : s.vm.findClass "com/example/threadkeep/threadkeep/store/AppendResult" = some m.cls := findClass_of_methodNamed Bd.named
  have hnm := (name_of_methodNamed Bd.named Bd.method).1
  have X0 : Stand p l e ({ frames := 2, cells := 0, slots := 0, locals := 24 } : Room) s m #[(.ref va), (.long vf), (.long vl)] below meth c s₁ [] 0 0 := Stand.of_body Bd
  have e0 : s₁.heap = h0 := by rw [← hh, Bd.state]; rfl
  have N0 := Fr.nil n0
  have pre0 : ∀ t, Steps p.tables e below (s₁.setTop (mkF m 0 #[.val (.ref va), .val (.long vf), .second, .val (.long vl), .second] [])) t → Steps p.tables e below (s₁.setTop (entryFrame m #[(.ref va), (.long vf), (.long vl)] 5)) t := fun t k => castTop (ef_1 m va vf vl) k
  have K0 := Keep.refl h0 [va]
  obtain ⟨_, _, ⟨T1, L1, k1, n1⟩, -, X1, ⟨Lc1, hQ1, l1, y1, z1⟩, st1⟩ := X0.specialBack hx (y := (⟨"java/lang/Record", "<init>", "()V"⟩ : MethodName)) rfl hown (mvT hZ (hw _ (List.mem_of_getElem? (i := 6) rfl))) (mvT hZ (hw _ (List.mem_of_getElem? (i := 7) rfl))) (mvT hZ (hw _ (List.mem_of_getElem? (i := 10) rfl))) (by decide) (backOf (W := 0) (rm2 l Z a0 hw [] va  h0 n0 Z0 ) hZ (hw _ (List.mem_of_getElem? (i := 10) rfl)) (hw _ (List.mem_of_getElem? (i := 9) rfl)) (by decide) (by decide)) (g := (mkF m 1 #[.val (.ref va), .val (.long vf), .second, .val (.long vl), .second] [(.ref va)])) rfl (by rw [hml]; rfl) (Steps.refl _) (a := va) (argsL := []) (rest := []) (lenOf pd_0 rfl) rfl (by show 2 * 0 + _ ≤ _; exact Nat.le_of_eq rfl) (hb hby d1_1) (fun _ _ => ⟨rfl, e0, (by decide : 0 + 0 ≤ _), (by decide : 0 + 0 ≤ _)⟩)
  dsimp only [Pt.U, Pt.locs, Pt.cells, Pt.slots] at X1 l1 y1 z1 st1 hQ1
  subst l1 y1 z1
  obtain ⟨rfl, N1q, e1⟩ := hQ1
  have N1 := Fr.app N0 N1q
  obtain ⟨T2, h2, X2, e2, W2, st2⟩ := putF X1 hx hZ hown (host := "") (Or.inl (hw _ (List.mem_of_getElem? (i := 14) rfl))) Via.refl e1 F_va_firstSeq E_va (Or.inr ⟨(hw _ (List.mem_of_getElem? (i := 15) rfl)), rfl, hnm⟩) (hw _ (List.mem_of_getElem? (i := 1) rfl)) (ty := .long) (by decide) rfl rfl (g := (mkF m 6 #[.val (.ref va), .val (.long vf), .second, .val (.long vl), .second] [(.long vf), (.ref va)])) rfl rfl (hb hby d1_6)
  have Z3 : n0 ≤ h2.size := Nat.le_trans Z0 (Keep.of_wr W2).1
  have E4_va := E_va.wr W2
  have F6_va_lastSeq := F_va_lastSeq.other W2 (Or.inr (slot_ne (Or.inr (hw _ (List.mem_of_getElem? (i := 17) rfl))) (Or.inr (hw _ (List.mem_of_getElem? (i := 15) rfl))) (by decide) (t := .long) (t' := .long) (by decide) (by decide)))
  have Fw2 := F_va_firstSeq.same W2
  have N2 := Fr.snoc X2 N1 g_va
  have K2 := K0.wr W2 (Or.inl (List.mem_of_getElem? (i := 0) rfl))
  obtain ⟨T7, h7, X7, e7, W7, st7⟩ := putF X2 hx hZ hown (host := "") (Or.inl (hw _ (List.mem_of_getElem? (i := 16) rfl))) Via.refl e2 F6_va_lastSeq E4_va (Or.inr ⟨(hw _ (List.mem_of_getElem? (i := 17) rfl)), rfl, hnm⟩) (hw _ (List.mem_of_getElem? (i := 1) rfl)) (ty := .long) (by decide) rfl rfl (g := (mkF m 11 #[.val (.ref va), .val (.long vf), .second, .val (.long vl), .second] [(.long vl), (.ref va)])) rfl rfl (hb hby d1_11)
  have Z8 : n0 ≤ h7.size := Nat.le_trans Z3 (Keep.of_wr W7).1
  have E9_va := E4_va.wr W7
  have F10_va_firstSeq := Fw2.other W7 (Or.inr (slot_ne (Or.inr (hw _ (List.mem_of_getElem? (i := 15) rfl))) (Or.inr (hw _ (List.mem_of_getElem? (i := 17) rfl))) (by decide) (t := .long) (t' := .long) (by decide) (by decide)))
  have Fw7 := F6_va_lastSeq.same W7
  have N7 := Fr.snoc X7 N2 g_va
  have K7 := K2.wr W7 (Or.inl (List.mem_of_getElem? (i := 0) rfl))
  obtain ⟨fs, hr, hrun, hended, hW, hsame⟩ := X7.leave (v := none) (fun _ => rfl)
  refine ⟨_, _, pre0 _ ?_, hrun, hended, _, _, rfl, ?_, ⟨_, rfl⟩, hW, hsame.mono (by decide) (by decide)⟩
  · show Steps p.tables e below (s₁.setTop (mkF m 0 #[.val (.ref va), .val (.long vf), .second, .val (.long vl), .second] [])) _
    refine XS.aloadN X0.here hx rfl (hb hby d1_0) rfl rfl ?_
    show Steps p.tables e below (s₁.setTop (mkF m 1 #[.val (.ref va), .val (.long vf), .second, .val (.long vl), .second] [(.ref va)])) _
    refine st1.trans ?_
    show Steps p.tables e below (T1.setTop (mkF m 4 #[.val (.ref va), .val (.long vf), .second, .val (.long vl), .second] [])) _
    refine XS.aloadN X1.here hx rfl (hb hby d1_4) rfl rfl ?_
    show Steps p.tables e below (T1.setTop (mkF m 5 #[.val (.ref va), .val (.long vf), .second, .val (.long vl), .second] [(.ref va)])) _
    refine XS.lloadN X1.here hx rfl (hb hby d1_5) rfl ?_
    show Steps p.tables e below (T1.setTop (mkF m 6 #[.val (.ref va), .val (.long vf), .second, .val (.long vl), .second] [(.long vf), (.ref va)])) _
    refine st2 _ ?_
    show Steps p.tables e below (T2.setTop (mkF m 9 #[.val (.ref va), .val (.long vf), .second, .val (.long vl), .second] [])) _
    refine XS.aloadN X2.here hx rfl (hb hby d1_9) rfl rfl ?_
    show Steps p.tables e below (T2.setTop (mkF m 10 #[.val (.ref va), .val (.long vf), .second, .val (.long vl), .second] [(.ref va)])) _
    refine XS.lloadN X2.here hx rfl (hb hby d1_10) rfl ?_
    show Steps p.tables e below (T2.setTop (mkF m 11 #[.val (.ref va), .val (.long vf), .second, .val (.long vl), .second] [(.long vl), (.ref va)])) _
    refine st7 _ ?_
    show Steps p.tables e below (T7.setTop (mkF m 14 #[.val (.ref va), .val (.long vf), .second, .val (.long vl), .second] [])) _
    exact X7.returnOut hx Bd.returns (hb hby d1_14) hr
  · show Q1 Z va vf vl h0 n0 _ T7.heap _
    rw [e7]
    exact ⟨rfl, N7, K7, E9_va, F10_va_firstSeq, Fw7⟩
theorem d4_0 : decode prog_27_method_2_code 0 = .ok (.aload_n 0, 1) := by decide +kernel
theorem d4_1 : decode prog_27_method_2_code 1 = .ok (.getfield 13, 3) := by decide +kernel
theorem d4_4 : decode prog_27_method_2_code 4 = .ok (.aload_n 0, 1) := by decide +kernel
theorem d4_5 : decode prog_27_method_2_code 5 = .ok (.getfield 7, 3) := by decide +kernel
theorem d4_8 : decode prog_27_method_2_code 8 = .ok (.lsub, 1) := by decide +kernel
theorem d4_9 : decode prog_27_method_2_code 9 = .ok (.lconst 1, 1) := by decide +kernel
theorem d4_10 : decode prog_27_method_2_code 10 = .ok (.ladd, 1) := by decide +kernel
theorem d4_11 : decode prog_27_method_2_code 11 = .ok (.lreturn, 1) := by decide +kernel
theorem pn_4 : plainName "com/example/threadkeep/threadkeep/store/AppendResult" = true := by first | (simp [plainName, overriddenIn]; done) | decide +kernel
theorem ef_4 (m : MethodId) (va : Addr) : entryFrame m #[(.ref va)] 1 = mkF m 0 #[.val (.ref va)] [] := by first | (simp [entryFrame, mkF, argsToLocals, Value.category]; done) | rfl
def F4 (vf : Int64) (vl : Int64) : Int64 := ((vl - vf) + (1 : Int64))
def Q4 (Z : State) (va : Addr) (vf : Int64) (vl : Int64) (h0 : Heap) (n0 : Nat) (v : Option Value) (h : Heap) (L : List Loc) : Prop := v = some (.long (F4 vf vl)) ∧ Fr n0 L ∧ h = h0
set_option maxRecDepth 65536 in
set_option maxHeartbeats 40000000 in
theorem rm4 (l : Launch) (Z : State) (a0 : Array Value) (hw : ∀ d ∈ tables_1, d.before a0 Z = true) (ws : List Jvm.Cond) (va : Addr) (vf : Int64) (vl : Int64) (h0 : Heap) (n0 : Nat) (Z0 : n0 ≤ h0.size) (F_va_firstSeq : Fld Z h0 va "com/example/threadkeep/threadkeep/store/AppendResult" "firstSeq" "J" (.long vf)) (F_va_lastSeq : Fld Z h0 va "com/example/threadkeep/threadkeep/store/AppendResult" "lastSeq" "J" (.long vl)) :
    MetFree l (⟨"com/example/threadkeep/threadkeep/store/AppendResult", "count", "()J"⟩ : MethodName) (head1 (Jvm.Cond.code (⟨"com/example/threadkeep/threadkeep/store/AppendResult", "count", "()J"⟩ : MethodName) prog_27_method_2_code 1 (some .long) :: ws) ({ frames := 0, cells := 0, slots := 0, locals := 0 } : Room)) (fun a U => a = #[(.ref va)] ∧ Z.Warmed39 U.vm ∧ U.heap = h0) (fun _ _ _ _ _ => True) (fun _ U o U' => ∃ v L, o = .returned v ∧ Q4 Z va vf vl h0 n0 v U'.heap L ∧ FrameEnd U o U' L ({ frames := 0, cells := 0, slots := 0, locals := 0 } : Room).cells ({ frames := 0, cells := 0, slots := 0, locals := 0 } : Room).slots) := by
  refine MetFree.of_bodySF (plainFor_of_name pn_4) hisR ?_
  intro p e s m args below meth c s₁ Bd hml0 hP hK
  obtain ⟨rfl, hZ, hh⟩ := hP
  have hx := Bd.exec
  have hby := Bd.bytes
  have hml : c.maxLocals = 1 := hml0
  have hown : s.vm.findClass "com/example/threadkeep/threadkeep/store/AppendResult" = some m.cls := findClass_of_methodNamed Bd.named
  have hnm := (name_of_methodNamed Bd.named Bd.method).1
  have X0 : Stand p l e ({ frames := 0, cells := 0, slots := 0, locals := 0 } : Room) s m #[(.ref va)] below meth c s₁ [] 0 0 := Stand.of_body Bd
  have e0 : s₁.heap = h0 := by rw [← hh, Bd.state]; rfl
  have N0 := Fr.nil n0
  have pre0 : ∀ t, Steps p.tables e below (s₁.setTop (mkF m 0 #[.val (.ref va)] [])) t → Steps p.tables e below (s₁.setTop (entryFrame m #[(.ref va)] 1)) t := fun t k => castTop (ef_4 m va) k
  obtain ⟨T1, X1, e1, st1⟩ := getF X0 hx hZ hown (host := "") (Or.inl (hw _ (List.mem_of_getElem? (i := 16) rfl))) Via.refl e0 F_va_lastSeq (g := (mkF m 1 #[.val (.ref va)] [(.ref va)])) rfl rfl (hb hby d4_1)
  obtain ⟨T2, X2, e2, st2⟩ := getF X1 hx hZ hown (host := "") (Or.inl (hw _ (List.mem_of_getElem? (i := 14) rfl))) Via.refl e1 F_va_firstSeq (g := (mkF m 5 #[.val (.ref va)] [(.ref va), (.long vl)])) rfl rfl (hb hby d4_5)
  obtain ⟨fs, hr, hrun, hended, hW, hsame⟩ := X2.leave (v := some (.long ((vl - vf) + (1 : Int64)))) (fun h => by rw [Bd.returns] at h; cases h)
  refine ⟨_, _, pre0 _ ?_, hrun, hended, _, _, rfl, ?_, ⟨_, rfl⟩, hW, hsame.mono (by decide) (by decide)⟩
  · show Steps p.tables e below (s₁.setTop (mkF m 0 #[.val (.ref va)] [])) _
    refine XS.aloadN X0.here hx rfl (hb hby d4_0) rfl rfl ?_
    show Steps p.tables e below (s₁.setTop (mkF m 1 #[.val (.ref va)] [(.ref va)])) _
    refine st1 _ ?_
    show Steps p.tables e below (T1.setTop (mkF m 4 #[.val (.ref va)] [(.long vl)])) _
    refine XS.aloadN X1.here hx rfl (hb hby d4_4) rfl rfl ?_
    show Steps p.tables e below (T1.setTop (mkF m 5 #[.val (.ref va)] [(.ref va), (.long vl)])) _
    refine st2 _ ?_
    show Steps p.tables e below (T2.setTop (mkF m 8 #[.val (.ref va)] [(.long vf), (.long vl)])) _
    refine XS.lsub X2.here hx rfl (hb hby d4_8) rfl ?_
    show Steps p.tables e below (T2.setTop (mkF m 9 #[.val (.ref va)] [(.long (vl - vf))])) _
    refine XS.lconst X2.here hx rfl (hb hby d4_9) ?_
    show Steps p.tables e below (T2.setTop (mkF m 10 #[.val (.ref va)] [(.long (1 : Int64)), (.long (vl - vf))])) _
    refine XS.ladd X2.here hx rfl (hb hby d4_10) rfl ?_
    show Steps p.tables e below (T2.setTop (mkF m 11 #[.val (.ref va)] [(.long ((vl - vf) + (1 : Int64)))])) _
    exact X2.lreturnOut hx Bd.returns (hb hby d4_11) hr
  · show Q4 Z va vf vl h0 n0 _ T2.heap _
    rw [e2]
    exact ⟨rfl, N0, rfl⟩
theorem d5_0 : decode prog_27_method_6_code 0 = .ok (.aload_n 0, 1) := by decide +kernel
theorem d5_1 : decode prog_27_method_6_code 1 = .ok (.getfield 7, 3) := by decide +kernel
theorem d5_4 : decode prog_27_method_6_code 4 = .ok (.lreturn, 1) := by decide +kernel
theorem pn_5 : plainName "com/example/threadkeep/threadkeep/store/AppendResult" = true := by first | (simp [plainName, overriddenIn]; done) | decide +kernel
theorem ef_5 (m : MethodId) (va : Addr) : entryFrame m #[(.ref va)] 1 = mkF m 0 #[.val (.ref va)] [] := by first | (simp [entryFrame, mkF, argsToLocals, Value.category]; done) | rfl
def F5 (vf : Int64) : Int64 := vf
def Q5 (Z : State) (va : Addr) (vf : Int64) (h0 : Heap) (n0 : Nat) (v : Option Value) (h : Heap) (L : List Loc) : Prop := v = some (.long (F5 vf)) ∧ Fr n0 L ∧ h = h0
set_option maxRecDepth 65536 in
set_option maxHeartbeats 40000000 in
theorem rm5 (l : Launch) (Z : State) (a0 : Array Value) (hw : ∀ d ∈ tables_1, d.before a0 Z = true) (ws : List Jvm.Cond) (va : Addr) (vf : Int64) (h0 : Heap) (n0 : Nat) (Z0 : n0 ≤ h0.size) (F_va_firstSeq : Fld Z h0 va "com/example/threadkeep/threadkeep/store/AppendResult" "firstSeq" "J" (.long vf)) :
    MetFree l (⟨"com/example/threadkeep/threadkeep/store/AppendResult", "firstSeq", "()J"⟩ : MethodName) (head1 (Jvm.Cond.code (⟨"com/example/threadkeep/threadkeep/store/AppendResult", "firstSeq", "()J"⟩ : MethodName) prog_27_method_6_code 1 (some .long) :: ws) ({ frames := 0, cells := 0, slots := 0, locals := 0 } : Room)) (fun a U => a = #[(.ref va)] ∧ Z.Warmed39 U.vm ∧ U.heap = h0) (fun _ _ _ _ _ => True) (fun _ U o U' => ∃ v L, o = .returned v ∧ Q5 Z va vf h0 n0 v U'.heap L ∧ FrameEnd U o U' L ({ frames := 0, cells := 0, slots := 0, locals := 0 } : Room).cells ({ frames := 0, cells := 0, slots := 0, locals := 0 } : Room).slots) := by
  refine MetFree.of_bodySF (plainFor_of_name pn_5) hisR ?_
  intro p e s m args below meth c s₁ Bd hml0 hP hK
  obtain ⟨rfl, hZ, hh⟩ := hP
  have hx := Bd.exec
  have hby := Bd.bytes
  have hml : c.maxLocals = 1 := hml0
  have hown : s.vm.findClass "com/example/threadkeep/threadkeep/store/AppendResult" = some m.cls := findClass_of_methodNamed Bd.named
  have hnm := (name_of_methodNamed Bd.named Bd.method).1
  have X0 : Stand p l e ({ frames := 0, cells := 0, slots := 0, locals := 0 } : Room) s m #[(.ref va)] below meth c s₁ [] 0 0 := Stand.of_body Bd
  have e0 : s₁.heap = h0 := by rw [← hh, Bd.state]; rfl
  have N0 := Fr.nil n0
  have pre0 : ∀ t, Steps p.tables e below (s₁.setTop (mkF m 0 #[.val (.ref va)] [])) t → Steps p.tables e below (s₁.setTop (entryFrame m #[(.ref va)] 1)) t := fun t k => castTop (ef_5 m va) k
  obtain ⟨T1, X1, e1, st1⟩ := getF X0 hx hZ hown (host := "") (Or.inl (hw _ (List.mem_of_getElem? (i := 14) rfl))) Via.refl e0 F_va_firstSeq (g := (mkF m 1 #[.val (.ref va)] [(.ref va)])) rfl rfl (hb hby d5_1)
  obtain ⟨fs, hr, hrun, hended, hW, hsame⟩ := X1.leave (v := some (.long vf)) (fun h => by rw [Bd.returns] at h; cases h)
  refine ⟨_, _, pre0 _ ?_, hrun, hended, _, _, rfl, ?_, ⟨_, rfl⟩, hW, hsame.mono (by decide) (by decide)⟩
  · show Steps p.tables e below (s₁.setTop (mkF m 0 #[.val (.ref va)] [])) _
    refine XS.aloadN X0.here hx rfl (hb hby d5_0) rfl rfl ?_
    show Steps p.tables e below (s₁.setTop (mkF m 1 #[.val (.ref va)] [(.ref va)])) _
    refine st1 _ ?_
    show Steps p.tables e below (T1.setTop (mkF m 4 #[.val (.ref va)] [(.long vf)])) _
    exact X1.lreturnOut hx Bd.returns (hb hby d5_4) hr
  · show Q5 Z va vf h0 n0 _ T1.heap _
    rw [e1]
    exact ⟨rfl, N0, rfl⟩
theorem d6_0 : decode prog_27_method_7_code 0 = .ok (.aload_n 0, 1) := by decide +kernel
theorem d6_1 : decode prog_27_method_7_code 1 = .ok (.getfield 13, 3) := by decide +kernel
theorem d6_4 : decode prog_27_method_7_code 4 = .ok (.lreturn, 1) := by decide +kernel
theorem pn_6 : plainName "com/example/threadkeep/threadkeep/store/AppendResult" = true := by first | (simp [plainName, overriddenIn]; done) | decide +kernel
theorem ef_6 (m : MethodId) (va : Addr) : entryFrame m #[(.ref va)] 1 = mkF m 0 #[.val (.ref va)] [] := by first | (simp [entryFrame, mkF, argsToLocals, Value.category]; done) | rfl
def F6 (vl : Int64) : Int64 := vl
def Q6 (Z : State) (va : Addr) (vl : Int64) (h0 : Heap) (n0 : Nat) (v : Option Value) (h : Heap) (L : List Loc) : Prop := v = some (.long (F6 vl)) ∧ Fr n0 L ∧ h = h0
set_option maxRecDepth 65536 in
set_option maxHeartbeats 40000000 in
theorem rm6 (l : Launch) (Z : State) (a0 : Array Value) (hw : ∀ d ∈ tables_1, d.before a0 Z = true) (ws : List Jvm.Cond) (va : Addr) (vl : Int64) (h0 : Heap) (n0 : Nat) (Z0 : n0 ≤ h0.size) (F_va_lastSeq : Fld Z h0 va "com/example/threadkeep/threadkeep/store/AppendResult" "lastSeq" "J" (.long vl)) :
    MetFree l (⟨"com/example/threadkeep/threadkeep/store/AppendResult", "lastSeq", "()J"⟩ : MethodName) (head1 (Jvm.Cond.code (⟨"com/example/threadkeep/threadkeep/store/AppendResult", "lastSeq", "()J"⟩ : MethodName) prog_27_method_7_code 1 (some .long) :: ws) ({ frames := 0, cells := 0, slots := 0, locals := 0 } : Room)) (fun a U => a = #[(.ref va)] ∧ Z.Warmed39 U.vm ∧ U.heap = h0) (fun _ _ _ _ _ => True) (fun _ U o U' => ∃ v L, o = .returned v ∧ Q6 Z va vl h0 n0 v U'.heap L ∧ FrameEnd U o U' L ({ frames := 0, cells := 0, slots := 0, locals := 0 } : Room).cells ({ frames := 0, cells := 0, slots := 0, locals := 0 } : Room).slots) := by
  refine MetFree.of_bodySF (plainFor_of_name pn_6) hisR ?_
  intro p e s m args below meth c s₁ Bd hml0 hP hK
  obtain ⟨rfl, hZ, hh⟩ := hP
  have hx := Bd.exec
  have hby := Bd.bytes
  have hml : c.maxLocals = 1 := hml0
  have hown : s.vm.findClass "com/example/threadkeep/threadkeep/store/AppendResult" = some m.cls := findClass_of_methodNamed Bd.named
  have hnm := (name_of_methodNamed Bd.named Bd.method).1
  have X0 : Stand p l e ({ frames := 0, cells := 0, slots := 0, locals := 0 } : Room) s m #[(.ref va)] below meth c s₁ [] 0 0 := Stand.of_body Bd
  have e0 : s₁.heap = h0 := by rw [← hh, Bd.state]; rfl
  have N0 := Fr.nil n0
  have pre0 : ∀ t, Steps p.tables e below (s₁.setTop (mkF m 0 #[.val (.ref va)] [])) t → Steps p.tables e below (s₁.setTop (entryFrame m #[(.ref va)] 1)) t := fun t k => castTop (ef_6 m va) k
  obtain ⟨T1, X1, e1, st1⟩ := getF X0 hx hZ hown (host := "") (Or.inl (hw _ (List.mem_of_getElem? (i := 16) rfl))) Via.refl e0 F_va_lastSeq (g := (mkF m 1 #[.val (.ref va)] [(.ref va)])) rfl rfl (hb hby d6_1)
  obtain ⟨fs, hr, hrun, hended, hW, hsame⟩ := X1.leave (v := some (.long vl)) (fun h => by rw [Bd.returns] at h; cases h)
  refine ⟨_, _, pre0 _ ?_, hrun, hended, _, _, rfl, ?_, ⟨_, rfl⟩, hW, hsame.mono (by decide) (by decide)⟩
  · show Steps p.tables e below (s₁.setTop (mkF m 0 #[.val (.ref va)] [])) _
    refine XS.aloadN X0.here hx rfl (hb hby d6_0) rfl rfl ?_
    show Steps p.tables e below (s₁.setTop (mkF m 1 #[.val (.ref va)] [(.ref va)])) _
    refine st1 _ ?_
    show Steps p.tables e below (T1.setTop (mkF m 4 #[.val (.ref va)] [(.long vl)])) _
    exact X1.lreturnOut hx Bd.returns (hb hby d6_4) hr
  · show Q6 Z va vl h0 n0 _ T1.heap _
    rw [e1]
    exact ⟨rfl, N0, rfl⟩
theorem pd_1 : parseMethodDescriptor "(JJ)V" = some ⟨[.long, .long], none⟩ := by decide +kernel
theorem pd_2 : parseMethodDescriptor "()J" = some ⟨[], some .long⟩ := by decide +kernel
theorem pn_0 : plainName "com/example/threadkeep/threadkeep/store/AppendResultCountPinLaw" = true := by first | (simp [plainName, overriddenIn]; done) | decide +kernel
theorem ef_0 (m : MethodId) (x1 : Int64) (x2 : Int64) : entryFrame m #[(.long x1), (.long x2)] maxLocals = mkF m 0 #[.val (.long x1), .second, .val (.long x2), .second, .unset, .unset, .unset, .unset, .unset, .unset, .unset, .unset] [] := by first | (simp [entryFrame, mkF, argsToLocals, Value.category, maxLocals]; done) | rfl
def F0 (x1 : Int64) (x2 : Int64) : Int32 := (if (((F5 (x1)) + (F4 (x1) (x2))) - (1 : Int64)) = (F6 (x2)) then (if (F4 (x1) (x1)) = (1 : Int64) then (1 : Int32) else (0 : Int32)) else (0 : Int32))
def Q0 (Z : State) (x1 : Int64) (x2 : Int64) (h0 : Heap) (n0 : Nat) (v : Option Value) (h : Heap) (L : List Loc) : Prop := v = some (.int (F0 x1 x2)) ∧ Fr n0 L
set_option maxRecDepth 65536 in
set_option maxHeartbeats 40000000 in
theorem rm0 (l : Launch) (Z : State) (a0 : Array Value) (hw : ∀ d ∈ tables_1, d.before a0 Z = true) (ws : List Jvm.Cond) (x1 : Int64) (x2 : Int64) (h0 : Heap) (n0 : Nat) (Z0 : n0 ≤ h0.size)  :
    MetFree l x (head1 (Jvm.Cond.code x code maxLocals ret :: ws) room_1) (fun a U => a = #[(.long x1), (.long x2)] ∧ Z.Warmed39 U.vm ∧ U.heap = h0) (fun _ _ _ _ _ => True) (fun _ U o U' => ∃ v L, o = .returned v ∧ Q0 Z x1 x2 h0 n0 v U'.heap L ∧ FrameEnd U o U' L room_1.cells room_1.slots) := by
  refine MetFree.of_bodySF (plainFor_of_name pn_0) hisR ?_
  intro p e s m args below meth c s₁ Bd hml0 hP hK
  obtain ⟨rfl, hZ, hh⟩ := hP
  have hx := Bd.exec
  have hby := Bd.bytes
  have hml : c.maxLocals = 12 := hml0
  have hown : s.vm.findClass "com/example/threadkeep/threadkeep/store/AppendResultCountPinLaw" = some m.cls := findClass_of_methodNamed Bd.named
  have hnm := (name_of_methodNamed Bd.named Bd.method).1
  have X0 : Stand p l e room_1 s m #[(.long x1), (.long x2)] below meth c s₁ [] 0 0 := Stand.of_body Bd
  have e0 : s₁.heap = h0 := by rw [← hh, Bd.state]; rfl
  have N0 := Fr.nil n0
  have pre0 : ∀ t, Steps p.tables e below (s₁.setTop (mkF m 0 #[.val (.long x1), .second, .val (.long x2), .second, .unset, .unset, .unset, .unset, .unset, .unset, .unset, .unset] [])) t → Steps p.tables e below (s₁.setTop (entryFrame m #[(.long x1), (.long x2)] maxLocals)) t := fun t k => castTop (ef_0 m x1 x2) k
  obtain ⟨T1, h1, X1, e1, E1, A1, D1, -, st1⟩ := newO X0 hx hZ hown (hw _ (List.mem_of_getElem? (i := 0) rfl)) (hw _ (List.mem_of_getElem? (i := 1) rfl)) (hw _ (List.mem_of_getElem? (i := 2) rfl)) e0 (g := (mkF m 0 #[.val (.long x1), .second, .val (.long x2), .second, .unset, .unset, .unset, .unset, .unset, .unset, .unset, .unset] [])) rfl (hb hby at_0) (by decide) (by decide)
  obtain ⟨b1, g1⟩ : ∃ z, z = h0.size := ⟨_, rfl⟩
  rw [← g1] at A1 D1 st1
  have g_b1 : n0 ≤ b1 := Nat.le_trans Z0 (Nat.le_of_eq g1.symm)
  have Z2 : n0 ≤ h1.size := Nat.le_trans Z0 E1.1
  have F1_firstSeq : Fld Z h1 b1 "com/example/threadkeep/threadkeep/store/AppendResult" "firstSeq" "J" (.long (0 : Int64)) := D1 (Or.inr (hw _ (List.mem_of_getElem? (i := 15) rfl))) (ty := .long) (by decide)
  have F1_lastSeq : Fld Z h1 b1 "com/example/threadkeep/threadkeep/store/AppendResult" "lastSeq" "J" (.long (0 : Int64)) := D1 (Or.inr (hw _ (List.mem_of_getElem? (i := 17) rfl))) (ty := .long) (by decide)
  obtain ⟨_, _, ⟨T3, L3, k3, n3⟩, -, X3, ⟨Lc3, hQ3, l3, y3, z3⟩, st3⟩ := X1.specialBack hx (y := (⟨"com/example/threadkeep/threadkeep/store/AppendResult", "<init>", "(JJ)V"⟩ : MethodName)) rfl hown (mvT hZ (hw _ (List.mem_of_getElem? (i := 3) rfl))) (mvT hZ (hw _ (List.mem_of_getElem? (i := 4) rfl))) (mvT hZ (hw _ (List.mem_of_getElem? (i := 5) rfl))) (by decide) (backOf (W := 1) (rm1 l Z a0 hw [] b1 x1 x2  h1 n0 Z2 A1 g_b1 F1_firstSeq F1_lastSeq) hZ (hw _ (List.mem_of_getElem? (i := 5) rfl)) (hw _ (List.mem_of_getElem? (i := 2) rfl)) (by decide) (by decide)) (g := (mkF m 6 #[.val (.long x1), .second, .val (.long x2), .second, .unset, .unset, .unset, .unset, .unset, .unset, .unset, .unset] [(.long x2), (.long x1), (.ref b1), (.ref b1)])) rfl (by rw [hml]; rfl) (Steps.refl _) (a := b1) (argsL := [(.long x1), (.long x2)]) (rest := [(.ref b1)]) (lenOf pd_1 rfl) rfl (by show 2 * 0 + _ ≤ _; exact Nat.le_of_eq rfl) (hb hby at_6) (fun _ _ => ⟨rfl, e1, (by decide : 1 + 0 ≤ _), (by decide : 2 + 0 ≤ _)⟩)
  dsimp only [Pt.U, Pt.locs, Pt.cells, Pt.slots] at X3 l3 y3 z3 st3 hQ3
  subst l3 y3 z3
  obtain ⟨rfl, N3q, Q3_0, Q3_1, Q3_2, Q3_3⟩ := hQ3
  have Z4 : n0 ≤ T3.heap.size := Nat.le_trans Z2 Q3_0.1
  have E5_b1 := A1.keep Q3_0
  have N3 := Fr.app N0 N3q
  obtain ⟨cq8, kq8, q8a, q8b, q8c⟩ := isOf hZ rfl Q3_1
  obtain ⟨_, _, ⟨T8, L8, k8, n8⟩, -, X8, ⟨Lc8, hQ8, l8, y8, z8⟩, st8⟩ := X3.virtualBack hx (y := (⟨"com/example/threadkeep/threadkeep/store/AppendResult", "count", "()J"⟩ : MethodName)) (z := (⟨"com/example/threadkeep/threadkeep/store/AppendResult", "count", "()J"⟩ : MethodName)) hown (mvT hZ (hw _ (List.mem_of_getElem? (i := 18) rfl))) (mvT hZ (hw _ (List.mem_of_getElem? (i := 19) rfl))) (notFace_of_selects (args := #[]) (mvT hZ (hw _ (List.mem_of_getElem? (i := 21) rfl)))) (mvT hZ (hw _ (List.mem_of_getElem? (i := 21) rfl))) (mvT hZ (hw _ (List.mem_of_getElem? (i := 20) rfl))) (by decide) (backOf (W := 0) (rm4 l Z a0 hw [] b1 (x1) (x2) T3.heap n0 Z4 Q3_2 Q3_3) hZ (hw _ (List.mem_of_getElem? (i := 22) rfl)) (hw _ (List.mem_of_getElem? (i := 2) rfl)) (by decide) (by decide)) q8a q8c (g := (mkF m 13 #[.val (.long x1), .second, .val (.long x2), .second, .val (.ref b1), .unset, .unset, .unset, .unset, .unset, .unset, .unset] [(.ref b1)])) rfl (by rw [hml]; rfl) (Steps.refl _) (argsL := []) (rest := []) (lenOf pd_2 rfl) rfl (by show 2 * 0 + _ ≤ _; exact Nat.le_of_eq rfl) (hb hby at_13) (fun _ _ => ⟨rfl, rfl, (by decide : 1 + 0 ≤ _), (by decide : 2 + 0 ≤ _)⟩)
  dsimp only [Pt.U, Pt.locs, Pt.cells, Pt.slots] at X8 l8 y8 z8 st8 hQ8
  subst l8 y8 z8
  obtain ⟨rfl, N8q, e8⟩ := hQ8
  have N8 := Fr.app N3 N8q
  obtain ⟨T9, h9, X9, e9, E9, A9, D9, -, st9⟩ := newO X8 hx hZ hown (hw _ (List.mem_of_getElem? (i := 0) rfl)) (hw _ (List.mem_of_getElem? (i := 1) rfl)) (hw _ (List.mem_of_getElem? (i := 2) rfl)) e8 (g := (mkF m 18 #[.val (.long x1), .second, .val (.long x2), .second, .val (.ref b1), .val (.long (F4 (x1) (x2))), .second, .unset, .unset, .unset, .unset, .unset] [])) rfl (hb hby at_18) (by decide) (by decide)
  obtain ⟨b9, g9⟩ : ∃ z, z = T3.heap.size := ⟨_, rfl⟩
  rw [← g9] at A9 D9 st9
  have ne_b1_b9 : b1 ≠ b9 := Nat.ne_of_lt (Nat.lt_of_lt_of_le Q3_1.lt (Nat.le_of_eq g9.symm))
  have g_b9 : n0 ≤ b9 := Nat.le_trans Z4 (Nat.le_of_eq g9.symm)
  have Z10 : n0 ≤ h9.size := Nat.le_trans Z4 E9.1
  have E11_b1 := Q3_1.ext E9
  have F12_b1_firstSeq := Q3_2.ext E9
  have F13_b1_lastSeq := Q3_3.ext E9
  have F9_firstSeq : Fld Z h9 b9 "com/example/threadkeep/threadkeep/store/AppendResult" "firstSeq" "J" (.long (0 : Int64)) := D9 (Or.inr (hw _ (List.mem_of_getElem? (i := 15) rfl))) (ty := .long) (by decide)
  have F9_lastSeq : Fld Z h9 b9 "com/example/threadkeep/threadkeep/store/AppendResult" "lastSeq" "J" (.long (0 : Int64)) := D9 (Or.inr (hw _ (List.mem_of_getElem? (i := 17) rfl))) (ty := .long) (by decide)
  obtain ⟨_, _, ⟨T14, L14, k14, n14⟩, -, X14, ⟨Lc14, hQ14, l14, y14, z14⟩, st14⟩ := X9.specialBack hx (y := (⟨"com/example/threadkeep/threadkeep/store/AppendResult", "<init>", "(JJ)V"⟩ : MethodName)) rfl hown (mvT hZ (hw _ (List.mem_of_getElem? (i := 3) rfl))) (mvT hZ (hw _ (List.mem_of_getElem? (i := 4) rfl))) (mvT hZ (hw _ (List.mem_of_getElem? (i := 5) rfl))) (by decide) (backOf (W := 1) (rm1 l Z a0 hw [] b9 x1 x1  h9 n0 Z10 A9 g_b9 F9_firstSeq F9_lastSeq) hZ (hw _ (List.mem_of_getElem? (i := 5) rfl)) (hw _ (List.mem_of_getElem? (i := 2) rfl)) (by decide) (by decide)) (g := (mkF m 24 #[.val (.long x1), .second, .val (.long x2), .second, .val (.ref b1), .val (.long (F4 (x1) (x2))), .second, .unset, .unset, .unset, .unset, .unset] [(.long x1), (.long x1), (.ref b9), (.ref b9)])) rfl (by rw [hml]; rfl) (Steps.refl _) (a := b9) (argsL := [(.long x1), (.long x1)]) (rest := [(.ref b9)]) (lenOf pd_1 rfl) rfl (by show 2 * 0 + _ ≤ _; exact Nat.le_of_eq rfl) (hb hby at_24) (fun _ _ => ⟨rfl, e9, (by decide : 2 + 0 ≤ _), (by decide : 4 + 0 ≤ _)⟩)
  dsimp only [Pt.U, Pt.locs, Pt.cells, Pt.slots] at X14 l14 y14 z14 st14 hQ14
  subst l14 y14 z14
  obtain ⟨rfl, N14q, Q14_0, Q14_1, Q14_2, Q14_3⟩ := hQ14
  have Z15 : n0 ≤ T14.heap.size := Nat.le_trans Z10 Q14_0.1
  have E16_b1 := E11_b1.keep Q14_0
  have F17_b1_firstSeq := F12_b1_firstSeq.keep Q14_0 (ninS ne_b1_b9 nin0)
  have F18_b1_lastSeq := F13_b1_lastSeq.keep Q14_0 (ninS ne_b1_b9 nin0)
  have E19_b9 := A9.keep Q14_0
  have N14 := Fr.app N8 N14q
  obtain ⟨cq22, kq22, q22a, q22b, q22c⟩ := isOf hZ rfl Q14_1
  obtain ⟨_, _, ⟨T22, L22, k22, n22⟩, -, X22, ⟨Lc22, hQ22, l22, y22, z22⟩, st22⟩ := X14.virtualBack hx (y := (⟨"com/example/threadkeep/threadkeep/store/AppendResult", "count", "()J"⟩ : MethodName)) (z := (⟨"com/example/threadkeep/threadkeep/store/AppendResult", "count", "()J"⟩ : MethodName)) hown (mvT hZ (hw _ (List.mem_of_getElem? (i := 18) rfl))) (mvT hZ (hw _ (List.mem_of_getElem? (i := 19) rfl))) (notFace_of_selects (args := #[]) (mvT hZ (hw _ (List.mem_of_getElem? (i := 21) rfl)))) (mvT hZ (hw _ (List.mem_of_getElem? (i := 21) rfl))) (mvT hZ (hw _ (List.mem_of_getElem? (i := 20) rfl))) (by decide) (backOf (W := 0) (rm4 l Z a0 hw [] b9 (x1) (x1) T14.heap n0 Z15 Q14_2 Q14_3) hZ (hw _ (List.mem_of_getElem? (i := 22) rfl)) (hw _ (List.mem_of_getElem? (i := 2) rfl)) (by decide) (by decide)) q22a q22c (g := (mkF m 31 #[.val (.long x1), .second, .val (.long x2), .second, .val (.ref b1), .val (.long (F4 (x1) (x2))), .second, .val (.ref b9), .unset, .unset, .unset, .unset] [(.ref b9)])) rfl (by rw [hml]; rfl) (Steps.refl _) (argsL := []) (rest := []) (lenOf pd_2 rfl) rfl (by show 2 * 0 + _ ≤ _; exact Nat.le_of_eq rfl) (hb hby at_31) (fun _ _ => ⟨rfl, rfl, (by decide : 2 + 0 ≤ _), (by decide : 4 + 0 ≤ _)⟩)
  dsimp only [Pt.U, Pt.locs, Pt.cells, Pt.slots] at X22 l22 y22 z22 st22 hQ22
  subst l22 y22 z22
  obtain ⟨rfl, N22q, e22⟩ := hQ22
  have N22 := Fr.app N14 N22q
  obtain ⟨cq23, kq23, q23a, q23b, q23c⟩ := isOf hZ e22 E16_b1
  obtain ⟨_, _, ⟨T23, L23, k23, n23⟩, -, X23, ⟨Lc23, hQ23, l23, y23, z23⟩, st23⟩ := X22.virtualBack hx (y := (⟨"com/example/threadkeep/threadkeep/store/AppendResult", "firstSeq", "()J"⟩ : MethodName)) (z := (⟨"com/example/threadkeep/threadkeep/store/AppendResult", "firstSeq", "()J"⟩ : MethodName)) hown (mvT hZ (hw _ (List.mem_of_getElem? (i := 23) rfl))) (mvT hZ (hw _ (List.mem_of_getElem? (i := 24) rfl))) (notFace_of_selects (args := #[]) (mvT hZ (hw _ (List.mem_of_getElem? (i := 26) rfl)))) (mvT hZ (hw _ (List.mem_of_getElem? (i := 26) rfl))) (mvT hZ (hw _ (List.mem_of_getElem? (i := 25) rfl))) (by decide) (backOf (W := 0) (rm5 l Z a0 hw [] b1 (x1) T14.heap n0 Z15 F17_b1_firstSeq) hZ (hw _ (List.mem_of_getElem? (i := 27) rfl)) (hw _ (List.mem_of_getElem? (i := 2) rfl)) (by decide) (by decide)) q23a q23c (g := (mkF m 38 #[.val (.long x1), .second, .val (.long x2), .second, .val (.ref b1), .val (.long (F4 (x1) (x2))), .second, .val (.ref b9), .val (.long (F4 (x1) (x1))), .second, .unset, .unset] [(.ref b1)])) rfl (by rw [hml]; rfl) (Steps.refl _) (argsL := []) (rest := []) (lenOf pd_2 rfl) rfl (by show 2 * 0 + _ ≤ _; exact Nat.le_of_eq rfl) (hb hby at_38) (fun _ _ => ⟨rfl, e22, (by decide : 2 + 0 ≤ _), (by decide : 4 + 0 ≤ _)⟩)
  dsimp only [Pt.U, Pt.locs, Pt.cells, Pt.slots] at X23 l23 y23 z23 st23 hQ23
  subst l23 y23 z23
  obtain ⟨rfl, N23q, e23⟩ := hQ23
  have N23 := Fr.app N22 N23q
  obtain ⟨cq24, kq24, q24a, q24b, q24c⟩ := isOf hZ e23 E16_b1
  obtain ⟨_, _, ⟨T24, L24, k24, n24⟩, -, X24, ⟨Lc24, hQ24, l24, y24, z24⟩, st24⟩ := X23.virtualBack hx (y := (⟨"com/example/threadkeep/threadkeep/store/AppendResult", "lastSeq", "()J"⟩ : MethodName)) (z := (⟨"com/example/threadkeep/threadkeep/store/AppendResult", "lastSeq", "()J"⟩ : MethodName)) hown (mvT hZ (hw _ (List.mem_of_getElem? (i := 28) rfl))) (mvT hZ (hw _ (List.mem_of_getElem? (i := 29) rfl))) (notFace_of_selects (args := #[]) (mvT hZ (hw _ (List.mem_of_getElem? (i := 31) rfl)))) (mvT hZ (hw _ (List.mem_of_getElem? (i := 31) rfl))) (mvT hZ (hw _ (List.mem_of_getElem? (i := 30) rfl))) (by decide) (backOf (W := 2) (rm6 l Z a0 hw [] b1 (x2) T14.heap n0 Z15 F18_b1_lastSeq) hZ (hw _ (List.mem_of_getElem? (i := 32) rfl)) (hw _ (List.mem_of_getElem? (i := 2) rfl)) (by decide) (by decide)) q24a q24c (g := (mkF m 48 #[.val (.long x1), .second, .val (.long x2), .second, .val (.ref b1), .val (.long (F4 (x1) (x2))), .second, .val (.ref b9), .val (.long (F4 (x1) (x1))), .second, .unset, .unset] [(.ref b1), (.long (((F5 (x1)) + (F4 (x1) (x2))) - (1 : Int64)))])) rfl (by rw [hml]; rfl) (Steps.refl _) (argsL := []) (rest := [(.long (((F5 (x1)) + (F4 (x1) (x2))) - (1 : Int64)))]) (lenOf pd_2 rfl) rfl (by show 2 * 0 + _ ≤ _; exact Nat.le_of_eq rfl) (hb hby at_48) (fun _ _ => ⟨rfl, e23, (by decide : 2 + 0 ≤ _), (by decide : 4 + 0 ≤ _)⟩)
  dsimp only [Pt.U, Pt.locs, Pt.cells, Pt.slots] at X24 l24 y24 z24 st24 hQ24
  subst l24 y24 z24
  obtain ⟨rfl, N24q, e24⟩ := hQ24
  have N24 := Fr.app N23 N24q
  obtain ⟨fs, hr, hrun, hended, hW, hsame⟩ := X24.leave (v := some (.int (if (((F5 (x1)) + (F4 (x1) (x2))) - (1 : Int64)) = (F6 (x2)) then (if (F4 (x1) (x1)) = (1 : Int64) then (1 : Int32) else (0 : Int32)) else (0 : Int32)))) (fun h => by rw [Bd.returns] at h; cases h)
  refine ⟨_, _, pre0 _ ?_, hrun, hended, _, _, rfl, ?_, ⟨_, rfl⟩, hW, hsame.mono (by decide) (by decide)⟩
  · show Steps p.tables e below (s₁.setTop (mkF m 0 #[.val (.long x1), .second, .val (.long x2), .second, .unset, .unset, .unset, .unset, .unset, .unset, .unset, .unset] [])) _
    refine st1 _ ?_
    show Steps p.tables e below (T1.setTop (mkF m 3 #[.val (.long x1), .second, .val (.long x2), .second, .unset, .unset, .unset, .unset, .unset, .unset, .unset, .unset] [(.ref b1)])) _
    refine XS.dup X1.here hx rfl (hb hby at_3) rfl rfl ?_
    show Steps p.tables e below (T1.setTop (mkF m 4 #[.val (.long x1), .second, .val (.long x2), .second, .unset, .unset, .unset, .unset, .unset, .unset, .unset, .unset] [(.ref b1), (.ref b1)])) _
    refine XS.lloadN X1.here hx rfl (hb hby at_4) rfl ?_
    show Steps p.tables e below (T1.setTop (mkF m 5 #[.val (.long x1), .second, .val (.long x2), .second, .unset, .unset, .unset, .unset, .unset, .unset, .unset, .unset] [(.long x1), (.ref b1), (.ref b1)])) _
    refine XS.lloadN X1.here hx rfl (hb hby at_5) rfl ?_
    show Steps p.tables e below (T1.setTop (mkF m 6 #[.val (.long x1), .second, .val (.long x2), .second, .unset, .unset, .unset, .unset, .unset, .unset, .unset, .unset] [(.long x2), (.long x1), (.ref b1), (.ref b1)])) _
    refine st3.trans ?_
    show Steps p.tables e below (T3.setTop (mkF m 9 #[.val (.long x1), .second, .val (.long x2), .second, .unset, .unset, .unset, .unset, .unset, .unset, .unset, .unset] [(.ref b1)])) _
    refine XS.astore X3.here hx rfl (hb hby at_9) rfl rfl (l' := #[.val (.long x1), .second, .val (.long x2), .second, .val (.ref b1), .unset, .unset, .unset, .unset, .unset, .unset, .unset]) rfl ?_
    show Steps p.tables e below (T3.setTop (mkF m 11 #[.val (.long x1), .second, .val (.long x2), .second, .val (.ref b1), .unset, .unset, .unset, .unset, .unset, .unset, .unset] [])) _
    refine XS.aload X3.here hx rfl (hb hby at_11) rfl rfl ?_
    show Steps p.tables e below (T3.setTop (mkF m 13 #[.val (.long x1), .second, .val (.long x2), .second, .val (.ref b1), .unset, .unset, .unset, .unset, .unset, .unset, .unset] [(.ref b1)])) _
    refine st8.trans ?_
    show Steps p.tables e below (T8.setTop (mkF m 16 #[.val (.long x1), .second, .val (.long x2), .second, .val (.ref b1), .unset, .unset, .unset, .unset, .unset, .unset, .unset] [(.long (F4 (x1) (x2)))])) _
    refine XS.lstore X8.here hx rfl (hb hby at_16) rfl (l' := #[.val (.long x1), .second, .val (.long x2), .second, .val (.ref b1), .val (.long (F4 (x1) (x2))), .second, .unset, .unset, .unset, .unset, .unset]) rfl ?_
    show Steps p.tables e below (T8.setTop (mkF m 18 #[.val (.long x1), .second, .val (.long x2), .second, .val (.ref b1), .val (.long (F4 (x1) (x2))), .second, .unset, .unset, .unset, .unset, .unset] [])) _
    refine st9 _ ?_
    show Steps p.tables e below (T9.setTop (mkF m 21 #[.val (.long x1), .second, .val (.long x2), .second, .val (.ref b1), .val (.long (F4 (x1) (x2))), .second, .unset, .unset, .unset, .unset, .unset] [(.ref b9)])) _
    refine XS.dup X9.here hx rfl (hb hby at_21) rfl rfl ?_
    show Steps p.tables e below (T9.setTop (mkF m 22 #[.val (.long x1), .second, .val (.long x2), .second, .val (.ref b1), .val (.long (F4 (x1) (x2))), .second, .unset, .unset, .unset, .unset, .unset] [(.ref b9), (.ref b9)])) _
    refine XS.lloadN X9.here hx rfl (hb hby at_22) rfl ?_
    show Steps p.tables e below (T9.setTop (mkF m 23 #[.val (.long x1), .second, .val (.long x2), .second, .val (.ref b1), .val (.long (F4 (x1) (x2))), .second, .unset, .unset, .unset, .unset, .unset] [(.long x1), (.ref b9), (.ref b9)])) _
    refine XS.lloadN X9.here hx rfl (hb hby at_23) rfl ?_
    show Steps p.tables e below (T9.setTop (mkF m 24 #[.val (.long x1), .second, .val (.long x2), .second, .val (.ref b1), .val (.long (F4 (x1) (x2))), .second, .unset, .unset, .unset, .unset, .unset] [(.long x1), (.long x1), (.ref b9), (.ref b9)])) _
    refine st14.trans ?_
    show Steps p.tables e below (T14.setTop (mkF m 27 #[.val (.long x1), .second, .val (.long x2), .second, .val (.ref b1), .val (.long (F4 (x1) (x2))), .second, .unset, .unset, .unset, .unset, .unset] [(.ref b9)])) _
    refine XS.astore X14.here hx rfl (hb hby at_27) rfl rfl (l' := #[.val (.long x1), .second, .val (.long x2), .second, .val (.ref b1), .val (.long (F4 (x1) (x2))), .second, .val (.ref b9), .unset, .unset, .unset, .unset]) rfl ?_
    show Steps p.tables e below (T14.setTop (mkF m 29 #[.val (.long x1), .second, .val (.long x2), .second, .val (.ref b1), .val (.long (F4 (x1) (x2))), .second, .val (.ref b9), .unset, .unset, .unset, .unset] [])) _
    refine XS.aload X14.here hx rfl (hb hby at_29) rfl rfl ?_
    show Steps p.tables e below (T14.setTop (mkF m 31 #[.val (.long x1), .second, .val (.long x2), .second, .val (.ref b1), .val (.long (F4 (x1) (x2))), .second, .val (.ref b9), .unset, .unset, .unset, .unset] [(.ref b9)])) _
    refine st22.trans ?_
    show Steps p.tables e below (T22.setTop (mkF m 34 #[.val (.long x1), .second, .val (.long x2), .second, .val (.ref b1), .val (.long (F4 (x1) (x2))), .second, .val (.ref b9), .unset, .unset, .unset, .unset] [(.long (F4 (x1) (x1)))])) _
    refine XS.lstore X22.here hx rfl (hb hby at_34) rfl (l' := #[.val (.long x1), .second, .val (.long x2), .second, .val (.ref b1), .val (.long (F4 (x1) (x2))), .second, .val (.ref b9), .val (.long (F4 (x1) (x1))), .second, .unset, .unset]) rfl ?_
    show Steps p.tables e below (T22.setTop (mkF m 36 #[.val (.long x1), .second, .val (.long x2), .second, .val (.ref b1), .val (.long (F4 (x1) (x2))), .second, .val (.ref b9), .val (.long (F4 (x1) (x1))), .second, .unset, .unset] [])) _
    refine XS.aload X22.here hx rfl (hb hby at_36) rfl rfl ?_
    show Steps p.tables e below (T22.setTop (mkF m 38 #[.val (.long x1), .second, .val (.long x2), .second, .val (.ref b1), .val (.long (F4 (x1) (x2))), .second, .val (.ref b9), .val (.long (F4 (x1) (x1))), .second, .unset, .unset] [(.ref b1)])) _
    refine st23.trans ?_
    show Steps p.tables e below (T23.setTop (mkF m 41 #[.val (.long x1), .second, .val (.long x2), .second, .val (.ref b1), .val (.long (F4 (x1) (x2))), .second, .val (.ref b9), .val (.long (F4 (x1) (x1))), .second, .unset, .unset] [(.long (F5 (x1)))])) _
    refine XS.lload X23.here hx rfl (hb hby at_41) rfl ?_
    show Steps p.tables e below (T23.setTop (mkF m 43 #[.val (.long x1), .second, .val (.long x2), .second, .val (.ref b1), .val (.long (F4 (x1) (x2))), .second, .val (.ref b9), .val (.long (F4 (x1) (x1))), .second, .unset, .unset] [(.long (F4 (x1) (x2))), (.long (F5 (x1)))])) _
    refine XS.ladd X23.here hx rfl (hb hby at_43) rfl ?_
    show Steps p.tables e below (T23.setTop (mkF m 44 #[.val (.long x1), .second, .val (.long x2), .second, .val (.ref b1), .val (.long (F4 (x1) (x2))), .second, .val (.ref b9), .val (.long (F4 (x1) (x1))), .second, .unset, .unset] [(.long ((F5 (x1)) + (F4 (x1) (x2))))])) _
    refine XS.lconst X23.here hx rfl (hb hby at_44) ?_
    show Steps p.tables e below (T23.setTop (mkF m 45 #[.val (.long x1), .second, .val (.long x2), .second, .val (.ref b1), .val (.long (F4 (x1) (x2))), .second, .val (.ref b9), .val (.long (F4 (x1) (x1))), .second, .unset, .unset] [(.long (1 : Int64)), (.long ((F5 (x1)) + (F4 (x1) (x2))))])) _
    refine XS.lsub X23.here hx rfl (hb hby at_45) rfl ?_
    show Steps p.tables e below (T23.setTop (mkF m 46 #[.val (.long x1), .second, .val (.long x2), .second, .val (.ref b1), .val (.long (F4 (x1) (x2))), .second, .val (.ref b9), .val (.long (F4 (x1) (x1))), .second, .unset, .unset] [(.long (((F5 (x1)) + (F4 (x1) (x2))) - (1 : Int64)))])) _
    refine XS.aload X23.here hx rfl (hb hby at_46) rfl rfl ?_
    show Steps p.tables e below (T23.setTop (mkF m 48 #[.val (.long x1), .second, .val (.long x2), .second, .val (.ref b1), .val (.long (F4 (x1) (x2))), .second, .val (.ref b9), .val (.long (F4 (x1) (x1))), .second, .unset, .unset] [(.ref b1), (.long (((F5 (x1)) + (F4 (x1) (x2))) - (1 : Int64)))])) _
    refine st24.trans ?_
    show Steps p.tables e below (T24.setTop (mkF m 51 #[.val (.long x1), .second, .val (.long x2), .second, .val (.ref b1), .val (.long (F4 (x1) (x2))), .second, .val (.ref b9), .val (.long (F4 (x1) (x1))), .second, .unset, .unset] [(.long (F6 (x2))), (.long (((F5 (x1)) + (F4 (x1) (x2))) - (1 : Int64)))])) _
    refine XS.lcmp X24.here hx rfl (hb hby at_51) rfl ?_
    show Steps p.tables e below (T24.setTop (mkF m 52 #[.val (.long x1), .second, .val (.long x2), .second, .val (.ref b1), .val (.long (F4 (x1) (x2))), .second, .val (.ref b9), .val (.long (F4 (x1) (x1))), .second, .unset, .unset] [(.int (lcmpW (((F5 (x1)) + (F4 (x1) (x2))) - (1 : Int64)) (F6 (x2))))])) _
    refine own_dia (u := ((1 : Int32) : Int32)) (v := (0 : Int32)) ((((F5 (x1)) + (F4 (x1) (x2))) - (1 : Int64)) = (F6 (x2))) (fun z25 => (mkF m 60 #[.val (.long x1), .second, .val (.long x2), .second, .val (.ref b1), .val (.long (F4 (x1) (x2))), .second, .val (.ref b9), .val (.long (F4 (x1) (x1))), .second, .unset, .unset] [(.int z25)])) (fun hc25 k25 => ?_) (fun hc25 k25 => ?_) ?_
    · refine XS.ifNo X24.here hx rfl (hb hby at_52) rfl (own_leq hc25).2 ?_
      show Steps p.tables e below (T24.setTop (mkF m 55 #[.val (.long x1), .second, .val (.long x2), .second, .val (.ref b1), .val (.long (F4 (x1) (x2))), .second, .val (.ref b9), .val (.long (F4 (x1) (x1))), .second, .unset, .unset] [])) _
      refine XS.iconst X24.here hx rfl (hb hby at_55) ?_
      show Steps p.tables e below (T24.setTop (mkF m 56 #[.val (.long x1), .second, .val (.long x2), .second, .val (.ref b1), .val (.long (F4 (x1) (x2))), .second, .val (.ref b9), .val (.long (F4 (x1) (x1))), .second, .unset, .unset] [(.int (1 : Int32))])) _
      refine XS.goto X24.here hx rfl (pc0 := 56) (pc' := 60) rfl (hb hby at_56) (by decide) (by decide) ?_
      exact k25
    · refine XS.ifYes X24.here hx rfl (pc0 := 52) (pc' := 59) rfl (hb hby at_52) rfl (own_lne hc25).2 (by decide) (by decide) ?_
      show Steps p.tables e below (T24.setTop (mkF m 59 #[.val (.long x1), .second, .val (.long x2), .second, .val (.ref b1), .val (.long (F4 (x1) (x2))), .second, .val (.ref b9), .val (.long (F4 (x1) (x1))), .second, .unset, .unset] [])) _
      refine XS.iconst X24.here hx rfl (hb hby at_59) ?_
      exact k25
    -- meets at 60
    show Steps p.tables e below (T24.setTop (mkF m 60 #[.val (.long x1), .second, .val (.long x2), .second, .val (.ref b1), .val (.long (F4 (x1) (x2))), .second, .val (.ref b9), .val (.long (F4 (x1) (x1))), .second, .unset, .unset] [(.int (if (((F5 (x1)) + (F4 (x1) (x2))) - (1 : Int64)) = (F6 (x2)) then (1 : Int32) else (0 : Int32)))])) _
    refine XS.istore X24.here hx rfl (hb hby at_60) rfl (l' := #[.val (.long x1), .second, .val (.long x2), .second, .val (.ref b1), .val (.long (F4 (x1) (x2))), .second, .val (.ref b9), .val (.long (F4 (x1) (x1))), .second, .val (.int (if (((F5 (x1)) + (F4 (x1) (x2))) - (1 : Int64)) = (F6 (x2)) then (1 : Int32) else (0 : Int32))), .unset]) rfl ?_
    show Steps p.tables e below (T24.setTop (mkF m 62 #[.val (.long x1), .second, .val (.long x2), .second, .val (.ref b1), .val (.long (F4 (x1) (x2))), .second, .val (.ref b9), .val (.long (F4 (x1) (x1))), .second, .val (.int (if (((F5 (x1)) + (F4 (x1) (x2))) - (1 : Int64)) = (F6 (x2)) then (1 : Int32) else (0 : Int32))), .unset] [])) _
    refine XS.lload X24.here hx rfl (hb hby at_62) rfl ?_
    show Steps p.tables e below (T24.setTop (mkF m 64 #[.val (.long x1), .second, .val (.long x2), .second, .val (.ref b1), .val (.long (F4 (x1) (x2))), .second, .val (.ref b9), .val (.long (F4 (x1) (x1))), .second, .val (.int (if (((F5 (x1)) + (F4 (x1) (x2))) - (1 : Int64)) = (F6 (x2)) then (1 : Int32) else (0 : Int32))), .unset] [(.long (F4 (x1) (x1)))])) _
    refine XS.lconst X24.here hx rfl (hb hby at_64) ?_
    show Steps p.tables e below (T24.setTop (mkF m 65 #[.val (.long x1), .second, .val (.long x2), .second, .val (.ref b1), .val (.long (F4 (x1) (x2))), .second, .val (.ref b9), .val (.long (F4 (x1) (x1))), .second, .val (.int (if (((F5 (x1)) + (F4 (x1) (x2))) - (1 : Int64)) = (F6 (x2)) then (1 : Int32) else (0 : Int32))), .unset] [(.long (1 : Int64)), (.long (F4 (x1) (x1)))])) _
    refine XS.lcmp X24.here hx rfl (hb hby at_65) rfl ?_
    show Steps p.tables e below (T24.setTop (mkF m 66 #[.val (.long x1), .second, .val (.long x2), .second, .val (.ref b1), .val (.long (F4 (x1) (x2))), .second, .val (.ref b9), .val (.long (F4 (x1) (x1))), .second, .val (.int (if (((F5 (x1)) + (F4 (x1) (x2))) - (1 : Int64)) = (F6 (x2)) then (1 : Int32) else (0 : Int32))), .unset] [(.int (lcmpW (F4 (x1) (x1)) (1 : Int64)))])) _
    refine own_dia (u := ((1 : Int32) : Int32)) (v := (0 : Int32)) ((F4 (x1) (x1)) = (1 : Int64)) (fun z26 => (mkF m 74 #[.val (.long x1), .second, .val (.long x2), .second, .val (.ref b1), .val (.long (F4 (x1) (x2))), .second, .val (.ref b9), .val (.long (F4 (x1) (x1))), .second, .val (.int (if (((F5 (x1)) + (F4 (x1) (x2))) - (1 : Int64)) = (F6 (x2)) then (1 : Int32) else (0 : Int32))), .unset] [(.int z26)])) (fun hc26 k26 => ?_) (fun hc26 k26 => ?_) ?_
    · refine XS.ifNo X24.here hx rfl (hb hby at_66) rfl (own_leq hc26).2 ?_
      show Steps p.tables e below (T24.setTop (mkF m 69 #[.val (.long x1), .second, .val (.long x2), .second, .val (.ref b1), .val (.long (F4 (x1) (x2))), .second, .val (.ref b9), .val (.long (F4 (x1) (x1))), .second, .val (.int (if (((F5 (x1)) + (F4 (x1) (x2))) - (1 : Int64)) = (F6 (x2)) then (1 : Int32) else (0 : Int32))), .unset] [])) _
      refine XS.iconst X24.here hx rfl (hb hby at_69) ?_
      show Steps p.tables e below (T24.setTop (mkF m 70 #[.val (.long x1), .second, .val (.long x2), .second, .val (.ref b1), .val (.long (F4 (x1) (x2))), .second, .val (.ref b9), .val (.long (F4 (x1) (x1))), .second, .val (.int (if (((F5 (x1)) + (F4 (x1) (x2))) - (1 : Int64)) = (F6 (x2)) then (1 : Int32) else (0 : Int32))), .unset] [(.int (1 : Int32))])) _
      refine XS.goto X24.here hx rfl (pc0 := 70) (pc' := 74) rfl (hb hby at_70) (by decide) (by decide) ?_
      exact k26
    · refine XS.ifYes X24.here hx rfl (pc0 := 66) (pc' := 73) rfl (hb hby at_66) rfl (own_lne hc26).2 (by decide) (by decide) ?_
      show Steps p.tables e below (T24.setTop (mkF m 73 #[.val (.long x1), .second, .val (.long x2), .second, .val (.ref b1), .val (.long (F4 (x1) (x2))), .second, .val (.ref b9), .val (.long (F4 (x1) (x1))), .second, .val (.int (if (((F5 (x1)) + (F4 (x1) (x2))) - (1 : Int64)) = (F6 (x2)) then (1 : Int32) else (0 : Int32))), .unset] [])) _
      refine XS.iconst X24.here hx rfl (hb hby at_73) ?_
      exact k26
    -- meets at 74
    show Steps p.tables e below (T24.setTop (mkF m 74 #[.val (.long x1), .second, .val (.long x2), .second, .val (.ref b1), .val (.long (F4 (x1) (x2))), .second, .val (.ref b9), .val (.long (F4 (x1) (x1))), .second, .val (.int (if (((F5 (x1)) + (F4 (x1) (x2))) - (1 : Int64)) = (F6 (x2)) then (1 : Int32) else (0 : Int32))), .unset] [(.int (if (F4 (x1) (x1)) = (1 : Int64) then (1 : Int32) else (0 : Int32)))])) _
    refine XS.istore X24.here hx rfl (hb hby at_74) rfl (l' := #[.val (.long x1), .second, .val (.long x2), .second, .val (.ref b1), .val (.long (F4 (x1) (x2))), .second, .val (.ref b9), .val (.long (F4 (x1) (x1))), .second, .val (.int (if (((F5 (x1)) + (F4 (x1) (x2))) - (1 : Int64)) = (F6 (x2)) then (1 : Int32) else (0 : Int32))), .val (.int (if (F4 (x1) (x1)) = (1 : Int64) then (1 : Int32) else (0 : Int32)))]) rfl ?_
    show Steps p.tables e below (T24.setTop (mkF m 76 #[.val (.long x1), .second, .val (.long x2), .second, .val (.ref b1), .val (.long (F4 (x1) (x2))), .second, .val (.ref b9), .val (.long (F4 (x1) (x1))), .second, .val (.int (if (((F5 (x1)) + (F4 (x1) (x2))) - (1 : Int64)) = (F6 (x2)) then (1 : Int32) else (0 : Int32))), .val (.int (if (F4 (x1) (x1)) = (1 : Int64) then (1 : Int32) else (0 : Int32)))] [])) _
    refine XS.iload X24.here hx rfl (hb hby at_76) rfl ?_
    show Steps p.tables e below (T24.setTop (mkF m 78 #[.val (.long x1), .second, .val (.long x2), .second, .val (.ref b1), .val (.long (F4 (x1) (x2))), .second, .val (.ref b9), .val (.long (F4 (x1) (x1))), .second, .val (.int (if (((F5 (x1)) + (F4 (x1) (x2))) - (1 : Int64)) = (F6 (x2)) then (1 : Int32) else (0 : Int32))), .val (.int (if (F4 (x1) (x1)) = (1 : Int64) then (1 : Int32) else (0 : Int32)))] [(.int (if (((F5 (x1)) + (F4 (x1) (x2))) - (1 : Int64)) = (F6 (x2)) then (1 : Int32) else (0 : Int32)))])) _
    refine own_dia (u := ((if (F4 (x1) (x1)) = (1 : Int64) then (1 : Int32) else (0 : Int32)) : Int32)) (v := (0 : Int32)) ((((F5 (x1)) + (F4 (x1) (x2))) - (1 : Int64)) = (F6 (x2))) (fun z27 => (mkF m 91 #[.val (.long x1), .second, .val (.long x2), .second, .val (.ref b1), .val (.long (F4 (x1) (x2))), .second, .val (.ref b9), .val (.long (F4 (x1) (x1))), .second, .val (.int (if (((F5 (x1)) + (F4 (x1) (x2))) - (1 : Int64)) = (F6 (x2)) then (1 : Int32) else (0 : Int32))), .val (.int (if (F4 (x1) (x1)) = (1 : Int64) then (1 : Int32) else (0 : Int32)))] [(.int z27)])) (fun hc27 k27 => ?_) (fun hc27 k27 => ?_) ?_
    · refine XS.ifNo X24.here hx rfl (hb hby at_78) rfl (own_bt hc27).2 ?_
      show Steps p.tables e below (T24.setTop (mkF m 81 #[.val (.long x1), .second, .val (.long x2), .second, .val (.ref b1), .val (.long (F4 (x1) (x2))), .second, .val (.ref b9), .val (.long (F4 (x1) (x1))), .second, .val (.int (if (((F5 (x1)) + (F4 (x1) (x2))) - (1 : Int64)) = (F6 (x2)) then (1 : Int32) else (0 : Int32))), .val (.int (if (F4 (x1) (x1)) = (1 : Int64) then (1 : Int32) else (0 : Int32)))] [])) _
      refine XS.iload X24.here hx rfl (hb hby at_81) rfl ?_
      show Steps p.tables e below (T24.setTop (mkF m 83 #[.val (.long x1), .second, .val (.long x2), .second, .val (.ref b1), .val (.long (F4 (x1) (x2))), .second, .val (.ref b9), .val (.long (F4 (x1) (x1))), .second, .val (.int (if (((F5 (x1)) + (F4 (x1) (x2))) - (1 : Int64)) = (F6 (x2)) then (1 : Int32) else (0 : Int32))), .val (.int (if (F4 (x1) (x1)) = (1 : Int64) then (1 : Int32) else (0 : Int32)))] [(.int (if (F4 (x1) (x1)) = (1 : Int64) then (1 : Int32) else (0 : Int32)))])) _
      refine own_dia (u := ((1 : Int32) : Int32)) (v := (0 : Int32)) ((F4 (x1) (x1)) = (1 : Int64)) (fun z28 => (mkF m 91 #[.val (.long x1), .second, .val (.long x2), .second, .val (.ref b1), .val (.long (F4 (x1) (x2))), .second, .val (.ref b9), .val (.long (F4 (x1) (x1))), .second, .val (.int (if (((F5 (x1)) + (F4 (x1) (x2))) - (1 : Int64)) = (F6 (x2)) then (1 : Int32) else (0 : Int32))), .val (.int (if (F4 (x1) (x1)) = (1 : Int64) then (1 : Int32) else (0 : Int32)))] [(.int z28)])) (fun hc28 k28 => ?_) (fun hc28 k28 => ?_) ?_
      · refine XS.ifNo X24.here hx rfl (hb hby at_83) rfl (own_bt hc28).2 ?_
        show Steps p.tables e below (T24.setTop (mkF m 86 #[.val (.long x1), .second, .val (.long x2), .second, .val (.ref b1), .val (.long (F4 (x1) (x2))), .second, .val (.ref b9), .val (.long (F4 (x1) (x1))), .second, .val (.int (if (((F5 (x1)) + (F4 (x1) (x2))) - (1 : Int64)) = (F6 (x2)) then (1 : Int32) else (0 : Int32))), .val (.int (if (F4 (x1) (x1)) = (1 : Int64) then (1 : Int32) else (0 : Int32)))] [])) _
        refine XS.iconst X24.here hx rfl (hb hby at_86) ?_
        show Steps p.tables e below (T24.setTop (mkF m 87 #[.val (.long x1), .second, .val (.long x2), .second, .val (.ref b1), .val (.long (F4 (x1) (x2))), .second, .val (.ref b9), .val (.long (F4 (x1) (x1))), .second, .val (.int (if (((F5 (x1)) + (F4 (x1) (x2))) - (1 : Int64)) = (F6 (x2)) then (1 : Int32) else (0 : Int32))), .val (.int (if (F4 (x1) (x1)) = (1 : Int64) then (1 : Int32) else (0 : Int32)))] [(.int (1 : Int32))])) _
        refine XS.goto X24.here hx rfl (pc0 := 87) (pc' := 91) rfl (hb hby at_87) (by decide) (by decide) ?_
        exact k28
      · refine XS.ifYes X24.here hx rfl (pc0 := 83) (pc' := 90) rfl (hb hby at_83) rfl (own_bf hc28).2 (by decide) (by decide) ?_
        show Steps p.tables e below (T24.setTop (mkF m 90 #[.val (.long x1), .second, .val (.long x2), .second, .val (.ref b1), .val (.long (F4 (x1) (x2))), .second, .val (.ref b9), .val (.long (F4 (x1) (x1))), .second, .val (.int (if (((F5 (x1)) + (F4 (x1) (x2))) - (1 : Int64)) = (F6 (x2)) then (1 : Int32) else (0 : Int32))), .val (.int (if (F4 (x1) (x1)) = (1 : Int64) then (1 : Int32) else (0 : Int32)))] [])) _
        refine XS.iconst X24.here hx rfl (hb hby at_90) ?_
        exact k28
      -- meets at 91
      exact k27
    · refine XS.ifYes X24.here hx rfl (pc0 := 78) (pc' := 90) rfl (hb hby at_78) rfl (own_bf hc27).2 (by decide) (by decide) ?_
      show Steps p.tables e below (T24.setTop (mkF m 90 #[.val (.long x1), .second, .val (.long x2), .second, .val (.ref b1), .val (.long (F4 (x1) (x2))), .second, .val (.ref b9), .val (.long (F4 (x1) (x1))), .second, .val (.int (if (((F5 (x1)) + (F4 (x1) (x2))) - (1 : Int64)) = (F6 (x2)) then (1 : Int32) else (0 : Int32))), .val (.int (if (F4 (x1) (x1)) = (1 : Int64) then (1 : Int32) else (0 : Int32)))] [])) _
      refine XS.iconst X24.here hx rfl (hb hby at_90) ?_
      exact k27
    -- meets at 91
    show Steps p.tables e below (T24.setTop (mkF m 91 #[.val (.long x1), .second, .val (.long x2), .second, .val (.ref b1), .val (.long (F4 (x1) (x2))), .second, .val (.ref b9), .val (.long (F4 (x1) (x1))), .second, .val (.int (if (((F5 (x1)) + (F4 (x1) (x2))) - (1 : Int64)) = (F6 (x2)) then (1 : Int32) else (0 : Int32))), .val (.int (if (F4 (x1) (x1)) = (1 : Int64) then (1 : Int32) else (0 : Int32)))] [(.int (if (((F5 (x1)) + (F4 (x1) (x2))) - (1 : Int64)) = (F6 (x2)) then (if (F4 (x1) (x1)) = (1 : Int64) then (1 : Int32) else (0 : Int32)) else (0 : Int32)))])) _
    exact retN X24 hx (t := .boolean) Bd.returns (by simp) (hb hby at_91) (by rw [own_nb (own_b01 (own_b01 (Or.inr rfl) (Or.inl rfl)) (Or.inl rfl))]; exact hr)
  · show Q0 Z x1 x2 h0 n0 _ T24.heap _
    rw [e24]
    exact ⟨rfl, N24⟩

theorem own_plain (x1 x2 : Int64) : F0 x1 x2 = 1 := by
  have h1 : (x1 + ((x2 - x1) + (1 : Int64))) - (1 : Int64) = x2 := by
    rw [← Int64.add_assoc, Int64.add_sub_cancel, Int64.add_comm, Int64.sub_add_cancel]
  have h2 : (x1 - x1) + (1 : Int64) = 1 := by rw [Int64.sub_self, Int64.zero_add]
  unfold F0 F4 F5 F6
  rw [if_pos h1, if_pos h2]

set_option maxRecDepth 65536 in
set_option maxHeartbeats 40000000 in
theorem comes_1 {Post : Tables → Env → Array Value → State → Outcome → State → Prop} (hpost : ∀ tb e args s v u, (limb_1_1.after args s (.returned v) u = true ∧ limb_1_2.after args s (.returned v) u = true ∧ True) → FrameEnd s (.returned v) u (Jvm.fieldLocs frame_1_writes args s ++ Jvm.arrayLocs frame_1_arrays args s ++ Jvm.staticLocs frame_1_statics s) 16 128 → Post tb e args s (.returned v) u) :
    ArmFor flags0 classFile x code maxLocals ret World_1 tables_1 room_1 Calls_1 rest_1 Pre_1 Post := by
  intro l hfl _ _ p e ha hc hk s m args below hf hA hF happ hP
  obtain ⟨hcalls, hrest, hpre⟩ := hP
  obtain ⟨-, -, -, hnamed, -, -, -, hat⟩ := (Spec.applies_iff hf).mp happ
  obtain ⟨hg, hn⟩ := and_e (Cond.before_iff.mp (show (Jvm.Cond.and given_1 narrow_1).before args s = true from hpre))
  obtain ⟨hcount, t0⟩ := and_e hg
  obtain ⟨k0, t1⟩ := and_e t0
  have k1 := t1
  obtain ⟨w0, w1, rfl⟩ : ∃ w0 w1 : Value, args = #[w0, w1] := by
    have hs : args.size = 2 := by simpa [Cond.value, given_1] using hcount
    obtain ⟨L⟩ := args
    match L, hs with
    | [w0, w1], _ => exact ⟨w0, w1, rfl⟩
  have hw := fun d (hd : d ∈ tables_1) => atoms_spec (ws := Jvm.Cond.code x code maxLocals ret :: tables_1) hat d (List.mem_cons_of_mem _ hd)
  obtain ⟨i0, ei0⟩ := isL_v k0
  obtain rfl : w0 = (.long i0) := Option.some.inj ei0
  obtain ⟨i1, ei1⟩ := isL_v k1
  obtain rfl : w1 = (.long i1) := Option.some.inj ei1
  obtain ⟨n, o, h1, h2, h3, _, L, rfl, ⟨hv, N⟩, hq⟩ := rm0 l s _ hw tables_1 i0 i1 s.heap s.heap.size (Nat.le_refl _) p e ha hc hk s m _ below hf ((Spec.applies_iff_loose hf).mp happ).1 ⟨rfl, State.Warmed39.refl s, rfl⟩ trivial
  rw [own_plain i0 i1] at hv
  subst hv
  refine ⟨n, _, h1, h2, h3, hpost _ _ _ _ _ _ ⟨Cond.after_iff.mpr rfl, Cond.after_iff.mpr (eq_i res_at (Term.int_eval (1)) rfl), trivial⟩ ⟨hq.1, hq.2.1, (hq.2.2.sift fun y hy => Or.inr (N y hy)).mono (by decide) (by decide)⟩⟩
theorem main_1_1 : Claimed_1_1 := comes_1 fun _ _ _ _ _ _ h hF => ⟨h.1, hF⟩
theorem main_1_2 : Claimed_1_2 := comes_1 fun _ _ _ _ _ _ h hF => ⟨h.2.1, hF⟩
end Jvm.Pilot.@@N@@
namespace Jvm.Pilot.@@N@@
open Jvm Jvm.ClassFile Sem Op Lib Jvm.Free Jvm.Stand Jvm.Pilot.@@N@@.Jvm.D
/-! MADE BY PROGRAM (witnessworld.py) out of the Statement's table words and the real class files: 10 classes; the members and pool entries that the words name. The judged class is class 1, her method 1. -/
namespace start1
open Jvm.ClassFile
def u (s : String) : CpInfo := .utf8 (stringToUtf16 s)
/-- a pool by its gaps: so many unusable entries, then the entry; so many at the end -/
def gap : Nat → List CpInfo → List CpInfo
  | 0, r => r
  | n + 1, r => .unusable :: gap n r
def poolList (es : List (Nat × CpInfo)) (last : Nat) : List CpInfo := es.foldr (fun e r => gap e.1 (e.2 :: r)) (gap last [])
def pool (es : List (Nat × CpInfo)) (last : Nat) : Array CpInfo := ⟨poolList es last⟩
def fileOf (pool : Array CpInfo) (this : Nat) (attrs : Array Attribute := #[]) (ms : Array MethodInfo := #[]) (fl : Nat := 33) (sup : Nat := 0) (ifs : Array Nat := #[]) (fds : Array FieldInfo := #[]) : ClassFile where
  minorVersion := 0
  majorVersion := 65
  constantPool := pool
  accessFlags := fl
  thisClass := this
  superClass := sup
  interfaces := ifs
  fields := fds
  methods := ms
  attributes := attrs
def plain (name : String) (sup : Option ClassId) : Class where
  name := name
  kind := .ordinary
  loader := none
  accessFlags := 33
  super := sup
  interfaces := #[]
  cf := none
  fields := #[]
  methods := #[]
  instanceTypes := #[]
  staticTypes := #[]
  resolved := #[]
  callSites := []
  init := .initialized
  statics := none
  mirror := none

def pool0 : Array CpInfo := pool [(5, u "<init>"), (0, u "()V"), (1, .class_ 10), (1, u "java/lang/Object")] 113

def k0c0 : Code := { maxStack := 0, maxLocals := 1, code := object_method_1_code, exceptionTable := #[], attributes := #[] }
def k0m0 : Method := { name := "<init>", desc := "()V", sig := { parameters := [], returnType := none }, accessFlags := 1, code := some k0c0 }
/-- java/lang/Object -/
def k0 : Class := { plain "java/lang/Object" none with
  accessFlags := 33
  interfaces := #[]
  cf := some (fileOf pool0 8 #[] #[{ accessFlags := 1, nameIndex := 5, descriptorIndex := 6, attributes := #[] }] 33 0 #[] #[])
  fields := #[]
  methods := #[k0m0]
  instanceTypes := #[]
  staticTypes := #[]
  resolved := Array.replicate 124 none
  statics := none }

def pool1 : Array CpInfo := pool [(2, .class_ 4), (1, u "java/lang/Object"), (0, u "<init>"), (0, u "()V"), (0, .class_ 8), (0, u "com/example/threadkeep/threadkeep/store/AppendResult"), (0, .methodref 7 10), (0, .nameAndType 5 11), (0, u "(JJ)V"), (0, .methodref 7 13), (0, .nameAndType 14 15), (0, u "count"), (0, u "()J"), (0, .methodref 7 17), (0, .nameAndType 18 15), (0, u "firstSeq"), (0, .methodref 7 20), (0, .nameAndType 21 15), (0, u "lastSeq"), (0, .class_ 23), (0, u "com/example/threadkeep/threadkeep/store/AppendResultCountPinLaw"), (2, u "law"), (0, u "(JJ)Z")] 3

def k1m0 : Method := { name := "<init>", desc := "()V", sig := { parameters := [], returnType := none }, accessFlags := 1, code := none }
def k1c1 : Code := { maxStack := 6, maxLocals := 12, code := code, exceptionTable := #[], attributes := #[] }
def k1m1 : Method := { name := "law", desc := "(JJ)Z", sig := { parameters := [.long, .long], returnType := some .boolean }, accessFlags := 9, code := some k1c1 }
/-- com/example/threadkeep/threadkeep/store/AppendResultCountPinLaw -/
def k1 : Class := { plain "com/example/threadkeep/threadkeep/store/AppendResultCountPinLaw" (some 0) with
  accessFlags := 49
  interfaces := #[]
  cf := some (fileOf pool1 22 #[] #[{ accessFlags := 1, nameIndex := 5, descriptorIndex := 6, attributes := #[] }, { accessFlags := 9, nameIndex := 26, descriptorIndex := 27, attributes := #[] }] 49 2 #[] #[])
  fields := #[]
  methods := #[k1m0, k1m1]
  instanceTypes := #[]
  staticTypes := #[]
  resolved := Array.replicate 31 none
  statics := none }

def pool2 : Array CpInfo := pool [(1, .methodref 2 3), (0, .class_ 4), (0, .nameAndType 5 6), (0, u "java/lang/Object"), (0, u "<init>"), (0, u "()V"), (0, .class_ 8), (0, u "java/lang/Record")] 13

def k2c0 : Code := { maxStack := 1, maxLocals := 1, code := jdk_30_method_1_code, exceptionTable := #[], attributes := #[] }
def k2m0 : Method := { name := "<init>", desc := "()V", sig := { parameters := [], returnType := none }, accessFlags := 4, code := some k2c0 }
/-- java/lang/Record -/
def k2 : Class := { plain "java/lang/Record" (some 0) with
  accessFlags := 1057
  interfaces := #[]
  cf := some (fileOf pool2 7 #[] #[{ accessFlags := 4, nameIndex := 5, descriptorIndex := 6, attributes := #[] }] 1057 2 #[] #[])
  fields := #[]
  methods := #[k2m0]
  instanceTypes := #[]
  staticTypes := #[]
  resolved := Array.replicate 22 none
  statics := none }

def pool3 : Array CpInfo := pool [(1, .methodref 2 3), (0, .class_ 4), (0, .nameAndType 5 6), (0, u "java/lang/Record"), (0, u "<init>"), (0, u "()V"), (0, .fieldref 8 9), (0, .class_ 10), (0, .nameAndType 11 12), (0, u "com/example/threadkeep/threadkeep/store/AppendResult"), (0, u "firstSeq"), (0, u "J"), (0, .fieldref 8 14), (0, .nameAndType 15 12), (0, u "lastSeq"), (12, u "(JJ)V"), (3, u "count"), (0, u "()J")] 24

def k3c0 : Code := { maxStack := 3, maxLocals := 5, code := prog_27_method_1_code, exceptionTable := #[], attributes := #[] }
def k3m0 : Method := { name := "<init>", desc := "(JJ)V", sig := { parameters := [.long, .long], returnType := none }, accessFlags := 1, code := some k3c0 }
def k3c1 : Code := { maxStack := 4, maxLocals := 1, code := prog_27_method_2_code, exceptionTable := #[], attributes := #[] }
def k3m1 : Method := { name := "count", desc := "()J", sig := { parameters := [], returnType := some .long }, accessFlags := 1, code := some k3c1 }
def k3c2 : Code := { maxStack := 2, maxLocals := 1, code := prog_27_method_6_code, exceptionTable := #[], attributes := #[] }
def k3m2 : Method := { name := "firstSeq", desc := "()J", sig := { parameters := [], returnType := some .long }, accessFlags := 1, code := some k3c2 }
def k3c3 : Code := { maxStack := 2, maxLocals := 1, code := prog_27_method_7_code, exceptionTable := #[], attributes := #[] }
def k3m3 : Method := { name := "lastSeq", desc := "()J", sig := { parameters := [], returnType := some .long }, accessFlags := 1, code := some k3c3 }
/-- com/example/threadkeep/threadkeep/store/AppendResult -/
def k3 : Class := { plain "com/example/threadkeep/threadkeep/store/AppendResult" (some 2) with
  accessFlags := 49
  interfaces := #[]
  cf := some (fileOf pool3 8 #[] #[{ accessFlags := 1, nameIndex := 5, descriptorIndex := 28, attributes := #[] }, { accessFlags := 1, nameIndex := 32, descriptorIndex := 33, attributes := #[] }, { accessFlags := 1, nameIndex := 11, descriptorIndex := 33, attributes := #[] }, { accessFlags := 1, nameIndex := 15, descriptorIndex := 33, attributes := #[] }] 49 2 #[] #[{ accessFlags := 18, nameIndex := 11, descriptorIndex := 12, attributes := #[] }, { accessFlags := 18, nameIndex := 15, descriptorIndex := 12, attributes := #[] }])
  fields := #[{ name := "firstSeq", type := .long, accessFlags := 18, slot := 0, constantValue := 0 }, { name := "lastSeq", type := .long, accessFlags := 18, slot := 1, constantValue := 0 }]
  methods := #[k3m0, k3m1, k3m2, k3m3]
  instanceTypes := #[.long, .long]
  staticTypes := #[]
  resolved := Array.replicate 58 none
  statics := none }

def pool4 : Array CpInfo := pool [(1, u "java/lang/Cloneable"), (0, .class_ 1), (0, u "java/lang/Object"), (0, .class_ 3)] 3

/-- java/lang/Cloneable -/
def k4 : Class := { plain "java/lang/Cloneable" (some 0) with
  accessFlags := 1537
  interfaces := #[]
  cf := some (fileOf pool4 2 #[] #[] 1537 4 #[] #[])
  fields := #[]
  methods := #[]
  instanceTypes := #[]
  staticTypes := #[]
  resolved := Array.replicate 8 none
  statics := none }

def pool5 : Array CpInfo := pool [(1, u "java/io/Serializable"), (0, .class_ 1), (0, u "java/lang/Object"), (0, .class_ 3)] 3

/-- java/io/Serializable -/
def k5 : Class := { plain "java/io/Serializable" (some 0) with
  accessFlags := 1537
  interfaces := #[]
  cf := some (fileOf pool5 2 #[] #[] 1537 4 #[] #[])
  fields := #[]
  methods := #[]
  instanceTypes := #[]
  staticTypes := #[]
  resolved := Array.replicate 8 none
  statics := none }

/-- the primitive byte -/
def k6 : Class := { plain "byte" none with kind := .primitive 'B', accessFlags := 0x411 }
/-- [B -/
def k7 : Class := { plain "[B" (some 0) with kind := .array 6 .byte, interfaces := #[4, 5], accessFlags := 1041 }

/-- the primitive int -/
def k8 : Class := { plain "int" none with kind := .primitive 'I', accessFlags := 0x411 }
/-- [I -/
def k9 : Class := { plain "[I" (some 0) with kind := .array 8 .int, interfaces := #[4, 5], accessFlags := 1041 }

def heap : Heap := #[]
def classes : Array Class := #[k0, k1, k2, k3, k4, k5, k6, k7, k8, k9]
def interned : List (Array UInt16 × Addr) := []
def slotsUsed : Nat := 0
def theMethod : MethodId := ⟨1, 1⟩
def args0 : Array Value := #[.long 7, .long 7]
def aboutOver (below : List Frame) : State where
  vm := { classes := classes, interned := interned.toArray }
  heap := heap
  slotsUsed := slotsUsed
  threads := #[{ frames := .invoking theMethod args0 :: below }]
def below0 : List Frame := [.native { method := ⟨0, 0⟩, args := #[] }]
def about1 : State := aboutOver below0
def p0 : Program := .bare "" "" ""
def e0 : Env := launch0.env 0 0 0
theorem w_frames : about1.frames = Frame.invoking theMethod args0 :: below0 := rfl
set_option maxRecDepth 65536 in
theorem w_args : argsFit about1.vm theMethod args0 = true := by decide +kernel
set_option maxRecDepth 65536 in
theorem w_heap : heapFits about1 = true := by decide +kernel
set_option maxRecDepth 65536 in
theorem w_runnable : about1.curStatus? = some .runnable := by decide +kernel
set_option maxRecDepth 65536 in
theorem w_alone : about1.alone = true := by decide +kernel
set_option maxRecDepth 65536 in
theorem w_named : about1.methodNamed? x = some theMethod := by decide +kernel
set_option maxRecDepth 65536 in
theorem w_hears : about1.hears theMethod below0 = true := by decide +kernel
set_option maxRecDepth 65536 in
theorem w_ripe : about1.ripe theMethod args0 below0 = true := by decide +kernel
theorem w_running : about1.status = .running := rfl
set_option maxRecDepth 65536 in
theorem w_room : about1.hasRoom e0.platform room_1 = true :=
  launch0.hasRoom_least _ room_1 (by decide +kernel) (by decide +kernel) (by decide +kernel) (by decide +kernel) (by decide +kernel) (by decide +kernel)
theorem allAtoms_all (ts : List Jvm.Cond) (a : Array Jvm.Value) (st : Jvm.State) : (allAtoms ts).before a st = ts.all (fun c => c.before a st) := by
  induction ts with
  | nil => rfl
  | cons c t ih =>
    show (Jvm.Cond.and c (allAtoms t)).before a st = _
    rw [Jvm.Cond.before_and, ih, List.all_cons]
def words1 : List Jvm.Cond := Jvm.Cond.code x code maxLocals ret :: tables_1
/-- a 'code' word, met by the world's own term for the bytes: nothing is compared byte by byte -/
theorem code_word {y : MethodName} {bytes : ByteArray} {mx : Nat} {rt : Option FieldType} {a : Array Value} {s : State} {m : MethodId} {meth : Method} {c : Code} (h1 : s.methodNamed? y = some m) (h2 : s.vm.method? m = some meth) (h3 : meth.code = some c) (h4 : c.code = bytes)
    (h5 : (c.maxLocals == mx && c.exceptionTable.isEmpty && decide (c.maxStack ≤ mostOperands) && decide (meth.sig.returnType = rt) && !meth.locks && decide (parseMethodDescriptor y.desc = some meth.sig)) = true) : (Jvm.Cond.code y bytes mx rt).before a s = true := by
  simp only [Bool.and_eq_true, beq_iff_eq, Bool.not_eq_true', decide_eq_true_eq] at h5
  obtain ⟨⟨⟨⟨⟨g1, g2⟩, g3⟩, g4⟩, g5⟩, g6⟩ := h5
  simp [Cond.before, Cond.holds, Cond.value, h1, h2, h3, h4, g1, g2, g3, g4, g5, g6]
def isCode : Jvm.Cond → Bool
  | .code _ _ _ _ => true
  | _ => false
theorem all_split {L : List Jvm.Cond} {P : Jvm.Cond → Bool} (h1 : L.all (fun c => isCode c || P c) = true) (h2 : ∀ c ∈ L.filter isCode, P c = true) : L.all P = true := by
  refine List.all_eq_true.mpr fun c hc => ?_
  have h := List.all_eq_true.mp h1 c hc
  rcases Bool.eq_false_or_eq_true (isCode c) with hi | hi
  · exact h2 c (List.mem_filter.mpr ⟨hc, hi⟩)
  · simpa [hi] using h
set_option maxRecDepth 65536 in
theorem w_c0 : (Jvm.Cond.code x code maxLocals ret).before args0 about1 = true := code_word (m := ⟨1, 1⟩) (meth := k1m1) (c := k1c1) (by decide +kernel) rfl rfl rfl (by decide +kernel)
set_option maxRecDepth 65536 in
theorem w_c1 : (Jvm.Cond.code ({ cls := "com/example/threadkeep/threadkeep/store/AppendResult", name := "<init>", desc := "(JJ)V" } : Jvm.MethodName) prog_27_method_1_code (5 : Nat) (Option.none : Option Jvm.ClassFile.FieldType)).before args0 about1 = true := code_word (m := ⟨3, 0⟩) (meth := k3m0) (c := k3c0) (by decide +kernel) rfl rfl rfl (by decide +kernel)
set_option maxRecDepth 65536 in
theorem w_c2 : (Jvm.Cond.code ({ cls := "java/lang/Record", name := "<init>", desc := "()V" } : Jvm.MethodName) jdk_30_method_1_code (1 : Nat) (Option.none : Option Jvm.ClassFile.FieldType)).before args0 about1 = true := code_word (m := ⟨2, 0⟩) (meth := k2m0) (c := k2c0) (by decide +kernel) rfl rfl rfl (by decide +kernel)
set_option maxRecDepth 65536 in
theorem w_c3 : (Jvm.Cond.code ({ cls := "java/lang/Object", name := "<init>", desc := "()V" } : Jvm.MethodName) object_method_1_code (1 : Nat) (Option.none : Option Jvm.ClassFile.FieldType)).before args0 about1 = true := code_word (m := ⟨0, 0⟩) (meth := k0m0) (c := k0c0) (by decide +kernel) rfl rfl rfl (by decide +kernel)
set_option maxRecDepth 65536 in
theorem w_c4 : (Jvm.Cond.code ({ cls := "com/example/threadkeep/threadkeep/store/AppendResult", name := "count", desc := "()J" } : Jvm.MethodName) prog_27_method_2_code (1 : Nat) (Option.some Jvm.ClassFile.FieldType.long)).before args0 about1 = true := code_word (m := ⟨3, 1⟩) (meth := k3m1) (c := k3c1) (by decide +kernel) rfl rfl rfl (by decide +kernel)
set_option maxRecDepth 65536 in
theorem w_c5 : (Jvm.Cond.code ({ cls := "com/example/threadkeep/threadkeep/store/AppendResult", name := "firstSeq", desc := "()J" } : Jvm.MethodName) prog_27_method_6_code (1 : Nat) (Option.some Jvm.ClassFile.FieldType.long)).before args0 about1 = true := code_word (m := ⟨3, 2⟩) (meth := k3m2) (c := k3c2) (by decide +kernel) rfl rfl rfl (by decide +kernel)
set_option maxRecDepth 65536 in
theorem w_c6 : (Jvm.Cond.code ({ cls := "com/example/threadkeep/threadkeep/store/AppendResult", name := "lastSeq", desc := "()J" } : Jvm.MethodName) prog_27_method_7_code (1 : Nat) (Option.some Jvm.ClassFile.FieldType.long)).before args0 about1 = true := code_word (m := ⟨3, 3⟩) (meth := k3m3) (c := k3c3) (by decide +kernel) rfl rfl rfl (by decide +kernel)
def codes1 : List Jvm.Cond := [Jvm.Cond.code x code maxLocals ret, Jvm.Cond.code ({ cls := "com/example/threadkeep/threadkeep/store/AppendResult", name := "<init>", desc := "(JJ)V" } : Jvm.MethodName) prog_27_method_1_code (5 : Nat) (Option.none : Option Jvm.ClassFile.FieldType), Jvm.Cond.code ({ cls := "java/lang/Record", name := "<init>", desc := "()V" } : Jvm.MethodName) jdk_30_method_1_code (1 : Nat) (Option.none : Option Jvm.ClassFile.FieldType), Jvm.Cond.code ({ cls := "java/lang/Object", name := "<init>", desc := "()V" } : Jvm.MethodName) object_method_1_code (1 : Nat) (Option.none : Option Jvm.ClassFile.FieldType), Jvm.Cond.code ({ cls := "com/example/threadkeep/threadkeep/store/AppendResult", name := "count", desc := "()J" } : Jvm.MethodName) prog_27_method_2_code (1 : Nat) (Option.some Jvm.ClassFile.FieldType.long), Jvm.Cond.code ({ cls := "com/example/threadkeep/threadkeep/store/AppendResult", name := "firstSeq", desc := "()J" } : Jvm.MethodName) prog_27_method_6_code (1 : Nat) (Option.some Jvm.ClassFile.FieldType.long), Jvm.Cond.code ({ cls := "com/example/threadkeep/threadkeep/store/AppendResult", name := "lastSeq", desc := "()J" } : Jvm.MethodName) prog_27_method_7_code (1 : Nat) (Option.some Jvm.ClassFile.FieldType.long)]
set_option maxRecDepth 65536 in
theorem codes_eq : words1.filter isCode = codes1 := rfl
theorem w_codes : ∀ c ∈ words1.filter isCode, c.before args0 about1 = true := by
  rw [codes_eq]
  intro c hc
  simp only [codes1, List.mem_cons, List.not_mem_nil, or_false] at hc
  rcases hc with rfl | rfl | rfl | rfl | rfl | rfl | rfl
  · exact w_c0
  · exact w_c1
  · exact w_c2
  · exact w_c3
  · exact w_c4
  · exact w_c5
  · exact w_c6
set_option maxRecDepth 65536 in
theorem w_t1 : (words1.take 24).all (fun c => isCode c || c.before args0 about1) = true := by decide +kernel
set_option maxRecDepth 65536 in
theorem w_t2 : (words1.drop 24).all (fun c => isCode c || c.before args0 about1) = true := by decide +kernel
theorem w_tables : (allAtoms (Jvm.Cond.code x code maxLocals ret :: tables_1)).before args0 about1 = true := by
  rw [allAtoms_all]
  show words1.all (fun c => c.before args0 about1) = true
  refine all_split ?_ w_codes
  rw [← List.take_append_drop 24 words1, List.all_append, w_t1, w_t2]
  rfl
set_option maxRecDepth 65536 in
theorem w_case : (Jvm.Cond.and given_1 narrow_1).before args0 about1 = true := by decide +kernel
theorem w_applies : (headSpec (Jvm.Cond.code x code maxLocals ret :: tables_1) room_1).applies x e0.platform about1 = true :=
  (Spec.applies_iff w_frames).mpr ⟨w_running, w_runnable, w_alone, w_named, w_hears, w_ripe, w_room, w_tables⟩
theorem atStart : AtStart classFile x code maxLocals ret World_1 tables_1 room_1 Calls_1 rest_1 Pre_1 launch0 p0 e0 about1 theMethod args0 below0 :=
  ⟨lists_1, trivial, launch0.admits_env _ _ _, launch0.least_env, fairChoices_fair.cas, fairChoices_fair.clock, w_frames, w_args, w_heap, w_applies, trivial, trivial, w_case⟩
end start1
theorem witness_1 : WitnessClaimed_1 := ⟨start1.p0, start1.e0, start1.about1, start1.theMethod, start1.args0, start1.below0, start1.atStart⟩
end Jvm.Pilot.@@N@@
