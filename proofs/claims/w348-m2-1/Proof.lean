import JvmDerived
import JvmDerived.Pilot.@@N@@Statement
import JvmDerived.Pilot.@@N@@Code
set_option linter.unusedVariables false
set_option linter.unusedSimpArgs false
@@BLOCK:NumsL.lean.txt@@
namespace Jvm.RoadKit
open Sem ClassFile Op Lib Jvm.Stand Jvm.Free Jvm.LawKit
section New
variable {p : Program} {l : Launch} {e : Env} {R : Room} {s : State} {m : MethodId} {args : Array Value} {below : List Frame} {meth : Method} {c : Code} {T : State} {locs : List Loc} {cells slots : Nat}
theorem retI (X : Stand p l e R s m args below meth c T locs cells slots) (hx : p.tables.exec = Jvm.exec) {pc : Nat} {Ls : Array Slot} {z : Int32} {rest : List Value} (hret : meth.sig.returnType = some .int) (hd : decode c.code pc = .ok (.ireturn, 1)) {fs : List Frame}
    (hl : ∀ (f : JFrame) (acts : List Action), f.method = m → f.locked = none → f.entered = [] → (doReturn e (T.setTop f) acts (some (.int z))).1 = T.setFrames fs) : Steps p.tables e below (T.setTop (mkF m pc Ls (.int z :: rest))) (T.setFrames fs) := by
  have hm' : T.vm.method? m = some meth := X.method'
  have hn : narrow .int (.int z) = .int z := rfl
  show Steps p.tables e below (T.setTop { method := m, pc := pc, locals := Ls, stack := _ :: rest, locked := none }) _
  jvm_step X.here [X.here.top, hx, hd, hm', hret, hn]
  first | (intro acts; rw [hl _ acts rfl rfl rfl]) | rw [hl _ _ rfl rfl rfl]
  exact Steps.refl _
end New
theorem own_dia {tb : Tables} {e : Env} {below : List Frame} {T tgt : State} {g : JFrame} {A : Type} {u v : A} (q : Prop) [Decidable q] (f : A → JFrame)
    (h1 : q → Steps tb e below (T.setTop (f u)) tgt → Steps tb e below (T.setTop g) tgt) (h0 : ¬ q → Steps tb e below (T.setTop (f v)) tgt → Steps tb e below (T.setTop g) tgt)
    (k : Steps tb e below (T.setTop (f (if q then u else v))) tgt) : Steps tb e below (T.setTop g) tgt := by
  by_cases hq : q
  · rw [if_pos hq] at k; exact h1 hq k
  · rw [if_neg hq] at k; exact h0 hq k
theorem own_cast {tb : Tables} {e : Env} {below : List Frame} {T tgt : State} {A : Type} {u v : A} (f : A → JFrame) (h : u = v) (k : Steps tb e below (T.setTop (f v)) tgt) : Steps tb e below (T.setTop (f u)) tgt := h ▸ k
theorem own_llt {x y : Int64} (h : x < y) : ifCond.holds .lt (lcmpW x y) = true ∧ ifCond.holds .ge (lcmpW x y) = false := by
  rw [if0, if0]; exact ⟨(tlt ((lw_lt x y).mpr h)).1, (tlt ((lw_lt x y).mpr h)).2.1⟩
theorem own_lge {x y : Int64} (h : ¬ x < y) : ifCond.holds .lt (lcmpW x y) = false ∧ ifCond.holds .ge (lcmpW x y) = true := by
  rw [if0, if0]; exact ⟨(flt fun q => h ((lw_lt x y).mp q)).1, (flt fun q => h ((lw_lt x y).mp q)).2.1⟩
theorem own_lgt {x y : Int64} (h : y < x) : ifCond.holds .gt (lcmpW x y) = true ∧ ifCond.holds .le (lcmpW x y) = false := by
  rw [if0, if0]; exact ⟨(tlt ((lw_gt x y).mpr h)).2.2.1, (tlt ((lw_gt x y).mpr h)).2.2.2⟩
theorem own_lle {x y : Int64} (h : ¬ y < x) : ifCond.holds .gt (lcmpW x y) = false ∧ ifCond.holds .le (lcmpW x y) = true := by
  rw [if0, if0]; exact ⟨(flt fun q => h ((lw_gt x y).mp q)).2.2.1, (flt fun q => h ((lw_gt x y).mp q)).2.2.2⟩
theorem own_leq {x y : Int64} (h : x = y) : ifCond.holds .eq (lcmpW x y) = true ∧ ifCond.holds .ne (lcmpW x y) = false := by
  rw [if0, if0]; exact ⟨(teq ((lw_eq x y).mpr h)).1, (teq ((lw_eq x y).mpr h)).2⟩
theorem own_lne {x y : Int64} (h : ¬ x = y) : ifCond.holds .eq (lcmpW x y) = false ∧ ifCond.holds .ne (lcmpW x y) = true := by
  rw [if0, if0]; exact ⟨(feq fun q => h ((lw_eq x y).mp q)).1, (feq fun q => h ((lw_eq x y).mp q)).2⟩
theorem own_bt {q : Prop} [Decidable q] (h : q) : ifCond.holds .ne (if q then (1 : Int32) else (0 : Int32)) = true ∧ ifCond.holds .eq (if q then (1 : Int32) else (0 : Int32)) = false := by
  rw [if_pos h]; exact ⟨rfl, rfl⟩
theorem own_bf {q : Prop} [Decidable q] (h : ¬ q) : ifCond.holds .ne (if q then (1 : Int32) else (0 : Int32)) = false ∧ ifCond.holds .eq (if q then (1 : Int32) else (0 : Int32)) = true := by
  rw [if_neg h]; exact ⟨rfl, rfl⟩
theorem own_ct {q : Prop} [Decidable q] (h : q) : ifCond.holds .ne (if q then (0 : Int32) else (1 : Int32)) = false ∧ ifCond.holds .eq (if q then (0 : Int32) else (1 : Int32)) = true := by
  rw [if_pos h]; exact ⟨rfl, rfl⟩
theorem own_cf {q : Prop} [Decidable q] (h : ¬ q) : ifCond.holds .ne (if q then (0 : Int32) else (1 : Int32)) = true ∧ ifCond.holds .eq (if q then (0 : Int32) else (1 : Int32)) = false := by
  rw [if_neg h]; exact ⟨rfl, rfl⟩
theorem own_b01 {q : Prop} [Decidable q] {x y : Int32} (hx : x = 0 ∨ x = 1) (hy : y = 0 ∨ y = 1) : (if q then x else y) = 0 ∨ (if q then x else y) = 1 := by
  split <;> assumption
def Arf (Z : State) (h : Heap) (a : Addr) (ty : FieldType) (n : Int32) (f : Nat → Value) : Prop :=
  ∃ c : Cell, Arr Z h a c ty ∧ c.slots.size = n.toNatClampNeg ∧ ¬ n < 0 ∧ ∀ i, i < n.toNatClampNeg → c.slots[i]? = some (f i)
theorem Arf.lt {Z : State} {h : Heap} {a : Addr} {ty : FieldType} {n : Int32} {f : Nat → Value} (F : Arf Z h a ty n f) : a < h.size := by
  obtain ⟨c, A, -⟩ := F; exact A.lt
theorem Arf.ext {Z : State} {h h' : Heap} {a : Addr} {ty : FieldType} {n : Int32} {f : Nat → Value} (F : Arf Z h a ty n f) (E : Ext h h') : Arf Z h' a ty n f := by
  obtain ⟨c, A, r⟩ := F; exact ⟨c, A.ext E, r⟩
theorem Arf.other {Z : State} {h h' : Heap} {a b : Addr} {sl : Nat} {v : Value} {ty : FieldType} {n : Int32} {f : Nat → Value} (F : Arf Z h b ty n f) (W : Wr h h' a sl v) (q : b ≠ a) : Arf Z h' b ty n f := by
  obtain ⟨c, A, r⟩ := F; exact ⟨c, A.other W q, r⟩
theorem Arf.keep {Z : State} {h h' : Heap} {a : Addr} {ws : List Addr} {ty : FieldType} {n : Int32} {f : Nat → Value} (F : Arf Z h a ty n f) (K : Keep h h' ws) (q : a ∉ ws) : Arf Z h' a ty n f := by
  obtain ⟨c, A, r⟩ := F; exact ⟨c, ⟨K.2.1 a c A.1 q, A.2⟩, r⟩
theorem own_arf_new {Z : State} {h : Heap} {a : Addr} {k : ClassId} {ty : FieldType} {z : Int32} (A : Arr Z h a (newA k ty z) ty) (q : ¬ z < 0) : Arf Z h a ty z (fun _ => defaultValue ty) :=
  ⟨_, A, sz_new _ _ _, q, fun i hi => by simp [newA, hi]⟩
theorem own_arf_set {Z : State} {h h' : Heap} {a : Addr} {ty : FieldType} {n : Int32} {f : Nat → Value} {j : Nat} {v : Value} (F : Arf Z h a ty n f) (W : Wr h h' a j v) : Arf Z h' a ty n (fun i => if i = j then v else f i) := by
  obtain ⟨c, A, S, M, H⟩ := F
  refine ⟨_, A.same W, by rw [sz_set]; exact S, M, fun i hi => ?_⟩
  show _ = some (if i = j then v else f i)
  by_cases u : i = j
  · subst u; rw [if_pos rfl]; rw [← S] at hi; simp [Cell.setSlot, hi]
  · rw [if_neg u]; have := H i hi; simp only [Cell.setSlot]; rw [Array.getElem?_setIfInBounds_ne (Ne.symm u)]; exact this
theorem own_arf_fn {Z : State} {h : Heap} {a : Addr} {ty : FieldType} {n : Int32} {f g : Nat → Value} (F : Arf Z h a ty n f) (q : ∀ i, i < n.toNatClampNeg → f i = g i) : Arf Z h a ty n g := by
  obtain ⟨c, A, S, M, H⟩ := F
  exact ⟨c, A, S, M, fun i hi => by rw [← q i hi]; exact H i hi⟩
theorem own_arf_setI {Z : State} {h h' : Heap} {a : Addr} {ty : FieldType} {n : Int32} {f : Nat → Int32} {j : Nat} {v : Int32} (F : Arf Z h a ty n (fun i => Value.int (f i))) (W : Wr h h' a j (.int v)) : Arf Z h' a ty n (fun i => Value.int (if i = j then v else f i)) :=
  own_arf_fn (own_arf_set F W) fun i _ => by by_cases u : i = j <;> simp [u]
theorem own_arf_setL {Z : State} {h h' : Heap} {a : Addr} {ty : FieldType} {n : Int32} {f : Nat → Int64} {j : Nat} {v : Int64} (F : Arf Z h a ty n (fun i => Value.long (f i))) (W : Wr h h' a j (.long v)) : Arf Z h' a ty n (fun i => Value.long (if i = j then v else f i)) :=
  own_arf_fn (own_arf_set F W) fun i _ => by by_cases u : i = j <;> simp [u]
theorem own_arf_at {c : Cell} {n j : Int32} {f : Nat → Value} (H : ∀ i, i < n.toNatClampNeg → c.slots[i]? = some (f i)) (S : c.slots.size = n.toNatClampNeg) (q : ¬ (j < 0 ∨ c.slots.size ≤ j.toNatClampNeg)) : c.slots[j.toNatClampNeg]? = some (f j.toNatClampNeg) :=
  H _ (by rw [← S]; exact Nat.lt_of_not_le fun y => q (Or.inr y))
theorem own_nb {x : Int32} (h : x = 0 ∨ x = 1) : nar .boolean x = x := by
  rcases h with rfl | rfl <;> rfl
end Jvm.RoadKit
namespace Jvm.Pilot.@@N@@
open Jvm Jvm.ClassFile Sem Op Lib Jvm.Free Jvm.Stand Jvm.LawKit Jvm.RoadKit Bundle Jvm.Pilot.@@N@@.Jvm.D
theorem d2_0 : decode jdk_30_method_1_code 0 = .ok (.aload_n 0, 1) := by decide +kernel
theorem d2_1 : decode jdk_30_method_1_code 1 = .ok (.invokespecial 1, 3) := by decide +kernel
theorem d2_4 : decode jdk_30_method_1_code 4 = .ok (.return_, 1) := by decide +kernel
theorem pn_2 : plainName "java/lang/Record" = true := by first | (simp [plainName, overriddenIn]; done) | decide +kernel
theorem ef_2 (m : MethodId) (va : Addr) : entryFrame m #[(.ref va)] 1 = mkF m 0 #[.val (.ref va)] [] := by first | (simp [entryFrame, mkF, argsToLocals, Value.category]; done) | rfl
def Q2 (Z : State) (va : Addr) (h0 : Heap) (n0 : Nat) (v : Option Value) (h : Heap) (L : List Loc) : Prop := v = none ∧ Fr n0 L ∧ h = h0
set_option maxRecDepth 65536 in
set_option maxHeartbeats 40000000 in
theorem rm2 (l : Launch) (Z : State) (a0 : Array Value) (hw : ∀ d ∈ tables_1, d.before a0 Z = true) (ws : List Jvm.Cond) (va : Addr) (h0 : Heap) (n0 : Nat) (Z0 : n0 ≤ h0.size)  :
    MetFree l (⟨"java/lang/Record", "<init>", "()V"⟩ : MethodName) (head1 (Jvm.Cond.code (⟨"java/lang/Record", "<init>", "()V"⟩ : MethodName) jdk_30_method_1_code 1 none :: ws) ({ frames := 1, cells := 0, slots := 0, locals := 12 } : Room)) (fun a U => a = #[(.ref va)] ∧ Z.Warmed39 U.vm ∧ U.heap = h0) (fun _ _ _ _ _ => True) (fun _ U o U' => ∃ v L, o = .returned v ∧ Q2 Z va h0 n0 v U'.heap L ∧ FrameEnd U o U' L ({ frames := 1, cells := 0, slots := 0, locals := 12 } : Room).cells ({ frames := 1, cells := 0, slots := 0, locals := 12 } : Room).slots) := by
  refine MetFree.of_bodySF (plainFor_of_name pn_2) hisR ?_
  intro p e s m args below meth c s₁ Bd hml0 hP hK
  obtain ⟨rfl, hZ, hh⟩ := hP
  have hx := Bd.exec
  have hby := Bd.bytes
  have hml : c.maxLocals = 1 := hml0
  have hown : s.vm.findClass "java/lang/Record" = some m.cls := findClass_of_methodNamed Bd.named
  have hnm := (name_of_methodNamed Bd.named Bd.method).1
  have X0 : Stand p l e ({ frames := 1, cells := 0, slots := 0, locals := 12 } : Room) s m #[(.ref va)] below meth c s₁ [] 0 0 := Stand.of_body Bd
  have e0 : s₁.heap = h0 := by rw [← hh, Bd.state]; rfl
  have N0 := Fr.nil n0
  have pre0 : ∀ t, Steps p.tables e below (s₁.setTop (mkF m 0 #[.val (.ref va)] [])) t → Steps p.tables e below (s₁.setTop (entryFrame m #[(.ref va)] 1)) t := fun t k => castTop (ef_2 m va) k
  obtain ⟨T1, X1, e1, st1⟩ := initO X0 hx hZ hown (hw _ (List.mem_of_getElem? (i := 11) rfl)) (hw _ (List.mem_of_getElem? (i := 12) rfl)) (hw _ (List.mem_of_getElem? (i := 13) rfl)) e0 (g := (mkF m 1 #[.val (.ref va)] [(.ref va)])) rfl (by rw [hml]; rfl) rfl (hb hby d2_1) (by decide) (W := 0) (by show 2 * 0 + _ ≤ _; exact Nat.le_of_eq rfl) (by decide)
  obtain ⟨fs, hr, hrun, hended, hW, hsame⟩ := X1.leave (v := none) (fun _ => rfl)
  refine ⟨_, _, pre0 _ ?_, hrun, hended, _, _, rfl, ?_, ⟨_, rfl⟩, hW, hsame.mono (by decide) (by decide)⟩
  · show Steps p.tables e below (s₁.setTop (mkF m 0 #[.val (.ref va)] [])) _
    refine XS.aloadN X0.here hx rfl (hb hby d2_0) rfl rfl ?_
    show Steps p.tables e below (s₁.setTop (mkF m 1 #[.val (.ref va)] [(.ref va)])) _
    refine st1 _ ?_
    show Steps p.tables e below (T1.setTop (mkF m 4 #[.val (.ref va)] [])) _
    exact X1.returnOut hx Bd.returns (hb hby d2_4) hr
  · show Q2 Z va h0 n0 _ T1.heap _
    rw [e1]
    exact ⟨rfl, N0, rfl⟩
theorem pd_0 : parseMethodDescriptor "()V" = some ⟨[], none⟩ := by decide +kernel
theorem d1_0 : decode prog_35_method_1_code 0 = .ok (.aload_n 0, 1) := by decide +kernel
theorem d1_1 : decode prog_35_method_1_code 1 = .ok (.invokespecial 1, 3) := by decide +kernel
theorem d1_4 : decode prog_35_method_1_code 4 = .ok (.aload_n 0, 1) := by decide +kernel
theorem d1_5 : decode prog_35_method_1_code 5 = .ok (.lload_n 1, 1) := by decide +kernel
theorem d1_6 : decode prog_35_method_1_code 6 = .ok (.putfield 7, 3) := by decide +kernel
theorem d1_9 : decode prog_35_method_1_code 9 = .ok (.aload_n 0, 1) := by decide +kernel
theorem d1_10 : decode prog_35_method_1_code 10 = .ok (.lload_n 3, 1) := by decide +kernel
theorem d1_11 : decode prog_35_method_1_code 11 = .ok (.putfield 13, 3) := by decide +kernel
theorem d1_14 : decode prog_35_method_1_code 14 = .ok (.aload_n 0, 1) := by decide +kernel
theorem d1_15 : decode prog_35_method_1_code 15 = .ok (.iload 5, 2) := by decide +kernel
theorem d1_17 : decode prog_35_method_1_code 17 = .ok (.putfield 16, 3) := by decide +kernel
theorem d1_20 : decode prog_35_method_1_code 20 = .ok (.aload_n 0, 1) := by decide +kernel
theorem d1_21 : decode prog_35_method_1_code 21 = .ok (.lload 6, 2) := by decide +kernel
theorem d1_23 : decode prog_35_method_1_code 23 = .ok (.putfield 20, 3) := by decide +kernel
theorem d1_26 : decode prog_35_method_1_code 26 = .ok (.aload_n 0, 1) := by decide +kernel
theorem d1_27 : decode prog_35_method_1_code 27 = .ok (.lload 8, 2) := by decide +kernel
theorem d1_29 : decode prog_35_method_1_code 29 = .ok (.putfield 23, 3) := by decide +kernel
theorem d1_32 : decode prog_35_method_1_code 32 = .ok (.return_, 1) := by decide +kernel
theorem pn_1 : plainName "com/example/inchworm/inchworm/PrefixBuckets$Bucket" = true := by first | (simp [plainName, overriddenIn]; done) | decide +kernel
theorem ef_1 (m : MethodId) (va : Addr) (vh : Int64) (vl : Int64) (vp : Int32) (vt : Int64) (vu : Int64) : entryFrame m #[(.ref va), (.long vh), (.long vl), (.int vp), (.long vt), (.long vu)] 10 = mkF m 0 #[.val (.ref va), .val (.long vh), .second, .val (.long vl), .second, .val (.int vp), .val (.long vt), .second, .val (.long vu), .second] [] := by first | (simp [entryFrame, mkF, argsToLocals, Value.category]; done) | rfl
def Q1 (Z : State) (va : Addr) (vh : Int64) (vl : Int64) (vp : Int32) (vt : Int64) (vu : Int64) (h0 : Heap) (n0 : Nat) (v : Option Value) (h : Heap) (L : List Loc) : Prop := v = none ∧ Fr n0 L ∧ Keep h0 h [va] ∧ Exa Z h va "com/example/inchworm/inchworm/PrefixBuckets$Bucket" ∧ Fld Z h va "com/example/inchworm/inchworm/PrefixBuckets$Bucket" "high" "J" (.long vh) ∧ Fld Z h va "com/example/inchworm/inchworm/PrefixBuckets$Bucket" "low" "J" (.long vl) ∧ Fld Z h va "com/example/inchworm/inchworm/PrefixBuckets$Bucket" "place" "I" (.int vp) ∧ Fld Z h va "com/example/inchworm/inchworm/PrefixBuckets$Bucket" "tokens" "J" (.long vt) ∧ Fld Z h va "com/example/inchworm/inchworm/PrefixBuckets$Bucket" "time" "J" (.long vu)
set_option maxRecDepth 65536 in
set_option maxHeartbeats 40000000 in
theorem rm1 (l : Launch) (Z : State) (a0 : Array Value) (hw : ∀ d ∈ tables_1, d.before a0 Z = true) (ws : List Jvm.Cond) (va : Addr) (vh : Int64) (vl : Int64) (vp : Int32) (vt : Int64) (vu : Int64) (h0 : Heap) (n0 : Nat) (Z0 : n0 ≤ h0.size) (E_va : Exa Z h0 va "com/example/inchworm/inchworm/PrefixBuckets$Bucket") (g_va : n0 ≤ va) (F_va_high : Fld Z h0 va "com/example/inchworm/inchworm/PrefixBuckets$Bucket" "high" "J" (.long (0 : Int64))) (F_va_low : Fld Z h0 va "com/example/inchworm/inchworm/PrefixBuckets$Bucket" "low" "J" (.long (0 : Int64))) (F_va_place : Fld Z h0 va "com/example/inchworm/inchworm/PrefixBuckets$Bucket" "place" "I" (.int (0 : Int32))) (F_va_tokens : Fld Z h0 va "com/example/inchworm/inchworm/PrefixBuckets$Bucket" "tokens" "J" (.long (0 : Int64))) (F_va_time : Fld Z h0 va "com/example/inchworm/inchworm/PrefixBuckets$Bucket" "time" "J" (.long (0 : Int64))) :
    MetFree l (⟨"com/example/inchworm/inchworm/PrefixBuckets$Bucket", "<init>", "(JJIJJ)V"⟩ : MethodName) (head1 (Jvm.Cond.code (⟨"com/example/inchworm/inchworm/PrefixBuckets$Bucket", "<init>", "(JJIJJ)V"⟩ : MethodName) prog_35_method_1_code 10 none :: ws) ({ frames := 2, cells := 0, slots := 0, locals := 24 } : Room)) (fun a U => a = #[(.ref va), (.long vh), (.long vl), (.int vp), (.long vt), (.long vu)] ∧ Z.Warmed39 U.vm ∧ U.heap = h0) (fun _ _ _ _ _ => True) (fun _ U o U' => ∃ v L, o = .returned v ∧ Q1 Z va vh vl vp vt vu h0 n0 v U'.heap L ∧ FrameEnd U o U' L ({ frames := 2, cells := 0, slots := 0, locals := 24 } : Room).cells ({ frames := 2, cells := 0, slots := 0, locals := 24 } : Room).slots) := by
  refine MetFree.of_bodySF (plainFor_of_name pn_1) hisR ?_
  intro p e s m args below meth c s₁ Bd hml0 hP hK
  obtain ⟨rfl, hZ, hh⟩ := hP
  have hx := Bd.exec
  have hby := Bd.bytes
  have hml : c.maxLocals = 10 := hml0
  have hown : s.vm.findClass "com/example/inchworm/inchworm/PrefixBuckets$Bucket" = some m.cls := findClass_of_methodNamed Bd.named
  have hnm := (name_of_methodNamed Bd.named Bd.method).1
  have X0 : Stand p l e ({ frames := 2, cells := 0, slots := 0, locals := 24 } : Room) s m #[(.ref va), (.long vh), (.long vl), (.int vp), (.long vt), (.long vu)] below meth c s₁ [] 0 0 := Stand.of_body Bd
  have e0 : s₁.heap = h0 := by rw [← hh, Bd.state]; rfl
  have N0 := Fr.nil n0
  have pre0 : ∀ t, Steps p.tables e below (s₁.setTop (mkF m 0 #[.val (.ref va), .val (.long vh), .second, .val (.long vl), .second, .val (.int vp), .val (.long vt), .second, .val (.long vu), .second] [])) t → Steps p.tables e below (s₁.setTop (entryFrame m #[(.ref va), (.long vh), (.long vl), (.int vp), (.long vt), (.long vu)] 10)) t := fun t k => castTop (ef_1 m va vh vl vp vt vu) k
  have K0 := Keep.refl h0 [va]
  obtain ⟨_, _, ⟨T1, L1, k1, n1⟩, -, X1, ⟨Lc1, hQ1, l1, y1, z1⟩, st1⟩ := X0.specialBack hx (y := (⟨"java/lang/Record", "<init>", "()V"⟩ : MethodName)) rfl hown (mvT hZ (hw _ (List.mem_of_getElem? (i := 6) rfl))) (mvT hZ (hw _ (List.mem_of_getElem? (i := 7) rfl))) (mvT hZ (hw _ (List.mem_of_getElem? (i := 10) rfl))) (by decide) (backOf (W := 0) (rm2 l Z a0 hw [] va  h0 n0 Z0 ) hZ (hw _ (List.mem_of_getElem? (i := 10) rfl)) (hw _ (List.mem_of_getElem? (i := 9) rfl)) (by decide) (by decide)) (g := (mkF m 1 #[.val (.ref va), .val (.long vh), .second, .val (.long vl), .second, .val (.int vp), .val (.long vt), .second, .val (.long vu), .second] [(.ref va)])) rfl (by rw [hml]; rfl) (Steps.refl _) (a := va) (argsL := []) (rest := []) (lenOf pd_0 rfl) rfl (by show 2 * 0 + _ ≤ _; exact Nat.le_of_eq rfl) (hb hby d1_1) (fun _ _ => ⟨rfl, e0, (by decide : 0 + 0 ≤ _), (by decide : 0 + 0 ≤ _)⟩)
  dsimp only [Pt.U, Pt.locs, Pt.cells, Pt.slots] at X1 l1 y1 z1 st1 hQ1
  subst l1 y1 z1
  obtain ⟨rfl, N1q, e1⟩ := hQ1
  have N1 := Fr.app N0 N1q
  obtain ⟨T2, h2, X2, e2, W2, st2⟩ := putF X1 hx hZ hown (host := "") (Or.inl (hw _ (List.mem_of_getElem? (i := 14) rfl))) Via.refl e1 F_va_high E_va (Or.inr ⟨(hw _ (List.mem_of_getElem? (i := 15) rfl)), rfl, hnm⟩) (hw _ (List.mem_of_getElem? (i := 1) rfl)) (ty := .long) (by decide) rfl rfl (g := (mkF m 6 #[.val (.ref va), .val (.long vh), .second, .val (.long vl), .second, .val (.int vp), .val (.long vt), .second, .val (.long vu), .second] [(.long vh), (.ref va)])) rfl rfl (hb hby d1_6)
  have Z3 : n0 ≤ h2.size := Nat.le_trans Z0 (Keep.of_wr W2).1
  have E4_va := E_va.wr W2
  have F6_va_low := F_va_low.other W2 (Or.inr (slot_ne (Or.inr (hw _ (List.mem_of_getElem? (i := 17) rfl))) (Or.inr (hw _ (List.mem_of_getElem? (i := 15) rfl))) (by decide) (t := .long) (t' := .long) (by decide) (by decide)))
  have F7_va_place := F_va_place.other W2 (Or.inr (slot_ne (Or.inr (hw _ (List.mem_of_getElem? (i := 19) rfl))) (Or.inr (hw _ (List.mem_of_getElem? (i := 15) rfl))) (by decide) (t := .int) (t' := .long) (by decide) (by decide)))
  have F8_va_tokens := F_va_tokens.other W2 (Or.inr (slot_ne (Or.inr (hw _ (List.mem_of_getElem? (i := 21) rfl))) (Or.inr (hw _ (List.mem_of_getElem? (i := 15) rfl))) (by decide) (t := .long) (t' := .long) (by decide) (by decide)))
  have F9_va_time := F_va_time.other W2 (Or.inr (slot_ne (Or.inr (hw _ (List.mem_of_getElem? (i := 23) rfl))) (Or.inr (hw _ (List.mem_of_getElem? (i := 15) rfl))) (by decide) (t := .long) (t' := .long) (by decide) (by decide)))
  have Fw2 := F_va_high.same W2
  have N2 := Fr.snoc X2 N1 g_va
  have K2 := K0.wr W2 (Or.inl (List.mem_of_getElem? (i := 0) rfl))
  obtain ⟨T10, h10, X10, e10, W10, st10⟩ := putF X2 hx hZ hown (host := "") (Or.inl (hw _ (List.mem_of_getElem? (i := 16) rfl))) Via.refl e2 F6_va_low E4_va (Or.inr ⟨(hw _ (List.mem_of_getElem? (i := 17) rfl)), rfl, hnm⟩) (hw _ (List.mem_of_getElem? (i := 1) rfl)) (ty := .long) (by decide) rfl rfl (g := (mkF m 11 #[.val (.ref va), .val (.long vh), .second, .val (.long vl), .second, .val (.int vp), .val (.long vt), .second, .val (.long vu), .second] [(.long vl), (.ref va)])) rfl rfl (hb hby d1_11)
  have Z11 : n0 ≤ h10.size := Nat.le_trans Z3 (Keep.of_wr W10).1
  have E12_va := E4_va.wr W10
  have F13_va_high := Fw2.other W10 (Or.inr (slot_ne (Or.inr (hw _ (List.mem_of_getElem? (i := 15) rfl))) (Or.inr (hw _ (List.mem_of_getElem? (i := 17) rfl))) (by decide) (t := .long) (t' := .long) (by decide) (by decide)))
  have F15_va_place := F7_va_place.other W10 (Or.inr (slot_ne (Or.inr (hw _ (List.mem_of_getElem? (i := 19) rfl))) (Or.inr (hw _ (List.mem_of_getElem? (i := 17) rfl))) (by decide) (t := .int) (t' := .long) (by decide) (by decide)))
  have F16_va_tokens := F8_va_tokens.other W10 (Or.inr (slot_ne (Or.inr (hw _ (List.mem_of_getElem? (i := 21) rfl))) (Or.inr (hw _ (List.mem_of_getElem? (i := 17) rfl))) (by decide) (t := .long) (t' := .long) (by decide) (by decide)))
  have F17_va_time := F9_va_time.other W10 (Or.inr (slot_ne (Or.inr (hw _ (List.mem_of_getElem? (i := 23) rfl))) (Or.inr (hw _ (List.mem_of_getElem? (i := 17) rfl))) (by decide) (t := .long) (t' := .long) (by decide) (by decide)))
  have Fw10 := F6_va_low.same W10
  have N10 := Fr.snoc X10 N2 g_va
  have K10 := K2.wr W10 (Or.inl (List.mem_of_getElem? (i := 0) rfl))
  obtain ⟨T18, h18, X18, e18, W18, st18⟩ := putF X10 hx hZ hown (host := "") (Or.inl (hw _ (List.mem_of_getElem? (i := 18) rfl))) Via.refl e10 F15_va_place E12_va (Or.inr ⟨(hw _ (List.mem_of_getElem? (i := 19) rfl)), rfl, hnm⟩) (hw _ (List.mem_of_getElem? (i := 1) rfl)) (ty := .int) (by decide) rfl rfl (g := (mkF m 17 #[.val (.ref va), .val (.long vh), .second, .val (.long vl), .second, .val (.int vp), .val (.long vt), .second, .val (.long vu), .second] [(.int vp), (.ref va)])) rfl rfl (hb hby d1_17)
  have Z19 : n0 ≤ h18.size := Nat.le_trans Z11 (Keep.of_wr W18).1
  have E20_va := E12_va.wr W18
  have F21_va_high := F13_va_high.other W18 (Or.inr (slot_ne (Or.inr (hw _ (List.mem_of_getElem? (i := 15) rfl))) (Or.inr (hw _ (List.mem_of_getElem? (i := 19) rfl))) (by decide) (t := .long) (t' := .int) (by decide) (by decide)))
  have F22_va_low := Fw10.other W18 (Or.inr (slot_ne (Or.inr (hw _ (List.mem_of_getElem? (i := 17) rfl))) (Or.inr (hw _ (List.mem_of_getElem? (i := 19) rfl))) (by decide) (t := .long) (t' := .int) (by decide) (by decide)))
  have F24_va_tokens := F16_va_tokens.other W18 (Or.inr (slot_ne (Or.inr (hw _ (List.mem_of_getElem? (i := 21) rfl))) (Or.inr (hw _ (List.mem_of_getElem? (i := 19) rfl))) (by decide) (t := .long) (t' := .int) (by decide) (by decide)))
  have F25_va_time := F17_va_time.other W18 (Or.inr (slot_ne (Or.inr (hw _ (List.mem_of_getElem? (i := 23) rfl))) (Or.inr (hw _ (List.mem_of_getElem? (i := 19) rfl))) (by decide) (t := .long) (t' := .int) (by decide) (by decide)))
  have Fw18 := F15_va_place.same W18
  have N18 := Fr.snoc X18 N10 g_va
  have K18 := K10.wr W18 (Or.inl (List.mem_of_getElem? (i := 0) rfl))
  obtain ⟨T26, h26, X26, e26, W26, st26⟩ := putF X18 hx hZ hown (host := "") (Or.inl (hw _ (List.mem_of_getElem? (i := 20) rfl))) Via.refl e18 F24_va_tokens E20_va (Or.inr ⟨(hw _ (List.mem_of_getElem? (i := 21) rfl)), rfl, hnm⟩) (hw _ (List.mem_of_getElem? (i := 1) rfl)) (ty := .long) (by decide) rfl rfl (g := (mkF m 23 #[.val (.ref va), .val (.long vh), .second, .val (.long vl), .second, .val (.int vp), .val (.long vt), .second, .val (.long vu), .second] [(.long vt), (.ref va)])) rfl rfl (hb hby d1_23)
  have Z27 : n0 ≤ h26.size := Nat.le_trans Z19 (Keep.of_wr W26).1
  have E28_va := E20_va.wr W26
  have F29_va_high := F21_va_high.other W26 (Or.inr (slot_ne (Or.inr (hw _ (List.mem_of_getElem? (i := 15) rfl))) (Or.inr (hw _ (List.mem_of_getElem? (i := 21) rfl))) (by decide) (t := .long) (t' := .long) (by decide) (by decide)))
  have F30_va_low := F22_va_low.other W26 (Or.inr (slot_ne (Or.inr (hw _ (List.mem_of_getElem? (i := 17) rfl))) (Or.inr (hw _ (List.mem_of_getElem? (i := 21) rfl))) (by decide) (t := .long) (t' := .long) (by decide) (by decide)))
  have F31_va_place := Fw18.other W26 (Or.inr (slot_ne (Or.inr (hw _ (List.mem_of_getElem? (i := 19) rfl))) (Or.inr (hw _ (List.mem_of_getElem? (i := 21) rfl))) (by decide) (t := .int) (t' := .long) (by decide) (by decide)))
  have F33_va_time := F25_va_time.other W26 (Or.inr (slot_ne (Or.inr (hw _ (List.mem_of_getElem? (i := 23) rfl))) (Or.inr (hw _ (List.mem_of_getElem? (i := 21) rfl))) (by decide) (t := .long) (t' := .long) (by decide) (by decide)))
  have Fw26 := F24_va_tokens.same W26
  have N26 := Fr.snoc X26 N18 g_va
  have K26 := K18.wr W26 (Or.inl (List.mem_of_getElem? (i := 0) rfl))
  obtain ⟨T34, h34, X34, e34, W34, st34⟩ := putF X26 hx hZ hown (host := "") (Or.inl (hw _ (List.mem_of_getElem? (i := 22) rfl))) Via.refl e26 F33_va_time E28_va (Or.inr ⟨(hw _ (List.mem_of_getElem? (i := 23) rfl)), rfl, hnm⟩) (hw _ (List.mem_of_getElem? (i := 1) rfl)) (ty := .long) (by decide) rfl rfl (g := (mkF m 29 #[.val (.ref va), .val (.long vh), .second, .val (.long vl), .second, .val (.int vp), .val (.long vt), .second, .val (.long vu), .second] [(.long vu), (.ref va)])) rfl rfl (hb hby d1_29)
  have Z35 : n0 ≤ h34.size := Nat.le_trans Z27 (Keep.of_wr W34).1
  have E36_va := E28_va.wr W34
  have F37_va_high := F29_va_high.other W34 (Or.inr (slot_ne (Or.inr (hw _ (List.mem_of_getElem? (i := 15) rfl))) (Or.inr (hw _ (List.mem_of_getElem? (i := 23) rfl))) (by decide) (t := .long) (t' := .long) (by decide) (by decide)))
  have F38_va_low := F30_va_low.other W34 (Or.inr (slot_ne (Or.inr (hw _ (List.mem_of_getElem? (i := 17) rfl))) (Or.inr (hw _ (List.mem_of_getElem? (i := 23) rfl))) (by decide) (t := .long) (t' := .long) (by decide) (by decide)))
  have F39_va_place := F31_va_place.other W34 (Or.inr (slot_ne (Or.inr (hw _ (List.mem_of_getElem? (i := 19) rfl))) (Or.inr (hw _ (List.mem_of_getElem? (i := 23) rfl))) (by decide) (t := .int) (t' := .long) (by decide) (by decide)))
  have F40_va_tokens := Fw26.other W34 (Or.inr (slot_ne (Or.inr (hw _ (List.mem_of_getElem? (i := 21) rfl))) (Or.inr (hw _ (List.mem_of_getElem? (i := 23) rfl))) (by decide) (t := .long) (t' := .long) (by decide) (by decide)))
  have Fw34 := F33_va_time.same W34
  have N34 := Fr.snoc X34 N26 g_va
  have K34 := K26.wr W34 (Or.inl (List.mem_of_getElem? (i := 0) rfl))
  obtain ⟨fs, hr, hrun, hended, hW, hsame⟩ := X34.leave (v := none) (fun _ => rfl)
  refine ⟨_, _, pre0 _ ?_, hrun, hended, _, _, rfl, ?_, ⟨_, rfl⟩, hW, hsame.mono (by decide) (by decide)⟩
  · show Steps p.tables e below (s₁.setTop (mkF m 0 #[.val (.ref va), .val (.long vh), .second, .val (.long vl), .second, .val (.int vp), .val (.long vt), .second, .val (.long vu), .second] [])) _
    refine XS.aloadN X0.here hx rfl (hb hby d1_0) rfl rfl ?_
    show Steps p.tables e below (s₁.setTop (mkF m 1 #[.val (.ref va), .val (.long vh), .second, .val (.long vl), .second, .val (.int vp), .val (.long vt), .second, .val (.long vu), .second] [(.ref va)])) _
    refine st1.trans ?_
    show Steps p.tables e below (T1.setTop (mkF m 4 #[.val (.ref va), .val (.long vh), .second, .val (.long vl), .second, .val (.int vp), .val (.long vt), .second, .val (.long vu), .second] [])) _
    refine XS.aloadN X1.here hx rfl (hb hby d1_4) rfl rfl ?_
    show Steps p.tables e below (T1.setTop (mkF m 5 #[.val (.ref va), .val (.long vh), .second, .val (.long vl), .second, .val (.int vp), .val (.long vt), .second, .val (.long vu), .second] [(.ref va)])) _
    refine XS.lloadN X1.here hx rfl (hb hby d1_5) rfl ?_
    show Steps p.tables e below (T1.setTop (mkF m 6 #[.val (.ref va), .val (.long vh), .second, .val (.long vl), .second, .val (.int vp), .val (.long vt), .second, .val (.long vu), .second] [(.long vh), (.ref va)])) _
    refine st2 _ ?_
    show Steps p.tables e below (T2.setTop (mkF m 9 #[.val (.ref va), .val (.long vh), .second, .val (.long vl), .second, .val (.int vp), .val (.long vt), .second, .val (.long vu), .second] [])) _
    refine XS.aloadN X2.here hx rfl (hb hby d1_9) rfl rfl ?_
    show Steps p.tables e below (T2.setTop (mkF m 10 #[.val (.ref va), .val (.long vh), .second, .val (.long vl), .second, .val (.int vp), .val (.long vt), .second, .val (.long vu), .second] [(.ref va)])) _
    refine XS.lloadN X2.here hx rfl (hb hby d1_10) rfl ?_
    show Steps p.tables e below (T2.setTop (mkF m 11 #[.val (.ref va), .val (.long vh), .second, .val (.long vl), .second, .val (.int vp), .val (.long vt), .second, .val (.long vu), .second] [(.long vl), (.ref va)])) _
    refine st10 _ ?_
    show Steps p.tables e below (T10.setTop (mkF m 14 #[.val (.ref va), .val (.long vh), .second, .val (.long vl), .second, .val (.int vp), .val (.long vt), .second, .val (.long vu), .second] [])) _
    refine XS.aloadN X10.here hx rfl (hb hby d1_14) rfl rfl ?_
    show Steps p.tables e below (T10.setTop (mkF m 15 #[.val (.ref va), .val (.long vh), .second, .val (.long vl), .second, .val (.int vp), .val (.long vt), .second, .val (.long vu), .second] [(.ref va)])) _
    refine XS.iload X10.here hx rfl (hb hby d1_15) rfl ?_
    show Steps p.tables e below (T10.setTop (mkF m 17 #[.val (.ref va), .val (.long vh), .second, .val (.long vl), .second, .val (.int vp), .val (.long vt), .second, .val (.long vu), .second] [(.int vp), (.ref va)])) _
    refine st18 _ ?_
    show Steps p.tables e below (T18.setTop (mkF m 20 #[.val (.ref va), .val (.long vh), .second, .val (.long vl), .second, .val (.int vp), .val (.long vt), .second, .val (.long vu), .second] [])) _
    refine XS.aloadN X18.here hx rfl (hb hby d1_20) rfl rfl ?_
    show Steps p.tables e below (T18.setTop (mkF m 21 #[.val (.ref va), .val (.long vh), .second, .val (.long vl), .second, .val (.int vp), .val (.long vt), .second, .val (.long vu), .second] [(.ref va)])) _
    refine XS.lload X18.here hx rfl (hb hby d1_21) rfl ?_
    show Steps p.tables e below (T18.setTop (mkF m 23 #[.val (.ref va), .val (.long vh), .second, .val (.long vl), .second, .val (.int vp), .val (.long vt), .second, .val (.long vu), .second] [(.long vt), (.ref va)])) _
    refine st26 _ ?_
    show Steps p.tables e below (T26.setTop (mkF m 26 #[.val (.ref va), .val (.long vh), .second, .val (.long vl), .second, .val (.int vp), .val (.long vt), .second, .val (.long vu), .second] [])) _
    refine XS.aloadN X26.here hx rfl (hb hby d1_26) rfl rfl ?_
    show Steps p.tables e below (T26.setTop (mkF m 27 #[.val (.ref va), .val (.long vh), .second, .val (.long vl), .second, .val (.int vp), .val (.long vt), .second, .val (.long vu), .second] [(.ref va)])) _
    refine XS.lload X26.here hx rfl (hb hby d1_27) rfl ?_
    show Steps p.tables e below (T26.setTop (mkF m 29 #[.val (.ref va), .val (.long vh), .second, .val (.long vl), .second, .val (.int vp), .val (.long vt), .second, .val (.long vu), .second] [(.long vu), (.ref va)])) _
    refine st34 _ ?_
    show Steps p.tables e below (T34.setTop (mkF m 32 #[.val (.ref va), .val (.long vh), .second, .val (.long vl), .second, .val (.int vp), .val (.long vt), .second, .val (.long vu), .second] [])) _
    exact X34.returnOut hx Bd.returns (hb hby d1_32) hr
  · show Q1 Z va vh vl vp vt vu h0 n0 _ T34.heap _
    rw [e34]
    exact ⟨rfl, N34, K34, E36_va, F37_va_high, F38_va_low, F39_va_place, F40_va_tokens, Fw34⟩
theorem d4_0 : decode prog_35_method_2_code 0 = .ok (.aload_n 0, 1) := by decide +kernel
theorem d4_1 : decode prog_35_method_2_code 1 = .ok (.getfield 7, 3) := by decide +kernel
theorem d4_4 : decode prog_35_method_2_code 4 = .ok (.lload_n 1, 1) := by decide +kernel
theorem d4_5 : decode prog_35_method_2_code 5 = .ok (.lcmp, 1) := by decide +kernel
theorem d4_6 : decode prog_35_method_2_code 6 = .ok (.ifCond .ne 16, 3) := by decide +kernel
theorem d4_9 : decode prog_35_method_2_code 9 = .ok (.aload_n 0, 1) := by decide +kernel
theorem d4_10 : decode prog_35_method_2_code 10 = .ok (.getfield 13, 3) := by decide +kernel
theorem d4_13 : decode prog_35_method_2_code 13 = .ok (.lload_n 3, 1) := by decide +kernel
theorem d4_14 : decode prog_35_method_2_code 14 = .ok (.lcmp, 1) := by decide +kernel
theorem d4_15 : decode prog_35_method_2_code 15 = .ok (.ifCond .ne 7, 3) := by decide +kernel
theorem d4_18 : decode prog_35_method_2_code 18 = .ok (.iconst 1, 1) := by decide +kernel
theorem d4_19 : decode prog_35_method_2_code 19 = .ok (.goto 4, 3) := by decide +kernel
theorem d4_22 : decode prog_35_method_2_code 22 = .ok (.iconst 0, 1) := by decide +kernel
theorem d4_23 : decode prog_35_method_2_code 23 = .ok (.ireturn, 1) := by decide +kernel
theorem pn_4 : plainName "com/example/inchworm/inchworm/PrefixBuckets$Bucket" = true := by first | (simp [plainName, overriddenIn]; done) | decide +kernel
theorem ef_4 (m : MethodId) (va : Addr) (vy : Int64) (vz : Int64) : entryFrame m #[(.ref va), (.long vy), (.long vz)] 5 = mkF m 0 #[.val (.ref va), .val (.long vy), .second, .val (.long vz), .second] [] := by first | (simp [entryFrame, mkF, argsToLocals, Value.category]; done) | rfl
def F4 (vy : Int64) (vz : Int64) (vh : Int64) (vl : Int64) : Int32 := (if vh = vy then (if vl = vz then (1 : Int32) else (0 : Int32)) else (0 : Int32))
def Q4 (Z : State) (va : Addr) (vy : Int64) (vz : Int64) (vh : Int64) (vl : Int64) (h0 : Heap) (n0 : Nat) (v : Option Value) (h : Heap) (L : List Loc) : Prop := v = some (.int (F4 vy vz vh vl)) ∧ Fr n0 L ∧ h = h0
set_option maxRecDepth 65536 in
set_option maxHeartbeats 40000000 in
theorem rm4 (l : Launch) (Z : State) (a0 : Array Value) (hw : ∀ d ∈ tables_1, d.before a0 Z = true) (ws : List Jvm.Cond) (va : Addr) (vy : Int64) (vz : Int64) (vh : Int64) (vl : Int64) (h0 : Heap) (n0 : Nat) (Z0 : n0 ≤ h0.size) (F_va_high : Fld Z h0 va "com/example/inchworm/inchworm/PrefixBuckets$Bucket" "high" "J" (.long vh)) (F_va_low : Fld Z h0 va "com/example/inchworm/inchworm/PrefixBuckets$Bucket" "low" "J" (.long vl)) :
    MetFree l (⟨"com/example/inchworm/inchworm/PrefixBuckets$Bucket", "isOf", "(JJ)Z"⟩ : MethodName) (head1 (Jvm.Cond.code (⟨"com/example/inchworm/inchworm/PrefixBuckets$Bucket", "isOf", "(JJ)Z"⟩ : MethodName) prog_35_method_2_code 5 (some .boolean) :: ws) ({ frames := 0, cells := 0, slots := 0, locals := 0 } : Room)) (fun a U => a = #[(.ref va), (.long vy), (.long vz)] ∧ Z.Warmed39 U.vm ∧ U.heap = h0) (fun _ _ _ _ _ => True) (fun _ U o U' => ∃ v L, o = .returned v ∧ Q4 Z va vy vz vh vl h0 n0 v U'.heap L ∧ FrameEnd U o U' L ({ frames := 0, cells := 0, slots := 0, locals := 0 } : Room).cells ({ frames := 0, cells := 0, slots := 0, locals := 0 } : Room).slots) := by
  refine MetFree.of_bodySF (plainFor_of_name pn_4) hisR ?_
  intro p e s m args below meth c s₁ Bd hml0 hP hK
  obtain ⟨rfl, hZ, hh⟩ := hP
  have hx := Bd.exec
  have hby := Bd.bytes
  have hml : c.maxLocals = 5 := hml0
  have hown : s.vm.findClass "com/example/inchworm/inchworm/PrefixBuckets$Bucket" = some m.cls := findClass_of_methodNamed Bd.named
  have hnm := (name_of_methodNamed Bd.named Bd.method).1
  have X0 : Stand p l e ({ frames := 0, cells := 0, slots := 0, locals := 0 } : Room) s m #[(.ref va), (.long vy), (.long vz)] below meth c s₁ [] 0 0 := Stand.of_body Bd
  have e0 : s₁.heap = h0 := by rw [← hh, Bd.state]; rfl
  have N0 := Fr.nil n0
  have pre0 : ∀ t, Steps p.tables e below (s₁.setTop (mkF m 0 #[.val (.ref va), .val (.long vy), .second, .val (.long vz), .second] [])) t → Steps p.tables e below (s₁.setTop (entryFrame m #[(.ref va), (.long vy), (.long vz)] 5)) t := fun t k => castTop (ef_4 m va vy vz) k
  obtain ⟨T1, X1, e1, st1⟩ := getF X0 hx hZ hown (host := "") (Or.inl (hw _ (List.mem_of_getElem? (i := 14) rfl))) Via.refl e0 F_va_high (g := (mkF m 1 #[.val (.ref va), .val (.long vy), .second, .val (.long vz), .second] [(.ref va)])) rfl rfl (hb hby d4_1)
  by_cases hb2 : vh = vy
  · obtain ⟨T3, X3, e3, st3⟩ := getF X1 hx hZ hown (host := "") (Or.inl (hw _ (List.mem_of_getElem? (i := 16) rfl))) Via.refl e1 F_va_low (g := (mkF m 10 #[.val (.ref va), .val (.long vy), .second, .val (.long vz), .second] [(.ref va)])) rfl rfl (hb hby d4_10)
    obtain ⟨fs, hr, hrun, hended, hW, hsame⟩ := X3.leave (v := some (.int (if vl = vz then (1 : Int32) else (0 : Int32)))) (fun h => by rw [Bd.returns] at h; cases h)
    refine ⟨_, _, pre0 _ ?_, hrun, hended, _, _, rfl, ?_, ⟨_, rfl⟩, hW, hsame.mono (by decide) (by decide)⟩
    · show Steps p.tables e below (s₁.setTop (mkF m 0 #[.val (.ref va), .val (.long vy), .second, .val (.long vz), .second] [])) _
      refine XS.aloadN X0.here hx rfl (hb hby d4_0) rfl rfl ?_
      show Steps p.tables e below (s₁.setTop (mkF m 1 #[.val (.ref va), .val (.long vy), .second, .val (.long vz), .second] [(.ref va)])) _
      refine st1 _ ?_
      show Steps p.tables e below (T1.setTop (mkF m 4 #[.val (.ref va), .val (.long vy), .second, .val (.long vz), .second] [(.long vh)])) _
      refine XS.lloadN X1.here hx rfl (hb hby d4_4) rfl ?_
      show Steps p.tables e below (T1.setTop (mkF m 5 #[.val (.ref va), .val (.long vy), .second, .val (.long vz), .second] [(.long vy), (.long vh)])) _
      refine XS.lcmp X1.here hx rfl (hb hby d4_5) rfl ?_
      show Steps p.tables e below (T1.setTop (mkF m 6 #[.val (.ref va), .val (.long vy), .second, .val (.long vz), .second] [(.int (lcmpW vh vy))])) _
      refine XS.ifNo X1.here hx rfl (hb hby d4_6) rfl (own_leq hb2).2 ?_
      show Steps p.tables e below (T1.setTop (mkF m 9 #[.val (.ref va), .val (.long vy), .second, .val (.long vz), .second] [])) _
      refine XS.aloadN X1.here hx rfl (hb hby d4_9) rfl rfl ?_
      show Steps p.tables e below (T1.setTop (mkF m 10 #[.val (.ref va), .val (.long vy), .second, .val (.long vz), .second] [(.ref va)])) _
      refine st3 _ ?_
      show Steps p.tables e below (T3.setTop (mkF m 13 #[.val (.ref va), .val (.long vy), .second, .val (.long vz), .second] [(.long vl)])) _
      refine XS.lloadN X3.here hx rfl (hb hby d4_13) rfl ?_
      show Steps p.tables e below (T3.setTop (mkF m 14 #[.val (.ref va), .val (.long vy), .second, .val (.long vz), .second] [(.long vz), (.long vl)])) _
      refine XS.lcmp X3.here hx rfl (hb hby d4_14) rfl ?_
      show Steps p.tables e below (T3.setTop (mkF m 15 #[.val (.ref va), .val (.long vy), .second, .val (.long vz), .second] [(.int (lcmpW vl vz))])) _
      refine own_dia (u := ((1 : Int32) : Int32)) (v := (0 : Int32)) (vl = vz) (fun z4 => (mkF m 23 #[.val (.ref va), .val (.long vy), .second, .val (.long vz), .second] [(.int z4)])) (fun hc4 k4 => ?_) (fun hc4 k4 => ?_) ?_
      · refine XS.ifNo X3.here hx rfl (hb hby d4_15) rfl (own_leq hc4).2 ?_
        show Steps p.tables e below (T3.setTop (mkF m 18 #[.val (.ref va), .val (.long vy), .second, .val (.long vz), .second] [])) _
        refine XS.iconst X3.here hx rfl (hb hby d4_18) ?_
        show Steps p.tables e below (T3.setTop (mkF m 19 #[.val (.ref va), .val (.long vy), .second, .val (.long vz), .second] [(.int (1 : Int32))])) _
        refine XS.goto X3.here hx rfl (pc0 := 19) (pc' := 23) rfl (hb hby d4_19) (by decide) (by decide) ?_
        exact k4
      · refine XS.ifYes X3.here hx rfl (pc0 := 15) (pc' := 22) rfl (hb hby d4_15) rfl (own_lne hc4).2 (by decide) (by decide) ?_
        show Steps p.tables e below (T3.setTop (mkF m 22 #[.val (.ref va), .val (.long vy), .second, .val (.long vz), .second] [])) _
        refine XS.iconst X3.here hx rfl (hb hby d4_22) ?_
        exact k4
      -- meets at 23
      show Steps p.tables e below (T3.setTop (mkF m 23 #[.val (.ref va), .val (.long vy), .second, .val (.long vz), .second] [(.int (if vl = vz then (1 : Int32) else (0 : Int32)))])) _
      exact retN X3 hx (t := .boolean) Bd.returns (by simp) (hb hby d4_23) (by rw [own_nb (own_b01 (Or.inr rfl) (Or.inl rfl))]; exact hr)
    · show Q4 Z va vy vz vh vl h0 n0 _ T3.heap _
      rw [e3]
      exact ⟨(congrArg (fun z => some (Value.int z)) (Eq.symm (if_pos hb2))), N0, rfl⟩
  · obtain ⟨fs, hr, hrun, hended, hW, hsame⟩ := X1.leave (v := some (.int (0 : Int32))) (fun h => by rw [Bd.returns] at h; cases h)
    refine ⟨_, _, pre0 _ ?_, hrun, hended, _, _, rfl, ?_, ⟨_, rfl⟩, hW, hsame.mono (by decide) (by decide)⟩
    · show Steps p.tables e below (s₁.setTop (mkF m 0 #[.val (.ref va), .val (.long vy), .second, .val (.long vz), .second] [])) _
      refine XS.aloadN X0.here hx rfl (hb hby d4_0) rfl rfl ?_
      show Steps p.tables e below (s₁.setTop (mkF m 1 #[.val (.ref va), .val (.long vy), .second, .val (.long vz), .second] [(.ref va)])) _
      refine st1 _ ?_
      show Steps p.tables e below (T1.setTop (mkF m 4 #[.val (.ref va), .val (.long vy), .second, .val (.long vz), .second] [(.long vh)])) _
      refine XS.lloadN X1.here hx rfl (hb hby d4_4) rfl ?_
      show Steps p.tables e below (T1.setTop (mkF m 5 #[.val (.ref va), .val (.long vy), .second, .val (.long vz), .second] [(.long vy), (.long vh)])) _
      refine XS.lcmp X1.here hx rfl (hb hby d4_5) rfl ?_
      show Steps p.tables e below (T1.setTop (mkF m 6 #[.val (.ref va), .val (.long vy), .second, .val (.long vz), .second] [(.int (lcmpW vh vy))])) _
      refine XS.ifYes X1.here hx rfl (pc0 := 6) (pc' := 22) rfl (hb hby d4_6) rfl (own_lne hb2).2 (by decide) (by decide) ?_
      show Steps p.tables e below (T1.setTop (mkF m 22 #[.val (.ref va), .val (.long vy), .second, .val (.long vz), .second] [])) _
      refine XS.iconst X1.here hx rfl (hb hby d4_22) ?_
      show Steps p.tables e below (T1.setTop (mkF m 23 #[.val (.ref va), .val (.long vy), .second, .val (.long vz), .second] [(.int (0 : Int32))])) _
      exact retN X1 hx (t := .boolean) Bd.returns (by simp) (hb hby d4_23) hr
    · show Q4 Z va vy vz vh vl h0 n0 _ T1.heap _
      rw [e1]
      exact ⟨(congrArg (fun z => some (Value.int z)) (Eq.symm (if_neg hb2))), N0, rfl⟩
theorem pd_1 : parseMethodDescriptor "(JJIJJ)V" = some ⟨[.long, .long, .int, .long, .long], none⟩ := by decide +kernel
theorem pd_2 : parseMethodDescriptor "(JJ)Z" = some ⟨[.long, .long], some .boolean⟩ := by decide +kernel
theorem pn_0 : plainName "com/example/inchworm/inchworm/BucketIsOfPinLaw" = true := by first | (simp [plainName, overriddenIn]; done) | decide +kernel
theorem ef_0 (m : MethodId) (x1 : Int64) (x2 : Int64) (x3 : Int64) (x4 : Int64) (x5 : Int64) (x6 : Int32) : entryFrame m #[(.long x1), (.long x2), (.long x3), (.long x4), (.long x5), (.int x6)] maxLocals = mkF m 0 #[.val (.long x1), .second, .val (.long x2), .second, .val (.long x3), .second, .val (.long x4), .second, .val (.long x5), .second, .val (.int x6), .unset, .unset, .unset, .unset, .unset, .unset, .unset, .unset] [] := by first | (simp [entryFrame, mkF, argsToLocals, Value.category, maxLocals]; done) | rfl
def F0 (x1 : Int64) (x2 : Int64) (x3 : Int64) (x4 : Int64) (x5 : Int64) (x6 : Int32) : Int32 := (if (F4 x1 x2 (x1) (x2)) = (0 : Int32) then (0 : Int32) else (if (F4 (x1 ^^^ (if (x6 &&& (1 : Int32)) = (0 : Int32) then x3 else (0 : Int64))) (x2 ^^^ (if (x6 &&& (2 : Int32)) = (0 : Int32) then x4 else (0 : Int64))) (x1) (x2)) = (if (if (x6 &&& (1 : Int32)) = (0 : Int32) then x3 else (0 : Int64)) = (0 : Int64) then (if (if (x6 &&& (2 : Int32)) = (0 : Int32) then x4 else (0 : Int64)) = (0 : Int64) then (1 : Int32) else (0 : Int32)) else (0 : Int32)) then (1 : Int32) else (0 : Int32)))
def Q0 (Z : State) (x1 : Int64) (x2 : Int64) (x3 : Int64) (x4 : Int64) (x5 : Int64) (x6 : Int32) (h0 : Heap) (n0 : Nat) (v : Option Value) (h : Heap) (L : List Loc) : Prop := v = some (.int (F0 x1 x2 x3 x4 x5 x6)) ∧ Fr n0 L
set_option maxRecDepth 65536 in
set_option maxHeartbeats 40000000 in
theorem rm0 (l : Launch) (Z : State) (a0 : Array Value) (hw : ∀ d ∈ tables_1, d.before a0 Z = true) (ws : List Jvm.Cond) (x1 : Int64) (x2 : Int64) (x3 : Int64) (x4 : Int64) (x5 : Int64) (x6 : Int32) (h0 : Heap) (n0 : Nat) (Z0 : n0 ≤ h0.size)  :
    MetFree l x (head1 (Jvm.Cond.code x code maxLocals ret :: ws) room_1) (fun a U => a = #[(.long x1), (.long x2), (.long x3), (.long x4), (.long x5), (.int x6)] ∧ Z.Warmed39 U.vm ∧ U.heap = h0) (fun _ _ _ _ _ => True) (fun _ U o U' => ∃ v L, o = .returned v ∧ Q0 Z x1 x2 x3 x4 x5 x6 h0 n0 v U'.heap L ∧ FrameEnd U o U' L room_1.cells room_1.slots) := by
  refine MetFree.of_bodySF (plainFor_of_name pn_0) hisR ?_
  intro p e s m args below meth c s₁ Bd hml0 hP hK
  obtain ⟨rfl, hZ, hh⟩ := hP
  have hx := Bd.exec
  have hby := Bd.bytes
  have hml : c.maxLocals = 19 := hml0
  have hown : s.vm.findClass "com/example/inchworm/inchworm/BucketIsOfPinLaw" = some m.cls := findClass_of_methodNamed Bd.named
  have hnm := (name_of_methodNamed Bd.named Bd.method).1
  have X0 : Stand p l e room_1 s m #[(.long x1), (.long x2), (.long x3), (.long x4), (.long x5), (.int x6)] below meth c s₁ [] 0 0 := Stand.of_body Bd
  have e0 : s₁.heap = h0 := by rw [← hh, Bd.state]; rfl
  have N0 := Fr.nil n0
  have pre0 : ∀ t, Steps p.tables e below (s₁.setTop (mkF m 0 #[.val (.long x1), .second, .val (.long x2), .second, .val (.long x3), .second, .val (.long x4), .second, .val (.long x5), .second, .val (.int x6), .unset, .unset, .unset, .unset, .unset, .unset, .unset, .unset] [])) t → Steps p.tables e below (s₁.setTop (entryFrame m #[(.long x1), (.long x2), (.long x3), (.long x4), (.long x5), (.int x6)] maxLocals)) t := fun t k => castTop (ef_0 m x1 x2 x3 x4 x5 x6) k
  obtain ⟨T3, h3, X3, e3, E3, A3, D3, -, st3⟩ := newO X0 hx hZ hown (hw _ (List.mem_of_getElem? (i := 0) rfl)) (hw _ (List.mem_of_getElem? (i := 1) rfl)) (hw _ (List.mem_of_getElem? (i := 2) rfl)) e0 (g := (mkF m 30 #[.val (.long x1), .second, .val (.long x2), .second, .val (.long x3), .second, .val (.long x4), .second, .val (.long x5), .second, .val (.int x6), .val (.long (if (x6 &&& (1 : Int32)) = (0 : Int32) then x3 else (0 : Int64))), .second, .val (.long (if (x6 &&& (2 : Int32)) = (0 : Int32) then x4 else (0 : Int64))), .second, .unset, .unset, .unset, .unset] [])) rfl (hb hby at_30) (by decide) (by decide)
  obtain ⟨b3, g3⟩ : ∃ z, z = h0.size := ⟨_, rfl⟩
  rw [← g3] at A3 D3 st3
  have g_b3 : n0 ≤ b3 := Nat.le_trans Z0 (Nat.le_of_eq g3.symm)
  have Z4 : n0 ≤ h3.size := Nat.le_trans Z0 E3.1
  have F3_high : Fld Z h3 b3 "com/example/inchworm/inchworm/PrefixBuckets$Bucket" "high" "J" (.long (0 : Int64)) := D3 (Or.inr (hw _ (List.mem_of_getElem? (i := 15) rfl))) (ty := .long) (by decide)
  have F3_low : Fld Z h3 b3 "com/example/inchworm/inchworm/PrefixBuckets$Bucket" "low" "J" (.long (0 : Int64)) := D3 (Or.inr (hw _ (List.mem_of_getElem? (i := 17) rfl))) (ty := .long) (by decide)
  have F3_place : Fld Z h3 b3 "com/example/inchworm/inchworm/PrefixBuckets$Bucket" "place" "I" (.int (0 : Int32)) := D3 (Or.inr (hw _ (List.mem_of_getElem? (i := 19) rfl))) (ty := .int) (by decide)
  have F3_tokens : Fld Z h3 b3 "com/example/inchworm/inchworm/PrefixBuckets$Bucket" "tokens" "J" (.long (0 : Int64)) := D3 (Or.inr (hw _ (List.mem_of_getElem? (i := 21) rfl))) (ty := .long) (by decide)
  have F3_time : Fld Z h3 b3 "com/example/inchworm/inchworm/PrefixBuckets$Bucket" "time" "J" (.long (0 : Int64)) := D3 (Or.inr (hw _ (List.mem_of_getElem? (i := 23) rfl))) (ty := .long) (by decide)
  obtain ⟨_, _, ⟨T5, L5, k5, n5⟩, -, X5, ⟨Lc5, hQ5, l5, y5, z5⟩, st5⟩ := X3.specialBack hx (y := (⟨"com/example/inchworm/inchworm/PrefixBuckets$Bucket", "<init>", "(JJIJJ)V"⟩ : MethodName)) rfl hown (mvT hZ (hw _ (List.mem_of_getElem? (i := 3) rfl))) (mvT hZ (hw _ (List.mem_of_getElem? (i := 4) rfl))) (mvT hZ (hw _ (List.mem_of_getElem? (i := 5) rfl))) (by decide) (backOf (W := 1) (rm1 l Z a0 hw [] b3 x1 x2 (x5.toInt32) x5 (x6.toInt64)  h3 n0 Z4 A3 g_b3 F3_high F3_low F3_place F3_tokens F3_time) hZ (hw _ (List.mem_of_getElem? (i := 5) rfl)) (hw _ (List.mem_of_getElem? (i := 2) rfl)) (by decide) (by decide)) (g := (mkF m 44 #[.val (.long x1), .second, .val (.long x2), .second, .val (.long x3), .second, .val (.long x4), .second, .val (.long x5), .second, .val (.int x6), .val (.long (if (x6 &&& (1 : Int32)) = (0 : Int32) then x3 else (0 : Int64))), .second, .val (.long (if (x6 &&& (2 : Int32)) = (0 : Int32) then x4 else (0 : Int64))), .second, .unset, .unset, .unset, .unset] [(.long (x6.toInt64)), (.long x5), (.int (x5.toInt32)), (.long x2), (.long x1), (.ref b3), (.ref b3)])) rfl (by rw [hml]; rfl) (Steps.refl _) (a := b3) (argsL := [(.long x1), (.long x2), (.int (x5.toInt32)), (.long x5), (.long (x6.toInt64))]) (rest := [(.ref b3)]) (lenOf pd_1 rfl) rfl (by show 2 * 0 + _ ≤ _; exact Nat.le_of_eq rfl) (hb hby at_44) (fun _ _ => ⟨rfl, e3, (by decide : 1 + 0 ≤ _), (by decide : 5 + 0 ≤ _)⟩)
  dsimp only [Pt.U, Pt.locs, Pt.cells, Pt.slots] at X5 l5 y5 z5 st5 hQ5
  subst l5 y5 z5
  obtain ⟨rfl, N5q, Q5_0, Q5_1, Q5_2, Q5_3, Q5_4, Q5_5, Q5_6⟩ := hQ5
  have Z6 : n0 ≤ T5.heap.size := Nat.le_trans Z4 Q5_0.1
  have E7_b3 := A3.keep Q5_0
  have N5 := Fr.app N0 N5q
  obtain ⟨cq13, kq13, q13a, q13b, q13c⟩ := isOf hZ rfl Q5_1
  obtain ⟨_, _, ⟨T13, L13, k13, n13⟩, -, X13, ⟨Lc13, hQ13, l13, y13, z13⟩, st13⟩ := X5.virtualBack hx (y := (⟨"com/example/inchworm/inchworm/PrefixBuckets$Bucket", "isOf", "(JJ)Z"⟩ : MethodName)) (z := (⟨"com/example/inchworm/inchworm/PrefixBuckets$Bucket", "isOf", "(JJ)Z"⟩ : MethodName)) hown (mvT hZ (hw _ (List.mem_of_getElem? (i := 24) rfl))) (mvT hZ (hw _ (List.mem_of_getElem? (i := 25) rfl))) (notFace_of_selects (args := #[]) (mvT hZ (hw _ (List.mem_of_getElem? (i := 27) rfl)))) (mvT hZ (hw _ (List.mem_of_getElem? (i := 27) rfl))) (mvT hZ (hw _ (List.mem_of_getElem? (i := 26) rfl))) (by decide) (backOf (W := 0) (rm4 l Z a0 hw [] b3 x1 x2 (x1) (x2) T5.heap n0 Z6 Q5_2 Q5_3) hZ (hw _ (List.mem_of_getElem? (i := 28) rfl)) (hw _ (List.mem_of_getElem? (i := 2) rfl)) (by decide) (by decide)) q13a q13c (g := (mkF m 53 #[.val (.long x1), .second, .val (.long x2), .second, .val (.long x3), .second, .val (.long x4), .second, .val (.long x5), .second, .val (.int x6), .val (.long (if (x6 &&& (1 : Int32)) = (0 : Int32) then x3 else (0 : Int64))), .second, .val (.long (if (x6 &&& (2 : Int32)) = (0 : Int32) then x4 else (0 : Int64))), .second, .val (.ref b3), .unset, .unset, .unset] [(.long x2), (.long x1), (.ref b3)])) rfl (by rw [hml]; rfl) (Steps.refl _) (argsL := [(.long x1), (.long x2)]) (rest := []) (lenOf pd_2 rfl) rfl (by show 2 * 0 + _ ≤ _; exact Nat.le_of_eq rfl) (hb hby at_53) (fun _ _ => ⟨rfl, rfl, (by decide : 1 + 0 ≤ _), (by decide : 5 + 0 ≤ _)⟩)
  dsimp only [Pt.U, Pt.locs, Pt.cells, Pt.slots] at X13 l13 y13 z13 st13 hQ13
  subst l13 y13 z13
  obtain ⟨rfl, N13q, e13⟩ := hQ13
  have N13 := Fr.app N5 N13q
  obtain ⟨cq14, kq14, q14a, q14b, q14c⟩ := isOf hZ e13 Q5_1
  obtain ⟨_, _, ⟨T14, L14, k14, n14⟩, -, X14, ⟨Lc14, hQ14, l14, y14, z14⟩, st14⟩ := X13.virtualBack hx (y := (⟨"com/example/inchworm/inchworm/PrefixBuckets$Bucket", "isOf", "(JJ)Z"⟩ : MethodName)) (z := (⟨"com/example/inchworm/inchworm/PrefixBuckets$Bucket", "isOf", "(JJ)Z"⟩ : MethodName)) hown (mvT hZ (hw _ (List.mem_of_getElem? (i := 24) rfl))) (mvT hZ (hw _ (List.mem_of_getElem? (i := 25) rfl))) (notFace_of_selects (args := #[]) (mvT hZ (hw _ (List.mem_of_getElem? (i := 27) rfl)))) (mvT hZ (hw _ (List.mem_of_getElem? (i := 27) rfl))) (mvT hZ (hw _ (List.mem_of_getElem? (i := 26) rfl))) (by decide) (backOf (W := 0) (rm4 l Z a0 hw [] b3 (x1 ^^^ (if (x6 &&& (1 : Int32)) = (0 : Int32) then x3 else (0 : Int64))) (x2 ^^^ (if (x6 &&& (2 : Int32)) = (0 : Int32) then x4 else (0 : Int64))) (x1) (x2) T5.heap n0 Z6 Q5_2 Q5_3) hZ (hw _ (List.mem_of_getElem? (i := 28) rfl)) (hw _ (List.mem_of_getElem? (i := 2) rfl)) (by decide) (by decide)) q14a q14c (g := (mkF m 68 #[.val (.long x1), .second, .val (.long x2), .second, .val (.long x3), .second, .val (.long x4), .second, .val (.long x5), .second, .val (.int x6), .val (.long (if (x6 &&& (1 : Int32)) = (0 : Int32) then x3 else (0 : Int64))), .second, .val (.long (if (x6 &&& (2 : Int32)) = (0 : Int32) then x4 else (0 : Int64))), .second, .val (.ref b3), .val (.int (F4 x1 x2 (x1) (x2))), .unset, .unset] [(.long (x2 ^^^ (if (x6 &&& (2 : Int32)) = (0 : Int32) then x4 else (0 : Int64)))), (.long (x1 ^^^ (if (x6 &&& (1 : Int32)) = (0 : Int32) then x3 else (0 : Int64)))), (.ref b3)])) rfl (by rw [hml]; rfl) (Steps.refl _) (argsL := [(.long (x1 ^^^ (if (x6 &&& (1 : Int32)) = (0 : Int32) then x3 else (0 : Int64)))), (.long (x2 ^^^ (if (x6 &&& (2 : Int32)) = (0 : Int32) then x4 else (0 : Int64))))]) (rest := []) (lenOf pd_2 rfl) rfl (by show 2 * 0 + _ ≤ _; exact Nat.le_of_eq rfl) (hb hby at_68) (fun _ _ => ⟨rfl, e13, (by decide : 1 + 0 ≤ _), (by decide : 5 + 0 ≤ _)⟩)
  dsimp only [Pt.U, Pt.locs, Pt.cells, Pt.slots] at X14 l14 y14 z14 st14 hQ14
  subst l14 y14 z14
  obtain ⟨rfl, N14q, e14⟩ := hQ14
  have N14 := Fr.app N13 N14q
  obtain ⟨fs, hr, hrun, hended, hW, hsame⟩ := X14.leave (v := some (.int (if (F4 x1 x2 (x1) (x2)) = (0 : Int32) then (0 : Int32) else (if (F4 (x1 ^^^ (if (x6 &&& (1 : Int32)) = (0 : Int32) then x3 else (0 : Int64))) (x2 ^^^ (if (x6 &&& (2 : Int32)) = (0 : Int32) then x4 else (0 : Int64))) (x1) (x2)) = (if (if (x6 &&& (1 : Int32)) = (0 : Int32) then x3 else (0 : Int64)) = (0 : Int64) then (if (if (x6 &&& (2 : Int32)) = (0 : Int32) then x4 else (0 : Int64)) = (0 : Int64) then (1 : Int32) else (0 : Int32)) else (0 : Int32)) then (1 : Int32) else (0 : Int32))))) (fun h => by rw [Bd.returns] at h; cases h)
  refine ⟨_, _, pre0 _ ?_, hrun, hended, _, _, rfl, ?_, ⟨_, rfl⟩, hW, hsame.mono (by decide) (by decide)⟩
  · show Steps p.tables e below (s₁.setTop (mkF m 0 #[.val (.long x1), .second, .val (.long x2), .second, .val (.long x3), .second, .val (.long x4), .second, .val (.long x5), .second, .val (.int x6), .unset, .unset, .unset, .unset, .unset, .unset, .unset, .unset] [])) _
    refine XS.iload X0.here hx rfl (hb hby at_0) rfl ?_
    show Steps p.tables e below (s₁.setTop (mkF m 2 #[.val (.long x1), .second, .val (.long x2), .second, .val (.long x3), .second, .val (.long x4), .second, .val (.long x5), .second, .val (.int x6), .unset, .unset, .unset, .unset, .unset, .unset, .unset, .unset] [(.int x6)])) _
    refine XS.iconst X0.here hx rfl (hb hby at_2) ?_
    show Steps p.tables e below (s₁.setTop (mkF m 3 #[.val (.long x1), .second, .val (.long x2), .second, .val (.long x3), .second, .val (.long x4), .second, .val (.long x5), .second, .val (.int x6), .unset, .unset, .unset, .unset, .unset, .unset, .unset, .unset] [(.int (1 : Int32)), (.int x6)])) _
    refine XS.iand X0.here hx rfl (hb hby at_3) rfl ?_
    show Steps p.tables e below (s₁.setTop (mkF m 4 #[.val (.long x1), .second, .val (.long x2), .second, .val (.long x3), .second, .val (.long x4), .second, .val (.long x5), .second, .val (.int x6), .unset, .unset, .unset, .unset, .unset, .unset, .unset, .unset] [(.int (x6 &&& (1 : Int32)))])) _
    refine own_dia (u := (x3 : Int64)) (v := (0 : Int64)) ((x6 &&& (1 : Int32)) = (0 : Int32)) (fun z1 => (mkF m 13 #[.val (.long x1), .second, .val (.long x2), .second, .val (.long x3), .second, .val (.long x4), .second, .val (.long x5), .second, .val (.int x6), .unset, .unset, .unset, .unset, .unset, .unset, .unset, .unset] [(.long z1)])) (fun hc1 k1 => ?_) (fun hc1 k1 => ?_) ?_
    · refine XS.ifYes X0.here hx rfl (pc0 := 4) (pc' := 11) rfl (hb hby at_4) rfl ((if0 _ _).trans (teq hc1).1) (by decide) (by decide) ?_
      show Steps p.tables e below (s₁.setTop (mkF m 11 #[.val (.long x1), .second, .val (.long x2), .second, .val (.long x3), .second, .val (.long x4), .second, .val (.long x5), .second, .val (.int x6), .unset, .unset, .unset, .unset, .unset, .unset, .unset, .unset] [])) _
      refine XS.lload X0.here hx rfl (hb hby at_11) rfl ?_
      exact k1
    · refine XS.ifNo X0.here hx rfl (hb hby at_4) rfl ((if0 _ _).trans (feq hc1).1) ?_
      show Steps p.tables e below (s₁.setTop (mkF m 7 #[.val (.long x1), .second, .val (.long x2), .second, .val (.long x3), .second, .val (.long x4), .second, .val (.long x5), .second, .val (.int x6), .unset, .unset, .unset, .unset, .unset, .unset, .unset, .unset] [])) _
      refine XS.lconst X0.here hx rfl (hb hby at_7) ?_
      show Steps p.tables e below (s₁.setTop (mkF m 8 #[.val (.long x1), .second, .val (.long x2), .second, .val (.long x3), .second, .val (.long x4), .second, .val (.long x5), .second, .val (.int x6), .unset, .unset, .unset, .unset, .unset, .unset, .unset, .unset] [(.long (0 : Int64))])) _
      refine XS.goto X0.here hx rfl (pc0 := 8) (pc' := 13) rfl (hb hby at_8) (by decide) (by decide) ?_
      exact k1
    -- meets at 13
    show Steps p.tables e below (s₁.setTop (mkF m 13 #[.val (.long x1), .second, .val (.long x2), .second, .val (.long x3), .second, .val (.long x4), .second, .val (.long x5), .second, .val (.int x6), .unset, .unset, .unset, .unset, .unset, .unset, .unset, .unset] [(.long (if (x6 &&& (1 : Int32)) = (0 : Int32) then x3 else (0 : Int64)))])) _
    refine XS.lstore X0.here hx rfl (hb hby at_13) rfl (l' := #[.val (.long x1), .second, .val (.long x2), .second, .val (.long x3), .second, .val (.long x4), .second, .val (.long x5), .second, .val (.int x6), .val (.long (if (x6 &&& (1 : Int32)) = (0 : Int32) then x3 else (0 : Int64))), .second, .unset, .unset, .unset, .unset, .unset, .unset]) rfl ?_
    show Steps p.tables e below (s₁.setTop (mkF m 15 #[.val (.long x1), .second, .val (.long x2), .second, .val (.long x3), .second, .val (.long x4), .second, .val (.long x5), .second, .val (.int x6), .val (.long (if (x6 &&& (1 : Int32)) = (0 : Int32) then x3 else (0 : Int64))), .second, .unset, .unset, .unset, .unset, .unset, .unset] [])) _
    refine XS.iload X0.here hx rfl (hb hby at_15) rfl ?_
    show Steps p.tables e below (s₁.setTop (mkF m 17 #[.val (.long x1), .second, .val (.long x2), .second, .val (.long x3), .second, .val (.long x4), .second, .val (.long x5), .second, .val (.int x6), .val (.long (if (x6 &&& (1 : Int32)) = (0 : Int32) then x3 else (0 : Int64))), .second, .unset, .unset, .unset, .unset, .unset, .unset] [(.int x6)])) _
    refine XS.iconst X0.here hx rfl (hb hby at_17) ?_
    show Steps p.tables e below (s₁.setTop (mkF m 18 #[.val (.long x1), .second, .val (.long x2), .second, .val (.long x3), .second, .val (.long x4), .second, .val (.long x5), .second, .val (.int x6), .val (.long (if (x6 &&& (1 : Int32)) = (0 : Int32) then x3 else (0 : Int64))), .second, .unset, .unset, .unset, .unset, .unset, .unset] [(.int (2 : Int32)), (.int x6)])) _
    refine XS.iand X0.here hx rfl (hb hby at_18) rfl ?_
    show Steps p.tables e below (s₁.setTop (mkF m 19 #[.val (.long x1), .second, .val (.long x2), .second, .val (.long x3), .second, .val (.long x4), .second, .val (.long x5), .second, .val (.int x6), .val (.long (if (x6 &&& (1 : Int32)) = (0 : Int32) then x3 else (0 : Int64))), .second, .unset, .unset, .unset, .unset, .unset, .unset] [(.int (x6 &&& (2 : Int32)))])) _
    refine own_dia (u := (x4 : Int64)) (v := (0 : Int64)) ((x6 &&& (2 : Int32)) = (0 : Int32)) (fun z2 => (mkF m 28 #[.val (.long x1), .second, .val (.long x2), .second, .val (.long x3), .second, .val (.long x4), .second, .val (.long x5), .second, .val (.int x6), .val (.long (if (x6 &&& (1 : Int32)) = (0 : Int32) then x3 else (0 : Int64))), .second, .unset, .unset, .unset, .unset, .unset, .unset] [(.long z2)])) (fun hc2 k2 => ?_) (fun hc2 k2 => ?_) ?_
    · refine XS.ifYes X0.here hx rfl (pc0 := 19) (pc' := 26) rfl (hb hby at_19) rfl ((if0 _ _).trans (teq hc2).1) (by decide) (by decide) ?_
      show Steps p.tables e below (s₁.setTop (mkF m 26 #[.val (.long x1), .second, .val (.long x2), .second, .val (.long x3), .second, .val (.long x4), .second, .val (.long x5), .second, .val (.int x6), .val (.long (if (x6 &&& (1 : Int32)) = (0 : Int32) then x3 else (0 : Int64))), .second, .unset, .unset, .unset, .unset, .unset, .unset] [])) _
      refine XS.lload X0.here hx rfl (hb hby at_26) rfl ?_
      exact k2
    · refine XS.ifNo X0.here hx rfl (hb hby at_19) rfl ((if0 _ _).trans (feq hc2).1) ?_
      show Steps p.tables e below (s₁.setTop (mkF m 22 #[.val (.long x1), .second, .val (.long x2), .second, .val (.long x3), .second, .val (.long x4), .second, .val (.long x5), .second, .val (.int x6), .val (.long (if (x6 &&& (1 : Int32)) = (0 : Int32) then x3 else (0 : Int64))), .second, .unset, .unset, .unset, .unset, .unset, .unset] [])) _
      refine XS.lconst X0.here hx rfl (hb hby at_22) ?_
      show Steps p.tables e below (s₁.setTop (mkF m 23 #[.val (.long x1), .second, .val (.long x2), .second, .val (.long x3), .second, .val (.long x4), .second, .val (.long x5), .second, .val (.int x6), .val (.long (if (x6 &&& (1 : Int32)) = (0 : Int32) then x3 else (0 : Int64))), .second, .unset, .unset, .unset, .unset, .unset, .unset] [(.long (0 : Int64))])) _
      refine XS.goto X0.here hx rfl (pc0 := 23) (pc' := 28) rfl (hb hby at_23) (by decide) (by decide) ?_
      exact k2
    -- meets at 28
    show Steps p.tables e below (s₁.setTop (mkF m 28 #[.val (.long x1), .second, .val (.long x2), .second, .val (.long x3), .second, .val (.long x4), .second, .val (.long x5), .second, .val (.int x6), .val (.long (if (x6 &&& (1 : Int32)) = (0 : Int32) then x3 else (0 : Int64))), .second, .unset, .unset, .unset, .unset, .unset, .unset] [(.long (if (x6 &&& (2 : Int32)) = (0 : Int32) then x4 else (0 : Int64)))])) _
    refine XS.lstore X0.here hx rfl (hb hby at_28) rfl (l' := #[.val (.long x1), .second, .val (.long x2), .second, .val (.long x3), .second, .val (.long x4), .second, .val (.long x5), .second, .val (.int x6), .val (.long (if (x6 &&& (1 : Int32)) = (0 : Int32) then x3 else (0 : Int64))), .second, .val (.long (if (x6 &&& (2 : Int32)) = (0 : Int32) then x4 else (0 : Int64))), .second, .unset, .unset, .unset, .unset]) rfl ?_
    show Steps p.tables e below (s₁.setTop (mkF m 30 #[.val (.long x1), .second, .val (.long x2), .second, .val (.long x3), .second, .val (.long x4), .second, .val (.long x5), .second, .val (.int x6), .val (.long (if (x6 &&& (1 : Int32)) = (0 : Int32) then x3 else (0 : Int64))), .second, .val (.long (if (x6 &&& (2 : Int32)) = (0 : Int32) then x4 else (0 : Int64))), .second, .unset, .unset, .unset, .unset] [])) _
    refine st3 _ ?_
    show Steps p.tables e below (T3.setTop (mkF m 33 #[.val (.long x1), .second, .val (.long x2), .second, .val (.long x3), .second, .val (.long x4), .second, .val (.long x5), .second, .val (.int x6), .val (.long (if (x6 &&& (1 : Int32)) = (0 : Int32) then x3 else (0 : Int64))), .second, .val (.long (if (x6 &&& (2 : Int32)) = (0 : Int32) then x4 else (0 : Int64))), .second, .unset, .unset, .unset, .unset] [(.ref b3)])) _
    refine XS.dup X3.here hx rfl (hb hby at_33) rfl rfl ?_
    show Steps p.tables e below (T3.setTop (mkF m 34 #[.val (.long x1), .second, .val (.long x2), .second, .val (.long x3), .second, .val (.long x4), .second, .val (.long x5), .second, .val (.int x6), .val (.long (if (x6 &&& (1 : Int32)) = (0 : Int32) then x3 else (0 : Int64))), .second, .val (.long (if (x6 &&& (2 : Int32)) = (0 : Int32) then x4 else (0 : Int64))), .second, .unset, .unset, .unset, .unset] [(.ref b3), (.ref b3)])) _
    refine XS.lloadN X3.here hx rfl (hb hby at_34) rfl ?_
    show Steps p.tables e below (T3.setTop (mkF m 35 #[.val (.long x1), .second, .val (.long x2), .second, .val (.long x3), .second, .val (.long x4), .second, .val (.long x5), .second, .val (.int x6), .val (.long (if (x6 &&& (1 : Int32)) = (0 : Int32) then x3 else (0 : Int64))), .second, .val (.long (if (x6 &&& (2 : Int32)) = (0 : Int32) then x4 else (0 : Int64))), .second, .unset, .unset, .unset, .unset] [(.long x1), (.ref b3), (.ref b3)])) _
    refine XS.lloadN X3.here hx rfl (hb hby at_35) rfl ?_
    show Steps p.tables e below (T3.setTop (mkF m 36 #[.val (.long x1), .second, .val (.long x2), .second, .val (.long x3), .second, .val (.long x4), .second, .val (.long x5), .second, .val (.int x6), .val (.long (if (x6 &&& (1 : Int32)) = (0 : Int32) then x3 else (0 : Int64))), .second, .val (.long (if (x6 &&& (2 : Int32)) = (0 : Int32) then x4 else (0 : Int64))), .second, .unset, .unset, .unset, .unset] [(.long x2), (.long x1), (.ref b3), (.ref b3)])) _
    refine XS.lload X3.here hx rfl (hb hby at_36) rfl ?_
    show Steps p.tables e below (T3.setTop (mkF m 38 #[.val (.long x1), .second, .val (.long x2), .second, .val (.long x3), .second, .val (.long x4), .second, .val (.long x5), .second, .val (.int x6), .val (.long (if (x6 &&& (1 : Int32)) = (0 : Int32) then x3 else (0 : Int64))), .second, .val (.long (if (x6 &&& (2 : Int32)) = (0 : Int32) then x4 else (0 : Int64))), .second, .unset, .unset, .unset, .unset] [(.long x5), (.long x2), (.long x1), (.ref b3), (.ref b3)])) _
    refine XS.l2i X3.here hx rfl (hb hby at_38) rfl ?_
    show Steps p.tables e below (T3.setTop (mkF m 39 #[.val (.long x1), .second, .val (.long x2), .second, .val (.long x3), .second, .val (.long x4), .second, .val (.long x5), .second, .val (.int x6), .val (.long (if (x6 &&& (1 : Int32)) = (0 : Int32) then x3 else (0 : Int64))), .second, .val (.long (if (x6 &&& (2 : Int32)) = (0 : Int32) then x4 else (0 : Int64))), .second, .unset, .unset, .unset, .unset] [(.int (x5.toInt32)), (.long x2), (.long x1), (.ref b3), (.ref b3)])) _
    refine XS.lload X3.here hx rfl (hb hby at_39) rfl ?_
    show Steps p.tables e below (T3.setTop (mkF m 41 #[.val (.long x1), .second, .val (.long x2), .second, .val (.long x3), .second, .val (.long x4), .second, .val (.long x5), .second, .val (.int x6), .val (.long (if (x6 &&& (1 : Int32)) = (0 : Int32) then x3 else (0 : Int64))), .second, .val (.long (if (x6 &&& (2 : Int32)) = (0 : Int32) then x4 else (0 : Int64))), .second, .unset, .unset, .unset, .unset] [(.long x5), (.int (x5.toInt32)), (.long x2), (.long x1), (.ref b3), (.ref b3)])) _
    refine XS.iload X3.here hx rfl (hb hby at_41) rfl ?_
    show Steps p.tables e below (T3.setTop (mkF m 43 #[.val (.long x1), .second, .val (.long x2), .second, .val (.long x3), .second, .val (.long x4), .second, .val (.long x5), .second, .val (.int x6), .val (.long (if (x6 &&& (1 : Int32)) = (0 : Int32) then x3 else (0 : Int64))), .second, .val (.long (if (x6 &&& (2 : Int32)) = (0 : Int32) then x4 else (0 : Int64))), .second, .unset, .unset, .unset, .unset] [(.int x6), (.long x5), (.int (x5.toInt32)), (.long x2), (.long x1), (.ref b3), (.ref b3)])) _
    refine XS.i2l X3.here hx rfl (hb hby at_43) rfl ?_
    show Steps p.tables e below (T3.setTop (mkF m 44 #[.val (.long x1), .second, .val (.long x2), .second, .val (.long x3), .second, .val (.long x4), .second, .val (.long x5), .second, .val (.int x6), .val (.long (if (x6 &&& (1 : Int32)) = (0 : Int32) then x3 else (0 : Int64))), .second, .val (.long (if (x6 &&& (2 : Int32)) = (0 : Int32) then x4 else (0 : Int64))), .second, .unset, .unset, .unset, .unset] [(.long (x6.toInt64)), (.long x5), (.int (x5.toInt32)), (.long x2), (.long x1), (.ref b3), (.ref b3)])) _
    refine st5.trans ?_
    show Steps p.tables e below (T5.setTop (mkF m 47 #[.val (.long x1), .second, .val (.long x2), .second, .val (.long x3), .second, .val (.long x4), .second, .val (.long x5), .second, .val (.int x6), .val (.long (if (x6 &&& (1 : Int32)) = (0 : Int32) then x3 else (0 : Int64))), .second, .val (.long (if (x6 &&& (2 : Int32)) = (0 : Int32) then x4 else (0 : Int64))), .second, .unset, .unset, .unset, .unset] [(.ref b3)])) _
    refine XS.astore X5.here hx rfl (hb hby at_47) rfl rfl (l' := #[.val (.long x1), .second, .val (.long x2), .second, .val (.long x3), .second, .val (.long x4), .second, .val (.long x5), .second, .val (.int x6), .val (.long (if (x6 &&& (1 : Int32)) = (0 : Int32) then x3 else (0 : Int64))), .second, .val (.long (if (x6 &&& (2 : Int32)) = (0 : Int32) then x4 else (0 : Int64))), .second, .val (.ref b3), .unset, .unset, .unset]) rfl ?_
    show Steps p.tables e below (T5.setTop (mkF m 49 #[.val (.long x1), .second, .val (.long x2), .second, .val (.long x3), .second, .val (.long x4), .second, .val (.long x5), .second, .val (.int x6), .val (.long (if (x6 &&& (1 : Int32)) = (0 : Int32) then x3 else (0 : Int64))), .second, .val (.long (if (x6 &&& (2 : Int32)) = (0 : Int32) then x4 else (0 : Int64))), .second, .val (.ref b3), .unset, .unset, .unset] [])) _
    refine XS.aload X5.here hx rfl (hb hby at_49) rfl rfl ?_
    show Steps p.tables e below (T5.setTop (mkF m 51 #[.val (.long x1), .second, .val (.long x2), .second, .val (.long x3), .second, .val (.long x4), .second, .val (.long x5), .second, .val (.int x6), .val (.long (if (x6 &&& (1 : Int32)) = (0 : Int32) then x3 else (0 : Int64))), .second, .val (.long (if (x6 &&& (2 : Int32)) = (0 : Int32) then x4 else (0 : Int64))), .second, .val (.ref b3), .unset, .unset, .unset] [(.ref b3)])) _
    refine XS.lloadN X5.here hx rfl (hb hby at_51) rfl ?_
    show Steps p.tables e below (T5.setTop (mkF m 52 #[.val (.long x1), .second, .val (.long x2), .second, .val (.long x3), .second, .val (.long x4), .second, .val (.long x5), .second, .val (.int x6), .val (.long (if (x6 &&& (1 : Int32)) = (0 : Int32) then x3 else (0 : Int64))), .second, .val (.long (if (x6 &&& (2 : Int32)) = (0 : Int32) then x4 else (0 : Int64))), .second, .val (.ref b3), .unset, .unset, .unset] [(.long x1), (.ref b3)])) _
    refine XS.lloadN X5.here hx rfl (hb hby at_52) rfl ?_
    show Steps p.tables e below (T5.setTop (mkF m 53 #[.val (.long x1), .second, .val (.long x2), .second, .val (.long x3), .second, .val (.long x4), .second, .val (.long x5), .second, .val (.int x6), .val (.long (if (x6 &&& (1 : Int32)) = (0 : Int32) then x3 else (0 : Int64))), .second, .val (.long (if (x6 &&& (2 : Int32)) = (0 : Int32) then x4 else (0 : Int64))), .second, .val (.ref b3), .unset, .unset, .unset] [(.long x2), (.long x1), (.ref b3)])) _
    refine st13.trans ?_
    show Steps p.tables e below (T13.setTop (mkF m 56 #[.val (.long x1), .second, .val (.long x2), .second, .val (.long x3), .second, .val (.long x4), .second, .val (.long x5), .second, .val (.int x6), .val (.long (if (x6 &&& (1 : Int32)) = (0 : Int32) then x3 else (0 : Int64))), .second, .val (.long (if (x6 &&& (2 : Int32)) = (0 : Int32) then x4 else (0 : Int64))), .second, .val (.ref b3), .unset, .unset, .unset] [(.int (F4 x1 x2 (x1) (x2)))])) _
    refine XS.istore X13.here hx rfl (hb hby at_56) rfl (l' := #[.val (.long x1), .second, .val (.long x2), .second, .val (.long x3), .second, .val (.long x4), .second, .val (.long x5), .second, .val (.int x6), .val (.long (if (x6 &&& (1 : Int32)) = (0 : Int32) then x3 else (0 : Int64))), .second, .val (.long (if (x6 &&& (2 : Int32)) = (0 : Int32) then x4 else (0 : Int64))), .second, .val (.ref b3), .val (.int (F4 x1 x2 (x1) (x2))), .unset, .unset]) rfl ?_
    show Steps p.tables e below (T13.setTop (mkF m 58 #[.val (.long x1), .second, .val (.long x2), .second, .val (.long x3), .second, .val (.long x4), .second, .val (.long x5), .second, .val (.int x6), .val (.long (if (x6 &&& (1 : Int32)) = (0 : Int32) then x3 else (0 : Int64))), .second, .val (.long (if (x6 &&& (2 : Int32)) = (0 : Int32) then x4 else (0 : Int64))), .second, .val (.ref b3), .val (.int (F4 x1 x2 (x1) (x2))), .unset, .unset] [])) _
    refine XS.aload X13.here hx rfl (hb hby at_58) rfl rfl ?_
    show Steps p.tables e below (T13.setTop (mkF m 60 #[.val (.long x1), .second, .val (.long x2), .second, .val (.long x3), .second, .val (.long x4), .second, .val (.long x5), .second, .val (.int x6), .val (.long (if (x6 &&& (1 : Int32)) = (0 : Int32) then x3 else (0 : Int64))), .second, .val (.long (if (x6 &&& (2 : Int32)) = (0 : Int32) then x4 else (0 : Int64))), .second, .val (.ref b3), .val (.int (F4 x1 x2 (x1) (x2))), .unset, .unset] [(.ref b3)])) _
    refine XS.lloadN X13.here hx rfl (hb hby at_60) rfl ?_
    show Steps p.tables e below (T13.setTop (mkF m 61 #[.val (.long x1), .second, .val (.long x2), .second, .val (.long x3), .second, .val (.long x4), .second, .val (.long x5), .second, .val (.int x6), .val (.long (if (x6 &&& (1 : Int32)) = (0 : Int32) then x3 else (0 : Int64))), .second, .val (.long (if (x6 &&& (2 : Int32)) = (0 : Int32) then x4 else (0 : Int64))), .second, .val (.ref b3), .val (.int (F4 x1 x2 (x1) (x2))), .unset, .unset] [(.long x1), (.ref b3)])) _
    refine XS.lload X13.here hx rfl (hb hby at_61) rfl ?_
    show Steps p.tables e below (T13.setTop (mkF m 63 #[.val (.long x1), .second, .val (.long x2), .second, .val (.long x3), .second, .val (.long x4), .second, .val (.long x5), .second, .val (.int x6), .val (.long (if (x6 &&& (1 : Int32)) = (0 : Int32) then x3 else (0 : Int64))), .second, .val (.long (if (x6 &&& (2 : Int32)) = (0 : Int32) then x4 else (0 : Int64))), .second, .val (.ref b3), .val (.int (F4 x1 x2 (x1) (x2))), .unset, .unset] [(.long (if (x6 &&& (1 : Int32)) = (0 : Int32) then x3 else (0 : Int64))), (.long x1), (.ref b3)])) _
    refine XS.lxor X13.here hx rfl (hb hby at_63) rfl ?_
    show Steps p.tables e below (T13.setTop (mkF m 64 #[.val (.long x1), .second, .val (.long x2), .second, .val (.long x3), .second, .val (.long x4), .second, .val (.long x5), .second, .val (.int x6), .val (.long (if (x6 &&& (1 : Int32)) = (0 : Int32) then x3 else (0 : Int64))), .second, .val (.long (if (x6 &&& (2 : Int32)) = (0 : Int32) then x4 else (0 : Int64))), .second, .val (.ref b3), .val (.int (F4 x1 x2 (x1) (x2))), .unset, .unset] [(.long (x1 ^^^ (if (x6 &&& (1 : Int32)) = (0 : Int32) then x3 else (0 : Int64)))), (.ref b3)])) _
    refine XS.lloadN X13.here hx rfl (hb hby at_64) rfl ?_
    show Steps p.tables e below (T13.setTop (mkF m 65 #[.val (.long x1), .second, .val (.long x2), .second, .val (.long x3), .second, .val (.long x4), .second, .val (.long x5), .second, .val (.int x6), .val (.long (if (x6 &&& (1 : Int32)) = (0 : Int32) then x3 else (0 : Int64))), .second, .val (.long (if (x6 &&& (2 : Int32)) = (0 : Int32) then x4 else (0 : Int64))), .second, .val (.ref b3), .val (.int (F4 x1 x2 (x1) (x2))), .unset, .unset] [(.long x2), (.long (x1 ^^^ (if (x6 &&& (1 : Int32)) = (0 : Int32) then x3 else (0 : Int64)))), (.ref b3)])) _
    refine XS.lload X13.here hx rfl (hb hby at_65) rfl ?_
    show Steps p.tables e below (T13.setTop (mkF m 67 #[.val (.long x1), .second, .val (.long x2), .second, .val (.long x3), .second, .val (.long x4), .second, .val (.long x5), .second, .val (.int x6), .val (.long (if (x6 &&& (1 : Int32)) = (0 : Int32) then x3 else (0 : Int64))), .second, .val (.long (if (x6 &&& (2 : Int32)) = (0 : Int32) then x4 else (0 : Int64))), .second, .val (.ref b3), .val (.int (F4 x1 x2 (x1) (x2))), .unset, .unset] [(.long (if (x6 &&& (2 : Int32)) = (0 : Int32) then x4 else (0 : Int64))), (.long x2), (.long (x1 ^^^ (if (x6 &&& (1 : Int32)) = (0 : Int32) then x3 else (0 : Int64)))), (.ref b3)])) _
    refine XS.lxor X13.here hx rfl (hb hby at_67) rfl ?_
    show Steps p.tables e below (T13.setTop (mkF m 68 #[.val (.long x1), .second, .val (.long x2), .second, .val (.long x3), .second, .val (.long x4), .second, .val (.long x5), .second, .val (.int x6), .val (.long (if (x6 &&& (1 : Int32)) = (0 : Int32) then x3 else (0 : Int64))), .second, .val (.long (if (x6 &&& (2 : Int32)) = (0 : Int32) then x4 else (0 : Int64))), .second, .val (.ref b3), .val (.int (F4 x1 x2 (x1) (x2))), .unset, .unset] [(.long (x2 ^^^ (if (x6 &&& (2 : Int32)) = (0 : Int32) then x4 else (0 : Int64)))), (.long (x1 ^^^ (if (x6 &&& (1 : Int32)) = (0 : Int32) then x3 else (0 : Int64)))), (.ref b3)])) _
    refine st14.trans ?_
    show Steps p.tables e below (T14.setTop (mkF m 71 #[.val (.long x1), .second, .val (.long x2), .second, .val (.long x3), .second, .val (.long x4), .second, .val (.long x5), .second, .val (.int x6), .val (.long (if (x6 &&& (1 : Int32)) = (0 : Int32) then x3 else (0 : Int64))), .second, .val (.long (if (x6 &&& (2 : Int32)) = (0 : Int32) then x4 else (0 : Int64))), .second, .val (.ref b3), .val (.int (F4 x1 x2 (x1) (x2))), .unset, .unset] [(.int (F4 (x1 ^^^ (if (x6 &&& (1 : Int32)) = (0 : Int32) then x3 else (0 : Int64))) (x2 ^^^ (if (x6 &&& (2 : Int32)) = (0 : Int32) then x4 else (0 : Int64))) (x1) (x2)))])) _
    refine XS.istore X14.here hx rfl (hb hby at_71) rfl (l' := #[.val (.long x1), .second, .val (.long x2), .second, .val (.long x3), .second, .val (.long x4), .second, .val (.long x5), .second, .val (.int x6), .val (.long (if (x6 &&& (1 : Int32)) = (0 : Int32) then x3 else (0 : Int64))), .second, .val (.long (if (x6 &&& (2 : Int32)) = (0 : Int32) then x4 else (0 : Int64))), .second, .val (.ref b3), .val (.int (F4 x1 x2 (x1) (x2))), .val (.int (F4 (x1 ^^^ (if (x6 &&& (1 : Int32)) = (0 : Int32) then x3 else (0 : Int64))) (x2 ^^^ (if (x6 &&& (2 : Int32)) = (0 : Int32) then x4 else (0 : Int64))) (x1) (x2))), .unset]) rfl ?_
    show Steps p.tables e below (T14.setTop (mkF m 73 #[.val (.long x1), .second, .val (.long x2), .second, .val (.long x3), .second, .val (.long x4), .second, .val (.long x5), .second, .val (.int x6), .val (.long (if (x6 &&& (1 : Int32)) = (0 : Int32) then x3 else (0 : Int64))), .second, .val (.long (if (x6 &&& (2 : Int32)) = (0 : Int32) then x4 else (0 : Int64))), .second, .val (.ref b3), .val (.int (F4 x1 x2 (x1) (x2))), .val (.int (F4 (x1 ^^^ (if (x6 &&& (1 : Int32)) = (0 : Int32) then x3 else (0 : Int64))) (x2 ^^^ (if (x6 &&& (2 : Int32)) = (0 : Int32) then x4 else (0 : Int64))) (x1) (x2))), .unset] [])) _
    refine XS.lload X14.here hx rfl (hb hby at_73) rfl ?_
    show Steps p.tables e below (T14.setTop (mkF m 75 #[.val (.long x1), .second, .val (.long x2), .second, .val (.long x3), .second, .val (.long x4), .second, .val (.long x5), .second, .val (.int x6), .val (.long (if (x6 &&& (1 : Int32)) = (0 : Int32) then x3 else (0 : Int64))), .second, .val (.long (if (x6 &&& (2 : Int32)) = (0 : Int32) then x4 else (0 : Int64))), .second, .val (.ref b3), .val (.int (F4 x1 x2 (x1) (x2))), .val (.int (F4 (x1 ^^^ (if (x6 &&& (1 : Int32)) = (0 : Int32) then x3 else (0 : Int64))) (x2 ^^^ (if (x6 &&& (2 : Int32)) = (0 : Int32) then x4 else (0 : Int64))) (x1) (x2))), .unset] [(.long (if (x6 &&& (1 : Int32)) = (0 : Int32) then x3 else (0 : Int64)))])) _
    refine XS.lconst X14.here hx rfl (hb hby at_75) ?_
    show Steps p.tables e below (T14.setTop (mkF m 76 #[.val (.long x1), .second, .val (.long x2), .second, .val (.long x3), .second, .val (.long x4), .second, .val (.long x5), .second, .val (.int x6), .val (.long (if (x6 &&& (1 : Int32)) = (0 : Int32) then x3 else (0 : Int64))), .second, .val (.long (if (x6 &&& (2 : Int32)) = (0 : Int32) then x4 else (0 : Int64))), .second, .val (.ref b3), .val (.int (F4 x1 x2 (x1) (x2))), .val (.int (F4 (x1 ^^^ (if (x6 &&& (1 : Int32)) = (0 : Int32) then x3 else (0 : Int64))) (x2 ^^^ (if (x6 &&& (2 : Int32)) = (0 : Int32) then x4 else (0 : Int64))) (x1) (x2))), .unset] [(.long (0 : Int64)), (.long (if (x6 &&& (1 : Int32)) = (0 : Int32) then x3 else (0 : Int64)))])) _
    refine XS.lcmp X14.here hx rfl (hb hby at_76) rfl ?_
    show Steps p.tables e below (T14.setTop (mkF m 77 #[.val (.long x1), .second, .val (.long x2), .second, .val (.long x3), .second, .val (.long x4), .second, .val (.long x5), .second, .val (.int x6), .val (.long (if (x6 &&& (1 : Int32)) = (0 : Int32) then x3 else (0 : Int64))), .second, .val (.long (if (x6 &&& (2 : Int32)) = (0 : Int32) then x4 else (0 : Int64))), .second, .val (.ref b3), .val (.int (F4 x1 x2 (x1) (x2))), .val (.int (F4 (x1 ^^^ (if (x6 &&& (1 : Int32)) = (0 : Int32) then x3 else (0 : Int64))) (x2 ^^^ (if (x6 &&& (2 : Int32)) = (0 : Int32) then x4 else (0 : Int64))) (x1) (x2))), .unset] [(.int (lcmpW (if (x6 &&& (1 : Int32)) = (0 : Int32) then x3 else (0 : Int64)) (0 : Int64)))])) _
    refine own_dia (u := ((if (if (x6 &&& (2 : Int32)) = (0 : Int32) then x4 else (0 : Int64)) = (0 : Int64) then (1 : Int32) else (0 : Int32)) : Int32)) (v := (0 : Int32)) ((if (x6 &&& (1 : Int32)) = (0 : Int32) then x3 else (0 : Int64)) = (0 : Int64)) (fun z15 => (mkF m 92 #[.val (.long x1), .second, .val (.long x2), .second, .val (.long x3), .second, .val (.long x4), .second, .val (.long x5), .second, .val (.int x6), .val (.long (if (x6 &&& (1 : Int32)) = (0 : Int32) then x3 else (0 : Int64))), .second, .val (.long (if (x6 &&& (2 : Int32)) = (0 : Int32) then x4 else (0 : Int64))), .second, .val (.ref b3), .val (.int (F4 x1 x2 (x1) (x2))), .val (.int (F4 (x1 ^^^ (if (x6 &&& (1 : Int32)) = (0 : Int32) then x3 else (0 : Int64))) (x2 ^^^ (if (x6 &&& (2 : Int32)) = (0 : Int32) then x4 else (0 : Int64))) (x1) (x2))), .unset] [(.int z15)])) (fun hc15 k15 => ?_) (fun hc15 k15 => ?_) ?_
    · refine XS.ifNo X14.here hx rfl (hb hby at_77) rfl (own_leq hc15).2 ?_
      show Steps p.tables e below (T14.setTop (mkF m 80 #[.val (.long x1), .second, .val (.long x2), .second, .val (.long x3), .second, .val (.long x4), .second, .val (.long x5), .second, .val (.int x6), .val (.long (if (x6 &&& (1 : Int32)) = (0 : Int32) then x3 else (0 : Int64))), .second, .val (.long (if (x6 &&& (2 : Int32)) = (0 : Int32) then x4 else (0 : Int64))), .second, .val (.ref b3), .val (.int (F4 x1 x2 (x1) (x2))), .val (.int (F4 (x1 ^^^ (if (x6 &&& (1 : Int32)) = (0 : Int32) then x3 else (0 : Int64))) (x2 ^^^ (if (x6 &&& (2 : Int32)) = (0 : Int32) then x4 else (0 : Int64))) (x1) (x2))), .unset] [])) _
      refine XS.lload X14.here hx rfl (hb hby at_80) rfl ?_
      show Steps p.tables e below (T14.setTop (mkF m 82 #[.val (.long x1), .second, .val (.long x2), .second, .val (.long x3), .second, .val (.long x4), .second, .val (.long x5), .second, .val (.int x6), .val (.long (if (x6 &&& (1 : Int32)) = (0 : Int32) then x3 else (0 : Int64))), .second, .val (.long (if (x6 &&& (2 : Int32)) = (0 : Int32) then x4 else (0 : Int64))), .second, .val (.ref b3), .val (.int (F4 x1 x2 (x1) (x2))), .val (.int (F4 (x1 ^^^ (if (x6 &&& (1 : Int32)) = (0 : Int32) then x3 else (0 : Int64))) (x2 ^^^ (if (x6 &&& (2 : Int32)) = (0 : Int32) then x4 else (0 : Int64))) (x1) (x2))), .unset] [(.long (if (x6 &&& (2 : Int32)) = (0 : Int32) then x4 else (0 : Int64)))])) _
      refine XS.lconst X14.here hx rfl (hb hby at_82) ?_
      show Steps p.tables e below (T14.setTop (mkF m 83 #[.val (.long x1), .second, .val (.long x2), .second, .val (.long x3), .second, .val (.long x4), .second, .val (.long x5), .second, .val (.int x6), .val (.long (if (x6 &&& (1 : Int32)) = (0 : Int32) then x3 else (0 : Int64))), .second, .val (.long (if (x6 &&& (2 : Int32)) = (0 : Int32) then x4 else (0 : Int64))), .second, .val (.ref b3), .val (.int (F4 x1 x2 (x1) (x2))), .val (.int (F4 (x1 ^^^ (if (x6 &&& (1 : Int32)) = (0 : Int32) then x3 else (0 : Int64))) (x2 ^^^ (if (x6 &&& (2 : Int32)) = (0 : Int32) then x4 else (0 : Int64))) (x1) (x2))), .unset] [(.long (0 : Int64)), (.long (if (x6 &&& (2 : Int32)) = (0 : Int32) then x4 else (0 : Int64)))])) _
      refine XS.lcmp X14.here hx rfl (hb hby at_83) rfl ?_
      show Steps p.tables e below (T14.setTop (mkF m 84 #[.val (.long x1), .second, .val (.long x2), .second, .val (.long x3), .second, .val (.long x4), .second, .val (.long x5), .second, .val (.int x6), .val (.long (if (x6 &&& (1 : Int32)) = (0 : Int32) then x3 else (0 : Int64))), .second, .val (.long (if (x6 &&& (2 : Int32)) = (0 : Int32) then x4 else (0 : Int64))), .second, .val (.ref b3), .val (.int (F4 x1 x2 (x1) (x2))), .val (.int (F4 (x1 ^^^ (if (x6 &&& (1 : Int32)) = (0 : Int32) then x3 else (0 : Int64))) (x2 ^^^ (if (x6 &&& (2 : Int32)) = (0 : Int32) then x4 else (0 : Int64))) (x1) (x2))), .unset] [(.int (lcmpW (if (x6 &&& (2 : Int32)) = (0 : Int32) then x4 else (0 : Int64)) (0 : Int64)))])) _
      refine own_dia (u := ((1 : Int32) : Int32)) (v := (0 : Int32)) ((if (x6 &&& (2 : Int32)) = (0 : Int32) then x4 else (0 : Int64)) = (0 : Int64)) (fun z16 => (mkF m 92 #[.val (.long x1), .second, .val (.long x2), .second, .val (.long x3), .second, .val (.long x4), .second, .val (.long x5), .second, .val (.int x6), .val (.long (if (x6 &&& (1 : Int32)) = (0 : Int32) then x3 else (0 : Int64))), .second, .val (.long (if (x6 &&& (2 : Int32)) = (0 : Int32) then x4 else (0 : Int64))), .second, .val (.ref b3), .val (.int (F4 x1 x2 (x1) (x2))), .val (.int (F4 (x1 ^^^ (if (x6 &&& (1 : Int32)) = (0 : Int32) then x3 else (0 : Int64))) (x2 ^^^ (if (x6 &&& (2 : Int32)) = (0 : Int32) then x4 else (0 : Int64))) (x1) (x2))), .unset] [(.int z16)])) (fun hc16 k16 => ?_) (fun hc16 k16 => ?_) ?_
      · refine XS.ifNo X14.here hx rfl (hb hby at_84) rfl (own_leq hc16).2 ?_
        show Steps p.tables e below (T14.setTop (mkF m 87 #[.val (.long x1), .second, .val (.long x2), .second, .val (.long x3), .second, .val (.long x4), .second, .val (.long x5), .second, .val (.int x6), .val (.long (if (x6 &&& (1 : Int32)) = (0 : Int32) then x3 else (0 : Int64))), .second, .val (.long (if (x6 &&& (2 : Int32)) = (0 : Int32) then x4 else (0 : Int64))), .second, .val (.ref b3), .val (.int (F4 x1 x2 (x1) (x2))), .val (.int (F4 (x1 ^^^ (if (x6 &&& (1 : Int32)) = (0 : Int32) then x3 else (0 : Int64))) (x2 ^^^ (if (x6 &&& (2 : Int32)) = (0 : Int32) then x4 else (0 : Int64))) (x1) (x2))), .unset] [])) _
        refine XS.iconst X14.here hx rfl (hb hby at_87) ?_
        show Steps p.tables e below (T14.setTop (mkF m 88 #[.val (.long x1), .second, .val (.long x2), .second, .val (.long x3), .second, .val (.long x4), .second, .val (.long x5), .second, .val (.int x6), .val (.long (if (x6 &&& (1 : Int32)) = (0 : Int32) then x3 else (0 : Int64))), .second, .val (.long (if (x6 &&& (2 : Int32)) = (0 : Int32) then x4 else (0 : Int64))), .second, .val (.ref b3), .val (.int (F4 x1 x2 (x1) (x2))), .val (.int (F4 (x1 ^^^ (if (x6 &&& (1 : Int32)) = (0 : Int32) then x3 else (0 : Int64))) (x2 ^^^ (if (x6 &&& (2 : Int32)) = (0 : Int32) then x4 else (0 : Int64))) (x1) (x2))), .unset] [(.int (1 : Int32))])) _
        refine XS.goto X14.here hx rfl (pc0 := 88) (pc' := 92) rfl (hb hby at_88) (by decide) (by decide) ?_
        exact k16
      · refine XS.ifYes X14.here hx rfl (pc0 := 84) (pc' := 91) rfl (hb hby at_84) rfl (own_lne hc16).2 (by decide) (by decide) ?_
        show Steps p.tables e below (T14.setTop (mkF m 91 #[.val (.long x1), .second, .val (.long x2), .second, .val (.long x3), .second, .val (.long x4), .second, .val (.long x5), .second, .val (.int x6), .val (.long (if (x6 &&& (1 : Int32)) = (0 : Int32) then x3 else (0 : Int64))), .second, .val (.long (if (x6 &&& (2 : Int32)) = (0 : Int32) then x4 else (0 : Int64))), .second, .val (.ref b3), .val (.int (F4 x1 x2 (x1) (x2))), .val (.int (F4 (x1 ^^^ (if (x6 &&& (1 : Int32)) = (0 : Int32) then x3 else (0 : Int64))) (x2 ^^^ (if (x6 &&& (2 : Int32)) = (0 : Int32) then x4 else (0 : Int64))) (x1) (x2))), .unset] [])) _
        refine XS.iconst X14.here hx rfl (hb hby at_91) ?_
        exact k16
      -- meets at 92
      exact k15
    · refine XS.ifYes X14.here hx rfl (pc0 := 77) (pc' := 91) rfl (hb hby at_77) rfl (own_lne hc15).2 (by decide) (by decide) ?_
      show Steps p.tables e below (T14.setTop (mkF m 91 #[.val (.long x1), .second, .val (.long x2), .second, .val (.long x3), .second, .val (.long x4), .second, .val (.long x5), .second, .val (.int x6), .val (.long (if (x6 &&& (1 : Int32)) = (0 : Int32) then x3 else (0 : Int64))), .second, .val (.long (if (x6 &&& (2 : Int32)) = (0 : Int32) then x4 else (0 : Int64))), .second, .val (.ref b3), .val (.int (F4 x1 x2 (x1) (x2))), .val (.int (F4 (x1 ^^^ (if (x6 &&& (1 : Int32)) = (0 : Int32) then x3 else (0 : Int64))) (x2 ^^^ (if (x6 &&& (2 : Int32)) = (0 : Int32) then x4 else (0 : Int64))) (x1) (x2))), .unset] [])) _
      refine XS.iconst X14.here hx rfl (hb hby at_91) ?_
      exact k15
    -- meets at 92
    show Steps p.tables e below (T14.setTop (mkF m 92 #[.val (.long x1), .second, .val (.long x2), .second, .val (.long x3), .second, .val (.long x4), .second, .val (.long x5), .second, .val (.int x6), .val (.long (if (x6 &&& (1 : Int32)) = (0 : Int32) then x3 else (0 : Int64))), .second, .val (.long (if (x6 &&& (2 : Int32)) = (0 : Int32) then x4 else (0 : Int64))), .second, .val (.ref b3), .val (.int (F4 x1 x2 (x1) (x2))), .val (.int (F4 (x1 ^^^ (if (x6 &&& (1 : Int32)) = (0 : Int32) then x3 else (0 : Int64))) (x2 ^^^ (if (x6 &&& (2 : Int32)) = (0 : Int32) then x4 else (0 : Int64))) (x1) (x2))), .unset] [(.int (if (if (x6 &&& (1 : Int32)) = (0 : Int32) then x3 else (0 : Int64)) = (0 : Int64) then (if (if (x6 &&& (2 : Int32)) = (0 : Int32) then x4 else (0 : Int64)) = (0 : Int64) then (1 : Int32) else (0 : Int32)) else (0 : Int32)))])) _
    refine XS.istore X14.here hx rfl (hb hby at_92) rfl (l' := #[.val (.long x1), .second, .val (.long x2), .second, .val (.long x3), .second, .val (.long x4), .second, .val (.long x5), .second, .val (.int x6), .val (.long (if (x6 &&& (1 : Int32)) = (0 : Int32) then x3 else (0 : Int64))), .second, .val (.long (if (x6 &&& (2 : Int32)) = (0 : Int32) then x4 else (0 : Int64))), .second, .val (.ref b3), .val (.int (F4 x1 x2 (x1) (x2))), .val (.int (F4 (x1 ^^^ (if (x6 &&& (1 : Int32)) = (0 : Int32) then x3 else (0 : Int64))) (x2 ^^^ (if (x6 &&& (2 : Int32)) = (0 : Int32) then x4 else (0 : Int64))) (x1) (x2))), .val (.int (if (if (x6 &&& (1 : Int32)) = (0 : Int32) then x3 else (0 : Int64)) = (0 : Int64) then (if (if (x6 &&& (2 : Int32)) = (0 : Int32) then x4 else (0 : Int64)) = (0 : Int64) then (1 : Int32) else (0 : Int32)) else (0 : Int32)))]) rfl ?_
    show Steps p.tables e below (T14.setTop (mkF m 94 #[.val (.long x1), .second, .val (.long x2), .second, .val (.long x3), .second, .val (.long x4), .second, .val (.long x5), .second, .val (.int x6), .val (.long (if (x6 &&& (1 : Int32)) = (0 : Int32) then x3 else (0 : Int64))), .second, .val (.long (if (x6 &&& (2 : Int32)) = (0 : Int32) then x4 else (0 : Int64))), .second, .val (.ref b3), .val (.int (F4 x1 x2 (x1) (x2))), .val (.int (F4 (x1 ^^^ (if (x6 &&& (1 : Int32)) = (0 : Int32) then x3 else (0 : Int64))) (x2 ^^^ (if (x6 &&& (2 : Int32)) = (0 : Int32) then x4 else (0 : Int64))) (x1) (x2))), .val (.int (if (if (x6 &&& (1 : Int32)) = (0 : Int32) then x3 else (0 : Int64)) = (0 : Int64) then (if (if (x6 &&& (2 : Int32)) = (0 : Int32) then x4 else (0 : Int64)) = (0 : Int64) then (1 : Int32) else (0 : Int32)) else (0 : Int32)))] [])) _
    refine XS.iload X14.here hx rfl (hb hby at_94) rfl ?_
    show Steps p.tables e below (T14.setTop (mkF m 96 #[.val (.long x1), .second, .val (.long x2), .second, .val (.long x3), .second, .val (.long x4), .second, .val (.long x5), .second, .val (.int x6), .val (.long (if (x6 &&& (1 : Int32)) = (0 : Int32) then x3 else (0 : Int64))), .second, .val (.long (if (x6 &&& (2 : Int32)) = (0 : Int32) then x4 else (0 : Int64))), .second, .val (.ref b3), .val (.int (F4 x1 x2 (x1) (x2))), .val (.int (F4 (x1 ^^^ (if (x6 &&& (1 : Int32)) = (0 : Int32) then x3 else (0 : Int64))) (x2 ^^^ (if (x6 &&& (2 : Int32)) = (0 : Int32) then x4 else (0 : Int64))) (x1) (x2))), .val (.int (if (if (x6 &&& (1 : Int32)) = (0 : Int32) then x3 else (0 : Int64)) = (0 : Int64) then (if (if (x6 &&& (2 : Int32)) = (0 : Int32) then x4 else (0 : Int64)) = (0 : Int64) then (1 : Int32) else (0 : Int32)) else (0 : Int32)))] [(.int (F4 x1 x2 (x1) (x2)))])) _
    refine own_dia (u := ((0 : Int32) : Int32)) (v := (if (F4 (x1 ^^^ (if (x6 &&& (1 : Int32)) = (0 : Int32) then x3 else (0 : Int64))) (x2 ^^^ (if (x6 &&& (2 : Int32)) = (0 : Int32) then x4 else (0 : Int64))) (x1) (x2)) = (if (if (x6 &&& (1 : Int32)) = (0 : Int32) then x3 else (0 : Int64)) = (0 : Int64) then (if (if (x6 &&& (2 : Int32)) = (0 : Int32) then x4 else (0 : Int64)) = (0 : Int64) then (1 : Int32) else (0 : Int32)) else (0 : Int32)) then (1 : Int32) else (0 : Int32))) ((F4 x1 x2 (x1) (x2)) = (0 : Int32)) (fun z17 => (mkF m 111 #[.val (.long x1), .second, .val (.long x2), .second, .val (.long x3), .second, .val (.long x4), .second, .val (.long x5), .second, .val (.int x6), .val (.long (if (x6 &&& (1 : Int32)) = (0 : Int32) then x3 else (0 : Int64))), .second, .val (.long (if (x6 &&& (2 : Int32)) = (0 : Int32) then x4 else (0 : Int64))), .second, .val (.ref b3), .val (.int (F4 x1 x2 (x1) (x2))), .val (.int (F4 (x1 ^^^ (if (x6 &&& (1 : Int32)) = (0 : Int32) then x3 else (0 : Int64))) (x2 ^^^ (if (x6 &&& (2 : Int32)) = (0 : Int32) then x4 else (0 : Int64))) (x1) (x2))), .val (.int (if (if (x6 &&& (1 : Int32)) = (0 : Int32) then x3 else (0 : Int64)) = (0 : Int64) then (if (if (x6 &&& (2 : Int32)) = (0 : Int32) then x4 else (0 : Int64)) = (0 : Int64) then (1 : Int32) else (0 : Int32)) else (0 : Int32)))] [(.int z17)])) (fun hc17 k17 => ?_) (fun hc17 k17 => ?_) ?_
    · refine XS.ifYes X14.here hx rfl (pc0 := 96) (pc' := 110) rfl (hb hby at_96) rfl ((if0 _ _).trans (teq hc17).1) (by decide) (by decide) ?_
      show Steps p.tables e below (T14.setTop (mkF m 110 #[.val (.long x1), .second, .val (.long x2), .second, .val (.long x3), .second, .val (.long x4), .second, .val (.long x5), .second, .val (.int x6), .val (.long (if (x6 &&& (1 : Int32)) = (0 : Int32) then x3 else (0 : Int64))), .second, .val (.long (if (x6 &&& (2 : Int32)) = (0 : Int32) then x4 else (0 : Int64))), .second, .val (.ref b3), .val (.int (F4 x1 x2 (x1) (x2))), .val (.int (F4 (x1 ^^^ (if (x6 &&& (1 : Int32)) = (0 : Int32) then x3 else (0 : Int64))) (x2 ^^^ (if (x6 &&& (2 : Int32)) = (0 : Int32) then x4 else (0 : Int64))) (x1) (x2))), .val (.int (if (if (x6 &&& (1 : Int32)) = (0 : Int32) then x3 else (0 : Int64)) = (0 : Int64) then (if (if (x6 &&& (2 : Int32)) = (0 : Int32) then x4 else (0 : Int64)) = (0 : Int64) then (1 : Int32) else (0 : Int32)) else (0 : Int32)))] [])) _
      refine XS.iconst X14.here hx rfl (hb hby at_110) ?_
      exact k17
    · refine XS.ifNo X14.here hx rfl (hb hby at_96) rfl ((if0 _ _).trans (feq hc17).1) ?_
      show Steps p.tables e below (T14.setTop (mkF m 99 #[.val (.long x1), .second, .val (.long x2), .second, .val (.long x3), .second, .val (.long x4), .second, .val (.long x5), .second, .val (.int x6), .val (.long (if (x6 &&& (1 : Int32)) = (0 : Int32) then x3 else (0 : Int64))), .second, .val (.long (if (x6 &&& (2 : Int32)) = (0 : Int32) then x4 else (0 : Int64))), .second, .val (.ref b3), .val (.int (F4 x1 x2 (x1) (x2))), .val (.int (F4 (x1 ^^^ (if (x6 &&& (1 : Int32)) = (0 : Int32) then x3 else (0 : Int64))) (x2 ^^^ (if (x6 &&& (2 : Int32)) = (0 : Int32) then x4 else (0 : Int64))) (x1) (x2))), .val (.int (if (if (x6 &&& (1 : Int32)) = (0 : Int32) then x3 else (0 : Int64)) = (0 : Int64) then (if (if (x6 &&& (2 : Int32)) = (0 : Int32) then x4 else (0 : Int64)) = (0 : Int64) then (1 : Int32) else (0 : Int32)) else (0 : Int32)))] [])) _
      refine XS.iload X14.here hx rfl (hb hby at_99) rfl ?_
      show Steps p.tables e below (T14.setTop (mkF m 101 #[.val (.long x1), .second, .val (.long x2), .second, .val (.long x3), .second, .val (.long x4), .second, .val (.long x5), .second, .val (.int x6), .val (.long (if (x6 &&& (1 : Int32)) = (0 : Int32) then x3 else (0 : Int64))), .second, .val (.long (if (x6 &&& (2 : Int32)) = (0 : Int32) then x4 else (0 : Int64))), .second, .val (.ref b3), .val (.int (F4 x1 x2 (x1) (x2))), .val (.int (F4 (x1 ^^^ (if (x6 &&& (1 : Int32)) = (0 : Int32) then x3 else (0 : Int64))) (x2 ^^^ (if (x6 &&& (2 : Int32)) = (0 : Int32) then x4 else (0 : Int64))) (x1) (x2))), .val (.int (if (if (x6 &&& (1 : Int32)) = (0 : Int32) then x3 else (0 : Int64)) = (0 : Int64) then (if (if (x6 &&& (2 : Int32)) = (0 : Int32) then x4 else (0 : Int64)) = (0 : Int64) then (1 : Int32) else (0 : Int32)) else (0 : Int32)))] [(.int (F4 (x1 ^^^ (if (x6 &&& (1 : Int32)) = (0 : Int32) then x3 else (0 : Int64))) (x2 ^^^ (if (x6 &&& (2 : Int32)) = (0 : Int32) then x4 else (0 : Int64))) (x1) (x2)))])) _
      refine XS.iload X14.here hx rfl (hb hby at_101) rfl ?_
      show Steps p.tables e below (T14.setTop (mkF m 103 #[.val (.long x1), .second, .val (.long x2), .second, .val (.long x3), .second, .val (.long x4), .second, .val (.long x5), .second, .val (.int x6), .val (.long (if (x6 &&& (1 : Int32)) = (0 : Int32) then x3 else (0 : Int64))), .second, .val (.long (if (x6 &&& (2 : Int32)) = (0 : Int32) then x4 else (0 : Int64))), .second, .val (.ref b3), .val (.int (F4 x1 x2 (x1) (x2))), .val (.int (F4 (x1 ^^^ (if (x6 &&& (1 : Int32)) = (0 : Int32) then x3 else (0 : Int64))) (x2 ^^^ (if (x6 &&& (2 : Int32)) = (0 : Int32) then x4 else (0 : Int64))) (x1) (x2))), .val (.int (if (if (x6 &&& (1 : Int32)) = (0 : Int32) then x3 else (0 : Int64)) = (0 : Int64) then (if (if (x6 &&& (2 : Int32)) = (0 : Int32) then x4 else (0 : Int64)) = (0 : Int64) then (1 : Int32) else (0 : Int32)) else (0 : Int32)))] [(.int (if (if (x6 &&& (1 : Int32)) = (0 : Int32) then x3 else (0 : Int64)) = (0 : Int64) then (if (if (x6 &&& (2 : Int32)) = (0 : Int32) then x4 else (0 : Int64)) = (0 : Int64) then (1 : Int32) else (0 : Int32)) else (0 : Int32))), (.int (F4 (x1 ^^^ (if (x6 &&& (1 : Int32)) = (0 : Int32) then x3 else (0 : Int64))) (x2 ^^^ (if (x6 &&& (2 : Int32)) = (0 : Int32) then x4 else (0 : Int64))) (x1) (x2)))])) _
      refine own_dia (u := ((1 : Int32) : Int32)) (v := (0 : Int32)) ((F4 (x1 ^^^ (if (x6 &&& (1 : Int32)) = (0 : Int32) then x3 else (0 : Int64))) (x2 ^^^ (if (x6 &&& (2 : Int32)) = (0 : Int32) then x4 else (0 : Int64))) (x1) (x2)) = (if (if (x6 &&& (1 : Int32)) = (0 : Int32) then x3 else (0 : Int64)) = (0 : Int64) then (if (if (x6 &&& (2 : Int32)) = (0 : Int32) then x4 else (0 : Int64)) = (0 : Int64) then (1 : Int32) else (0 : Int32)) else (0 : Int32))) (fun z18 => (mkF m 111 #[.val (.long x1), .second, .val (.long x2), .second, .val (.long x3), .second, .val (.long x4), .second, .val (.long x5), .second, .val (.int x6), .val (.long (if (x6 &&& (1 : Int32)) = (0 : Int32) then x3 else (0 : Int64))), .second, .val (.long (if (x6 &&& (2 : Int32)) = (0 : Int32) then x4 else (0 : Int64))), .second, .val (.ref b3), .val (.int (F4 x1 x2 (x1) (x2))), .val (.int (F4 (x1 ^^^ (if (x6 &&& (1 : Int32)) = (0 : Int32) then x3 else (0 : Int64))) (x2 ^^^ (if (x6 &&& (2 : Int32)) = (0 : Int32) then x4 else (0 : Int64))) (x1) (x2))), .val (.int (if (if (x6 &&& (1 : Int32)) = (0 : Int32) then x3 else (0 : Int64)) = (0 : Int64) then (if (if (x6 &&& (2 : Int32)) = (0 : Int32) then x4 else (0 : Int64)) = (0 : Int64) then (1 : Int32) else (0 : Int32)) else (0 : Int32)))] [(.int z18)])) (fun hc18 k18 => ?_) (fun hc18 k18 => ?_) ?_
      · refine XS.icmpNo X14.here hx rfl (hb hby at_103) rfl (teq hc18).2 ?_
        show Steps p.tables e below (T14.setTop (mkF m 106 #[.val (.long x1), .second, .val (.long x2), .second, .val (.long x3), .second, .val (.long x4), .second, .val (.long x5), .second, .val (.int x6), .val (.long (if (x6 &&& (1 : Int32)) = (0 : Int32) then x3 else (0 : Int64))), .second, .val (.long (if (x6 &&& (2 : Int32)) = (0 : Int32) then x4 else (0 : Int64))), .second, .val (.ref b3), .val (.int (F4 x1 x2 (x1) (x2))), .val (.int (F4 (x1 ^^^ (if (x6 &&& (1 : Int32)) = (0 : Int32) then x3 else (0 : Int64))) (x2 ^^^ (if (x6 &&& (2 : Int32)) = (0 : Int32) then x4 else (0 : Int64))) (x1) (x2))), .val (.int (if (if (x6 &&& (1 : Int32)) = (0 : Int32) then x3 else (0 : Int64)) = (0 : Int64) then (if (if (x6 &&& (2 : Int32)) = (0 : Int32) then x4 else (0 : Int64)) = (0 : Int64) then (1 : Int32) else (0 : Int32)) else (0 : Int32)))] [])) _
        refine XS.iconst X14.here hx rfl (hb hby at_106) ?_
        show Steps p.tables e below (T14.setTop (mkF m 107 #[.val (.long x1), .second, .val (.long x2), .second, .val (.long x3), .second, .val (.long x4), .second, .val (.long x5), .second, .val (.int x6), .val (.long (if (x6 &&& (1 : Int32)) = (0 : Int32) then x3 else (0 : Int64))), .second, .val (.long (if (x6 &&& (2 : Int32)) = (0 : Int32) then x4 else (0 : Int64))), .second, .val (.ref b3), .val (.int (F4 x1 x2 (x1) (x2))), .val (.int (F4 (x1 ^^^ (if (x6 &&& (1 : Int32)) = (0 : Int32) then x3 else (0 : Int64))) (x2 ^^^ (if (x6 &&& (2 : Int32)) = (0 : Int32) then x4 else (0 : Int64))) (x1) (x2))), .val (.int (if (if (x6 &&& (1 : Int32)) = (0 : Int32) then x3 else (0 : Int64)) = (0 : Int64) then (if (if (x6 &&& (2 : Int32)) = (0 : Int32) then x4 else (0 : Int64)) = (0 : Int64) then (1 : Int32) else (0 : Int32)) else (0 : Int32)))] [(.int (1 : Int32))])) _
        refine XS.goto X14.here hx rfl (pc0 := 107) (pc' := 111) rfl (hb hby at_107) (by decide) (by decide) ?_
        exact k18
      · refine XS.icmpYes X14.here hx rfl (pc0 := 103) (pc' := 110) rfl (hb hby at_103) rfl (feq hc18).2 (by decide) (by decide) ?_
        show Steps p.tables e below (T14.setTop (mkF m 110 #[.val (.long x1), .second, .val (.long x2), .second, .val (.long x3), .second, .val (.long x4), .second, .val (.long x5), .second, .val (.int x6), .val (.long (if (x6 &&& (1 : Int32)) = (0 : Int32) then x3 else (0 : Int64))), .second, .val (.long (if (x6 &&& (2 : Int32)) = (0 : Int32) then x4 else (0 : Int64))), .second, .val (.ref b3), .val (.int (F4 x1 x2 (x1) (x2))), .val (.int (F4 (x1 ^^^ (if (x6 &&& (1 : Int32)) = (0 : Int32) then x3 else (0 : Int64))) (x2 ^^^ (if (x6 &&& (2 : Int32)) = (0 : Int32) then x4 else (0 : Int64))) (x1) (x2))), .val (.int (if (if (x6 &&& (1 : Int32)) = (0 : Int32) then x3 else (0 : Int64)) = (0 : Int64) then (if (if (x6 &&& (2 : Int32)) = (0 : Int32) then x4 else (0 : Int64)) = (0 : Int64) then (1 : Int32) else (0 : Int32)) else (0 : Int32)))] [])) _
        refine XS.iconst X14.here hx rfl (hb hby at_110) ?_
        exact k18
      -- meets at 111
      exact k17
    -- meets at 111
    show Steps p.tables e below (T14.setTop (mkF m 111 #[.val (.long x1), .second, .val (.long x2), .second, .val (.long x3), .second, .val (.long x4), .second, .val (.long x5), .second, .val (.int x6), .val (.long (if (x6 &&& (1 : Int32)) = (0 : Int32) then x3 else (0 : Int64))), .second, .val (.long (if (x6 &&& (2 : Int32)) = (0 : Int32) then x4 else (0 : Int64))), .second, .val (.ref b3), .val (.int (F4 x1 x2 (x1) (x2))), .val (.int (F4 (x1 ^^^ (if (x6 &&& (1 : Int32)) = (0 : Int32) then x3 else (0 : Int64))) (x2 ^^^ (if (x6 &&& (2 : Int32)) = (0 : Int32) then x4 else (0 : Int64))) (x1) (x2))), .val (.int (if (if (x6 &&& (1 : Int32)) = (0 : Int32) then x3 else (0 : Int64)) = (0 : Int64) then (if (if (x6 &&& (2 : Int32)) = (0 : Int32) then x4 else (0 : Int64)) = (0 : Int64) then (1 : Int32) else (0 : Int32)) else (0 : Int32)))] [(.int (if (F4 x1 x2 (x1) (x2)) = (0 : Int32) then (0 : Int32) else (if (F4 (x1 ^^^ (if (x6 &&& (1 : Int32)) = (0 : Int32) then x3 else (0 : Int64))) (x2 ^^^ (if (x6 &&& (2 : Int32)) = (0 : Int32) then x4 else (0 : Int64))) (x1) (x2)) = (if (if (x6 &&& (1 : Int32)) = (0 : Int32) then x3 else (0 : Int64)) = (0 : Int64) then (if (if (x6 &&& (2 : Int32)) = (0 : Int32) then x4 else (0 : Int64)) = (0 : Int64) then (1 : Int32) else (0 : Int32)) else (0 : Int32)) then (1 : Int32) else (0 : Int32))))])) _
    exact retN X14 hx (t := .boolean) Bd.returns (by simp) (hb hby at_111) (by rw [own_nb (own_b01 (Or.inl rfl) (own_b01 (Or.inr rfl) (Or.inl rfl)))]; exact hr)
  · show Q0 Z x1 x2 x3 x4 x5 x6 h0 n0 _ T14.heap _
    rw [e14]
    exact ⟨rfl, N14⟩

theorem own_xor (a d : Int64) : (a = a ^^^ d) ↔ d = 0 := by
  constructor
  · intro h
    have h2 : a ^^^ a = a ^^^ (a ^^^ d) := by rw [← h]
    rw [Int64.xor_self, ← Int64.xor_assoc, Int64.xor_self, Int64.zero_xor] at h2
    exact h2.symm
  · intro h; rw [h, Int64.xor_zero]
theorem own_core (a b c d : Int64) : (if F4 a b a b = (0 : Int32) then (0 : Int32) else (if F4 (a ^^^ c) (b ^^^ d) a b = (if c = (0 : Int64) then (if d = (0 : Int64) then (1 : Int32) else (0 : Int32)) else (0 : Int32)) then (1 : Int32) else (0 : Int32))) = 1 := by
  unfold F4
  simp only [own_xor, if_true]
  simp
theorem own_plain (x1 x2 x3 x4 x5 : Int64) (x6 : Int32) : F0 x1 x2 x3 x4 x5 x6 = 1 := own_core _ _ _ _

set_option maxRecDepth 65536 in
set_option maxHeartbeats 40000000 in
theorem comes_1 {Post : Tables → Env → Array Value → State → Outcome → State → Prop} (hpost : ∀ tb e args s v u, (limb_1_1.after args s (.returned v) u = true ∧ limb_1_2.after args s (.returned v) u = true ∧ True) → FrameEnd s (.returned v) u (Jvm.fieldLocs frame_1_writes args s ++ Jvm.arrayLocs frame_1_arrays args s ++ Jvm.staticLocs frame_1_statics s) 16 128 → Post tb e args s (.returned v) u) :
    ArmFor flags0 classFile x code maxLocals ret World_1 tables_1 room_1 Calls_1 rest_1 Pre_1 Post := by
  intro l hfl _ _ p e ha hc hk s m args below hf hA hF happ hP
  obtain ⟨hcalls, hrest, hpre⟩ := hP
  obtain ⟨-, -, -, hnamed, -, -, -, hat⟩ := (Spec.applies_iff hf).mp happ
  obtain ⟨hg, hn⟩ := and_e (Cond.before_iff.mp (show (Jvm.Cond.and given_1 narrow_1).before args s = true from hpre))
  obtain ⟨hcount, t0⟩ := and_e hg
  obtain ⟨k0, t1⟩ := and_e t0
  obtain ⟨k1, t2⟩ := and_e t1
  obtain ⟨k2, t3⟩ := and_e t2
  obtain ⟨k3, t4⟩ := and_e t3
  obtain ⟨k4, t5⟩ := and_e t4
  have k5 := t5
  obtain ⟨w0, w1, w2, w3, w4, w5, rfl⟩ : ∃ w0 w1 w2 w3 w4 w5 : Value, args = #[w0, w1, w2, w3, w4, w5] := by
    have hs : args.size = 6 := by simpa [Cond.value, given_1] using hcount
    obtain ⟨L⟩ := args
    match L, hs with
    | [w0, w1, w2, w3, w4, w5], _ => exact ⟨w0, w1, w2, w3, w4, w5, rfl⟩
  have hw := fun d (hd : d ∈ tables_1) => atoms_spec (ws := Jvm.Cond.code x code maxLocals ret :: tables_1) hat d (List.mem_cons_of_mem _ hd)
  obtain ⟨i0, ei0⟩ := isL_v k0
  obtain rfl : w0 = (.long i0) := Option.some.inj ei0
  obtain ⟨i1, ei1⟩ := isL_v k1
  obtain rfl : w1 = (.long i1) := Option.some.inj ei1
  obtain ⟨i2, ei2⟩ := isL_v k2
  obtain rfl : w2 = (.long i2) := Option.some.inj ei2
  obtain ⟨i3, ei3⟩ := isL_v k3
  obtain rfl : w3 = (.long i3) := Option.some.inj ei3
  obtain ⟨i4, ei4⟩ := isL_v k4
  obtain rfl : w4 = (.long i4) := Option.some.inj ei4
  obtain ⟨i5, ei5⟩ := is_v k5
  obtain rfl : w5 = (.int i5) := Option.some.inj ei5
  obtain ⟨n, o, h1, h2, h3, _, L, rfl, ⟨hv, N⟩, hq⟩ := rm0 l s _ hw tables_1 i0 i1 i2 i3 i4 i5 s.heap s.heap.size (Nat.le_refl _) p e ha hc hk s m _ below hf ((Spec.applies_iff_loose hf).mp happ).1 ⟨rfl, State.Warmed39.refl s, rfl⟩ trivial
  rw [own_plain i0 i1 i2 i3 i4 i5] at hv
  subst hv
  refine ⟨n, _, h1, h2, h3, hpost _ _ _ _ _ _ ⟨Cond.after_iff.mpr rfl, Cond.after_iff.mpr (eq_i res_at (Term.int_eval (1)) rfl), trivial⟩ ⟨hq.1, hq.2.1, (hq.2.2.sift fun y hy => Or.inr (N y hy)).mono (by decide) (by decide)⟩⟩
theorem main_1_1 : Claimed_1_1 := comes_1 fun _ _ _ _ _ _ h hF => ⟨h.1, hF⟩
theorem main_1_2 : Claimed_1_2 := comes_1 fun _ _ _ _ _ _ h hF => ⟨h.2.1, hF⟩
end Jvm.Pilot.@@N@@
namespace Jvm.Pilot.@@N@@
open Jvm Jvm.ClassFile Sem Op Lib Jvm.Free Jvm.Stand Jvm.Pilot.@@N@@.Jvm.D
/-! MADE BY PROGRAM (witnessworld.py) out of the Statement's table words and the real class files: 10 classes; the members and pool entries that the words name. The judged class is class 1, her method 1. -/
namespace start1
open Jvm.ClassFile
def u (s : String) : CpInfo := .utf8 (stringToUtf16 s)
/-- a pool by its gaps: so many unusable entries, then the entry; so many at the end -/
def gap : Nat → List CpInfo → List CpInfo
  | 0, r => r
  | n + 1, r => .unusable :: gap n r
def poolList (es : List (Nat × CpInfo)) (last : Nat) : List CpInfo := es.foldr (fun e r => gap e.1 (e.2 :: r)) (gap last [])
def pool (es : List (Nat × CpInfo)) (last : Nat) : Array CpInfo := ⟨poolList es last⟩
def fileOf (pool : Array CpInfo) (this : Nat) (attrs : Array Attribute := #[]) (ms : Array MethodInfo := #[]) (fl : Nat := 33) (sup : Nat := 0) (ifs : Array Nat := #[]) (fds : Array FieldInfo := #[]) : ClassFile where
  minorVersion := 0
  majorVersion := 65
  constantPool := pool
  accessFlags := fl
  thisClass := this
  superClass := sup
  interfaces := ifs
  fields := fds
  methods := ms
  attributes := attrs
def plain (name : String) (sup : Option ClassId) : Class where
  name := name
  kind := .ordinary
  loader := none
  accessFlags := 33
  super := sup
  interfaces := #[]
  cf := none
  fields := #[]
  methods := #[]
  instanceTypes := #[]
  staticTypes := #[]
  resolved := #[]
  callSites := []
  init := .initialized
  statics := none
  mirror := none

def pool0 : Array CpInfo := pool [(5, u "<init>"), (0, u "()V"), (1, .class_ 10), (1, u "java/lang/Object")] 113

def k0c0 : Code := { maxStack := 0, maxLocals := 1, code := object_method_1_code, exceptionTable := #[], attributes := #[] }
def k0m0 : Method := { name := "<init>", desc := "()V", sig := { parameters := [], returnType := none }, accessFlags := 1, code := some k0c0 }
/-- java/lang/Object -/
def k0 : Class := { plain "java/lang/Object" none with
  accessFlags := 33
  interfaces := #[]
  cf := some (fileOf pool0 8 #[] #[{ accessFlags := 1, nameIndex := 5, descriptorIndex := 6, attributes := #[] }] 33 0 #[] #[])
  fields := #[]
  methods := #[k0m0]
  instanceTypes := #[]
  staticTypes := #[]
  resolved := Array.replicate 124 none
  statics := none }

def pool1 : Array CpInfo := pool [(2, .class_ 4), (1, u "java/lang/Object"), (0, u "<init>"), (0, u "()V"), (0, .class_ 8), (0, u "com/example/inchworm/inchworm/PrefixBuckets$Bucket"), (0, .methodref 7 10), (0, .nameAndType 5 11), (0, u "(JJIJJ)V"), (0, .methodref 7 13), (0, .nameAndType 14 15), (0, u "isOf"), (0, u "(JJ)Z"), (0, .class_ 17), (0, u "com/example/inchworm/inchworm/BucketIsOfPinLaw"), (2, u "law"), (0, u "(JJJJJI)Z")] 7

def k1m0 : Method := { name := "<init>", desc := "()V", sig := { parameters := [], returnType := none }, accessFlags := 1, code := none }
def k1c1 : Code := { maxStack := 11, maxLocals := 19, code := code, exceptionTable := #[], attributes := #[] }
def k1m1 : Method := { name := "law", desc := "(JJJJJI)Z", sig := { parameters := [.long, .long, .long, .long, .long, .int], returnType := some .boolean }, accessFlags := 9, code := some k1c1 }
/-- com/example/inchworm/inchworm/BucketIsOfPinLaw -/
def k1 : Class := { plain "com/example/inchworm/inchworm/BucketIsOfPinLaw" (some 0) with
  accessFlags := 49
  interfaces := #[]
  cf := some (fileOf pool1 16 #[] #[{ accessFlags := 1, nameIndex := 5, descriptorIndex := 6, attributes := #[] }, { accessFlags := 9, nameIndex := 20, descriptorIndex := 21, attributes := #[] }] 49 2 #[] #[])
  fields := #[]
  methods := #[k1m0, k1m1]
  instanceTypes := #[]
  staticTypes := #[]
  resolved := Array.replicate 29 none
  statics := none }

def pool2 : Array CpInfo := pool [(1, .methodref 2 3), (0, .class_ 4), (0, .nameAndType 5 6), (0, u "java/lang/Object"), (0, u "<init>"), (0, u "()V"), (0, .class_ 8), (0, u "java/lang/Record")] 13

def k2c0 : Code := { maxStack := 1, maxLocals := 1, code := jdk_30_method_1_code, exceptionTable := #[], attributes := #[] }
def k2m0 : Method := { name := "<init>", desc := "()V", sig := { parameters := [], returnType := none }, accessFlags := 4, code := some k2c0 }
/-- java/lang/Record -/
def k2 : Class := { plain "java/lang/Record" (some 0) with
  accessFlags := 1057
  interfaces := #[]
  cf := some (fileOf pool2 7 #[] #[{ accessFlags := 4, nameIndex := 5, descriptorIndex := 6, attributes := #[] }] 1057 2 #[] #[])
  fields := #[]
  methods := #[k2m0]
  instanceTypes := #[]
  staticTypes := #[]
  resolved := Array.replicate 22 none
  statics := none }

def pool3 : Array CpInfo := pool [(1, .methodref 2 3), (0, .class_ 4), (0, .nameAndType 5 6), (0, u "java/lang/Record"), (0, u "<init>"), (0, u "()V"), (0, .fieldref 8 9), (0, .class_ 10), (0, .nameAndType 11 12), (0, u "com/example/inchworm/inchworm/PrefixBuckets$Bucket"), (0, u "high"), (0, u "J"), (0, .fieldref 8 14), (0, .nameAndType 15 12), (0, u "low"), (0, .fieldref 8 17), (0, .nameAndType 18 19), (0, u "place"), (0, u "I"), (0, .fieldref 8 21), (0, .nameAndType 22 12), (0, u "tokens"), (0, .fieldref 8 24), (0, .nameAndType 25 12), (0, u "time"), (12, u "(JJIJJ)V"), (3, u "isOf"), (0, u "(JJ)Z"), (8, .class_ 53), (0, u "com/example/inchworm/inchworm/PrefixBuckets")] 23

def k3c0 : Code := { maxStack := 3, maxLocals := 10, code := prog_35_method_1_code, exceptionTable := #[], attributes := #[] }
def k3m0 : Method := { name := "<init>", desc := "(JJIJJ)V", sig := { parameters := [.long, .long, .int, .long, .long], returnType := none }, accessFlags := 0, code := some k3c0 }
def k3c1 : Code := { maxStack := 4, maxLocals := 5, code := prog_35_method_2_code, exceptionTable := #[], attributes := #[] }
def k3m1 : Method := { name := "isOf", desc := "(JJ)Z", sig := { parameters := [.long, .long], returnType := some .boolean }, accessFlags := 0, code := some k3c1 }
/-- com/example/inchworm/inchworm/PrefixBuckets$Bucket -/
def k3 : Class := { plain "com/example/inchworm/inchworm/PrefixBuckets$Bucket" (some 2) with
  accessFlags := 48
  interfaces := #[]
  cf := some (fileOf pool3 8 #[.nestHost 52] #[{ accessFlags := 0, nameIndex := 5, descriptorIndex := 38, attributes := #[] }, { accessFlags := 0, nameIndex := 42, descriptorIndex := 43, attributes := #[] }] 48 2 #[] #[{ accessFlags := 18, nameIndex := 11, descriptorIndex := 12, attributes := #[] }, { accessFlags := 18, nameIndex := 15, descriptorIndex := 12, attributes := #[] }, { accessFlags := 18, nameIndex := 18, descriptorIndex := 19, attributes := #[] }, { accessFlags := 18, nameIndex := 22, descriptorIndex := 12, attributes := #[] }, { accessFlags := 18, nameIndex := 25, descriptorIndex := 12, attributes := #[] }])
  fields := #[{ name := "high", type := .long, accessFlags := 18, slot := 0, constantValue := 0 }, { name := "low", type := .long, accessFlags := 18, slot := 1, constantValue := 0 }, { name := "place", type := .int, accessFlags := 18, slot := 2, constantValue := 0 }, { name := "tokens", type := .long, accessFlags := 18, slot := 3, constantValue := 0 }, { name := "time", type := .long, accessFlags := 18, slot := 4, constantValue := 0 }]
  methods := #[k3m0, k3m1]
  instanceTypes := #[.long, .long, .int, .long, .long]
  staticTypes := #[]
  resolved := Array.replicate 77 none
  statics := none }

def pool4 : Array CpInfo := pool [(1, u "java/lang/Cloneable"), (0, .class_ 1), (0, u "java/lang/Object"), (0, .class_ 3)] 3

/-- java/lang/Cloneable -/
def k4 : Class := { plain "java/lang/Cloneable" (some 0) with
  accessFlags := 1537
  interfaces := #[]
  cf := some (fileOf pool4 2 #[] #[] 1537 4 #[] #[])
  fields := #[]
  methods := #[]
  instanceTypes := #[]
  staticTypes := #[]
  resolved := Array.replicate 8 none
  statics := none }

def pool5 : Array CpInfo := pool [(1, u "java/io/Serializable"), (0, .class_ 1), (0, u "java/lang/Object"), (0, .class_ 3)] 3

/-- java/io/Serializable -/
def k5 : Class := { plain "java/io/Serializable" (some 0) with
  accessFlags := 1537
  interfaces := #[]
  cf := some (fileOf pool5 2 #[] #[] 1537 4 #[] #[])
  fields := #[]
  methods := #[]
  instanceTypes := #[]
  staticTypes := #[]
  resolved := Array.replicate 8 none
  statics := none }

/-- the primitive byte -/
def k6 : Class := { plain "byte" none with kind := .primitive 'B', accessFlags := 0x411 }
/-- [B -/
def k7 : Class := { plain "[B" (some 0) with kind := .array 6 .byte, interfaces := #[4, 5], accessFlags := 1041 }

/-- the primitive int -/
def k8 : Class := { plain "int" none with kind := .primitive 'I', accessFlags := 0x411 }
/-- [I -/
def k9 : Class := { plain "[I" (some 0) with kind := .array 8 .int, interfaces := #[4, 5], accessFlags := 1041 }

def heap : Heap := #[]
def classes : Array Class := #[k0, k1, k2, k3, k4, k5, k6, k7, k8, k9]
def interned : List (Array UInt16 × Addr) := []
def slotsUsed : Nat := 0
def theMethod : MethodId := ⟨1, 1⟩
def args0 : Array Value := #[.long 7, .long 7, .long 7, .long 7, .long 7, .int 5]
def aboutOver (below : List Frame) : State where
  vm := { classes := classes, interned := interned.toArray }
  heap := heap
  slotsUsed := slotsUsed
  threads := #[{ frames := .invoking theMethod args0 :: below }]
def below0 : List Frame := [.native { method := ⟨0, 0⟩, args := #[] }]
def about1 : State := aboutOver below0
def p0 : Program := .bare "" "" ""
def e0 : Env := launch0.env 0 0 0
theorem w_frames : about1.frames = Frame.invoking theMethod args0 :: below0 := rfl
set_option maxRecDepth 65536 in
theorem w_args : argsFit about1.vm theMethod args0 = true := by decide +kernel
set_option maxRecDepth 65536 in
theorem w_heap : heapFits about1 = true := by decide +kernel
set_option maxRecDepth 65536 in
theorem w_runnable : about1.curStatus? = some .runnable := by decide +kernel
set_option maxRecDepth 65536 in
theorem w_alone : about1.alone = true := by decide +kernel
set_option maxRecDepth 65536 in
theorem w_named : about1.methodNamed? x = some theMethod := by decide +kernel
set_option maxRecDepth 65536 in
theorem w_hears : about1.hears theMethod below0 = true := by decide +kernel
set_option maxRecDepth 65536 in
theorem w_ripe : about1.ripe theMethod args0 below0 = true := by decide +kernel
theorem w_running : about1.status = .running := rfl
set_option maxRecDepth 65536 in
theorem w_room : about1.hasRoom e0.platform room_1 = true :=
  launch0.hasRoom_least _ room_1 (by decide +kernel) (by decide +kernel) (by decide +kernel) (by decide +kernel) (by decide +kernel) (by decide +kernel)
theorem allAtoms_all (ts : List Jvm.Cond) (a : Array Jvm.Value) (st : Jvm.State) : (allAtoms ts).before a st = ts.all (fun c => c.before a st) := by
  induction ts with
  | nil => rfl
  | cons c t ih =>
    show (Jvm.Cond.and c (allAtoms t)).before a st = _
    rw [Jvm.Cond.before_and, ih, List.all_cons]
def words1 : List Jvm.Cond := Jvm.Cond.code x code maxLocals ret :: tables_1
/-- a 'code' word, met by the world's own term for the bytes: nothing is compared byte by byte -/
theorem code_word {y : MethodName} {bytes : ByteArray} {mx : Nat} {rt : Option FieldType} {a : Array Value} {s : State} {m : MethodId} {meth : Method} {c : Code} (h1 : s.methodNamed? y = some m) (h2 : s.vm.method? m = some meth) (h3 : meth.code = some c) (h4 : c.code = bytes)
    (h5 : (c.maxLocals == mx && c.exceptionTable.isEmpty && decide (c.maxStack ≤ mostOperands) && decide (meth.sig.returnType = rt) && !meth.locks && decide (parseMethodDescriptor y.desc = some meth.sig)) = true) : (Jvm.Cond.code y bytes mx rt).before a s = true := by
  simp only [Bool.and_eq_true, beq_iff_eq, Bool.not_eq_true', decide_eq_true_eq] at h5
  obtain ⟨⟨⟨⟨⟨g1, g2⟩, g3⟩, g4⟩, g5⟩, g6⟩ := h5
  simp [Cond.before, Cond.holds, Cond.value, h1, h2, h3, h4, g1, g2, g3, g4, g5, g6]
def isCode : Jvm.Cond → Bool
  | .code _ _ _ _ => true
  | _ => false
theorem all_split {L : List Jvm.Cond} {P : Jvm.Cond → Bool} (h1 : L.all (fun c => isCode c || P c) = true) (h2 : ∀ c ∈ L.filter isCode, P c = true) : L.all P = true := by
  refine List.all_eq_true.mpr fun c hc => ?_
  have h := List.all_eq_true.mp h1 c hc
  rcases Bool.eq_false_or_eq_true (isCode c) with hi | hi
  · exact h2 c (List.mem_filter.mpr ⟨hc, hi⟩)
  · simpa [hi] using h
set_option maxRecDepth 65536 in
theorem w_c0 : (Jvm.Cond.code x code maxLocals ret).before args0 about1 = true := code_word (m := ⟨1, 1⟩) (meth := k1m1) (c := k1c1) (by decide +kernel) rfl rfl rfl (by decide +kernel)
set_option maxRecDepth 65536 in
theorem w_c1 : (Jvm.Cond.code ({ cls := "com/example/inchworm/inchworm/PrefixBuckets$Bucket", name := "<init>", desc := "(JJIJJ)V" } : Jvm.MethodName) prog_35_method_1_code (10 : Nat) (Option.none : Option Jvm.ClassFile.FieldType)).before args0 about1 = true := code_word (m := ⟨3, 0⟩) (meth := k3m0) (c := k3c0) (by decide +kernel) rfl rfl rfl (by decide +kernel)
set_option maxRecDepth 65536 in
theorem w_c2 : (Jvm.Cond.code ({ cls := "java/lang/Record", name := "<init>", desc := "()V" } : Jvm.MethodName) jdk_30_method_1_code (1 : Nat) (Option.none : Option Jvm.ClassFile.FieldType)).before args0 about1 = true := code_word (m := ⟨2, 0⟩) (meth := k2m0) (c := k2c0) (by decide +kernel) rfl rfl rfl (by decide +kernel)
set_option maxRecDepth 65536 in
theorem w_c3 : (Jvm.Cond.code ({ cls := "java/lang/Object", name := "<init>", desc := "()V" } : Jvm.MethodName) object_method_1_code (1 : Nat) (Option.none : Option Jvm.ClassFile.FieldType)).before args0 about1 = true := code_word (m := ⟨0, 0⟩) (meth := k0m0) (c := k0c0) (by decide +kernel) rfl rfl rfl (by decide +kernel)
set_option maxRecDepth 65536 in
theorem w_c4 : (Jvm.Cond.code ({ cls := "com/example/inchworm/inchworm/PrefixBuckets$Bucket", name := "isOf", desc := "(JJ)Z" } : Jvm.MethodName) prog_35_method_2_code (5 : Nat) (Option.some Jvm.ClassFile.FieldType.boolean)).before args0 about1 = true := code_word (m := ⟨3, 1⟩) (meth := k3m1) (c := k3c1) (by decide +kernel) rfl rfl rfl (by decide +kernel)
def codes1 : List Jvm.Cond := [Jvm.Cond.code x code maxLocals ret, Jvm.Cond.code ({ cls := "com/example/inchworm/inchworm/PrefixBuckets$Bucket", name := "<init>", desc := "(JJIJJ)V" } : Jvm.MethodName) prog_35_method_1_code (10 : Nat) (Option.none : Option Jvm.ClassFile.FieldType), Jvm.Cond.code ({ cls := "java/lang/Record", name := "<init>", desc := "()V" } : Jvm.MethodName) jdk_30_method_1_code (1 : Nat) (Option.none : Option Jvm.ClassFile.FieldType), Jvm.Cond.code ({ cls := "java/lang/Object", name := "<init>", desc := "()V" } : Jvm.MethodName) object_method_1_code (1 : Nat) (Option.none : Option Jvm.ClassFile.FieldType), Jvm.Cond.code ({ cls := "com/example/inchworm/inchworm/PrefixBuckets$Bucket", name := "isOf", desc := "(JJ)Z" } : Jvm.MethodName) prog_35_method_2_code (5 : Nat) (Option.some Jvm.ClassFile.FieldType.boolean)]
set_option maxRecDepth 65536 in
theorem codes_eq : words1.filter isCode = codes1 := rfl
theorem w_codes : ∀ c ∈ words1.filter isCode, c.before args0 about1 = true := by
  rw [codes_eq]
  intro c hc
  simp only [codes1, List.mem_cons, List.not_mem_nil, or_false] at hc
  rcases hc with rfl | rfl | rfl | rfl | rfl
  · exact w_c0
  · exact w_c1
  · exact w_c2
  · exact w_c3
  · exact w_c4
set_option maxRecDepth 65536 in
theorem w_t1 : (words1.take 24).all (fun c => isCode c || c.before args0 about1) = true := by decide +kernel
set_option maxRecDepth 65536 in
theorem w_t2 : (words1.drop 24).all (fun c => isCode c || c.before args0 about1) = true := by decide +kernel
theorem w_tables : (allAtoms (Jvm.Cond.code x code maxLocals ret :: tables_1)).before args0 about1 = true := by
  rw [allAtoms_all]
  show words1.all (fun c => c.before args0 about1) = true
  refine all_split ?_ w_codes
  rw [← List.take_append_drop 24 words1, List.all_append, w_t1, w_t2]
  rfl
set_option maxRecDepth 65536 in
theorem w_case : (Jvm.Cond.and given_1 narrow_1).before args0 about1 = true := by decide +kernel
theorem w_applies : (headSpec (Jvm.Cond.code x code maxLocals ret :: tables_1) room_1).applies x e0.platform about1 = true :=
  (Spec.applies_iff w_frames).mpr ⟨w_running, w_runnable, w_alone, w_named, w_hears, w_ripe, w_room, w_tables⟩
theorem atStart : AtStart classFile x code maxLocals ret World_1 tables_1 room_1 Calls_1 rest_1 Pre_1 launch0 p0 e0 about1 theMethod args0 below0 :=
  ⟨lists_1, trivial, launch0.admits_env _ _ _, launch0.least_env, fairChoices_fair.cas, fairChoices_fair.clock, w_frames, w_args, w_heap, w_applies, trivial, trivial, w_case⟩
end start1
theorem witness_1 : WitnessClaimed_1 := ⟨start1.p0, start1.e0, start1.about1, start1.theMethod, start1.args0, start1.below0, start1.atStart⟩
end Jvm.Pilot.@@N@@
