import JvmDerived
import JvmDerived.Pilot.@@N@@Statement
import JvmDerived.Pilot.@@N@@Code
set_option linter.unusedVariables false
set_option linter.unusedSimpArgs false
@@BLOCK:NumsL.lean.txt@@
namespace Jvm.RoadKit
open Sem ClassFile Op Lib Jvm.Stand Jvm.Free Jvm.LawKit
section New
variable {p : Program} {l : Launch} {e : Env} {R : Room} {s : State} {m : MethodId} {args : Array Value} {below : List Frame} {meth : Method} {c : Code} {T : State} {locs : List Loc} {cells slots : Nat}
theorem retI (X : Stand p l e R s m args below meth c T locs cells slots) (hx : p.tables.exec = Jvm.exec) {pc : Nat} {Ls : Array Slot} {z : Int32} {rest : List Value} (hret : meth.sig.returnType = some .int) (hd : decode c.code pc = .ok (.ireturn, 1)) {fs : List Frame}
    (hl : ∀ (f : JFrame) (acts : List Action), f.method = m → f.locked = none → f.entered = [] → (doReturn e (T.setTop f) acts (some (.int z))).1 = T.setFrames fs) : Steps p.tables e below (T.setTop (mkF m pc Ls (.int z :: rest))) (T.setFrames fs) := by
  have hm' : T.vm.method? m = some meth := X.method'
  have hn : narrow .int (.int z) = .int z := rfl
  show Steps p.tables e below (T.setTop { method := m, pc := pc, locals := Ls, stack := _ :: rest, locked := none }) _
  jvm_step X.here [X.here.top, hx, hd, hm', hret, hn]
  first | (intro acts; rw [hl _ acts rfl rfl rfl]) | rw [hl _ _ rfl rfl rfl]
  exact Steps.refl _
end New
theorem own_dia {tb : Tables} {e : Env} {below : List Frame} {T tgt : State} {g : JFrame} {A : Type} {u v : A} (q : Prop) [Decidable q] (f : A → JFrame)
    (h1 : q → Steps tb e below (T.setTop (f u)) tgt → Steps tb e below (T.setTop g) tgt) (h0 : ¬ q → Steps tb e below (T.setTop (f v)) tgt → Steps tb e below (T.setTop g) tgt)
    (k : Steps tb e below (T.setTop (f (if q then u else v))) tgt) : Steps tb e below (T.setTop g) tgt := by
  by_cases hq : q
  · rw [if_pos hq] at k; exact h1 hq k
  · rw [if_neg hq] at k; exact h0 hq k
theorem own_cast {tb : Tables} {e : Env} {below : List Frame} {T tgt : State} {A : Type} {u v : A} (f : A → JFrame) (h : u = v) (k : Steps tb e below (T.setTop (f v)) tgt) : Steps tb e below (T.setTop (f u)) tgt := h ▸ k
theorem own_llt {x y : Int64} (h : x < y) : ifCond.holds .lt (lcmpW x y) = true ∧ ifCond.holds .ge (lcmpW x y) = false := by
  rw [if0, if0]; exact ⟨(tlt ((lw_lt x y).mpr h)).1, (tlt ((lw_lt x y).mpr h)).2.1⟩
theorem own_lge {x y : Int64} (h : ¬ x < y) : ifCond.holds .lt (lcmpW x y) = false ∧ ifCond.holds .ge (lcmpW x y) = true := by
  rw [if0, if0]; exact ⟨(flt fun q => h ((lw_lt x y).mp q)).1, (flt fun q => h ((lw_lt x y).mp q)).2.1⟩
theorem own_lgt {x y : Int64} (h : y < x) : ifCond.holds .gt (lcmpW x y) = true ∧ ifCond.holds .le (lcmpW x y) = false := by
  rw [if0, if0]; exact ⟨(tlt ((lw_gt x y).mpr h)).2.2.1, (tlt ((lw_gt x y).mpr h)).2.2.2⟩
theorem own_lle {x y : Int64} (h : ¬ y < x) : ifCond.holds .gt (lcmpW x y) = false ∧ ifCond.holds .le (lcmpW x y) = true := by
  rw [if0, if0]; exact ⟨(flt fun q => h ((lw_gt x y).mp q)).2.2.1, (flt fun q => h ((lw_gt x y).mp q)).2.2.2⟩
theorem own_leq {x y : Int64} (h : x = y) : ifCond.holds .eq (lcmpW x y) = true ∧ ifCond.holds .ne (lcmpW x y) = false := by
  rw [if0, if0]; exact ⟨(teq ((lw_eq x y).mpr h)).1, (teq ((lw_eq x y).mpr h)).2⟩
theorem own_lne {x y : Int64} (h : ¬ x = y) : ifCond.holds .eq (lcmpW x y) = false ∧ ifCond.holds .ne (lcmpW x y) = true := by
  rw [if0, if0]; exact ⟨(feq fun q => h ((lw_eq x y).mp q)).1, (feq fun q => h ((lw_eq x y).mp q)).2⟩
theorem own_bt {q : Prop} [Decidable q] (h : q) : ifCond.holds .ne (if q then (1 : Int32) else (0 : Int32)) = true ∧ ifCond.holds .eq (if q then (1 : Int32) else (0 : Int32)) = false := by
  rw [if_pos h]; exact ⟨rfl, rfl⟩
theorem own_bf {q : Prop} [Decidable q] (h : ¬ q) : ifCond.holds .ne (if q then (1 : Int32) else (0 : Int32)) = false ∧ ifCond.holds .eq (if q then (1 : Int32) else (0 : Int32)) = true := by
  rw [if_neg h]; exact ⟨rfl, rfl⟩
theorem own_ct {q : Prop} [Decidable q] (h : q) : ifCond.holds .ne (if q then (0 : Int32) else (1 : Int32)) = false ∧ ifCond.holds .eq (if q then (0 : Int32) else (1 : Int32)) = true := by
  rw [if_pos h]; exact ⟨rfl, rfl⟩
theorem own_cf {q : Prop} [Decidable q] (h : ¬ q) : ifCond.holds .ne (if q then (0 : Int32) else (1 : Int32)) = true ∧ ifCond.holds .eq (if q then (0 : Int32) else (1 : Int32)) = false := by
  rw [if_neg h]; exact ⟨rfl, rfl⟩
theorem own_b01 {q : Prop} [Decidable q] {x y : Int32} (hx : x = 0 ∨ x = 1) (hy : y = 0 ∨ y = 1) : (if q then x else y) = 0 ∨ (if q then x else y) = 1 := by
  split <;> assumption
def Arf (Z : State) (h : Heap) (a : Addr) (ty : FieldType) (n : Int32) (f : Nat → Value) : Prop :=
  ∃ c : Cell, Arr Z h a c ty ∧ c.slots.size = n.toNatClampNeg ∧ ¬ n < 0 ∧ ∀ i, i < n.toNatClampNeg → c.slots[i]? = some (f i)
theorem Arf.lt {Z : State} {h : Heap} {a : Addr} {ty : FieldType} {n : Int32} {f : Nat → Value} (F : Arf Z h a ty n f) : a < h.size := by
  obtain ⟨c, A, -⟩ := F; exact A.lt
theorem Arf.ext {Z : State} {h h' : Heap} {a : Addr} {ty : FieldType} {n : Int32} {f : Nat → Value} (F : Arf Z h a ty n f) (E : Ext h h') : Arf Z h' a ty n f := by
  obtain ⟨c, A, r⟩ := F; exact ⟨c, A.ext E, r⟩
theorem Arf.other {Z : State} {h h' : Heap} {a b : Addr} {sl : Nat} {v : Value} {ty : FieldType} {n : Int32} {f : Nat → Value} (F : Arf Z h b ty n f) (W : Wr h h' a sl v) (q : b ≠ a) : Arf Z h' b ty n f := by
  obtain ⟨c, A, r⟩ := F; exact ⟨c, A.other W q, r⟩
theorem Arf.keep {Z : State} {h h' : Heap} {a : Addr} {ws : List Addr} {ty : FieldType} {n : Int32} {f : Nat → Value} (F : Arf Z h a ty n f) (K : Keep h h' ws) (q : a ∉ ws) : Arf Z h' a ty n f := by
  obtain ⟨c, A, r⟩ := F; exact ⟨c, ⟨K.2.1 a c A.1 q, A.2⟩, r⟩
theorem own_arf_new {Z : State} {h : Heap} {a : Addr} {k : ClassId} {ty : FieldType} {z : Int32} (A : Arr Z h a (newA k ty z) ty) (q : ¬ z < 0) : Arf Z h a ty z (fun _ => defaultValue ty) :=
  ⟨_, A, sz_new _ _ _, q, fun i hi => by simp [newA, hi]⟩
theorem own_arf_set {Z : State} {h h' : Heap} {a : Addr} {ty : FieldType} {n : Int32} {f : Nat → Value} {j : Nat} {v : Value} (F : Arf Z h a ty n f) (W : Wr h h' a j v) : Arf Z h' a ty n (fun i => if i = j then v else f i) := by
  obtain ⟨c, A, S, M, H⟩ := F
  refine ⟨_, A.same W, by rw [sz_set]; exact S, M, fun i hi => ?_⟩
  show _ = some (if i = j then v else f i)
  by_cases u : i = j
  · subst u; rw [if_pos rfl]; rw [← S] at hi; simp [Cell.setSlot, hi]
  · rw [if_neg u]; have := H i hi; simp only [Cell.setSlot]; rw [Array.getElem?_setIfInBounds_ne (Ne.symm u)]; exact this
theorem own_arf_fn {Z : State} {h : Heap} {a : Addr} {ty : FieldType} {n : Int32} {f g : Nat → Value} (F : Arf Z h a ty n f) (q : ∀ i, i < n.toNatClampNeg → f i = g i) : Arf Z h a ty n g := by
  obtain ⟨c, A, S, M, H⟩ := F
  exact ⟨c, A, S, M, fun i hi => by rw [← q i hi]; exact H i hi⟩
theorem own_arf_setI {Z : State} {h h' : Heap} {a : Addr} {ty : FieldType} {n : Int32} {f : Nat → Int32} {j : Nat} {v : Int32} (F : Arf Z h a ty n (fun i => Value.int (f i))) (W : Wr h h' a j (.int v)) : Arf Z h' a ty n (fun i => Value.int (if i = j then v else f i)) :=
  own_arf_fn (own_arf_set F W) fun i _ => by by_cases u : i = j <;> simp [u]
theorem own_arf_setL {Z : State} {h h' : Heap} {a : Addr} {ty : FieldType} {n : Int32} {f : Nat → Int64} {j : Nat} {v : Int64} (F : Arf Z h a ty n (fun i => Value.long (f i))) (W : Wr h h' a j (.long v)) : Arf Z h' a ty n (fun i => Value.long (if i = j then v else f i)) :=
  own_arf_fn (own_arf_set F W) fun i _ => by by_cases u : i = j <;> simp [u]
theorem own_arf_at {c : Cell} {n j : Int32} {f : Nat → Value} (H : ∀ i, i < n.toNatClampNeg → c.slots[i]? = some (f i)) (S : c.slots.size = n.toNatClampNeg) (q : ¬ (j < 0 ∨ c.slots.size ≤ j.toNatClampNeg)) : c.slots[j.toNatClampNeg]? = some (f j.toNatClampNeg) :=
  H _ (by rw [← S]; exact Nat.lt_of_not_le fun y => q (Or.inr y))
theorem own_nb {x : Int32} (h : x = 0 ∨ x = 1) : nar .boolean x = x := by
  rcases h with rfl | rfl <;> rfl
end Jvm.RoadKit
namespace Jvm.Pilot.@@N@@
open Jvm Jvm.ClassFile Sem Op Lib Jvm.Free Jvm.Stand Jvm.LawKit Jvm.RoadKit Bundle Jvm.Pilot.@@N@@.Jvm.D
theorem d5_0 : decode jdk_29_method_69_code 0 = .ok (.iload_n 0, 1) := by decide +kernel
theorem d5_1 : decode jdk_29_method_69_code 1 = .ok (.iload_n 1, 1) := by decide +kernel
theorem d5_2 : decode jdk_29_method_69_code 2 = .ok (.if_icmp .gt 7, 3) := by decide +kernel
theorem d5_5 : decode jdk_29_method_69_code 5 = .ok (.iload_n 0, 1) := by decide +kernel
theorem d5_6 : decode jdk_29_method_69_code 6 = .ok (.goto 4, 3) := by decide +kernel
theorem d5_9 : decode jdk_29_method_69_code 9 = .ok (.iload_n 1, 1) := by decide +kernel
theorem d5_10 : decode jdk_29_method_69_code 10 = .ok (.ireturn, 1) := by decide +kernel
theorem ef_5 (m : MethodId) (va : Int32) (vb : Int32) : entryFrame m #[(.int va), (.int vb)] 2 = mkF m 0 #[.val (.int va), .val (.int vb)] [] := by first | (simp [entryFrame, mkF, argsToLocals, Value.category]; done) | rfl
def FMin (va : Int32) (vb : Int32) : Int32 := (if vb < va then vb else va)
def Q5 (Z : State) (va : Int32) (vb : Int32) (h0 : Heap) (n0 : Nat) (v : Option Value) (h : Heap) (L : List Loc) : Prop := v = some (.int (FMin va vb)) ∧ Fr n0 L ∧ h = h0
set_option maxRecDepth 65536 in
set_option maxHeartbeats 40000000 in
theorem rm5 (l : Launch) (Z : State) (a0 : Array Value) (hw : ∀ d ∈ tables_1, d.before a0 Z = true) (ws : List Jvm.Cond) (va : Int32) (vb : Int32) (h0 : Heap) (n0 : Nat) (Z0 : n0 ≤ h0.size)  :
    MetFree l (⟨"java/lang/Math", "min", "(II)I"⟩ : MethodName) (head1 (Jvm.Cond.code (⟨"java/lang/Math", "min", "(II)I"⟩ : MethodName) jdk_29_method_69_code 2 (some .int) :: ws) ({ frames := 0, cells := 0, slots := 0, locals := 0 } : Room)) (fun a U => a = #[(.int va), (.int vb)] ∧ Z.Warmed39 U.vm ∧ U.heap = h0) (fun _ _ _ _ _ => True) (fun _ U o U' => ∃ v L, o = .returned v ∧ Q5 Z va vb h0 n0 v U'.heap L ∧ FrameEnd U o U' L ({ frames := 0, cells := 0, slots := 0, locals := 0 } : Room).cells ({ frames := 0, cells := 0, slots := 0, locals := 0 } : Room).slots) := by
  refine MetFree.of_bodySF (Jvm.Free.JP.mathPlain rfl (by decide +kernel)) hisR ?_
  intro p e s m args below meth c s₁ Bd hml0 hP hK
  obtain ⟨rfl, hZ, hh⟩ := hP
  have hx := Bd.exec
  have hby := Bd.bytes
  have hml : c.maxLocals = 2 := hml0
  have hown : s.vm.findClass "java/lang/Math" = some m.cls := findClass_of_methodNamed Bd.named
  have hnm := (name_of_methodNamed Bd.named Bd.method).1
  have X0 : Stand p l e ({ frames := 0, cells := 0, slots := 0, locals := 0 } : Room) s m #[(.int va), (.int vb)] below meth c s₁ [] 0 0 := Stand.of_body Bd
  have e0 : s₁.heap = h0 := by rw [← hh, Bd.state]; rfl
  have N0 := Fr.nil n0
  have pre0 : ∀ t, Steps p.tables e below (s₁.setTop (mkF m 0 #[.val (.int va), .val (.int vb)] [])) t → Steps p.tables e below (s₁.setTop (entryFrame m #[(.int va), (.int vb)] 2)) t := fun t k => castTop (ef_5 m va vb) k
  obtain ⟨fs, hr, hrun, hended, hW, hsame⟩ := X0.leave (v := some (.int (if vb < va then vb else va))) (fun h => by rw [Bd.returns] at h; cases h)
  refine ⟨_, _, pre0 _ ?_, hrun, hended, _, _, rfl, ?_, ⟨_, rfl⟩, hW, hsame.mono (by decide) (by decide)⟩
  · show Steps p.tables e below (s₁.setTop (mkF m 0 #[.val (.int va), .val (.int vb)] [])) _
    refine XS.iloadN X0.here hx rfl (hb hby d5_0) rfl ?_
    show Steps p.tables e below (s₁.setTop (mkF m 1 #[.val (.int va), .val (.int vb)] [(.int va)])) _
    refine XS.iloadN X0.here hx rfl (hb hby d5_1) rfl ?_
    show Steps p.tables e below (s₁.setTop (mkF m 2 #[.val (.int va), .val (.int vb)] [(.int vb), (.int va)])) _
    refine own_dia (u := (vb : Int32)) (v := va) (vb < va) (fun z1 => (mkF m 10 #[.val (.int va), .val (.int vb)] [(.int z1)])) (fun hc1 k1 => ?_) (fun hc1 k1 => ?_) ?_
    · refine XS.icmpYes X0.here hx rfl (pc0 := 2) (pc' := 9) rfl (hb hby d5_2) rfl (tlt hc1).2.2.1 (by decide) (by decide) ?_
      show Steps p.tables e below (s₁.setTop (mkF m 9 #[.val (.int va), .val (.int vb)] [])) _
      refine XS.iloadN X0.here hx rfl (hb hby d5_9) rfl ?_
      exact k1
    · refine XS.icmpNo X0.here hx rfl (hb hby d5_2) rfl (flt hc1).2.2.1 ?_
      show Steps p.tables e below (s₁.setTop (mkF m 5 #[.val (.int va), .val (.int vb)] [])) _
      refine XS.iloadN X0.here hx rfl (hb hby d5_5) rfl ?_
      show Steps p.tables e below (s₁.setTop (mkF m 6 #[.val (.int va), .val (.int vb)] [(.int va)])) _
      refine XS.goto X0.here hx rfl (pc0 := 6) (pc' := 10) rfl (hb hby d5_6) (by decide) (by decide) ?_
      exact k1
    -- meets at 10
    show Steps p.tables e below (s₁.setTop (mkF m 10 #[.val (.int va), .val (.int vb)] [(.int (if vb < va then vb else va))])) _
    exact retI X0 hx Bd.returns (hb hby d5_10) hr
  · show Q5 Z va vb h0 n0 _ s₁.heap _
    rw [e0]
    exact ⟨rfl, N0, rfl⟩
theorem d7_0 : decode jdk_29_method_65_code 0 = .ok (.iload_n 0, 1) := by decide +kernel
theorem d7_1 : decode jdk_29_method_65_code 1 = .ok (.iload_n 1, 1) := by decide +kernel
theorem d7_2 : decode jdk_29_method_65_code 2 = .ok (.if_icmp .lt 7, 3) := by decide +kernel
theorem d7_5 : decode jdk_29_method_65_code 5 = .ok (.iload_n 0, 1) := by decide +kernel
theorem d7_6 : decode jdk_29_method_65_code 6 = .ok (.goto 4, 3) := by decide +kernel
theorem d7_9 : decode jdk_29_method_65_code 9 = .ok (.iload_n 1, 1) := by decide +kernel
theorem d7_10 : decode jdk_29_method_65_code 10 = .ok (.ireturn, 1) := by decide +kernel
theorem ef_7 (m : MethodId) (va : Int32) (vb : Int32) : entryFrame m #[(.int va), (.int vb)] 2 = mkF m 0 #[.val (.int va), .val (.int vb)] [] := by first | (simp [entryFrame, mkF, argsToLocals, Value.category]; done) | rfl
def FMax (va : Int32) (vb : Int32) : Int32 := (if va < vb then vb else va)
def Q7 (Z : State) (va : Int32) (vb : Int32) (h0 : Heap) (n0 : Nat) (v : Option Value) (h : Heap) (L : List Loc) : Prop := v = some (.int (FMax va vb)) ∧ Fr n0 L ∧ h = h0
set_option maxRecDepth 65536 in
set_option maxHeartbeats 40000000 in
theorem rm7 (l : Launch) (Z : State) (a0 : Array Value) (hw : ∀ d ∈ tables_1, d.before a0 Z = true) (ws : List Jvm.Cond) (va : Int32) (vb : Int32) (h0 : Heap) (n0 : Nat) (Z0 : n0 ≤ h0.size)  :
    MetFree l (⟨"java/lang/Math", "max", "(II)I"⟩ : MethodName) (head1 (Jvm.Cond.code (⟨"java/lang/Math", "max", "(II)I"⟩ : MethodName) jdk_29_method_65_code 2 (some .int) :: ws) ({ frames := 0, cells := 0, slots := 0, locals := 0 } : Room)) (fun a U => a = #[(.int va), (.int vb)] ∧ Z.Warmed39 U.vm ∧ U.heap = h0) (fun _ _ _ _ _ => True) (fun _ U o U' => ∃ v L, o = .returned v ∧ Q7 Z va vb h0 n0 v U'.heap L ∧ FrameEnd U o U' L ({ frames := 0, cells := 0, slots := 0, locals := 0 } : Room).cells ({ frames := 0, cells := 0, slots := 0, locals := 0 } : Room).slots) := by
  refine MetFree.of_bodySF (Jvm.Free.JP.mathPlain rfl (by decide +kernel)) hisR ?_
  intro p e s m args below meth c s₁ Bd hml0 hP hK
  obtain ⟨rfl, hZ, hh⟩ := hP
  have hx := Bd.exec
  have hby := Bd.bytes
  have hml : c.maxLocals = 2 := hml0
  have hown : s.vm.findClass "java/lang/Math" = some m.cls := findClass_of_methodNamed Bd.named
  have hnm := (name_of_methodNamed Bd.named Bd.method).1
  have X0 : Stand p l e ({ frames := 0, cells := 0, slots := 0, locals := 0 } : Room) s m #[(.int va), (.int vb)] below meth c s₁ [] 0 0 := Stand.of_body Bd
  have e0 : s₁.heap = h0 := by rw [← hh, Bd.state]; rfl
  have N0 := Fr.nil n0
  have pre0 : ∀ t, Steps p.tables e below (s₁.setTop (mkF m 0 #[.val (.int va), .val (.int vb)] [])) t → Steps p.tables e below (s₁.setTop (entryFrame m #[(.int va), (.int vb)] 2)) t := fun t k => castTop (ef_7 m va vb) k
  obtain ⟨fs, hr, hrun, hended, hW, hsame⟩ := X0.leave (v := some (.int (if va < vb then vb else va))) (fun h => by rw [Bd.returns] at h; cases h)
  refine ⟨_, _, pre0 _ ?_, hrun, hended, _, _, rfl, ?_, ⟨_, rfl⟩, hW, hsame.mono (by decide) (by decide)⟩
  · show Steps p.tables e below (s₁.setTop (mkF m 0 #[.val (.int va), .val (.int vb)] [])) _
    refine XS.iloadN X0.here hx rfl (hb hby d7_0) rfl ?_
    show Steps p.tables e below (s₁.setTop (mkF m 1 #[.val (.int va), .val (.int vb)] [(.int va)])) _
    refine XS.iloadN X0.here hx rfl (hb hby d7_1) rfl ?_
    show Steps p.tables e below (s₁.setTop (mkF m 2 #[.val (.int va), .val (.int vb)] [(.int vb), (.int va)])) _
    refine own_dia (u := (vb : Int32)) (v := va) (va < vb) (fun z1 => (mkF m 10 #[.val (.int va), .val (.int vb)] [(.int z1)])) (fun hc1 k1 => ?_) (fun hc1 k1 => ?_) ?_
    · refine XS.icmpYes X0.here hx rfl (pc0 := 2) (pc' := 9) rfl (hb hby d7_2) rfl (tlt hc1).1 (by decide) (by decide) ?_
      show Steps p.tables e below (s₁.setTop (mkF m 9 #[.val (.int va), .val (.int vb)] [])) _
      refine XS.iloadN X0.here hx rfl (hb hby d7_9) rfl ?_
      exact k1
    · refine XS.icmpNo X0.here hx rfl (hb hby d7_2) rfl (flt hc1).1 ?_
      show Steps p.tables e below (s₁.setTop (mkF m 5 #[.val (.int va), .val (.int vb)] [])) _
      refine XS.iloadN X0.here hx rfl (hb hby d7_5) rfl ?_
      show Steps p.tables e below (s₁.setTop (mkF m 6 #[.val (.int va), .val (.int vb)] [(.int va)])) _
      refine XS.goto X0.here hx rfl (pc0 := 6) (pc' := 10) rfl (hb hby d7_6) (by decide) (by decide) ?_
      exact k1
    -- meets at 10
    show Steps p.tables e below (s₁.setTop (mkF m 10 #[.val (.int va), .val (.int vb)] [(.int (if va < vb then vb else va))])) _
    exact retI X0 hx Bd.returns (hb hby d7_10) hr
  · show Q7 Z va vb h0 n0 _ s₁.heap _
    rw [e0]
    exact ⟨rfl, N0, rfl⟩
def own_w (q : Int32) : Int32 := ((q.toUInt32 >>> ((6 : Int32) &&& 31).toUInt32).toInt32)
def own_bit (q : Int32) : Int64 := ((1 : Int64) <<< (q &&& 0x3f).toInt64)
def own_C (n : Int32) (f : Nat → Int64) (q : Int32) : Int32 := if own_w q < n then (if (f (own_w q).toNatClampNeg &&& own_bit q) = (0 : Int64) then (0 : Int32) else (1 : Int32)) else (0 : Int32)
def own_Pos (Z : State) (h : Heap) (n0 : Nat) (t : Addr) (g : Int32 → Int32) : Prop :=
  ∃ (wd : Addr) (n : Int32) (lw : Int32) (f : Nat → Int64), Exa Z h t "com/example/concept_reasoner/conceptreasoner/tableau/Positions" ∧ Fld Z h t "com/example/concept_reasoner/conceptreasoner/tableau/Positions" "words" "[J" (.ref wd) ∧ Fld Z h t "com/example/concept_reasoner/conceptreasoner/tableau/Positions" "low" "I" (.int lw) ∧ Arf Z h wd .long n (fun i => Value.long (f i)) ∧ t ≠ wd ∧ n0 ≤ wd ∧ 1 ≤ n.toInt ∧ ∀ q, own_C n f q = g q
theorem own_arf_arv {Z : State} {h : Heap} {a : Addr} {n : Int32} {f : Nat → Int64} (F : Arf Z h a .long n (fun i => Value.long (f i))) : ∃ k, Arv Z h a k .long n ((List.range n.toNatClampNeg).map fun i => Value.long (f i)) (.long 0) := by
  obtain ⟨c, A, S, M, H⟩ := F
  have e : ∀ i, i < c.slots.size → ((List.range n.toNatClampNeg).map fun i => Value.long (f i)).getD i (.long 0) = Value.long (f i) := fun i hi => by
    rw [S] at hi; simp [List.getD_eq_getElem?_getD, hi]
  exact ⟨c.cls, c, A, rfl, S, M, fun i hi => by rw [e i hi]; exact H i (by rw [← S]; exact hi), fun i hi => by rw [e i hi]; rfl⟩
theorem own_min_lt {n k : Int32} (h : n < k) : FMin n k = n := by
  unfold FMin; rw [if_neg]; rw [Int32.lt_iff_toInt_lt] at h ⊢; omega
theorem own_ltx {n k : Int32} (h : n < k) : n.toNatClampNeg ≤ k.toNatClampNeg := by
  rw [Int32.lt_iff_toInt_lt] at h; simp only [Int32.toNatClampNeg]; omega
theorem own_nn0 {n k : Int32} (h : n < k) (h0 : ¬ n < 0) : ¬ FMin n k < 0 := by rw [own_min_lt h]; exact h0
theorem own_nn1 {n k : Int32} (h : n < k) : (0 : Int32).toNatClampNeg + (FMin n k).toNatClampNeg ≤ n.toNatClampNeg := by rw [own_min_lt h]; simp
theorem own_nn2 {n k : Int32} (h : n < k) : (0 : Int32).toNatClampNeg + (FMin n k).toNatClampNeg ≤ k.toNatClampNeg := by rw [own_min_lt h]; have := own_ltx h; simpa using this
theorem own_nn3 {n k : Int32} {f : Nat → Value} (h : n < k) : (0 : Int32).toNatClampNeg + (FMin n k).toNatClampNeg ≤ ((List.range k.toNatClampNeg).map f).length := by rw [own_min_lt h]; have := own_ltx h; simpa using this
theorem own_nn4 {n k : Int32} (h : n < k) (h0 : ¬ n < 0) : ¬ k < 0 := by
  rw [Int32.lt_iff_toInt_lt] at h h0 ⊢; omega
theorem own_ne_of_lt {n k : Int32} (h : n < k) : ¬ k = n := by
  intro e; subst e; rw [Int32.lt_iff_toInt_lt] at h; omega
theorem own_copied {Z : State} {h : Heap} {b : Addr} {kc : ClassId} {n k : Int32} {f : Nat → Int64} (hlt : n < k)
    (B : Arv Z h b kc .long k (((List.range k.toNatClampNeg).map fun _ => Value.long 0).take (0 : Int32).toNatClampNeg ++ (List.range (FMin n k).toNatClampNeg).map (fun i => ((List.range n.toNatClampNeg).map fun i => Value.long (f i)).getD ((0 : Int32).toNatClampNeg + i) (.long 0)) ++ ((List.range k.toNatClampNeg).map fun _ => Value.long 0).drop ((0 : Int32).toNatClampNeg + (FMin n k).toNatClampNeg)) (.long 0)) :
    Arf Z h b .long k (fun i => Value.long (if i < n.toNatClampNeg then f i else 0)) := by
  obtain ⟨c, A, -, S, M, H, -⟩ := B
  refine ⟨c, A, S, M, fun i hi => ?_⟩
  rw [H i (by rw [S]; exact hi), own_min_lt hlt]
  have hle := own_ltx hlt
  have z0 : (0 : Int32).toNatClampNeg = 0 := rfl
  congr 1
  rw [z0]
  simp only [List.take_zero, List.nil_append, Nat.zero_add, List.getD_eq_getElem?_getD]
  by_cases u : i < n.toNatClampNeg
  · rw [List.getElem?_append_left (by simpa using u)]
    simp [u]
  · rw [List.getElem?_append_right (by simpa using u)]
    simp only [List.map_const', List.length_range, List.drop_replicate, List.getElem?_replicate, u, if_false]
    split <;> rfl
def own_s (q : Int32) : Nat := q.toBitVec.toNat % 64
theorem own_w_n (q : Int32) : (own_w q).toInt = ((q.toBitVec.toNat / 64 : Nat) : Int) := by
  have hb := q.toBitVec.isLt
  have e1 : (own_w q).toBitVec.toNat = q.toBitVec.toNat / 64 := by
    show ((q.toUInt32 >>> ((6 : Int32) &&& 31).toUInt32).toInt32).toBitVec.toNat = _
    simp only [UInt32.toBitVec_toInt32, UInt32.toBitVec_shiftRight, Int32.toBitVec_toUInt32]
    rw [show (((6 : Int32) &&& 31).toBitVec % 32) = 6#32 from by decide]
    simp [BitVec.toNat_ushiftRight, Nat.shiftRight_eq_div_pow]
  have e2 : (own_w q).toInt = (own_w q).toBitVec.toInt := rfl
  rw [e2, BitVec.toInt_eq_toNat_cond, e1, if_pos (by omega)]
theorem own_w_x (q : Int32) : (own_w q).toNatClampNeg = q.toBitVec.toNat / 64 := by
  simp only [Int32.toNatClampNeg]; rw [own_w_n]; omega
theorem own_w0 (q : Int32) : ¬ own_w q < 0 := by
  rw [Int32.lt_iff_toInt_lt, own_w_n]; show ¬ _ < (0 : Int); omega
theorem own_split {p q : Int32} (h1 : (own_w q).toNatClampNeg = (own_w p).toNatClampNeg) (h2 : own_s q = own_s p) : q = p := by
  rw [own_w_x, own_w_x] at h1
  unfold own_s at h2
  have : q.toBitVec.toNat = p.toBitVec.toNat := by omega
  exact Int32.toBitVec_inj.mp (BitVec.eq_of_toNat_eq this)
theorem own_sh_small : ∀ k : Fin 64, ((Int32.ofNat k.val).toInt64.toBitVec.smod 64).toNat = k.val := by decide +kernel
theorem own_mask_s (q : Int32) : (q &&& 0x3f) = Int32.ofNat (own_s q) := by
  apply Int32.toBitVec_inj.mp
  apply BitVec.eq_of_toNat_eq
  have e1 : (q &&& 0x3f).toBitVec.toNat = q.toBitVec.toNat % 64 := by
    show (q.toBitVec &&& 63#32).toNat = _
    rw [BitVec.toNat_and]
    exact Nat.and_two_pow_sub_one_eq_mod _ 6
  rw [e1]
  show _ = (BitVec.ofNat 32 (own_s q)).toNat
  rw [BitVec.toNat_ofNat]; unfold own_s; omega
theorem own_sh (q : Int32) : ((q &&& 0x3f).toInt64.toBitVec.smod 64).toNat = own_s q := by
  rw [own_mask_s]
  exact own_sh_small ⟨own_s q, Nat.mod_lt _ (by decide)⟩
theorem own_bit_v (q : Int32) : (own_bit q).toBitVec = BitVec.twoPow 64 (own_s q) := by
  show (1#64 <<< ((q &&& 0x3f).toInt64.toBitVec.smod 64)) = _
  rw [BitVec.shiftLeft_eq', own_sh]; rfl
theorem own_bit_at (p : Int32) (j : Nat) (hj : j < 64) : (own_bit p).toBitVec.getLsbD j = decide (own_s p = j) := by
  rw [own_bit_v, BitVec.getLsbD_twoPow]; simp [hj]; omega
theorem own_s_lt (q : Int32) : own_s q < 64 := Nat.mod_lt _ (by decide)
theorem own_test (y : Int64) (q : Int32) : (y &&& own_bit q) = 0 ↔ y.toBitVec.getLsbD (own_s q) = false := by
  rw [← Int64.toBitVec_inj]
  show (y.toBitVec &&& (own_bit q).toBitVec) = 0#64 ↔ _
  rw [own_bit_v, BitVec.and_twoPow]
  have hs := own_s_lt q
  cases h : y.toBitVec.getLsbD (own_s q)
  · simp
  · simp only [if_true]
    constructor
    · intro e
      have := congrArg (fun v => BitVec.getLsbD v (own_s q)) e
      simp [BitVec.getLsbD_twoPow, hs] at this
    · intro e; cases e
theorem own_test_or (y : Int64) (p q : Int32) : ((y ||| own_bit p) &&& own_bit q) = 0 ↔ ((y &&& own_bit q) = 0 ∧ ¬ own_s p = own_s q) := by
  rw [own_test, own_test]
  show (y.toBitVec ||| (own_bit p).toBitVec).getLsbD _ = false ↔ _
  rw [BitVec.getLsbD_or, own_bit_at p _ (own_s_lt q)]; simp
theorem own_test_rm (y : Int64) (p q : Int32) : ((y &&& (own_bit p ^^^ (-1 : Int64))) &&& own_bit q) = 0 ↔ ((y &&& own_bit q) = 0 ∨ own_s p = own_s q) := by
  rw [own_test, own_test]
  show (y.toBitVec &&& ((own_bit p).toBitVec ^^^ (-1 : Int64).toBitVec)).getLsbD _ = false ↔ _
  rw [BitVec.getLsbD_and, BitVec.getLsbD_xor, own_bit_at p _ (own_s_lt q), show (-1 : Int64).toBitVec = BitVec.allOnes 64 from by decide, BitVec.getLsbD_allOnes]
  have := own_s_lt q
  by_cases h : own_s p = own_s q <;> simp [h, this]
theorem own_C0 : ∀ q, own_C 1 (fun _ => 0) q = (fun _ => (0 : Int32)) q := fun q => by
  show own_C 1 (fun _ => 0) q = 0
  have e : ((0 : Int64) &&& own_bit q) = 0 := by rw [own_test]; show (0#64).getLsbD _ = false; simp
  show (if own_w q < 1 then (if ((0 : Int64) &&& own_bit q) = 0 then (0 : Int32) else 1) else 0) = 0
  rw [if_pos e]; split <;> rfl
theorem own_rem {vn : Int32} {vf : Nat → Int64} {vg : Int32 → Int32} {vp : Int32} (hn : own_w vp < vn) (hG : ∀ q, own_C vn vf q = vg q) :
    ∀ q, own_C vn (fun i => if i = (own_w vp).toNatClampNeg then (vf (own_w vp).toNatClampNeg &&& (own_bit vp ^^^ (-1 : Int64))) else vf i) q = (fun q => if q = vp then (0 : Int32) else vg q) q := fun q => by
  show _ = if q = vp then (0 : Int32) else vg q
  rw [← hG q]
  unfold own_C
  by_cases hq : q = vp
  · subst hq
    rw [if_pos hn, if_pos rfl]
    refine if_pos ?_
    show ((if (own_w q).toNatClampNeg = (own_w q).toNatClampNeg then _ else _) &&& own_bit q) = 0
    rw [if_pos rfl]; exact (own_test_rm _ _ _).mpr (Or.inr rfl)
  · rw [if_neg hq]
    by_cases hw : (own_w q).toNatClampNeg = (own_w vp).toNatClampNeg
    · have hs : ¬ own_s vp = own_s q := fun e => hq (own_split hw e.symm)
      have e : (((fun i => if i = (own_w vp).toNatClampNeg then (vf (own_w vp).toNatClampNeg &&& (own_bit vp ^^^ (-1 : Int64))) else vf i) (own_w q).toNatClampNeg) &&& own_bit q = 0) ↔ (vf (own_w q).toNatClampNeg &&& own_bit q = 0) := by
        show ((if (own_w q).toNatClampNeg = (own_w vp).toNatClampNeg then _ else _) &&& own_bit q = 0) ↔ _
        rw [if_pos hw, own_test_rm, ← hw]; simp [hs]
      simp only [e]
    · have e : (fun i => if i = (own_w vp).toNatClampNeg then (vf (own_w vp).toNatClampNeg &&& (own_bit vp ^^^ (-1 : Int64))) else vf i) (own_w q).toNatClampNeg = vf (own_w q).toNatClampNeg := if_neg hw
      simp only [e]
theorem own_rem0 {vn : Int32} {vf : Nat → Int64} {vg : Int32 → Int32} {vp : Int32} (hn : ¬ own_w vp < vn) (hG : ∀ q, own_C vn vf q = vg q) : ∀ q, own_C vn vf q = (fun q => if q = vp then (0 : Int32) else vg q) q := fun q => by
  show _ = if q = vp then (0 : Int32) else vg q
  by_cases hq : q = vp
  · subst hq; rw [if_pos rfl]; exact if_neg hn
  · rw [if_neg hq]; exact hG q
theorem own_add {vn : Int32} {vf : Nat → Int64} {vg : Int32 → Int32} {vp : Int32} (hn : own_w vp < vn) (hG : ∀ q, own_C vn vf q = vg q) :
    ∀ q, own_C vn (fun i => if i = (own_w vp).toNatClampNeg then (vf (own_w vp).toNatClampNeg ||| own_bit vp) else vf i) q = (fun q => if q = vp then (1 : Int32) else vg q) q := fun q => by
  show _ = if q = vp then (1 : Int32) else vg q
  rw [← hG q]
  unfold own_C
  by_cases hq : q = vp
  · subst hq
    rw [if_pos hn, if_pos rfl]
    refine if_neg ?_
    show ¬ ((if (own_w q).toNatClampNeg = (own_w q).toNatClampNeg then _ else _) &&& own_bit q) = 0
    rw [if_pos rfl, own_test_or]; simp
  · rw [if_neg hq]
    by_cases hw : (own_w q).toNatClampNeg = (own_w vp).toNatClampNeg
    · have hs : ¬ own_s vp = own_s q := fun e => hq (own_split hw e.symm)
      have e : (((fun i => if i = (own_w vp).toNatClampNeg then (vf (own_w vp).toNatClampNeg ||| own_bit vp) else vf i) (own_w q).toNatClampNeg) &&& own_bit q = 0) ↔ (vf (own_w q).toNatClampNeg &&& own_bit q = 0) := by
        show ((if (own_w q).toNatClampNeg = (own_w vp).toNatClampNeg then _ else _) &&& own_bit q = 0) ↔ _
        rw [if_pos hw, own_test_or, ← hw]; simp [hs]
      simp only [e]
    · have e : (fun i => if i = (own_w vp).toNatClampNeg then (vf (own_w vp).toNatClampNeg ||| own_bit vp) else vf i) (own_w q).toNatClampNeg = vf (own_w q).toNatClampNeg := if_neg hw
      simp only [e]
theorem own_grow {vn vp : Int32} (hp : (own_w vp).toInt ≤ 15) (hb : ¬ own_w vp < vn) (hn1 : 1 ≤ vn.toInt) : vn.toInt < (FMax ((2 : Int32) * vn) (own_w vp + (1 : Int32))).toInt ∧ (own_w vp).toInt < (FMax ((2 : Int32) * vn) (own_w vp + (1 : Int32))).toInt ∧ (FMax ((2 : Int32) * vn) (own_w vp + (1 : Int32))).toInt ≤ 30 := by
  rw [Int32.lt_iff_toInt_lt] at hb
  have e2 : (2 : Int32).toInt = 2 := rfl
  have e1 : (1 : Int32).toInt = 1 := rfl
  have a : ((2 : Int32) * vn).toInt = (2 : Int32).toInt * vn.toInt := Jvm.Kit.i32_mul (by rw [e2]; omega) (by rw [e2]; omega)
  have b : (own_w vp + (1 : Int32)).toInt = (own_w vp).toInt + (1 : Int32).toInt := Jvm.Kit.i32_add (by rw [e1]; omega) (by rw [e1]; omega)
  rw [e2] at a; rw [e1] at b
  unfold FMax
  by_cases h : ((2 : Int32) * vn) < (own_w vp + (1 : Int32))
  · rw [if_pos h]; rw [Int32.lt_iff_toInt_lt] at h; omega
  · rw [if_neg h]; rw [Int32.lt_iff_toInt_lt] at h; omega
theorem own_grow0 {vn vp : Int32} (hp : (own_w vp).toInt ≤ 15) (hb : ¬ own_w vp < vn) (hn1 : 1 ≤ vn.toInt) : vn < FMax ((2 : Int32) * vn) (own_w vp + (1 : Int32)) := Int32.lt_iff_toInt_lt.mpr (own_grow hp hb hn1).1
theorem own_grow1 {vn vp : Int32} (hp : (own_w vp).toInt ≤ 15) (hb : ¬ own_w vp < vn) (hn1 : 1 ≤ vn.toInt) : 1 ≤ (FMax ((2 : Int32) * vn) (own_w vp + (1 : Int32))).toInt := by
  have := (own_grow hp hb hn1).1; omega
theorem own_grow2 {vn vp : Int32} (hp : (own_w vp).toInt ≤ 15) (hb : ¬ own_w vp < vn) (hn1 : 1 ≤ vn.toInt) : own_w vp < FMax ((2 : Int32) * vn) (own_w vp + (1 : Int32)) := Int32.lt_iff_toInt_lt.mpr (own_grow hp hb hn1).2.1
theorem own_grow3 {vn vp : Int32} (hp : (own_w vp).toInt ≤ 15) (hb : ¬ own_w vp < vn) (hn1 : 1 ≤ vn.toInt) : (FMax ((2 : Int32) * vn) (own_w vp + (1 : Int32))).toNatClampNeg ≤ 30 := by
  have := (own_grow hp hb hn1).2.2; simp only [Int32.toNatClampNeg]; omega
theorem own_growC {vn vk : Int32} {vf : Nat → Int64} {vg : Int32 → Int32} (hlt : vn < vk) (hG : ∀ q, own_C vn vf q = vg q) : ∀ q, own_C vk (fun i => if i < vn.toNatClampNeg then vf i else 0) q = vg q := fun q => by
  rw [← hG q]
  unfold own_C
  by_cases h : own_w q < vn
  · have hk : own_w q < vk := by rw [Int32.lt_iff_toInt_lt] at h hlt ⊢; omega
    have hx : (own_w q).toNatClampNeg < vn.toNatClampNeg := by
      have h0 := own_w0 q
      rw [Int32.lt_iff_toInt_lt] at h h0; simp only [Int32.toNatClampNeg]
      have : (0 : Int32).toInt = 0 := rfl
      omega
    rw [if_pos h, if_pos hk]
    simp only [hx, if_true]
  · have hx : ¬ (own_w q).toNatClampNeg < vn.toNatClampNeg := by
      have h0 := own_w0 q
      rw [Int32.lt_iff_toInt_lt] at h h0; simp only [Int32.toNatClampNeg]
      have : (0 : Int32).toInt = 0 := rfl
      omega
    rw [if_neg h]
    have e : ((0 : Int64) &&& own_bit q) = 0 := by rw [own_test]; show (0#64).getLsbD _ = false; simp
    simp only [hx, if_false, e, if_true, ite_self]
theorem own_add2 {vn : Int32} {vf : Nat → Int64} {vg : Int32 → Int32} {vp : Int32} (hp : (own_w vp).toInt ≤ 15) (hb : ¬ own_w vp < vn) (hn1 : 1 ≤ vn.toInt) (hG : ∀ q, own_C vn vf q = vg q) :
    ∀ q, own_C (FMax ((2 : Int32) * vn) (own_w vp + (1 : Int32))) (fun i => if i = (own_w vp).toNatClampNeg then ((fun i => if i < vn.toNatClampNeg then vf i else 0) (own_w vp).toNatClampNeg ||| own_bit vp) else (fun i => if i < vn.toNatClampNeg then vf i else 0) i) q = (fun q => if q = vp then (1 : Int32) else vg q) q :=
  own_add (vf := fun i => if i < vn.toNatClampNeg then vf i else 0) (own_grow2 hp hb hn1) (own_growC (own_grow0 hp hb hn1) hG)

theorem pd_0 : parseMethodDescriptor "(II)I" = some ⟨[.int, .int], some .int⟩ := by decide +kernel
theorem d8_0 : decode jdk_65_method_124_code 0 = .ok (.iload_n 1, 1) := by decide +kernel
theorem d8_1 : decode jdk_65_method_124_code 1 = .ok (.aload_n 0, 1) := by decide +kernel
theorem d8_2 : decode jdk_65_method_124_code 2 = .ok (.arraylength, 1) := by decide +kernel
theorem d8_3 : decode jdk_65_method_124_code 3 = .ok (.if_icmp .ne 11, 3) := by decide +kernel
theorem d8_14 : decode jdk_65_method_124_code 14 = .ok (.iload_n 1, 1) := by decide +kernel
theorem d8_15 : decode jdk_65_method_124_code 15 = .ok (.newarray .long, 2) := by decide +kernel
theorem d8_17 : decode jdk_65_method_124_code 17 = .ok (.astore_n 2, 1) := by decide +kernel
theorem d8_18 : decode jdk_65_method_124_code 18 = .ok (.aload_n 0, 1) := by decide +kernel
theorem d8_19 : decode jdk_65_method_124_code 19 = .ok (.iconst 0, 1) := by decide +kernel
theorem d8_20 : decode jdk_65_method_124_code 20 = .ok (.aload_n 2, 1) := by decide +kernel
theorem d8_21 : decode jdk_65_method_124_code 21 = .ok (.iconst 0, 1) := by decide +kernel
theorem d8_22 : decode jdk_65_method_124_code 22 = .ok (.aload_n 0, 1) := by decide +kernel
theorem d8_23 : decode jdk_65_method_124_code 23 = .ok (.arraylength, 1) := by decide +kernel
theorem d8_24 : decode jdk_65_method_124_code 24 = .ok (.iload_n 1, 1) := by decide +kernel
theorem d8_25 : decode jdk_65_method_124_code 25 = .ok (.invokestatic 304, 3) := by decide +kernel
theorem d8_28 : decode jdk_65_method_124_code 28 = .ok (.invokestatic 150, 3) := by decide +kernel
theorem d8_31 : decode jdk_65_method_124_code 31 = .ok (.aload_n 2, 1) := by decide +kernel
theorem d8_32 : decode jdk_65_method_124_code 32 = .ok (.areturn, 1) := by decide +kernel
theorem pn_8 : plainName "java/util/Arrays" = true := by first | (simp [plainName, overriddenIn]; done) | decide +kernel
theorem ef_8 (m : MethodId) (va : Addr) (vk : Int32) : entryFrame m #[(.ref va), (.int vk)] 3 = mkF m 0 #[.val (.ref va), .val (.int vk), .unset] [] := by first | (simp [entryFrame, mkF, argsToLocals, Value.category]; done) | rfl
def Q8 (Z : State) (va : Addr) (vk : Int32) (vn : Int32) (vf : Nat → Int64) (h0 : Heap) (n0 : Nat) (v : Option Value) (h : Heap) (L : List Loc) : Prop := ∃ b : Addr, v = some (.ref b) ∧ Fr n0 L ∧ n0 ≤ b ∧ h0.size ≤ b ∧ Keep h0 h [] ∧ Arf Z h b .long vk (fun i => Value.long (if i < vn.toNatClampNeg then vf i else 0))
set_option maxRecDepth 65536 in
set_option maxHeartbeats 40000000 in
theorem rm8 (l : Launch) (Z : State) (a0 : Array Value) (hw : ∀ d ∈ tables_1, d.before a0 Z = true) (ws : List Jvm.Cond) (va : Addr) (vk : Int32) (vn : Int32) (vf : Nat → Int64) (h0 : Heap) (n0 : Nat) (Z0 : n0 ≤ h0.size) (V_va : Arf Z h0 va .long vn (fun i => Value.long (vf i))) (hlt : vn < vk) (hcap : vk.toNatClampNeg ≤ 30) :
    MetFree l (⟨"java/util/Arrays", "copyOf", "([JI)[J"⟩ : MethodName) (head1 (Jvm.Cond.code (⟨"java/util/Arrays", "copyOf", "([JI)[J"⟩ : MethodName) jdk_65_method_124_code 3 (some (.array .long)) :: ws) ({ frames := 1, cells := 1, slots := 30, locals := 18 } : Room)) (fun a U => a = #[(.ref va), (.int vk)] ∧ Z.Warmed39 U.vm ∧ U.heap = h0) (fun _ _ _ _ _ => True) (fun _ U o U' => ∃ v L, o = .returned v ∧ Q8 Z va vk vn vf h0 n0 v U'.heap L ∧ FrameEnd U o U' L ({ frames := 1, cells := 1, slots := 30, locals := 18 } : Room).cells ({ frames := 1, cells := 1, slots := 30, locals := 18 } : Room).slots) := by
  refine MetFree.of_bodySF (plainFor_of_name pn_8) hisR ?_
  intro p e s m args below meth c s₁ Bd hml0 hP hK
  obtain ⟨rfl, hZ, hh⟩ := hP
  have hx := Bd.exec
  have hby := Bd.bytes
  have hml : c.maxLocals = 3 := hml0
  have hown : s.vm.findClass "java/util/Arrays" = some m.cls := findClass_of_methodNamed Bd.named
  have hnm := (name_of_methodNamed Bd.named Bd.method).1
  have X0 : Stand p l e ({ frames := 1, cells := 1, slots := 30, locals := 18 } : Room) s m #[(.ref va), (.int vk)] below meth c s₁ [] 0 0 := Stand.of_body Bd
  have e0 : s₁.heap = h0 := by rw [← hh, Bd.state]; rfl
  have N0 := Fr.nil n0
  have pre0 : ∀ t, Steps p.tables e below (s₁.setTop (mkF m 0 #[.val (.ref va), .val (.int vk), .unset] [])) t → Steps p.tables e below (s₁.setTop (entryFrame m #[(.ref va), (.int vk)] 3)) t := fun t k => castTop (ef_8 m va vk) k
  have K0 := Keep.refl h0 []
  have M0 : ¬ vn < 0 := by obtain ⟨_, _, _, M, _⟩ := V_va; exact M
  have Vo1 := V_va
  obtain ⟨cl1, Ar1, S1, M1, H1⟩ := Vo1
  obtain ⟨T2, h2, k2, X2, e2, E2, A2, st2⟩ := newP X0 hx hZ (hw _ (List.mem_of_getElem? (i := 9) rfl)) e0 (g := (mkF m 15 #[.val (.ref va), .val (.int vk), .unset] [(.int vk)])) rfl (hb hby d8_15) rfl (own_nn4 hlt M0) (cap := 30) hcap (by decide) (by decide) (by decide)
  obtain ⟨b2, g2⟩ : ∃ z, z = h0.size := ⟨_, rfl⟩
  rw [← g2] at A2 st2
  have ne_va_b2 : va ≠ b2 := Nat.ne_of_lt (Nat.lt_of_lt_of_le V_va.lt (Nat.le_of_eq g2.symm))
  have g_b2 : n0 ≤ b2 := Nat.le_trans Z0 (Nat.le_of_eq g2.symm)
  have sz_b2 : h0.size ≤ b2 := Nat.le_trans K0.1 (Nat.le_of_eq g2.symm)
  have Z3 : n0 ≤ h2.size := Nat.le_trans Z0 E2.1
  have V4_va := V_va.ext E2
  have K2 := K0.ext E2
  have V_b2 : Arf Z h2 b2 .long vk (fun _ => Value.long (0 : Int64)) := own_arf_new A2 (own_nn4 hlt M0)
  have Vo5 := V4_va
  obtain ⟨cl5, Ar5, S5, M5, H5⟩ := Vo5
  obtain ⟨_, _, ⟨T6, L6, k6, n6⟩, -, X6, ⟨Lc6, hQ6, l6, y6, z6⟩, st6⟩ := Jvm.LawKit.callS X2 hx (y := (⟨"java/lang/Math", "min", "(II)I"⟩ : MethodName)) hown (mvT hZ (hw _ (List.mem_of_getElem? (i := 41) rfl))) (mvT hZ (hw _ (List.mem_of_getElem? (i := 25) rfl))) (mvT hZ (hw _ (List.mem_of_getElem? (i := 26) rfl))) (mvT hZ (hw _ (List.mem_of_getElem? (i := 27) rfl))) (by decide) (backOf (W := 4) (rm5 l Z a0 hw [] vn vk  h2 n0 Z3 ) hZ (hw _ (List.mem_of_getElem? (i := 27) rfl)) (hw _ (List.mem_of_getElem? (i := 26) rfl)) (by decide) (by decide)) (g := (mkF m 25 #[.val (.ref va), .val (.int vk), .val (.ref b2)] [(.int vk), (.int vn), (.int (0 : Int32)), (.ref b2), (.int (0 : Int32)), (.ref va)])) rfl (by rw [hml]; rfl) (argsL := [(.int vn), (.int vk)]) (rest := [(.int (0 : Int32)), (.ref b2), (.int (0 : Int32)), (.ref va)]) (lenOf pd_0 rfl) rfl (by show 2 * 0 + _ ≤ _; exact Nat.le_of_eq rfl) (hb hby d8_25) (fun _ _ => ⟨rfl, e2, (by decide : 1 + 0 ≤ _), (by decide : 30 + 0 ≤ _)⟩)
  dsimp only [Pt.U, Pt.locs, Pt.cells, Pt.slots] at X6 l6 y6 z6 st6 hQ6
  subst l6 y6 z6
  obtain ⟨rfl, N6q, e6⟩ := hQ6
  have N6 := Fr.app N0 N6q
  obtain ⟨ka7, Aa7⟩ := own_arf_arv V4_va
  obtain ⟨kb7, Ab7⟩ := own_arf_arv V_b2
  obtain ⟨T7, h7, L7, X7, e7, N7, K7, B7, st7⟩ := cpA X6 hx hZ hown (hw _ (List.mem_of_getElem? (i := 42) rfl)) (hw _ (List.mem_of_getElem? (i := 45) rfl)) (hw _ (List.mem_of_getElem? (i := 43) rfl)) (hw _ (List.mem_of_getElem? (i := 44) rfl)) e6 Aa7 Ab7 (Or.inl ⟨rfl, rfl⟩) (sp := 0) (dp := 0) (nn := (FMin vn vk)) (by decide) (by decide) (own_nn0 hlt M0) (own_nn1 hlt) (own_nn2 hlt) rfl (own_nn3 hlt) N6 g_b2 (g := (mkF m 28 #[.val (.ref va), .val (.int vk), .val (.ref b2)] [(.int (FMin vn vk)), (.int (0 : Int32)), (.ref b2), (.int (0 : Int32)), (.ref va)])) rfl (by rw [hml]; rfl) rfl (hb hby d8_28) (by decide) (W := 0) (by show 2 * 0 + _ ≤ _; exact Nat.le_of_eq rfl) (by decide)
  have Kz7 := K2.trans K7 (allS (Or.inr sz_b2) all0)
  have Vz7 := own_copied hlt B7
  obtain ⟨fs, hr, hrun, hended, hW, hsame⟩ := X7.leave (v := some (.ref b2)) (fun h => by rw [Bd.returns] at h; cases h)
  refine ⟨_, _, pre0 _ ?_, hrun, hended, _, _, rfl, ?_, ⟨_, rfl⟩, hW, hsame.mono (by decide) (by decide)⟩
  · show Steps p.tables e below (s₁.setTop (mkF m 0 #[.val (.ref va), .val (.int vk), .unset] [])) _
    refine XS.iloadN X0.here hx rfl (hb hby d8_0) rfl ?_
    show Steps p.tables e below (s₁.setTop (mkF m 1 #[.val (.ref va), .val (.int vk), .unset] [(.int vk)])) _
    refine XS.aloadN X0.here hx rfl (hb hby d8_1) rfl rfl ?_
    show Steps p.tables e below (s₁.setTop (mkF m 2 #[.val (.ref va), .val (.int vk), .unset] [(.ref va), (.int vk)])) _
    refine X0.arraylength hx (by rw [e0]; exact Ar1.1) (State.isArrayOf_alike hZ.alike Ar1.2.1) (g := (mkF m 2 #[.val (.ref va), .val (.int vk), .unset] [(.ref va), (.int vk)])) rfl rfl (hb hby d8_2) _ ?_
    rw [len_of S1 M1]
    show Steps p.tables e below (s₁.setTop (mkF m 3 #[.val (.ref va), .val (.int vk), .unset] [(.int vn), (.int vk)])) _
    refine XS.icmpYes X0.here hx rfl (pc0 := 3) (pc' := 14) rfl (hb hby d8_3) rfl (feq (own_ne_of_lt hlt : ¬ (vk = vn))).2 (by decide) (by decide) ?_
    show Steps p.tables e below (s₁.setTop (mkF m 14 #[.val (.ref va), .val (.int vk), .unset] [])) _
    refine XS.iloadN X0.here hx rfl (hb hby d8_14) rfl ?_
    show Steps p.tables e below (s₁.setTop (mkF m 15 #[.val (.ref va), .val (.int vk), .unset] [(.int vk)])) _
    refine st2 _ ?_
    show Steps p.tables e below (T2.setTop (mkF m 17 #[.val (.ref va), .val (.int vk), .unset] [(.ref b2)])) _
    refine XS.astoreN X2.here hx rfl (hb hby d8_17) rfl rfl (l' := #[.val (.ref va), .val (.int vk), .val (.ref b2)]) rfl ?_
    show Steps p.tables e below (T2.setTop (mkF m 18 #[.val (.ref va), .val (.int vk), .val (.ref b2)] [])) _
    refine XS.aloadN X2.here hx rfl (hb hby d8_18) rfl rfl ?_
    show Steps p.tables e below (T2.setTop (mkF m 19 #[.val (.ref va), .val (.int vk), .val (.ref b2)] [(.ref va)])) _
    refine XS.iconst X2.here hx rfl (hb hby d8_19) ?_
    show Steps p.tables e below (T2.setTop (mkF m 20 #[.val (.ref va), .val (.int vk), .val (.ref b2)] [(.int (0 : Int32)), (.ref va)])) _
    refine XS.aloadN X2.here hx rfl (hb hby d8_20) rfl rfl ?_
    show Steps p.tables e below (T2.setTop (mkF m 21 #[.val (.ref va), .val (.int vk), .val (.ref b2)] [(.ref b2), (.int (0 : Int32)), (.ref va)])) _
    refine XS.iconst X2.here hx rfl (hb hby d8_21) ?_
    show Steps p.tables e below (T2.setTop (mkF m 22 #[.val (.ref va), .val (.int vk), .val (.ref b2)] [(.int (0 : Int32)), (.ref b2), (.int (0 : Int32)), (.ref va)])) _
    refine XS.aloadN X2.here hx rfl (hb hby d8_22) rfl rfl ?_
    show Steps p.tables e below (T2.setTop (mkF m 23 #[.val (.ref va), .val (.int vk), .val (.ref b2)] [(.ref va), (.int (0 : Int32)), (.ref b2), (.int (0 : Int32)), (.ref va)])) _
    refine X2.arraylength hx (by rw [e2]; exact Ar5.1) (State.isArrayOf_alike hZ.alike Ar5.2.1) (g := (mkF m 23 #[.val (.ref va), .val (.int vk), .val (.ref b2)] [(.ref va), (.int (0 : Int32)), (.ref b2), (.int (0 : Int32)), (.ref va)])) rfl rfl (hb hby d8_23) _ ?_
    rw [len_of S5 M5]
    show Steps p.tables e below (T2.setTop (mkF m 24 #[.val (.ref va), .val (.int vk), .val (.ref b2)] [(.int vn), (.int (0 : Int32)), (.ref b2), (.int (0 : Int32)), (.ref va)])) _
    refine XS.iloadN X2.here hx rfl (hb hby d8_24) rfl ?_
    show Steps p.tables e below (T2.setTop (mkF m 25 #[.val (.ref va), .val (.int vk), .val (.ref b2)] [(.int vk), (.int vn), (.int (0 : Int32)), (.ref b2), (.int (0 : Int32)), (.ref va)])) _
    refine st6 _ ?_
    show Steps p.tables e below (T6.setTop (mkF m 28 #[.val (.ref va), .val (.int vk), .val (.ref b2)] [(.int (FMin vn vk)), (.int (0 : Int32)), (.ref b2), (.int (0 : Int32)), (.ref va)])) _
    refine st7 _ ?_
    show Steps p.tables e below (T7.setTop (mkF m 31 #[.val (.ref va), .val (.int vk), .val (.ref b2)] [])) _
    refine XS.aloadN X7.here hx rfl (hb hby d8_31) rfl rfl ?_
    show Steps p.tables e below (T7.setTop (mkF m 32 #[.val (.ref va), .val (.int vk), .val (.ref b2)] [(.ref b2)])) _
    jvm_step X7.here [X7.here.top, hx, (hb hby d8_32), X7.method', Bd.returns, Value.isRef, FieldType.isReference]
    first | (intro acts; rw [hr _ acts rfl rfl rfl]) | rw [hr _ _ rfl rfl rfl]
    exact Steps.refl _
  · show Q8 Z va vk vn vf h0 n0 _ T7.heap _
    rw [e7]
    exact ⟨b2, rfl, N7, g_b2, sz_b2, Kz7, Vz7⟩
theorem d1_0 : decode prog_42_method_1_code 0 = .ok (.aload_n 0, 1) := by decide +kernel
theorem d1_1 : decode prog_42_method_1_code 1 = .ok (.invokespecial 1, 3) := by decide +kernel
theorem d1_4 : decode prog_42_method_1_code 4 = .ok (.aload_n 0, 1) := by decide +kernel
theorem d1_5 : decode prog_42_method_1_code 5 = .ok (.iconst 1, 1) := by decide +kernel
theorem d1_6 : decode prog_42_method_1_code 6 = .ok (.newarray .long, 2) := by decide +kernel
theorem d1_8 : decode prog_42_method_1_code 8 = .ok (.putfield 7, 3) := by decide +kernel
theorem d1_11 : decode prog_42_method_1_code 11 = .ok (.return_, 1) := by decide +kernel
theorem pn_1 : plainName "com/example/concept_reasoner/conceptreasoner/tableau/Positions" = true := by first | (simp [plainName, overriddenIn]; done) | decide +kernel
theorem ef_1 (m : MethodId) (va : Addr) : entryFrame m #[(.ref va)] 1 = mkF m 0 #[.val (.ref va)] [] := by first | (simp [entryFrame, mkF, argsToLocals, Value.category]; done) | rfl
def Q1 (Z : State) (va : Addr) (h0 : Heap) (n0 : Nat) (v : Option Value) (h : Heap) (L : List Loc) : Prop := v = none ∧ Fr n0 L ∧ n0 ≤ h.size ∧ Exa Z h va "com/example/concept_reasoner/conceptreasoner/tableau/Positions" ∧ own_Pos Z h n0 va (fun _ => (0 : Int32))
set_option maxRecDepth 65536 in
set_option maxHeartbeats 40000000 in
theorem rm1 (l : Launch) (Z : State) (a0 : Array Value) (hw : ∀ d ∈ tables_1, d.before a0 Z = true) (ws : List Jvm.Cond) (va : Addr) (h0 : Heap) (n0 : Nat) (Z0 : n0 ≤ h0.size) (E_va : Exa Z h0 va "com/example/concept_reasoner/conceptreasoner/tableau/Positions") (g_va : n0 ≤ va) (F_va_words : Fld Z h0 va "com/example/concept_reasoner/conceptreasoner/tableau/Positions" "words" "[J" .null) (F_va_low : Fld Z h0 va "com/example/concept_reasoner/conceptreasoner/tableau/Positions" "low" "I" (.int (0 : Int32))) :
    MetFree l (⟨"com/example/concept_reasoner/conceptreasoner/tableau/Positions", "<init>", "()V"⟩ : MethodName) (head1 (Jvm.Cond.code (⟨"com/example/concept_reasoner/conceptreasoner/tableau/Positions", "<init>", "()V"⟩ : MethodName) prog_42_method_1_code 1 none :: ws) ({ frames := 1, cells := 1, slots := 1, locals := 12 } : Room)) (fun a U => a = #[(.ref va)] ∧ Z.Warmed39 U.vm ∧ U.heap = h0) (fun _ _ _ _ _ => True) (fun _ U o U' => ∃ v L, o = .returned v ∧ Q1 Z va h0 n0 v U'.heap L ∧ FrameEnd U o U' L ({ frames := 1, cells := 1, slots := 1, locals := 12 } : Room).cells ({ frames := 1, cells := 1, slots := 1, locals := 12 } : Room).slots) := by
  refine MetFree.of_bodySF (plainFor_of_name pn_1) hisR ?_
  intro p e s m args below meth c s₁ Bd hml0 hP hK
  obtain ⟨rfl, hZ, hh⟩ := hP
  have hx := Bd.exec
  have hby := Bd.bytes
  have hml : c.maxLocals = 1 := hml0
  have hown : s.vm.findClass "com/example/concept_reasoner/conceptreasoner/tableau/Positions" = some m.cls := findClass_of_methodNamed Bd.named
  have hnm := (name_of_methodNamed Bd.named Bd.method).1
  have X0 : Stand p l e ({ frames := 1, cells := 1, slots := 1, locals := 12 } : Room) s m #[(.ref va)] below meth c s₁ [] 0 0 := Stand.of_body Bd
  have e0 : s₁.heap = h0 := by rw [← hh, Bd.state]; rfl
  have N0 := Fr.nil n0
  have pre0 : ∀ t, Steps p.tables e below (s₁.setTop (mkF m 0 #[.val (.ref va)] [])) t → Steps p.tables e below (s₁.setTop (entryFrame m #[(.ref va)] 1)) t := fun t k => castTop (ef_1 m va) k
  obtain ⟨T1, X1, e1, st1⟩ := initO X0 hx hZ hown (hw _ (List.mem_of_getElem? (i := 6) rfl)) (hw _ (List.mem_of_getElem? (i := 7) rfl)) (hw _ (List.mem_of_getElem? (i := 8) rfl)) e0 (g := (mkF m 1 #[.val (.ref va)] [(.ref va)])) rfl (by rw [hml]; rfl) rfl (hb hby d1_1) (by decide) (W := 0) (by show 2 * 0 + _ ≤ _; exact Nat.le_of_eq rfl) (by decide)
  obtain ⟨T2, h2, k2, X2, e2, E2, A2, st2⟩ := newP X1 hx hZ (hw _ (List.mem_of_getElem? (i := 9) rfl)) e1 (g := (mkF m 6 #[.val (.ref va)] [(.int (1 : Int32)), (.ref va)])) rfl (hb hby d1_6) rfl (by decide) (cap := 1) (by decide) (by decide) (by decide) (by decide)
  obtain ⟨b2, g2⟩ : ∃ z, z = h0.size := ⟨_, rfl⟩
  rw [← g2] at A2 st2
  have ne_va_b2 : va ≠ b2 := Nat.ne_of_lt (Nat.lt_of_lt_of_le E_va.lt (Nat.le_of_eq g2.symm))
  have g_b2 : n0 ≤ b2 := Nat.le_trans Z0 (Nat.le_of_eq g2.symm)
  have Z3 : n0 ≤ h2.size := Nat.le_trans Z0 E2.1
  have E4_va := E_va.ext E2
  have F5_va_words := F_va_words.ext E2
  have F6_va_low := F_va_low.ext E2
  have V_b2 : Arf Z h2 b2 .long (1 : Int32) (fun _ => Value.long (0 : Int64)) := own_arf_new A2 (by decide)
  obtain ⟨T7, h7, X7, e7, W7, st7⟩ := putF X2 hx hZ hown (host := "") (Or.inl (hw _ (List.mem_of_getElem? (i := 10) rfl))) Via.refl e2 F5_va_words E4_va (Or.inl (hw _ (List.mem_of_getElem? (i := 11) rfl))) (hw _ (List.mem_of_getElem? (i := 1) rfl)) (ty := (.array .long)) (by decide) rfl rfl (g := (mkF m 8 #[.val (.ref va)] [(.ref b2), (.ref va)])) rfl rfl (hb hby d1_8)
  have Z8 : n0 ≤ h7.size := Nat.le_trans Z3 (Keep.of_wr W7).1
  have E9_va := E4_va.wr W7
  have F11_va_low := F6_va_low.other W7 (Or.inr (slot_ne (Or.inl (hw _ (List.mem_of_getElem? (i := 23) rfl))) (Or.inl (hw _ (List.mem_of_getElem? (i := 11) rfl))) (by decide) (t := .int) (t' := (.array .long)) (by decide) (by decide)))
  have V12_b2 := V_b2.other W7 (Ne.symm ne_va_b2)
  have Fw7 := F5_va_words.same W7
  have N7 := Fr.snoc X7 N0 g_va
  obtain ⟨fs, hr, hrun, hended, hW, hsame⟩ := X7.leave (v := none) (fun _ => rfl)
  refine ⟨_, _, pre0 _ ?_, hrun, hended, _, _, rfl, ?_, ⟨_, rfl⟩, hW, hsame.mono (by decide) (by decide)⟩
  · show Steps p.tables e below (s₁.setTop (mkF m 0 #[.val (.ref va)] [])) _
    refine XS.aloadN X0.here hx rfl (hb hby d1_0) rfl rfl ?_
    show Steps p.tables e below (s₁.setTop (mkF m 1 #[.val (.ref va)] [(.ref va)])) _
    refine st1 _ ?_
    show Steps p.tables e below (T1.setTop (mkF m 4 #[.val (.ref va)] [])) _
    refine XS.aloadN X1.here hx rfl (hb hby d1_4) rfl rfl ?_
    show Steps p.tables e below (T1.setTop (mkF m 5 #[.val (.ref va)] [(.ref va)])) _
    refine XS.iconst X1.here hx rfl (hb hby d1_5) ?_
    show Steps p.tables e below (T1.setTop (mkF m 6 #[.val (.ref va)] [(.int (1 : Int32)), (.ref va)])) _
    refine st2 _ ?_
    show Steps p.tables e below (T2.setTop (mkF m 8 #[.val (.ref va)] [(.ref b2), (.ref va)])) _
    refine st7 _ ?_
    show Steps p.tables e below (T7.setTop (mkF m 11 #[.val (.ref va)] [])) _
    exact X7.returnOut hx Bd.returns (hb hby d1_11) hr
  · show Q1 Z va h0 n0 _ T7.heap _
    rw [e7]
    exact ⟨rfl, N7, Z8, E9_va, ⟨b2, 1, 0, (fun _ => 0), E9_va, Fw7, F11_va_low, V12_b2, ne_va_b2, g_b2, by decide, own_C0⟩⟩
theorem d3_0 : decode prog_42_method_2_code 0 = .ok (.iload_n 1, 1) := by decide +kernel
theorem d3_1 : decode prog_42_method_2_code 1 = .ok (.bipush 6, 2) := by decide +kernel
theorem d3_3 : decode prog_42_method_2_code 3 = .ok (.iushr, 1) := by decide +kernel
theorem d3_4 : decode prog_42_method_2_code 4 = .ok (.istore_n 2, 1) := by decide +kernel
theorem d3_5 : decode prog_42_method_2_code 5 = .ok (.iload_n 2, 1) := by decide +kernel
theorem d3_6 : decode prog_42_method_2_code 6 = .ok (.aload_n 0, 1) := by decide +kernel
theorem d3_7 : decode prog_42_method_2_code 7 = .ok (.getfield 7, 3) := by decide +kernel
theorem d3_10 : decode prog_42_method_2_code 10 = .ok (.arraylength, 1) := by decide +kernel
theorem d3_11 : decode prog_42_method_2_code 11 = .ok (.if_icmp .ge 22, 3) := by decide +kernel
theorem d3_14 : decode prog_42_method_2_code 14 = .ok (.aload_n 0, 1) := by decide +kernel
theorem d3_15 : decode prog_42_method_2_code 15 = .ok (.getfield 7, 3) := by decide +kernel
theorem d3_18 : decode prog_42_method_2_code 18 = .ok (.iload_n 2, 1) := by decide +kernel
theorem d3_19 : decode prog_42_method_2_code 19 = .ok (.laload, 1) := by decide +kernel
theorem d3_20 : decode prog_42_method_2_code 20 = .ok (.lconst 1, 1) := by decide +kernel
theorem d3_21 : decode prog_42_method_2_code 21 = .ok (.iload_n 1, 1) := by decide +kernel
theorem d3_22 : decode prog_42_method_2_code 22 = .ok (.lshl, 1) := by decide +kernel
theorem d3_23 : decode prog_42_method_2_code 23 = .ok (.land, 1) := by decide +kernel
theorem d3_24 : decode prog_42_method_2_code 24 = .ok (.lconst 0, 1) := by decide +kernel
theorem d3_25 : decode prog_42_method_2_code 25 = .ok (.lcmp, 1) := by decide +kernel
theorem d3_26 : decode prog_42_method_2_code 26 = .ok (.ifCond .eq 7, 3) := by decide +kernel
theorem d3_29 : decode prog_42_method_2_code 29 = .ok (.iconst 1, 1) := by decide +kernel
theorem d3_30 : decode prog_42_method_2_code 30 = .ok (.goto 4, 3) := by decide +kernel
theorem d3_33 : decode prog_42_method_2_code 33 = .ok (.iconst 0, 1) := by decide +kernel
theorem d3_34 : decode prog_42_method_2_code 34 = .ok (.ireturn, 1) := by decide +kernel
theorem pn_3 : plainName "com/example/concept_reasoner/conceptreasoner/tableau/Positions" = true := by first | (simp [plainName, overriddenIn]; done) | decide +kernel
theorem ef_3 (m : MethodId) (va : Addr) (vq : Int32) : entryFrame m #[(.ref va), (.int vq)] 3 = mkF m 0 #[.val (.ref va), .val (.int vq), .unset] [] := by first | (simp [entryFrame, mkF, argsToLocals, Value.category]; done) | rfl
def Q3 (Z : State) (va : Addr) (vq : Int32) (vg : Int32 → Int32) (h0 : Heap) (n0 : Nat) (v : Option Value) (h : Heap) (L : List Loc) : Prop := v = some (.int (vg vq)) ∧ Fr n0 L ∧ h = h0
set_option maxRecDepth 65536 in
set_option maxHeartbeats 40000000 in
theorem rm3 (l : Launch) (Z : State) (a0 : Array Value) (hw : ∀ d ∈ tables_1, d.before a0 Z = true) (ws : List Jvm.Cond) (va : Addr) (vq : Int32) (vg : Int32 → Int32) (h0 : Heap) (n0 : Nat) (Z0 : n0 ≤ h0.size) (HP : own_Pos Z h0 n0 va vg) :
    MetFree l (⟨"com/example/concept_reasoner/conceptreasoner/tableau/Positions", "contains", "(I)Z"⟩ : MethodName) (head1 (Jvm.Cond.code (⟨"com/example/concept_reasoner/conceptreasoner/tableau/Positions", "contains", "(I)Z"⟩ : MethodName) prog_42_method_2_code 3 (some .boolean) :: ws) ({ frames := 0, cells := 0, slots := 0, locals := 0 } : Room)) (fun a U => a = #[(.ref va), (.int vq)] ∧ Z.Warmed39 U.vm ∧ U.heap = h0) (fun _ _ _ _ _ => True) (fun _ U o U' => ∃ v L, o = .returned v ∧ Q3 Z va vq vg h0 n0 v U'.heap L ∧ FrameEnd U o U' L ({ frames := 0, cells := 0, slots := 0, locals := 0 } : Room).cells ({ frames := 0, cells := 0, slots := 0, locals := 0 } : Room).slots) := by
  refine MetFree.of_bodySF (plainFor_of_name pn_3) hisR ?_
  intro p e s m args below meth c s₁ Bd hml0 hP hK
  obtain ⟨rfl, hZ, hh⟩ := hP
  have hx := Bd.exec
  have hby := Bd.bytes
  have hml : c.maxLocals = 3 := hml0
  have hown : s.vm.findClass "com/example/concept_reasoner/conceptreasoner/tableau/Positions" = some m.cls := findClass_of_methodNamed Bd.named
  have hnm := (name_of_methodNamed Bd.named Bd.method).1
  have X0 : Stand p l e ({ frames := 0, cells := 0, slots := 0, locals := 0 } : Room) s m #[(.ref va), (.int vq)] below meth c s₁ [] 0 0 := Stand.of_body Bd
  have e0 : s₁.heap = h0 := by rw [← hh, Bd.state]; rfl
  have N0 := Fr.nil n0
  have pre0 : ∀ t, Steps p.tables e below (s₁.setTop (mkF m 0 #[.val (.ref va), .val (.int vq), .unset] [])) t → Steps p.tables e below (s₁.setTop (entryFrame m #[(.ref va), (.int vq)] 3)) t := fun t k => castTop (ef_3 m va vq) k
  obtain ⟨wd, vn, vw, vf, E_va, F_words, F_low, V_wd, ne_va_wd, g_wd, hn1, hG⟩ := HP
  obtain ⟨T1, X1, e1, st1⟩ := getF X0 hx hZ hown (host := "") (Or.inl (hw _ (List.mem_of_getElem? (i := 10) rfl))) Via.refl e0 F_words (g := (mkF m 7 #[.val (.ref va), .val (.int vq), .val (.int ((vq.toUInt32 >>> ((6 : Int32) &&& 31).toUInt32).toInt32))] [(.ref va), (.int ((vq.toUInt32 >>> ((6 : Int32) &&& 31).toUInt32).toInt32))])) rfl rfl (hb hby d3_7)
  have Vo2 := V_wd
  obtain ⟨cl2, Ar2, S2, M2, H2⟩ := Vo2
  by_cases hb3 : ((vq.toUInt32 >>> ((6 : Int32) &&& 31).toUInt32).toInt32) < vn
  · obtain ⟨T4, X4, e4, st4⟩ := getF X1 hx hZ hown (host := "") (Or.inl (hw _ (List.mem_of_getElem? (i := 10) rfl))) Via.refl e1 F_words (g := (mkF m 15 #[.val (.ref va), .val (.int vq), .val (.int ((vq.toUInt32 >>> ((6 : Int32) &&& 31).toUInt32).toInt32))] [(.ref va)])) rfl rfl (hb hby d3_15)
    obtain ⟨fs, hr, hrun, hended, hW, hsame⟩ := X4.leave (v := some (.int (if ((vf (((vq.toUInt32 >>> ((6 : Int32) &&& 31).toUInt32).toInt32)).toNatClampNeg) &&& ((1 : Int64) <<< (vq &&& 0x3f).toInt64)) = (0 : Int64) then (0 : Int32) else (1 : Int32)))) (fun h => by rw [Bd.returns] at h; cases h)
    refine ⟨_, _, pre0 _ ?_, hrun, hended, _, _, rfl, ?_, ⟨_, rfl⟩, hW, hsame.mono (by decide) (by decide)⟩
    · show Steps p.tables e below (s₁.setTop (mkF m 0 #[.val (.ref va), .val (.int vq), .unset] [])) _
      refine XS.iloadN X0.here hx rfl (hb hby d3_0) rfl ?_
      show Steps p.tables e below (s₁.setTop (mkF m 1 #[.val (.ref va), .val (.int vq), .unset] [(.int vq)])) _
      refine XS.bipush X0.here hx rfl (hb hby d3_1) ?_
      show Steps p.tables e below (s₁.setTop (mkF m 3 #[.val (.ref va), .val (.int vq), .unset] [(.int (6 : Int32)), (.int vq)])) _
      refine XS.iushr X0.here hx rfl (hb hby d3_3) rfl ?_
      show Steps p.tables e below (s₁.setTop (mkF m 4 #[.val (.ref va), .val (.int vq), .unset] [(.int ((vq.toUInt32 >>> ((6 : Int32) &&& 31).toUInt32).toInt32))])) _
      refine XS.istoreN X0.here hx rfl (hb hby d3_4) rfl (l' := #[.val (.ref va), .val (.int vq), .val (.int ((vq.toUInt32 >>> ((6 : Int32) &&& 31).toUInt32).toInt32))]) rfl ?_
      show Steps p.tables e below (s₁.setTop (mkF m 5 #[.val (.ref va), .val (.int vq), .val (.int ((vq.toUInt32 >>> ((6 : Int32) &&& 31).toUInt32).toInt32))] [])) _
      refine XS.iloadN X0.here hx rfl (hb hby d3_5) rfl ?_
      show Steps p.tables e below (s₁.setTop (mkF m 6 #[.val (.ref va), .val (.int vq), .val (.int ((vq.toUInt32 >>> ((6 : Int32) &&& 31).toUInt32).toInt32))] [(.int ((vq.toUInt32 >>> ((6 : Int32) &&& 31).toUInt32).toInt32))])) _
      refine XS.aloadN X0.here hx rfl (hb hby d3_6) rfl rfl ?_
      show Steps p.tables e below (s₁.setTop (mkF m 7 #[.val (.ref va), .val (.int vq), .val (.int ((vq.toUInt32 >>> ((6 : Int32) &&& 31).toUInt32).toInt32))] [(.ref va), (.int ((vq.toUInt32 >>> ((6 : Int32) &&& 31).toUInt32).toInt32))])) _
      refine st1 _ ?_
      show Steps p.tables e below (T1.setTop (mkF m 10 #[.val (.ref va), .val (.int vq), .val (.int ((vq.toUInt32 >>> ((6 : Int32) &&& 31).toUInt32).toInt32))] [(.ref wd), (.int ((vq.toUInt32 >>> ((6 : Int32) &&& 31).toUInt32).toInt32))])) _
      refine X1.arraylength hx (by rw [e1]; exact Ar2.1) (State.isArrayOf_alike hZ.alike Ar2.2.1) (g := (mkF m 10 #[.val (.ref va), .val (.int vq), .val (.int ((vq.toUInt32 >>> ((6 : Int32) &&& 31).toUInt32).toInt32))] [(.ref wd), (.int ((vq.toUInt32 >>> ((6 : Int32) &&& 31).toUInt32).toInt32))])) rfl rfl (hb hby d3_10) _ ?_
      rw [len_of S2 M2]
      show Steps p.tables e below (T1.setTop (mkF m 11 #[.val (.ref va), .val (.int vq), .val (.int ((vq.toUInt32 >>> ((6 : Int32) &&& 31).toUInt32).toInt32))] [(.int vn), (.int ((vq.toUInt32 >>> ((6 : Int32) &&& 31).toUInt32).toInt32))])) _
      refine XS.icmpNo X1.here hx rfl (hb hby d3_11) rfl (tlt hb3).2.1 ?_
      show Steps p.tables e below (T1.setTop (mkF m 14 #[.val (.ref va), .val (.int vq), .val (.int ((vq.toUInt32 >>> ((6 : Int32) &&& 31).toUInt32).toInt32))] [])) _
      refine XS.aloadN X1.here hx rfl (hb hby d3_14) rfl rfl ?_
      show Steps p.tables e below (T1.setTop (mkF m 15 #[.val (.ref va), .val (.int vq), .val (.int ((vq.toUInt32 >>> ((6 : Int32) &&& 31).toUInt32).toInt32))] [(.ref va)])) _
      refine st4 _ ?_
      show Steps p.tables e below (T4.setTop (mkF m 18 #[.val (.ref va), .val (.int vq), .val (.int ((vq.toUInt32 >>> ((6 : Int32) &&& 31).toUInt32).toInt32))] [(.ref wd)])) _
      refine XS.iloadN X4.here hx rfl (hb hby d3_18) rfl ?_
      show Steps p.tables e below (T4.setTop (mkF m 19 #[.val (.ref va), .val (.int vq), .val (.int ((vq.toUInt32 >>> ((6 : Int32) &&& 31).toUInt32).toInt32))] [(.int ((vq.toUInt32 >>> ((6 : Int32) &&& 31).toUInt32).toInt32)), (.ref wd)])) _
      have hin5 : ¬ (((vq.toUInt32 >>> ((6 : Int32) &&& 31).toUInt32).toInt32) < 0 ∨ cl2.slots.size ≤ (((vq.toUInt32 >>> ((6 : Int32) &&& 31).toUInt32).toInt32)).toNatClampNeg) := inb_of S2 ⟨own_w0 vq, hb3⟩
      refine X4.laload hx (j := ((vq.toUInt32 >>> ((6 : Int32) &&& 31).toUInt32).toInt32)) (v := (.long (vf (((vq.toUInt32 >>> ((6 : Int32) &&& 31).toUInt32).toInt32)).toNatClampNeg))) (by rw [e4]; exact Ar2.1) (State.isArrayOf_alike hZ.alike Ar2.2.1) Ar2.2.2 hin5 (own_arf_at H2 S2 hin5) (g := (mkF m 19 #[.val (.ref va), .val (.int vq), .val (.int ((vq.toUInt32 >>> ((6 : Int32) &&& 31).toUInt32).toInt32))] [(.int ((vq.toUInt32 >>> ((6 : Int32) &&& 31).toUInt32).toInt32)), (.ref wd)])) rfl rfl (hb hby d3_19) _ ?_
      show Steps p.tables e below (T4.setTop (mkF m 20 #[.val (.ref va), .val (.int vq), .val (.int ((vq.toUInt32 >>> ((6 : Int32) &&& 31).toUInt32).toInt32))] [(.long (vf (((vq.toUInt32 >>> ((6 : Int32) &&& 31).toUInt32).toInt32)).toNatClampNeg))])) _
      refine XS.lconst X4.here hx rfl (hb hby d3_20) ?_
      show Steps p.tables e below (T4.setTop (mkF m 21 #[.val (.ref va), .val (.int vq), .val (.int ((vq.toUInt32 >>> ((6 : Int32) &&& 31).toUInt32).toInt32))] [(.long (1 : Int64)), (.long (vf (((vq.toUInt32 >>> ((6 : Int32) &&& 31).toUInt32).toInt32)).toNatClampNeg))])) _
      refine XS.iloadN X4.here hx rfl (hb hby d3_21) rfl ?_
      show Steps p.tables e below (T4.setTop (mkF m 22 #[.val (.ref va), .val (.int vq), .val (.int ((vq.toUInt32 >>> ((6 : Int32) &&& 31).toUInt32).toInt32))] [(.int vq), (.long (1 : Int64)), (.long (vf (((vq.toUInt32 >>> ((6 : Int32) &&& 31).toUInt32).toInt32)).toNatClampNeg))])) _
      refine XS.lshl X4.here hx rfl (hb hby d3_22) rfl ?_
      show Steps p.tables e below (T4.setTop (mkF m 23 #[.val (.ref va), .val (.int vq), .val (.int ((vq.toUInt32 >>> ((6 : Int32) &&& 31).toUInt32).toInt32))] [(.long ((1 : Int64) <<< (vq &&& 0x3f).toInt64)), (.long (vf (((vq.toUInt32 >>> ((6 : Int32) &&& 31).toUInt32).toInt32)).toNatClampNeg))])) _
      refine XS.land X4.here hx rfl (hb hby d3_23) rfl ?_
      show Steps p.tables e below (T4.setTop (mkF m 24 #[.val (.ref va), .val (.int vq), .val (.int ((vq.toUInt32 >>> ((6 : Int32) &&& 31).toUInt32).toInt32))] [(.long ((vf (((vq.toUInt32 >>> ((6 : Int32) &&& 31).toUInt32).toInt32)).toNatClampNeg) &&& ((1 : Int64) <<< (vq &&& 0x3f).toInt64)))])) _
      refine XS.lconst X4.here hx rfl (hb hby d3_24) ?_
      show Steps p.tables e below (T4.setTop (mkF m 25 #[.val (.ref va), .val (.int vq), .val (.int ((vq.toUInt32 >>> ((6 : Int32) &&& 31).toUInt32).toInt32))] [(.long (0 : Int64)), (.long ((vf (((vq.toUInt32 >>> ((6 : Int32) &&& 31).toUInt32).toInt32)).toNatClampNeg) &&& ((1 : Int64) <<< (vq &&& 0x3f).toInt64)))])) _
      refine XS.lcmp X4.here hx rfl (hb hby d3_25) rfl ?_
      show Steps p.tables e below (T4.setTop (mkF m 26 #[.val (.ref va), .val (.int vq), .val (.int ((vq.toUInt32 >>> ((6 : Int32) &&& 31).toUInt32).toInt32))] [(.int (lcmpW ((vf (((vq.toUInt32 >>> ((6 : Int32) &&& 31).toUInt32).toInt32)).toNatClampNeg) &&& ((1 : Int64) <<< (vq &&& 0x3f).toInt64)) (0 : Int64)))])) _
      refine own_dia (u := ((0 : Int32) : Int32)) (v := (1 : Int32)) (((vf (((vq.toUInt32 >>> ((6 : Int32) &&& 31).toUInt32).toInt32)).toNatClampNeg) &&& ((1 : Int64) <<< (vq &&& 0x3f).toInt64)) = (0 : Int64)) (fun z6 => (mkF m 34 #[.val (.ref va), .val (.int vq), .val (.int ((vq.toUInt32 >>> ((6 : Int32) &&& 31).toUInt32).toInt32))] [(.int z6)])) (fun hc6 k6 => ?_) (fun hc6 k6 => ?_) ?_
      · refine XS.ifYes X4.here hx rfl (pc0 := 26) (pc' := 33) rfl (hb hby d3_26) rfl (own_leq hc6).1 (by decide) (by decide) ?_
        show Steps p.tables e below (T4.setTop (mkF m 33 #[.val (.ref va), .val (.int vq), .val (.int ((vq.toUInt32 >>> ((6 : Int32) &&& 31).toUInt32).toInt32))] [])) _
        refine XS.iconst X4.here hx rfl (hb hby d3_33) ?_
        exact k6
      · refine XS.ifNo X4.here hx rfl (hb hby d3_26) rfl (own_lne hc6).1 ?_
        show Steps p.tables e below (T4.setTop (mkF m 29 #[.val (.ref va), .val (.int vq), .val (.int ((vq.toUInt32 >>> ((6 : Int32) &&& 31).toUInt32).toInt32))] [])) _
        refine XS.iconst X4.here hx rfl (hb hby d3_29) ?_
        show Steps p.tables e below (T4.setTop (mkF m 30 #[.val (.ref va), .val (.int vq), .val (.int ((vq.toUInt32 >>> ((6 : Int32) &&& 31).toUInt32).toInt32))] [(.int (1 : Int32))])) _
        refine XS.goto X4.here hx rfl (pc0 := 30) (pc' := 34) rfl (hb hby d3_30) (by decide) (by decide) ?_
        exact k6
      -- meets at 34
      show Steps p.tables e below (T4.setTop (mkF m 34 #[.val (.ref va), .val (.int vq), .val (.int ((vq.toUInt32 >>> ((6 : Int32) &&& 31).toUInt32).toInt32))] [(.int (if ((vf (((vq.toUInt32 >>> ((6 : Int32) &&& 31).toUInt32).toInt32)).toNatClampNeg) &&& ((1 : Int64) <<< (vq &&& 0x3f).toInt64)) = (0 : Int64) then (0 : Int32) else (1 : Int32)))])) _
      exact retN X4 hx (t := .boolean) Bd.returns (by simp) (hb hby d3_34) (by rw [own_nb (own_b01 (Or.inl rfl) (Or.inr rfl))]; exact hr)
    · show Q3 Z va vq vg h0 n0 _ T4.heap _
      rw [e4]
      exact ⟨(congrArg (fun z => some (Value.int z)) (Eq.trans (Eq.symm (show own_C vn vf vq = _ from if_pos hb3)) (hG vq))), N0, rfl⟩
  · obtain ⟨fs, hr, hrun, hended, hW, hsame⟩ := X1.leave (v := some (.int (0 : Int32))) (fun h => by rw [Bd.returns] at h; cases h)
    refine ⟨_, _, pre0 _ ?_, hrun, hended, _, _, rfl, ?_, ⟨_, rfl⟩, hW, hsame.mono (by decide) (by decide)⟩
    · show Steps p.tables e below (s₁.setTop (mkF m 0 #[.val (.ref va), .val (.int vq), .unset] [])) _
      refine XS.iloadN X0.here hx rfl (hb hby d3_0) rfl ?_
      show Steps p.tables e below (s₁.setTop (mkF m 1 #[.val (.ref va), .val (.int vq), .unset] [(.int vq)])) _
      refine XS.bipush X0.here hx rfl (hb hby d3_1) ?_
      show Steps p.tables e below (s₁.setTop (mkF m 3 #[.val (.ref va), .val (.int vq), .unset] [(.int (6 : Int32)), (.int vq)])) _
      refine XS.iushr X0.here hx rfl (hb hby d3_3) rfl ?_
      show Steps p.tables e below (s₁.setTop (mkF m 4 #[.val (.ref va), .val (.int vq), .unset] [(.int ((vq.toUInt32 >>> ((6 : Int32) &&& 31).toUInt32).toInt32))])) _
      refine XS.istoreN X0.here hx rfl (hb hby d3_4) rfl (l' := #[.val (.ref va), .val (.int vq), .val (.int ((vq.toUInt32 >>> ((6 : Int32) &&& 31).toUInt32).toInt32))]) rfl ?_
      show Steps p.tables e below (s₁.setTop (mkF m 5 #[.val (.ref va), .val (.int vq), .val (.int ((vq.toUInt32 >>> ((6 : Int32) &&& 31).toUInt32).toInt32))] [])) _
      refine XS.iloadN X0.here hx rfl (hb hby d3_5) rfl ?_
      show Steps p.tables e below (s₁.setTop (mkF m 6 #[.val (.ref va), .val (.int vq), .val (.int ((vq.toUInt32 >>> ((6 : Int32) &&& 31).toUInt32).toInt32))] [(.int ((vq.toUInt32 >>> ((6 : Int32) &&& 31).toUInt32).toInt32))])) _
      refine XS.aloadN X0.here hx rfl (hb hby d3_6) rfl rfl ?_
      show Steps p.tables e below (s₁.setTop (mkF m 7 #[.val (.ref va), .val (.int vq), .val (.int ((vq.toUInt32 >>> ((6 : Int32) &&& 31).toUInt32).toInt32))] [(.ref va), (.int ((vq.toUInt32 >>> ((6 : Int32) &&& 31).toUInt32).toInt32))])) _
      refine st1 _ ?_
      show Steps p.tables e below (T1.setTop (mkF m 10 #[.val (.ref va), .val (.int vq), .val (.int ((vq.toUInt32 >>> ((6 : Int32) &&& 31).toUInt32).toInt32))] [(.ref wd), (.int ((vq.toUInt32 >>> ((6 : Int32) &&& 31).toUInt32).toInt32))])) _
      refine X1.arraylength hx (by rw [e1]; exact Ar2.1) (State.isArrayOf_alike hZ.alike Ar2.2.1) (g := (mkF m 10 #[.val (.ref va), .val (.int vq), .val (.int ((vq.toUInt32 >>> ((6 : Int32) &&& 31).toUInt32).toInt32))] [(.ref wd), (.int ((vq.toUInt32 >>> ((6 : Int32) &&& 31).toUInt32).toInt32))])) rfl rfl (hb hby d3_10) _ ?_
      rw [len_of S2 M2]
      show Steps p.tables e below (T1.setTop (mkF m 11 #[.val (.ref va), .val (.int vq), .val (.int ((vq.toUInt32 >>> ((6 : Int32) &&& 31).toUInt32).toInt32))] [(.int vn), (.int ((vq.toUInt32 >>> ((6 : Int32) &&& 31).toUInt32).toInt32))])) _
      refine XS.icmpYes X1.here hx rfl (pc0 := 11) (pc' := 33) rfl (hb hby d3_11) rfl (flt hb3).2.1 (by decide) (by decide) ?_
      show Steps p.tables e below (T1.setTop (mkF m 33 #[.val (.ref va), .val (.int vq), .val (.int ((vq.toUInt32 >>> ((6 : Int32) &&& 31).toUInt32).toInt32))] [])) _
      refine XS.iconst X1.here hx rfl (hb hby d3_33) ?_
      show Steps p.tables e below (T1.setTop (mkF m 34 #[.val (.ref va), .val (.int vq), .val (.int ((vq.toUInt32 >>> ((6 : Int32) &&& 31).toUInt32).toInt32))] [(.int (0 : Int32))])) _
      exact retN X1 hx (t := .boolean) Bd.returns (by simp) (hb hby d3_34) hr
    · show Q3 Z va vq vg h0 n0 _ T1.heap _
      rw [e1]
      exact ⟨(congrArg (fun z => some (Value.int z)) (Eq.trans (Eq.symm (show own_C vn vf vq = _ from if_neg hb3)) (hG vq))), N0, rfl⟩
theorem d6_0 : decode prog_42_method_4_code 0 = .ok (.iload_n 1, 1) := by decide +kernel
theorem d6_1 : decode prog_42_method_4_code 1 = .ok (.bipush 6, 2) := by decide +kernel
theorem d6_3 : decode prog_42_method_4_code 3 = .ok (.iushr, 1) := by decide +kernel
theorem d6_4 : decode prog_42_method_4_code 4 = .ok (.istore_n 2, 1) := by decide +kernel
theorem d6_5 : decode prog_42_method_4_code 5 = .ok (.iload_n 2, 1) := by decide +kernel
theorem d6_6 : decode prog_42_method_4_code 6 = .ok (.aload_n 0, 1) := by decide +kernel
theorem d6_7 : decode prog_42_method_4_code 7 = .ok (.getfield 7, 3) := by decide +kernel
theorem d6_10 : decode prog_42_method_4_code 10 = .ok (.arraylength, 1) := by decide +kernel
theorem d6_11 : decode prog_42_method_4_code 11 = .ok (.if_icmp .ge 19, 3) := by decide +kernel
theorem d6_14 : decode prog_42_method_4_code 14 = .ok (.aload_n 0, 1) := by decide +kernel
theorem d6_15 : decode prog_42_method_4_code 15 = .ok (.getfield 7, 3) := by decide +kernel
theorem d6_18 : decode prog_42_method_4_code 18 = .ok (.iload_n 2, 1) := by decide +kernel
theorem d6_19 : decode prog_42_method_4_code 19 = .ok (.dup2, 1) := by decide +kernel
theorem d6_20 : decode prog_42_method_4_code 20 = .ok (.laload, 1) := by decide +kernel
theorem d6_21 : decode prog_42_method_4_code 21 = .ok (.lconst 1, 1) := by decide +kernel
theorem d6_22 : decode prog_42_method_4_code 22 = .ok (.iload_n 1, 1) := by decide +kernel
theorem d6_23 : decode prog_42_method_4_code 23 = .ok (.lshl, 1) := by decide +kernel
theorem d6_24 : decode prog_42_method_4_code 24 = .ok (.ldc2_w 32, 3) := by decide +kernel
theorem d6_27 : decode prog_42_method_4_code 27 = .ok (.lxor, 1) := by decide +kernel
theorem d6_28 : decode prog_42_method_4_code 28 = .ok (.land, 1) := by decide +kernel
theorem d6_29 : decode prog_42_method_4_code 29 = .ok (.lastore, 1) := by decide +kernel
theorem d6_30 : decode prog_42_method_4_code 30 = .ok (.return_, 1) := by decide +kernel
theorem pn_6 : plainName "com/example/concept_reasoner/conceptreasoner/tableau/Positions" = true := by first | (simp [plainName, overriddenIn]; done) | decide +kernel
theorem ef_6 (m : MethodId) (va : Addr) (vp : Int32) : entryFrame m #[(.ref va), (.int vp)] 3 = mkF m 0 #[.val (.ref va), .val (.int vp), .unset] [] := by first | (simp [entryFrame, mkF, argsToLocals, Value.category]; done) | rfl
def Q6 (Z : State) (va : Addr) (vp : Int32) (vg : Int32 → Int32) (h0 : Heap) (n0 : Nat) (v : Option Value) (h : Heap) (L : List Loc) : Prop := v = none ∧ Fr n0 L ∧ n0 ≤ h.size ∧ Exa Z h va "com/example/concept_reasoner/conceptreasoner/tableau/Positions" ∧ own_Pos Z h n0 va (fun q => if q = vp then (0 : Int32) else vg q)
set_option maxRecDepth 65536 in
set_option maxHeartbeats 40000000 in
theorem rm6 (l : Launch) (Z : State) (a0 : Array Value) (hw : ∀ d ∈ tables_1, d.before a0 Z = true) (ws : List Jvm.Cond) (va : Addr) (vp : Int32) (vg : Int32 → Int32) (h0 : Heap) (n0 : Nat) (Z0 : n0 ≤ h0.size) (HP : own_Pos Z h0 n0 va vg) (g_va : n0 ≤ va) :
    MetFree l (⟨"com/example/concept_reasoner/conceptreasoner/tableau/Positions", "remove", "(I)V"⟩ : MethodName) (head1 (Jvm.Cond.code (⟨"com/example/concept_reasoner/conceptreasoner/tableau/Positions", "remove", "(I)V"⟩ : MethodName) prog_42_method_4_code 3 none :: ws) ({ frames := 0, cells := 0, slots := 0, locals := 0 } : Room)) (fun a U => a = #[(.ref va), (.int vp)] ∧ Z.Warmed39 U.vm ∧ U.heap = h0) (fun _ _ _ _ _ => True) (fun _ U o U' => ∃ v L, o = .returned v ∧ Q6 Z va vp vg h0 n0 v U'.heap L ∧ FrameEnd U o U' L ({ frames := 0, cells := 0, slots := 0, locals := 0 } : Room).cells ({ frames := 0, cells := 0, slots := 0, locals := 0 } : Room).slots) := by
  refine MetFree.of_bodySF (plainFor_of_name pn_6) hisR ?_
  intro p e s m args below meth c s₁ Bd hml0 hP hK
  obtain ⟨rfl, hZ, hh⟩ := hP
  have hx := Bd.exec
  have hby := Bd.bytes
  have hml : c.maxLocals = 3 := hml0
  have hown : s.vm.findClass "com/example/concept_reasoner/conceptreasoner/tableau/Positions" = some m.cls := findClass_of_methodNamed Bd.named
  have hnm := (name_of_methodNamed Bd.named Bd.method).1
  have X0 : Stand p l e ({ frames := 0, cells := 0, slots := 0, locals := 0 } : Room) s m #[(.ref va), (.int vp)] below meth c s₁ [] 0 0 := Stand.of_body Bd
  have e0 : s₁.heap = h0 := by rw [← hh, Bd.state]; rfl
  have N0 := Fr.nil n0
  have pre0 : ∀ t, Steps p.tables e below (s₁.setTop (mkF m 0 #[.val (.ref va), .val (.int vp), .unset] [])) t → Steps p.tables e below (s₁.setTop (entryFrame m #[(.ref va), (.int vp)] 3)) t := fun t k => castTop (ef_6 m va vp) k
  obtain ⟨wd, vn, vw, vf, E_va, F_words, F_low, V_wd, ne_va_wd, g_wd, hn1, hG⟩ := HP
  obtain ⟨T1, X1, e1, st1⟩ := getF X0 hx hZ hown (host := "") (Or.inl (hw _ (List.mem_of_getElem? (i := 10) rfl))) Via.refl e0 F_words (g := (mkF m 7 #[.val (.ref va), .val (.int vp), .val (.int ((vp.toUInt32 >>> ((6 : Int32) &&& 31).toUInt32).toInt32))] [(.ref va), (.int ((vp.toUInt32 >>> ((6 : Int32) &&& 31).toUInt32).toInt32))])) rfl rfl (hb hby d6_7)
  have Vo2 := V_wd
  obtain ⟨cl2, Ar2, S2, M2, H2⟩ := Vo2
  by_cases hb3 : ((vp.toUInt32 >>> ((6 : Int32) &&& 31).toUInt32).toInt32) < vn
  · obtain ⟨T4, X4, e4, st4⟩ := getF X1 hx hZ hown (host := "") (Or.inl (hw _ (List.mem_of_getElem? (i := 10) rfl))) Via.refl e1 F_words (g := (mkF m 15 #[.val (.ref va), .val (.int vp), .val (.int ((vp.toUInt32 >>> ((6 : Int32) &&& 31).toUInt32).toInt32))] [(.ref va)])) rfl rfl (hb hby d6_15)
    have hin6 : ¬ (((vp.toUInt32 >>> ((6 : Int32) &&& 31).toUInt32).toInt32) < 0 ∨ cl2.slots.size ≤ (((vp.toUInt32 >>> ((6 : Int32) &&& 31).toUInt32).toInt32)).toNatClampNeg) := inb_of S2 ⟨own_w0 vp, hb3⟩
    obtain ⟨T6, h6, X6, e6, W6, st6⟩ := stJ X4 hx hZ e4 Ar2 (j := ((vp.toUInt32 >>> ((6 : Int32) &&& 31).toUInt32).toInt32)) hin6 (g := (mkF m 29 #[.val (.ref va), .val (.int vp), .val (.int ((vp.toUInt32 >>> ((6 : Int32) &&& 31).toUInt32).toInt32))] [(.long ((vf (((vp.toUInt32 >>> ((6 : Int32) &&& 31).toUInt32).toInt32)).toNatClampNeg) &&& (((1 : Int64) <<< (vp &&& 0x3f).toInt64) ^^^ (-1 : Int64)))), (.int ((vp.toUInt32 >>> ((6 : Int32) &&& 31).toUInt32).toInt32)), (.ref wd)])) rfl rfl (hb hby d6_29)
    have Z7 : n0 ≤ h6.size := Nat.le_trans Z0 (Keep.of_wr W6).1
    have E8_va := E_va.wr W6
    have F9_va_words := F_words.other W6 (Or.inl ne_va_wd)
    have F10_va_low := F_low.other W6 (Or.inl ne_va_wd)
    have V6 := own_arf_setL V_wd W6
    have N6 := Fr.snoc X6 N0 g_wd
    obtain ⟨fs, hr, hrun, hended, hW, hsame⟩ := X6.leave (v := none) (fun _ => rfl)
    refine ⟨_, _, pre0 _ ?_, hrun, hended, _, _, rfl, ?_, ⟨_, rfl⟩, hW, hsame.mono (by decide) (by decide)⟩
    · show Steps p.tables e below (s₁.setTop (mkF m 0 #[.val (.ref va), .val (.int vp), .unset] [])) _
      refine XS.iloadN X0.here hx rfl (hb hby d6_0) rfl ?_
      show Steps p.tables e below (s₁.setTop (mkF m 1 #[.val (.ref va), .val (.int vp), .unset] [(.int vp)])) _
      refine XS.bipush X0.here hx rfl (hb hby d6_1) ?_
      show Steps p.tables e below (s₁.setTop (mkF m 3 #[.val (.ref va), .val (.int vp), .unset] [(.int (6 : Int32)), (.int vp)])) _
      refine XS.iushr X0.here hx rfl (hb hby d6_3) rfl ?_
      show Steps p.tables e below (s₁.setTop (mkF m 4 #[.val (.ref va), .val (.int vp), .unset] [(.int ((vp.toUInt32 >>> ((6 : Int32) &&& 31).toUInt32).toInt32))])) _
      refine XS.istoreN X0.here hx rfl (hb hby d6_4) rfl (l' := #[.val (.ref va), .val (.int vp), .val (.int ((vp.toUInt32 >>> ((6 : Int32) &&& 31).toUInt32).toInt32))]) rfl ?_
      show Steps p.tables e below (s₁.setTop (mkF m 5 #[.val (.ref va), .val (.int vp), .val (.int ((vp.toUInt32 >>> ((6 : Int32) &&& 31).toUInt32).toInt32))] [])) _
      refine XS.iloadN X0.here hx rfl (hb hby d6_5) rfl ?_
      show Steps p.tables e below (s₁.setTop (mkF m 6 #[.val (.ref va), .val (.int vp), .val (.int ((vp.toUInt32 >>> ((6 : Int32) &&& 31).toUInt32).toInt32))] [(.int ((vp.toUInt32 >>> ((6 : Int32) &&& 31).toUInt32).toInt32))])) _
      refine XS.aloadN X0.here hx rfl (hb hby d6_6) rfl rfl ?_
      show Steps p.tables e below (s₁.setTop (mkF m 7 #[.val (.ref va), .val (.int vp), .val (.int ((vp.toUInt32 >>> ((6 : Int32) &&& 31).toUInt32).toInt32))] [(.ref va), (.int ((vp.toUInt32 >>> ((6 : Int32) &&& 31).toUInt32).toInt32))])) _
      refine st1 _ ?_
      show Steps p.tables e below (T1.setTop (mkF m 10 #[.val (.ref va), .val (.int vp), .val (.int ((vp.toUInt32 >>> ((6 : Int32) &&& 31).toUInt32).toInt32))] [(.ref wd), (.int ((vp.toUInt32 >>> ((6 : Int32) &&& 31).toUInt32).toInt32))])) _
      refine X1.arraylength hx (by rw [e1]; exact Ar2.1) (State.isArrayOf_alike hZ.alike Ar2.2.1) (g := (mkF m 10 #[.val (.ref va), .val (.int vp), .val (.int ((vp.toUInt32 >>> ((6 : Int32) &&& 31).toUInt32).toInt32))] [(.ref wd), (.int ((vp.toUInt32 >>> ((6 : Int32) &&& 31).toUInt32).toInt32))])) rfl rfl (hb hby d6_10) _ ?_
      rw [len_of S2 M2]
      show Steps p.tables e below (T1.setTop (mkF m 11 #[.val (.ref va), .val (.int vp), .val (.int ((vp.toUInt32 >>> ((6 : Int32) &&& 31).toUInt32).toInt32))] [(.int vn), (.int ((vp.toUInt32 >>> ((6 : Int32) &&& 31).toUInt32).toInt32))])) _
      refine XS.icmpNo X1.here hx rfl (hb hby d6_11) rfl (tlt hb3).2.1 ?_
      show Steps p.tables e below (T1.setTop (mkF m 14 #[.val (.ref va), .val (.int vp), .val (.int ((vp.toUInt32 >>> ((6 : Int32) &&& 31).toUInt32).toInt32))] [])) _
      refine XS.aloadN X1.here hx rfl (hb hby d6_14) rfl rfl ?_
      show Steps p.tables e below (T1.setTop (mkF m 15 #[.val (.ref va), .val (.int vp), .val (.int ((vp.toUInt32 >>> ((6 : Int32) &&& 31).toUInt32).toInt32))] [(.ref va)])) _
      refine st4 _ ?_
      show Steps p.tables e below (T4.setTop (mkF m 18 #[.val (.ref va), .val (.int vp), .val (.int ((vp.toUInt32 >>> ((6 : Int32) &&& 31).toUInt32).toInt32))] [(.ref wd)])) _
      refine XS.iloadN X4.here hx rfl (hb hby d6_18) rfl ?_
      show Steps p.tables e below (T4.setTop (mkF m 19 #[.val (.ref va), .val (.int vp), .val (.int ((vp.toUInt32 >>> ((6 : Int32) &&& 31).toUInt32).toInt32))] [(.int ((vp.toUInt32 >>> ((6 : Int32) &&& 31).toUInt32).toInt32)), (.ref wd)])) _
      refine Jvm.Free.XT.dup2 X4.here hx rfl (hb hby d6_19) rfl rfl rfl ?_
      show Steps p.tables e below (T4.setTop (mkF m 20 #[.val (.ref va), .val (.int vp), .val (.int ((vp.toUInt32 >>> ((6 : Int32) &&& 31).toUInt32).toInt32))] [(.int ((vp.toUInt32 >>> ((6 : Int32) &&& 31).toUInt32).toInt32)), (.ref wd), (.int ((vp.toUInt32 >>> ((6 : Int32) &&& 31).toUInt32).toInt32)), (.ref wd)])) _
      have hin5 : ¬ (((vp.toUInt32 >>> ((6 : Int32) &&& 31).toUInt32).toInt32) < 0 ∨ cl2.slots.size ≤ (((vp.toUInt32 >>> ((6 : Int32) &&& 31).toUInt32).toInt32)).toNatClampNeg) := inb_of S2 ⟨own_w0 vp, hb3⟩
      refine X4.laload hx (j := ((vp.toUInt32 >>> ((6 : Int32) &&& 31).toUInt32).toInt32)) (v := (.long (vf (((vp.toUInt32 >>> ((6 : Int32) &&& 31).toUInt32).toInt32)).toNatClampNeg))) (by rw [e4]; exact Ar2.1) (State.isArrayOf_alike hZ.alike Ar2.2.1) Ar2.2.2 hin5 (own_arf_at H2 S2 hin5) (g := (mkF m 20 #[.val (.ref va), .val (.int vp), .val (.int ((vp.toUInt32 >>> ((6 : Int32) &&& 31).toUInt32).toInt32))] [(.int ((vp.toUInt32 >>> ((6 : Int32) &&& 31).toUInt32).toInt32)), (.ref wd), (.int ((vp.toUInt32 >>> ((6 : Int32) &&& 31).toUInt32).toInt32)), (.ref wd)])) rfl rfl (hb hby d6_20) _ ?_
      show Steps p.tables e below (T4.setTop (mkF m 21 #[.val (.ref va), .val (.int vp), .val (.int ((vp.toUInt32 >>> ((6 : Int32) &&& 31).toUInt32).toInt32))] [(.long (vf (((vp.toUInt32 >>> ((6 : Int32) &&& 31).toUInt32).toInt32)).toNatClampNeg)), (.int ((vp.toUInt32 >>> ((6 : Int32) &&& 31).toUInt32).toInt32)), (.ref wd)])) _
      refine XS.lconst X4.here hx rfl (hb hby d6_21) ?_
      show Steps p.tables e below (T4.setTop (mkF m 22 #[.val (.ref va), .val (.int vp), .val (.int ((vp.toUInt32 >>> ((6 : Int32) &&& 31).toUInt32).toInt32))] [(.long (1 : Int64)), (.long (vf (((vp.toUInt32 >>> ((6 : Int32) &&& 31).toUInt32).toInt32)).toNatClampNeg)), (.int ((vp.toUInt32 >>> ((6 : Int32) &&& 31).toUInt32).toInt32)), (.ref wd)])) _
      refine XS.iloadN X4.here hx rfl (hb hby d6_22) rfl ?_
      show Steps p.tables e below (T4.setTop (mkF m 23 #[.val (.ref va), .val (.int vp), .val (.int ((vp.toUInt32 >>> ((6 : Int32) &&& 31).toUInt32).toInt32))] [(.int vp), (.long (1 : Int64)), (.long (vf (((vp.toUInt32 >>> ((6 : Int32) &&& 31).toUInt32).toInt32)).toNatClampNeg)), (.int ((vp.toUInt32 >>> ((6 : Int32) &&& 31).toUInt32).toInt32)), (.ref wd)])) _
      refine XS.lshl X4.here hx rfl (hb hby d6_23) rfl ?_
      show Steps p.tables e below (T4.setTop (mkF m 24 #[.val (.ref va), .val (.int vp), .val (.int ((vp.toUInt32 >>> ((6 : Int32) &&& 31).toUInt32).toInt32))] [(.long ((1 : Int64) <<< (vp &&& 0x3f).toInt64)), (.long (vf (((vp.toUInt32 >>> ((6 : Int32) &&& 31).toUInt32).toInt32)).toNatClampNeg)), (.int ((vp.toUInt32 >>> ((6 : Int32) &&& 31).toUInt32).toInt32)), (.ref wd)])) _
      refine X4.ldc2Long hx hown (mvT hZ (hw _ (List.mem_of_getElem? (i := 33) rfl))) (g := (mkF m 24 #[.val (.ref va), .val (.int vp), .val (.int ((vp.toUInt32 >>> ((6 : Int32) &&& 31).toUInt32).toInt32))] [(.long ((1 : Int64) <<< (vp &&& 0x3f).toInt64)), (.long (vf (((vp.toUInt32 >>> ((6 : Int32) &&& 31).toUInt32).toInt32)).toNatClampNeg)), (.int ((vp.toUInt32 >>> ((6 : Int32) &&& 31).toUInt32).toInt32)), (.ref wd)])) rfl (hb hby d6_24) _ ?_
      show Steps p.tables e below (T4.setTop (mkF m 27 #[.val (.ref va), .val (.int vp), .val (.int ((vp.toUInt32 >>> ((6 : Int32) &&& 31).toUInt32).toInt32))] [(.long (-1 : Int64)), (.long ((1 : Int64) <<< (vp &&& 0x3f).toInt64)), (.long (vf (((vp.toUInt32 >>> ((6 : Int32) &&& 31).toUInt32).toInt32)).toNatClampNeg)), (.int ((vp.toUInt32 >>> ((6 : Int32) &&& 31).toUInt32).toInt32)), (.ref wd)])) _
      refine XS.lxor X4.here hx rfl (hb hby d6_27) rfl ?_
      show Steps p.tables e below (T4.setTop (mkF m 28 #[.val (.ref va), .val (.int vp), .val (.int ((vp.toUInt32 >>> ((6 : Int32) &&& 31).toUInt32).toInt32))] [(.long (((1 : Int64) <<< (vp &&& 0x3f).toInt64) ^^^ (-1 : Int64))), (.long (vf (((vp.toUInt32 >>> ((6 : Int32) &&& 31).toUInt32).toInt32)).toNatClampNeg)), (.int ((vp.toUInt32 >>> ((6 : Int32) &&& 31).toUInt32).toInt32)), (.ref wd)])) _
      refine XS.land X4.here hx rfl (hb hby d6_28) rfl ?_
      show Steps p.tables e below (T4.setTop (mkF m 29 #[.val (.ref va), .val (.int vp), .val (.int ((vp.toUInt32 >>> ((6 : Int32) &&& 31).toUInt32).toInt32))] [(.long ((vf (((vp.toUInt32 >>> ((6 : Int32) &&& 31).toUInt32).toInt32)).toNatClampNeg) &&& (((1 : Int64) <<< (vp &&& 0x3f).toInt64) ^^^ (-1 : Int64)))), (.int ((vp.toUInt32 >>> ((6 : Int32) &&& 31).toUInt32).toInt32)), (.ref wd)])) _
      refine st6 _ ?_
      show Steps p.tables e below (T6.setTop (mkF m 30 #[.val (.ref va), .val (.int vp), .val (.int ((vp.toUInt32 >>> ((6 : Int32) &&& 31).toUInt32).toInt32))] [])) _
      exact X6.returnOut hx Bd.returns (hb hby d6_30) hr
    · show Q6 Z va vp vg h0 n0 _ T6.heap _
      rw [e6]
      exact ⟨rfl, N6, Z7, E8_va, ⟨wd, vn, vw, (fun i => if i = (((vp.toUInt32 >>> ((6 : Int32) &&& 31).toUInt32).toInt32)).toNatClampNeg then ((vf (((vp.toUInt32 >>> ((6 : Int32) &&& 31).toUInt32).toInt32)).toNatClampNeg) &&& (((1 : Int64) <<< (vp &&& 0x3f).toInt64) ^^^ (-1 : Int64))) else vf i), E8_va, F9_va_words, F10_va_low, V6, ne_va_wd, g_wd, hn1, own_rem hb3 hG⟩⟩
  · obtain ⟨fs, hr, hrun, hended, hW, hsame⟩ := X1.leave (v := none) (fun _ => rfl)
    refine ⟨_, _, pre0 _ ?_, hrun, hended, _, _, rfl, ?_, ⟨_, rfl⟩, hW, hsame.mono (by decide) (by decide)⟩
    · show Steps p.tables e below (s₁.setTop (mkF m 0 #[.val (.ref va), .val (.int vp), .unset] [])) _
      refine XS.iloadN X0.here hx rfl (hb hby d6_0) rfl ?_
      show Steps p.tables e below (s₁.setTop (mkF m 1 #[.val (.ref va), .val (.int vp), .unset] [(.int vp)])) _
      refine XS.bipush X0.here hx rfl (hb hby d6_1) ?_
      show Steps p.tables e below (s₁.setTop (mkF m 3 #[.val (.ref va), .val (.int vp), .unset] [(.int (6 : Int32)), (.int vp)])) _
      refine XS.iushr X0.here hx rfl (hb hby d6_3) rfl ?_
      show Steps p.tables e below (s₁.setTop (mkF m 4 #[.val (.ref va), .val (.int vp), .unset] [(.int ((vp.toUInt32 >>> ((6 : Int32) &&& 31).toUInt32).toInt32))])) _
      refine XS.istoreN X0.here hx rfl (hb hby d6_4) rfl (l' := #[.val (.ref va), .val (.int vp), .val (.int ((vp.toUInt32 >>> ((6 : Int32) &&& 31).toUInt32).toInt32))]) rfl ?_
      show Steps p.tables e below (s₁.setTop (mkF m 5 #[.val (.ref va), .val (.int vp), .val (.int ((vp.toUInt32 >>> ((6 : Int32) &&& 31).toUInt32).toInt32))] [])) _
      refine XS.iloadN X0.here hx rfl (hb hby d6_5) rfl ?_
      show Steps p.tables e below (s₁.setTop (mkF m 6 #[.val (.ref va), .val (.int vp), .val (.int ((vp.toUInt32 >>> ((6 : Int32) &&& 31).toUInt32).toInt32))] [(.int ((vp.toUInt32 >>> ((6 : Int32) &&& 31).toUInt32).toInt32))])) _
      refine XS.aloadN X0.here hx rfl (hb hby d6_6) rfl rfl ?_
      show Steps p.tables e below (s₁.setTop (mkF m 7 #[.val (.ref va), .val (.int vp), .val (.int ((vp.toUInt32 >>> ((6 : Int32) &&& 31).toUInt32).toInt32))] [(.ref va), (.int ((vp.toUInt32 >>> ((6 : Int32) &&& 31).toUInt32).toInt32))])) _
      refine st1 _ ?_
      show Steps p.tables e below (T1.setTop (mkF m 10 #[.val (.ref va), .val (.int vp), .val (.int ((vp.toUInt32 >>> ((6 : Int32) &&& 31).toUInt32).toInt32))] [(.ref wd), (.int ((vp.toUInt32 >>> ((6 : Int32) &&& 31).toUInt32).toInt32))])) _
      refine X1.arraylength hx (by rw [e1]; exact Ar2.1) (State.isArrayOf_alike hZ.alike Ar2.2.1) (g := (mkF m 10 #[.val (.ref va), .val (.int vp), .val (.int ((vp.toUInt32 >>> ((6 : Int32) &&& 31).toUInt32).toInt32))] [(.ref wd), (.int ((vp.toUInt32 >>> ((6 : Int32) &&& 31).toUInt32).toInt32))])) rfl rfl (hb hby d6_10) _ ?_
      rw [len_of S2 M2]
      show Steps p.tables e below (T1.setTop (mkF m 11 #[.val (.ref va), .val (.int vp), .val (.int ((vp.toUInt32 >>> ((6 : Int32) &&& 31).toUInt32).toInt32))] [(.int vn), (.int ((vp.toUInt32 >>> ((6 : Int32) &&& 31).toUInt32).toInt32))])) _
      refine XS.icmpYes X1.here hx rfl (pc0 := 11) (pc' := 30) rfl (hb hby d6_11) rfl (flt hb3).2.1 (by decide) (by decide) ?_
      show Steps p.tables e below (T1.setTop (mkF m 30 #[.val (.ref va), .val (.int vp), .val (.int ((vp.toUInt32 >>> ((6 : Int32) &&& 31).toUInt32).toInt32))] [])) _
      exact X1.returnOut hx Bd.returns (hb hby d6_30) hr
    · show Q6 Z va vp vg h0 n0 _ T1.heap _
      rw [e1]
      exact ⟨rfl, N0, Z0, E_va, ⟨wd, vn, vw, vf, E_va, F_words, F_low, V_wd, ne_va_wd, g_wd, hn1, own_rem0 hb3 hG⟩⟩
theorem pd_1 : parseMethodDescriptor "([JI)[J" = some ⟨[(.array .long), .int], some (.array .long)⟩ := by decide +kernel
theorem d4_0 : decode prog_42_method_3_code 0 = .ok (.iload_n 1, 1) := by decide +kernel
theorem d4_1 : decode prog_42_method_3_code 1 = .ok (.bipush 6, 2) := by decide +kernel
theorem d4_3 : decode prog_42_method_3_code 3 = .ok (.iushr, 1) := by decide +kernel
theorem d4_4 : decode prog_42_method_3_code 4 = .ok (.istore_n 2, 1) := by decide +kernel
theorem d4_5 : decode prog_42_method_3_code 5 = .ok (.iload_n 2, 1) := by decide +kernel
theorem d4_6 : decode prog_42_method_3_code 6 = .ok (.aload_n 0, 1) := by decide +kernel
theorem d4_7 : decode prog_42_method_3_code 7 = .ok (.getfield 7, 3) := by decide +kernel
theorem d4_10 : decode prog_42_method_3_code 10 = .ok (.arraylength, 1) := by decide +kernel
theorem d4_11 : decode prog_42_method_3_code 11 = .ok (.if_icmp .lt 27, 3) := by decide +kernel
theorem d4_14 : decode prog_42_method_3_code 14 = .ok (.aload_n 0, 1) := by decide +kernel
theorem d4_15 : decode prog_42_method_3_code 15 = .ok (.aload_n 0, 1) := by decide +kernel
theorem d4_16 : decode prog_42_method_3_code 16 = .ok (.getfield 7, 3) := by decide +kernel
theorem d4_19 : decode prog_42_method_3_code 19 = .ok (.iconst 2, 1) := by decide +kernel
theorem d4_20 : decode prog_42_method_3_code 20 = .ok (.aload_n 0, 1) := by decide +kernel
theorem d4_21 : decode prog_42_method_3_code 21 = .ok (.getfield 7, 3) := by decide +kernel
theorem d4_24 : decode prog_42_method_3_code 24 = .ok (.arraylength, 1) := by decide +kernel
theorem d4_25 : decode prog_42_method_3_code 25 = .ok (.imul, 1) := by decide +kernel
theorem d4_26 : decode prog_42_method_3_code 26 = .ok (.iload_n 2, 1) := by decide +kernel
theorem d4_27 : decode prog_42_method_3_code 27 = .ok (.iconst 1, 1) := by decide +kernel
theorem d4_28 : decode prog_42_method_3_code 28 = .ok (.iadd, 1) := by decide +kernel
theorem d4_29 : decode prog_42_method_3_code 29 = .ok (.invokestatic 13, 3) := by decide +kernel
theorem d4_32 : decode prog_42_method_3_code 32 = .ok (.invokestatic 19, 3) := by decide +kernel
theorem d4_35 : decode prog_42_method_3_code 35 = .ok (.putfield 7, 3) := by decide +kernel
theorem d4_38 : decode prog_42_method_3_code 38 = .ok (.aload_n 0, 1) := by decide +kernel
theorem d4_39 : decode prog_42_method_3_code 39 = .ok (.getfield 7, 3) := by decide +kernel
theorem d4_42 : decode prog_42_method_3_code 42 = .ok (.iload_n 2, 1) := by decide +kernel
theorem d4_43 : decode prog_42_method_3_code 43 = .ok (.dup2, 1) := by decide +kernel
theorem d4_44 : decode prog_42_method_3_code 44 = .ok (.laload, 1) := by decide +kernel
theorem d4_45 : decode prog_42_method_3_code 45 = .ok (.lconst 1, 1) := by decide +kernel
theorem d4_46 : decode prog_42_method_3_code 46 = .ok (.iload_n 1, 1) := by decide +kernel
theorem d4_47 : decode prog_42_method_3_code 47 = .ok (.lshl, 1) := by decide +kernel
theorem d4_48 : decode prog_42_method_3_code 48 = .ok (.lor, 1) := by decide +kernel
theorem d4_49 : decode prog_42_method_3_code 49 = .ok (.lastore, 1) := by decide +kernel
theorem d4_50 : decode prog_42_method_3_code 50 = .ok (.aload_n 0, 1) := by decide +kernel
theorem d4_51 : decode prog_42_method_3_code 51 = .ok (.aload_n 0, 1) := by decide +kernel
theorem d4_52 : decode prog_42_method_3_code 52 = .ok (.getfield 25, 3) := by decide +kernel
theorem d4_55 : decode prog_42_method_3_code 55 = .ok (.iload_n 1, 1) := by decide +kernel
theorem d4_56 : decode prog_42_method_3_code 56 = .ok (.invokestatic 29, 3) := by decide +kernel
theorem d4_59 : decode prog_42_method_3_code 59 = .ok (.putfield 25, 3) := by decide +kernel
theorem d4_62 : decode prog_42_method_3_code 62 = .ok (.return_, 1) := by decide +kernel
theorem pn_4 : plainName "com/example/concept_reasoner/conceptreasoner/tableau/Positions" = true := by first | (simp [plainName, overriddenIn]; done) | decide +kernel
theorem ef_4 (m : MethodId) (va : Addr) (vp : Int32) : entryFrame m #[(.ref va), (.int vp)] 3 = mkF m 0 #[.val (.ref va), .val (.int vp), .unset] [] := by first | (simp [entryFrame, mkF, argsToLocals, Value.category]; done) | rfl
def Q4 (Z : State) (va : Addr) (vp : Int32) (vg : Int32 → Int32) (h0 : Heap) (n0 : Nat) (v : Option Value) (h : Heap) (L : List Loc) : Prop := v = none ∧ Fr n0 L ∧ n0 ≤ h.size ∧ Exa Z h va "com/example/concept_reasoner/conceptreasoner/tableau/Positions" ∧ own_Pos Z h n0 va (fun q => if q = vp then (1 : Int32) else vg q)
set_option maxRecDepth 65536 in
set_option maxHeartbeats 40000000 in
theorem rm4 (l : Launch) (Z : State) (a0 : Array Value) (hw : ∀ d ∈ tables_1, d.before a0 Z = true) (ws : List Jvm.Cond) (va : Addr) (vp : Int32) (vg : Int32 → Int32) (h0 : Heap) (n0 : Nat) (Z0 : n0 ≤ h0.size) (HP : own_Pos Z h0 n0 va vg) (g_va : n0 ≤ va) (hp : (own_w vp).toInt ≤ 15) :
    MetFree l (⟨"com/example/concept_reasoner/conceptreasoner/tableau/Positions", "add", "(I)V"⟩ : MethodName) (head1 (Jvm.Cond.code (⟨"com/example/concept_reasoner/conceptreasoner/tableau/Positions", "add", "(I)V"⟩ : MethodName) prog_42_method_3_code 3 none :: ws) ({ frames := 2, cells := 1, slots := 30, locals := 33 } : Room)) (fun a U => a = #[(.ref va), (.int vp)] ∧ Z.Warmed39 U.vm ∧ U.heap = h0) (fun _ _ _ _ _ => True) (fun _ U o U' => ∃ v L, o = .returned v ∧ Q4 Z va vp vg h0 n0 v U'.heap L ∧ FrameEnd U o U' L ({ frames := 2, cells := 1, slots := 30, locals := 33 } : Room).cells ({ frames := 2, cells := 1, slots := 30, locals := 33 } : Room).slots) := by
  refine MetFree.of_bodySF (plainFor_of_name pn_4) hisR ?_
  intro p e s m args below meth c s₁ Bd hml0 hP hK
  obtain ⟨rfl, hZ, hh⟩ := hP
  have hx := Bd.exec
  have hby := Bd.bytes
  have hml : c.maxLocals = 3 := hml0
  have hown : s.vm.findClass "com/example/concept_reasoner/conceptreasoner/tableau/Positions" = some m.cls := findClass_of_methodNamed Bd.named
  have hnm := (name_of_methodNamed Bd.named Bd.method).1
  have X0 : Stand p l e ({ frames := 2, cells := 1, slots := 30, locals := 33 } : Room) s m #[(.ref va), (.int vp)] below meth c s₁ [] 0 0 := Stand.of_body Bd
  have e0 : s₁.heap = h0 := by rw [← hh, Bd.state]; rfl
  have N0 := Fr.nil n0
  have pre0 : ∀ t, Steps p.tables e below (s₁.setTop (mkF m 0 #[.val (.ref va), .val (.int vp), .unset] [])) t → Steps p.tables e below (s₁.setTop (entryFrame m #[(.ref va), (.int vp)] 3)) t := fun t k => castTop (ef_4 m va vp) k
  obtain ⟨wd, vn, vw, vf, E_va, F_words, F_low, V_wd, ne_va_wd, g_wd, hn1, hG⟩ := HP
  obtain ⟨T1, X1, e1, st1⟩ := getF X0 hx hZ hown (host := "") (Or.inl (hw _ (List.mem_of_getElem? (i := 10) rfl))) Via.refl e0 F_words (g := (mkF m 7 #[.val (.ref va), .val (.int vp), .val (.int ((vp.toUInt32 >>> ((6 : Int32) &&& 31).toUInt32).toInt32))] [(.ref va), (.int ((vp.toUInt32 >>> ((6 : Int32) &&& 31).toUInt32).toInt32))])) rfl rfl (hb hby d4_7)
  have Vo2 := V_wd
  obtain ⟨cl2, Ar2, S2, M2, H2⟩ := Vo2
  by_cases hb3 : ((vp.toUInt32 >>> ((6 : Int32) &&& 31).toUInt32).toInt32) < vn
  · obtain ⟨T4, X4, e4, st4⟩ := getF X1 hx hZ hown (host := "") (Or.inl (hw _ (List.mem_of_getElem? (i := 10) rfl))) Via.refl e1 F_words (g := (mkF m 39 #[.val (.ref va), .val (.int vp), .val (.int ((vp.toUInt32 >>> ((6 : Int32) &&& 31).toUInt32).toInt32))] [(.ref va)])) rfl rfl (hb hby d4_39)
    have hin6 : ¬ (((vp.toUInt32 >>> ((6 : Int32) &&& 31).toUInt32).toInt32) < 0 ∨ cl2.slots.size ≤ (((vp.toUInt32 >>> ((6 : Int32) &&& 31).toUInt32).toInt32)).toNatClampNeg) := inb_of S2 ⟨own_w0 vp, hb3⟩
    obtain ⟨T6, h6, X6, e6, W6, st6⟩ := stJ X4 hx hZ e4 Ar2 (j := ((vp.toUInt32 >>> ((6 : Int32) &&& 31).toUInt32).toInt32)) hin6 (g := (mkF m 49 #[.val (.ref va), .val (.int vp), .val (.int ((vp.toUInt32 >>> ((6 : Int32) &&& 31).toUInt32).toInt32))] [(.long ((vf (((vp.toUInt32 >>> ((6 : Int32) &&& 31).toUInt32).toInt32)).toNatClampNeg) ||| ((1 : Int64) <<< (vp &&& 0x3f).toInt64))), (.int ((vp.toUInt32 >>> ((6 : Int32) &&& 31).toUInt32).toInt32)), (.ref wd)])) rfl rfl (hb hby d4_49)
    have Z7 : n0 ≤ h6.size := Nat.le_trans Z0 (Keep.of_wr W6).1
    have E8_va := E_va.wr W6
    have F9_va_words := F_words.other W6 (Or.inl ne_va_wd)
    have F10_va_low := F_low.other W6 (Or.inl ne_va_wd)
    have V6 := own_arf_setL V_wd W6
    have N6 := Fr.snoc X6 N0 g_wd
    obtain ⟨T12, X12, e12, st12⟩ := getF X6 hx hZ hown (host := "") (Or.inl (hw _ (List.mem_of_getElem? (i := 22) rfl))) Via.refl e6 F10_va_low (g := (mkF m 52 #[.val (.ref va), .val (.int vp), .val (.int ((vp.toUInt32 >>> ((6 : Int32) &&& 31).toUInt32).toInt32))] [(.ref va), (.ref va)])) rfl rfl (hb hby d4_52)
    obtain ⟨_, _, ⟨T13, L13, k13, n13⟩, -, X13, ⟨Lc13, hQ13, l13, y13, z13⟩, st13⟩ := Jvm.LawKit.callS X12 hx (y := (⟨"java/lang/Math", "min", "(II)I"⟩ : MethodName)) hown (mvT hZ (hw _ (List.mem_of_getElem? (i := 24) rfl))) (mvT hZ (hw _ (List.mem_of_getElem? (i := 25) rfl))) (mvT hZ (hw _ (List.mem_of_getElem? (i := 26) rfl))) (mvT hZ (hw _ (List.mem_of_getElem? (i := 27) rfl))) (by decide) (backOf (W := 1) (rm5 l Z a0 hw [] vw vp  h6 n0 Z7 ) hZ (hw _ (List.mem_of_getElem? (i := 27) rfl)) (hw _ (List.mem_of_getElem? (i := 26) rfl)) (by decide) (by decide)) (g := (mkF m 56 #[.val (.ref va), .val (.int vp), .val (.int ((vp.toUInt32 >>> ((6 : Int32) &&& 31).toUInt32).toInt32))] [(.int vp), (.int vw), (.ref va)])) rfl (by rw [hml]; rfl) (argsL := [(.int vw), (.int vp)]) (rest := [(.ref va)]) (lenOf pd_0 rfl) rfl (by show 2 * 0 + _ ≤ _; exact Nat.le_of_eq rfl) (hb hby d4_56) (fun _ _ => ⟨rfl, e12, (by decide : 0 + 0 ≤ _), (by decide : 0 + 0 ≤ _)⟩)
    dsimp only [Pt.U, Pt.locs, Pt.cells, Pt.slots] at X13 l13 y13 z13 st13 hQ13
    subst l13 y13 z13
    obtain ⟨rfl, N13q, e13⟩ := hQ13
    have N13 := Fr.app N6 N13q
    obtain ⟨T14, h14, X14, e14, W14, st14⟩ := putF X13 hx hZ hown (host := "") (Or.inl (hw _ (List.mem_of_getElem? (i := 22) rfl))) Via.refl e13 F10_va_low E8_va (Or.inl (hw _ (List.mem_of_getElem? (i := 23) rfl))) (hw _ (List.mem_of_getElem? (i := 1) rfl)) (ty := .int) (by decide) rfl rfl (g := (mkF m 59 #[.val (.ref va), .val (.int vp), .val (.int ((vp.toUInt32 >>> ((6 : Int32) &&& 31).toUInt32).toInt32))] [(.int (FMin vw vp)), (.ref va)])) rfl rfl (hb hby d4_59)
    have Z15 : n0 ≤ h14.size := Nat.le_trans Z7 (Keep.of_wr W14).1
    have E16_va := E8_va.wr W14
    have F17_va_words := F9_va_words.other W14 (Or.inr (slot_ne (Or.inl (hw _ (List.mem_of_getElem? (i := 11) rfl))) (Or.inl (hw _ (List.mem_of_getElem? (i := 23) rfl))) (by decide) (t := (.array .long)) (t' := .int) (by decide) (by decide)))
    have V19_wd := V6.other W14 (Ne.symm ne_va_wd)
    have Fw14 := F10_va_low.same W14
    have N14 := Fr.snoc X14 N13 g_va
    obtain ⟨fs, hr, hrun, hended, hW, hsame⟩ := X14.leave (v := none) (fun _ => rfl)
    refine ⟨_, _, pre0 _ ?_, hrun, hended, _, _, rfl, ?_, ⟨_, rfl⟩, hW, hsame.mono (by decide) (by decide)⟩
    · show Steps p.tables e below (s₁.setTop (mkF m 0 #[.val (.ref va), .val (.int vp), .unset] [])) _
      refine XS.iloadN X0.here hx rfl (hb hby d4_0) rfl ?_
      show Steps p.tables e below (s₁.setTop (mkF m 1 #[.val (.ref va), .val (.int vp), .unset] [(.int vp)])) _
      refine XS.bipush X0.here hx rfl (hb hby d4_1) ?_
      show Steps p.tables e below (s₁.setTop (mkF m 3 #[.val (.ref va), .val (.int vp), .unset] [(.int (6 : Int32)), (.int vp)])) _
      refine XS.iushr X0.here hx rfl (hb hby d4_3) rfl ?_
      show Steps p.tables e below (s₁.setTop (mkF m 4 #[.val (.ref va), .val (.int vp), .unset] [(.int ((vp.toUInt32 >>> ((6 : Int32) &&& 31).toUInt32).toInt32))])) _
      refine XS.istoreN X0.here hx rfl (hb hby d4_4) rfl (l' := #[.val (.ref va), .val (.int vp), .val (.int ((vp.toUInt32 >>> ((6 : Int32) &&& 31).toUInt32).toInt32))]) rfl ?_
      show Steps p.tables e below (s₁.setTop (mkF m 5 #[.val (.ref va), .val (.int vp), .val (.int ((vp.toUInt32 >>> ((6 : Int32) &&& 31).toUInt32).toInt32))] [])) _
      refine XS.iloadN X0.here hx rfl (hb hby d4_5) rfl ?_
      show Steps p.tables e below (s₁.setTop (mkF m 6 #[.val (.ref va), .val (.int vp), .val (.int ((vp.toUInt32 >>> ((6 : Int32) &&& 31).toUInt32).toInt32))] [(.int ((vp.toUInt32 >>> ((6 : Int32) &&& 31).toUInt32).toInt32))])) _
      refine XS.aloadN X0.here hx rfl (hb hby d4_6) rfl rfl ?_
      show Steps p.tables e below (s₁.setTop (mkF m 7 #[.val (.ref va), .val (.int vp), .val (.int ((vp.toUInt32 >>> ((6 : Int32) &&& 31).toUInt32).toInt32))] [(.ref va), (.int ((vp.toUInt32 >>> ((6 : Int32) &&& 31).toUInt32).toInt32))])) _
      refine st1 _ ?_
      show Steps p.tables e below (T1.setTop (mkF m 10 #[.val (.ref va), .val (.int vp), .val (.int ((vp.toUInt32 >>> ((6 : Int32) &&& 31).toUInt32).toInt32))] [(.ref wd), (.int ((vp.toUInt32 >>> ((6 : Int32) &&& 31).toUInt32).toInt32))])) _
      refine X1.arraylength hx (by rw [e1]; exact Ar2.1) (State.isArrayOf_alike hZ.alike Ar2.2.1) (g := (mkF m 10 #[.val (.ref va), .val (.int vp), .val (.int ((vp.toUInt32 >>> ((6 : Int32) &&& 31).toUInt32).toInt32))] [(.ref wd), (.int ((vp.toUInt32 >>> ((6 : Int32) &&& 31).toUInt32).toInt32))])) rfl rfl (hb hby d4_10) _ ?_
      rw [len_of S2 M2]
      show Steps p.tables e below (T1.setTop (mkF m 11 #[.val (.ref va), .val (.int vp), .val (.int ((vp.toUInt32 >>> ((6 : Int32) &&& 31).toUInt32).toInt32))] [(.int vn), (.int ((vp.toUInt32 >>> ((6 : Int32) &&& 31).toUInt32).toInt32))])) _
      refine XS.icmpYes X1.here hx rfl (pc0 := 11) (pc' := 38) rfl (hb hby d4_11) rfl (tlt hb3).1 (by decide) (by decide) ?_
      show Steps p.tables e below (T1.setTop (mkF m 38 #[.val (.ref va), .val (.int vp), .val (.int ((vp.toUInt32 >>> ((6 : Int32) &&& 31).toUInt32).toInt32))] [])) _
      refine XS.aloadN X1.here hx rfl (hb hby d4_38) rfl rfl ?_
      show Steps p.tables e below (T1.setTop (mkF m 39 #[.val (.ref va), .val (.int vp), .val (.int ((vp.toUInt32 >>> ((6 : Int32) &&& 31).toUInt32).toInt32))] [(.ref va)])) _
      refine st4 _ ?_
      show Steps p.tables e below (T4.setTop (mkF m 42 #[.val (.ref va), .val (.int vp), .val (.int ((vp.toUInt32 >>> ((6 : Int32) &&& 31).toUInt32).toInt32))] [(.ref wd)])) _
      refine XS.iloadN X4.here hx rfl (hb hby d4_42) rfl ?_
      show Steps p.tables e below (T4.setTop (mkF m 43 #[.val (.ref va), .val (.int vp), .val (.int ((vp.toUInt32 >>> ((6 : Int32) &&& 31).toUInt32).toInt32))] [(.int ((vp.toUInt32 >>> ((6 : Int32) &&& 31).toUInt32).toInt32)), (.ref wd)])) _
      refine Jvm.Free.XT.dup2 X4.here hx rfl (hb hby d4_43) rfl rfl rfl ?_
      show Steps p.tables e below (T4.setTop (mkF m 44 #[.val (.ref va), .val (.int vp), .val (.int ((vp.toUInt32 >>> ((6 : Int32) &&& 31).toUInt32).toInt32))] [(.int ((vp.toUInt32 >>> ((6 : Int32) &&& 31).toUInt32).toInt32)), (.ref wd), (.int ((vp.toUInt32 >>> ((6 : Int32) &&& 31).toUInt32).toInt32)), (.ref wd)])) _
      have hin5 : ¬ (((vp.toUInt32 >>> ((6 : Int32) &&& 31).toUInt32).toInt32) < 0 ∨ cl2.slots.size ≤ (((vp.toUInt32 >>> ((6 : Int32) &&& 31).toUInt32).toInt32)).toNatClampNeg) := inb_of S2 ⟨own_w0 vp, hb3⟩
      refine X4.laload hx (j := ((vp.toUInt32 >>> ((6 : Int32) &&& 31).toUInt32).toInt32)) (v := (.long (vf (((vp.toUInt32 >>> ((6 : Int32) &&& 31).toUInt32).toInt32)).toNatClampNeg))) (by rw [e4]; exact Ar2.1) (State.isArrayOf_alike hZ.alike Ar2.2.1) Ar2.2.2 hin5 (own_arf_at H2 S2 hin5) (g := (mkF m 44 #[.val (.ref va), .val (.int vp), .val (.int ((vp.toUInt32 >>> ((6 : Int32) &&& 31).toUInt32).toInt32))] [(.int ((vp.toUInt32 >>> ((6 : Int32) &&& 31).toUInt32).toInt32)), (.ref wd), (.int ((vp.toUInt32 >>> ((6 : Int32) &&& 31).toUInt32).toInt32)), (.ref wd)])) rfl rfl (hb hby d4_44) _ ?_
      show Steps p.tables e below (T4.setTop (mkF m 45 #[.val (.ref va), .val (.int vp), .val (.int ((vp.toUInt32 >>> ((6 : Int32) &&& 31).toUInt32).toInt32))] [(.long (vf (((vp.toUInt32 >>> ((6 : Int32) &&& 31).toUInt32).toInt32)).toNatClampNeg)), (.int ((vp.toUInt32 >>> ((6 : Int32) &&& 31).toUInt32).toInt32)), (.ref wd)])) _
      refine XS.lconst X4.here hx rfl (hb hby d4_45) ?_
      show Steps p.tables e below (T4.setTop (mkF m 46 #[.val (.ref va), .val (.int vp), .val (.int ((vp.toUInt32 >>> ((6 : Int32) &&& 31).toUInt32).toInt32))] [(.long (1 : Int64)), (.long (vf (((vp.toUInt32 >>> ((6 : Int32) &&& 31).toUInt32).toInt32)).toNatClampNeg)), (.int ((vp.toUInt32 >>> ((6 : Int32) &&& 31).toUInt32).toInt32)), (.ref wd)])) _
      refine XS.iloadN X4.here hx rfl (hb hby d4_46) rfl ?_
      show Steps p.tables e below (T4.setTop (mkF m 47 #[.val (.ref va), .val (.int vp), .val (.int ((vp.toUInt32 >>> ((6 : Int32) &&& 31).toUInt32).toInt32))] [(.int vp), (.long (1 : Int64)), (.long (vf (((vp.toUInt32 >>> ((6 : Int32) &&& 31).toUInt32).toInt32)).toNatClampNeg)), (.int ((vp.toUInt32 >>> ((6 : Int32) &&& 31).toUInt32).toInt32)), (.ref wd)])) _
      refine XS.lshl X4.here hx rfl (hb hby d4_47) rfl ?_
      show Steps p.tables e below (T4.setTop (mkF m 48 #[.val (.ref va), .val (.int vp), .val (.int ((vp.toUInt32 >>> ((6 : Int32) &&& 31).toUInt32).toInt32))] [(.long ((1 : Int64) <<< (vp &&& 0x3f).toInt64)), (.long (vf (((vp.toUInt32 >>> ((6 : Int32) &&& 31).toUInt32).toInt32)).toNatClampNeg)), (.int ((vp.toUInt32 >>> ((6 : Int32) &&& 31).toUInt32).toInt32)), (.ref wd)])) _
      refine XS.lor X4.here hx rfl (hb hby d4_48) rfl ?_
      show Steps p.tables e below (T4.setTop (mkF m 49 #[.val (.ref va), .val (.int vp), .val (.int ((vp.toUInt32 >>> ((6 : Int32) &&& 31).toUInt32).toInt32))] [(.long ((vf (((vp.toUInt32 >>> ((6 : Int32) &&& 31).toUInt32).toInt32)).toNatClampNeg) ||| ((1 : Int64) <<< (vp &&& 0x3f).toInt64))), (.int ((vp.toUInt32 >>> ((6 : Int32) &&& 31).toUInt32).toInt32)), (.ref wd)])) _
      refine st6 _ ?_
      show Steps p.tables e below (T6.setTop (mkF m 50 #[.val (.ref va), .val (.int vp), .val (.int ((vp.toUInt32 >>> ((6 : Int32) &&& 31).toUInt32).toInt32))] [])) _
      refine XS.aloadN X6.here hx rfl (hb hby d4_50) rfl rfl ?_
      show Steps p.tables e below (T6.setTop (mkF m 51 #[.val (.ref va), .val (.int vp), .val (.int ((vp.toUInt32 >>> ((6 : Int32) &&& 31).toUInt32).toInt32))] [(.ref va)])) _
      refine XS.aloadN X6.here hx rfl (hb hby d4_51) rfl rfl ?_
      show Steps p.tables e below (T6.setTop (mkF m 52 #[.val (.ref va), .val (.int vp), .val (.int ((vp.toUInt32 >>> ((6 : Int32) &&& 31).toUInt32).toInt32))] [(.ref va), (.ref va)])) _
      refine st12 _ ?_
      show Steps p.tables e below (T12.setTop (mkF m 55 #[.val (.ref va), .val (.int vp), .val (.int ((vp.toUInt32 >>> ((6 : Int32) &&& 31).toUInt32).toInt32))] [(.int vw), (.ref va)])) _
      refine XS.iloadN X12.here hx rfl (hb hby d4_55) rfl ?_
      show Steps p.tables e below (T12.setTop (mkF m 56 #[.val (.ref va), .val (.int vp), .val (.int ((vp.toUInt32 >>> ((6 : Int32) &&& 31).toUInt32).toInt32))] [(.int vp), (.int vw), (.ref va)])) _
      refine st13 _ ?_
      show Steps p.tables e below (T13.setTop (mkF m 59 #[.val (.ref va), .val (.int vp), .val (.int ((vp.toUInt32 >>> ((6 : Int32) &&& 31).toUInt32).toInt32))] [(.int (FMin vw vp)), (.ref va)])) _
      refine st14 _ ?_
      show Steps p.tables e below (T14.setTop (mkF m 62 #[.val (.ref va), .val (.int vp), .val (.int ((vp.toUInt32 >>> ((6 : Int32) &&& 31).toUInt32).toInt32))] [])) _
      exact X14.returnOut hx Bd.returns (hb hby d4_62) hr
    · show Q4 Z va vp vg h0 n0 _ T14.heap _
      rw [e14]
      exact ⟨rfl, N14, Z15, E16_va, ⟨wd, vn, (FMin vw vp), (fun i => if i = (((vp.toUInt32 >>> ((6 : Int32) &&& 31).toUInt32).toInt32)).toNatClampNeg then ((vf (((vp.toUInt32 >>> ((6 : Int32) &&& 31).toUInt32).toInt32)).toNatClampNeg) ||| ((1 : Int64) <<< (vp &&& 0x3f).toInt64)) else vf i), E16_va, F17_va_words, Fw14, V19_wd, ne_va_wd, g_wd, hn1, own_add hb3 hG⟩⟩
  · obtain ⟨T20, X20, e20, st20⟩ := getF X1 hx hZ hown (host := "") (Or.inl (hw _ (List.mem_of_getElem? (i := 10) rfl))) Via.refl e1 F_words (g := (mkF m 16 #[.val (.ref va), .val (.int vp), .val (.int ((vp.toUInt32 >>> ((6 : Int32) &&& 31).toUInt32).toInt32))] [(.ref va), (.ref va)])) rfl rfl (hb hby d4_16)
    obtain ⟨T21, X21, e21, st21⟩ := getF X20 hx hZ hown (host := "") (Or.inl (hw _ (List.mem_of_getElem? (i := 10) rfl))) Via.refl e20 F_words (g := (mkF m 21 #[.val (.ref va), .val (.int vp), .val (.int ((vp.toUInt32 >>> ((6 : Int32) &&& 31).toUInt32).toInt32))] [(.ref va), (.int (2 : Int32)), (.ref wd), (.ref va)])) rfl rfl (hb hby d4_21)
    obtain ⟨_, _, ⟨T22, L22, k22, n22⟩, -, X22, ⟨Lc22, hQ22, l22, y22, z22⟩, st22⟩ := Jvm.LawKit.callS X21 hx (y := (⟨"java/lang/Math", "max", "(II)I"⟩ : MethodName)) hown (mvT hZ (hw _ (List.mem_of_getElem? (i := 34) rfl))) (mvT hZ (hw _ (List.mem_of_getElem? (i := 35) rfl))) (mvT hZ (hw _ (List.mem_of_getElem? (i := 26) rfl))) (mvT hZ (hw _ (List.mem_of_getElem? (i := 36) rfl))) (by decide) (backOf (W := 2) (rm7 l Z a0 hw [] ((2 : Int32) * vn) (((vp.toUInt32 >>> ((6 : Int32) &&& 31).toUInt32).toInt32) + (1 : Int32))  h0 n0 Z0 ) hZ (hw _ (List.mem_of_getElem? (i := 36) rfl)) (hw _ (List.mem_of_getElem? (i := 26) rfl)) (by decide) (by decide)) (g := (mkF m 29 #[.val (.ref va), .val (.int vp), .val (.int ((vp.toUInt32 >>> ((6 : Int32) &&& 31).toUInt32).toInt32))] [(.int (((vp.toUInt32 >>> ((6 : Int32) &&& 31).toUInt32).toInt32) + (1 : Int32))), (.int ((2 : Int32) * vn)), (.ref wd), (.ref va)])) rfl (by rw [hml]; rfl) (argsL := [(.int ((2 : Int32) * vn)), (.int (((vp.toUInt32 >>> ((6 : Int32) &&& 31).toUInt32).toInt32) + (1 : Int32)))]) (rest := [(.ref wd), (.ref va)]) (lenOf pd_0 rfl) rfl (by show 2 * 0 + _ ≤ _; exact Nat.le_of_eq rfl) (hb hby d4_29) (fun _ _ => ⟨rfl, e21, (by decide : 0 + 0 ≤ _), (by decide : 0 + 0 ≤ _)⟩)
    dsimp only [Pt.U, Pt.locs, Pt.cells, Pt.slots] at X22 l22 y22 z22 st22 hQ22
    subst l22 y22 z22
    obtain ⟨rfl, N22q, e22⟩ := hQ22
    have N22 := Fr.app N0 N22q
    obtain ⟨_, _, ⟨T23, L23, k23, n23⟩, -, X23, ⟨Lc23, hQ23, l23, y23, z23⟩, st23⟩ := Jvm.LawKit.callS X22 hx (y := (⟨"java/util/Arrays", "copyOf", "([JI)[J"⟩ : MethodName)) hown (mvT hZ (hw _ (List.mem_of_getElem? (i := 37) rfl))) (mvT hZ (hw _ (List.mem_of_getElem? (i := 38) rfl))) (mvT hZ (hw _ (List.mem_of_getElem? (i := 39) rfl))) (mvT hZ (hw _ (List.mem_of_getElem? (i := 40) rfl))) (by decide) (backOf (W := 1) (rm8 l Z a0 hw [] wd (FMax ((2 : Int32) * vn) (((vp.toUInt32 >>> ((6 : Int32) &&& 31).toUInt32).toInt32) + (1 : Int32))) (vn) (vf) h0 n0 Z0 V_wd (own_grow0 hp hb3 hn1) (own_grow3 hp hb3 hn1)) hZ (hw _ (List.mem_of_getElem? (i := 40) rfl)) (hw _ (List.mem_of_getElem? (i := 39) rfl)) (by decide) (by decide)) (g := (mkF m 32 #[.val (.ref va), .val (.int vp), .val (.int ((vp.toUInt32 >>> ((6 : Int32) &&& 31).toUInt32).toInt32))] [(.int (FMax ((2 : Int32) * vn) (((vp.toUInt32 >>> ((6 : Int32) &&& 31).toUInt32).toInt32) + (1 : Int32)))), (.ref wd), (.ref va)])) rfl (by rw [hml]; rfl) (argsL := [(.ref wd), (.int (FMax ((2 : Int32) * vn) (((vp.toUInt32 >>> ((6 : Int32) &&& 31).toUInt32).toInt32) + (1 : Int32))))]) (rest := [(.ref va)]) (lenOf pd_1 rfl) rfl (by show 2 * 0 + _ ≤ _; exact Nat.le_of_eq rfl) (hb hby d4_32) (fun _ _ => ⟨rfl, e22, (by decide : 0 + 1 ≤ _), (by decide : 0 + 30 ≤ _)⟩)
    dsimp only [Pt.U, Pt.locs, Pt.cells, Pt.slots] at X23 l23 y23 z23 st23 hQ23
    subst l23 y23 z23
    obtain ⟨b23, rfl, N23q, gb23, sb23, Kb23, Vb23⟩ := hQ23
    have ne_va_b23 : va ≠ b23 := Nat.ne_of_lt (Nat.lt_of_lt_of_le E_va.lt sb23)
    have ne_wd_b23 : wd ≠ b23 := Nat.ne_of_lt (Nat.lt_of_lt_of_le V_wd.lt sb23)
    have Z24 : n0 ≤ T23.heap.size := Nat.le_trans Z0 Kb23.1
    have E25_va := E_va.keep Kb23
    have F26_va_words := F_words.keep Kb23 nin0
    have F27_va_low := F_low.keep Kb23 nin0
    have V28_wd := V_wd.keep Kb23 nin0
    have N23 := Fr.app N22 N23q
    obtain ⟨T29, h29, X29, e29, W29, st29⟩ := putF X23 hx hZ hown (host := "") (Or.inl (hw _ (List.mem_of_getElem? (i := 10) rfl))) Via.refl rfl F26_va_words E25_va (Or.inl (hw _ (List.mem_of_getElem? (i := 11) rfl))) (hw _ (List.mem_of_getElem? (i := 1) rfl)) (ty := (.array .long)) (by decide) rfl rfl (g := (mkF m 35 #[.val (.ref va), .val (.int vp), .val (.int ((vp.toUInt32 >>> ((6 : Int32) &&& 31).toUInt32).toInt32))] [(.ref b23), (.ref va)])) rfl rfl (hb hby d4_35)
    have Z30 : n0 ≤ h29.size := Nat.le_trans Z24 (Keep.of_wr W29).1
    have E31_va := E25_va.wr W29
    have F33_va_low := F27_va_low.other W29 (Or.inr (slot_ne (Or.inl (hw _ (List.mem_of_getElem? (i := 23) rfl))) (Or.inl (hw _ (List.mem_of_getElem? (i := 11) rfl))) (by decide) (t := .int) (t' := (.array .long)) (by decide) (by decide)))
    have V34_wd := V28_wd.other W29 (Ne.symm ne_va_wd)
    have V35_b23 := Vb23.other W29 (Ne.symm ne_va_b23)
    have Fw29 := F26_va_words.same W29
    have N29 := Fr.snoc X29 N23 g_va
    obtain ⟨T36, X36, e36, st36⟩ := getF X29 hx hZ hown (host := "") (Or.inl (hw _ (List.mem_of_getElem? (i := 10) rfl))) Via.refl e29 Fw29 (g := (mkF m 39 #[.val (.ref va), .val (.int vp), .val (.int ((vp.toUInt32 >>> ((6 : Int32) &&& 31).toUInt32).toInt32))] [(.ref va)])) rfl rfl (hb hby d4_39)
    have Vo37 := V35_b23
    obtain ⟨cl37, Ar37, S37, M37, H37⟩ := Vo37
    have hin39 : ¬ (((vp.toUInt32 >>> ((6 : Int32) &&& 31).toUInt32).toInt32) < 0 ∨ cl37.slots.size ≤ (((vp.toUInt32 >>> ((6 : Int32) &&& 31).toUInt32).toInt32)).toNatClampNeg) := inb_of S37 ⟨own_w0 vp, own_grow2 hp hb3 hn1⟩
    obtain ⟨T39, h39, X39, e39, W39, st39⟩ := stJ X36 hx hZ e36 Ar37 (j := ((vp.toUInt32 >>> ((6 : Int32) &&& 31).toUInt32).toInt32)) hin39 (g := (mkF m 49 #[.val (.ref va), .val (.int vp), .val (.int ((vp.toUInt32 >>> ((6 : Int32) &&& 31).toUInt32).toInt32))] [(.long (((fun i => if i < (vn).toNatClampNeg then (vf) i else 0) (((vp.toUInt32 >>> ((6 : Int32) &&& 31).toUInt32).toInt32)).toNatClampNeg) ||| ((1 : Int64) <<< (vp &&& 0x3f).toInt64))), (.int ((vp.toUInt32 >>> ((6 : Int32) &&& 31).toUInt32).toInt32)), (.ref b23)])) rfl rfl (hb hby d4_49)
    have Z40 : n0 ≤ h39.size := Nat.le_trans Z30 (Keep.of_wr W39).1
    have E41_va := E31_va.wr W39
    have F42_va_words := Fw29.other W39 (Or.inl ne_va_b23)
    have F43_va_low := F33_va_low.other W39 (Or.inl ne_va_b23)
    have V44_wd := V34_wd.other W39 ne_wd_b23
    have V39 := own_arf_setL V35_b23 W39
    have N39 := Fr.snoc X39 N29 gb23
    obtain ⟨T46, X46, e46, st46⟩ := getF X39 hx hZ hown (host := "") (Or.inl (hw _ (List.mem_of_getElem? (i := 22) rfl))) Via.refl e39 F43_va_low (g := (mkF m 52 #[.val (.ref va), .val (.int vp), .val (.int ((vp.toUInt32 >>> ((6 : Int32) &&& 31).toUInt32).toInt32))] [(.ref va), (.ref va)])) rfl rfl (hb hby d4_52)
    obtain ⟨_, _, ⟨T47, L47, k47, n47⟩, -, X47, ⟨Lc47, hQ47, l47, y47, z47⟩, st47⟩ := Jvm.LawKit.callS X46 hx (y := (⟨"java/lang/Math", "min", "(II)I"⟩ : MethodName)) hown (mvT hZ (hw _ (List.mem_of_getElem? (i := 24) rfl))) (mvT hZ (hw _ (List.mem_of_getElem? (i := 25) rfl))) (mvT hZ (hw _ (List.mem_of_getElem? (i := 26) rfl))) (mvT hZ (hw _ (List.mem_of_getElem? (i := 27) rfl))) (by decide) (backOf (W := 1) (rm5 l Z a0 hw [] vw vp  h39 n0 Z40 ) hZ (hw _ (List.mem_of_getElem? (i := 27) rfl)) (hw _ (List.mem_of_getElem? (i := 26) rfl)) (by decide) (by decide)) (g := (mkF m 56 #[.val (.ref va), .val (.int vp), .val (.int ((vp.toUInt32 >>> ((6 : Int32) &&& 31).toUInt32).toInt32))] [(.int vp), (.int vw), (.ref va)])) rfl (by rw [hml]; rfl) (argsL := [(.int vw), (.int vp)]) (rest := [(.ref va)]) (lenOf pd_0 rfl) rfl (by show 2 * 0 + _ ≤ _; exact Nat.le_of_eq rfl) (hb hby d4_56) (fun _ _ => ⟨rfl, e46, (by decide : 1 + 0 ≤ _), (by decide : 30 + 0 ≤ _)⟩)
    dsimp only [Pt.U, Pt.locs, Pt.cells, Pt.slots] at X47 l47 y47 z47 st47 hQ47
    subst l47 y47 z47
    obtain ⟨rfl, N47q, e47⟩ := hQ47
    have N47 := Fr.app N39 N47q
    obtain ⟨T48, h48, X48, e48, W48, st48⟩ := putF X47 hx hZ hown (host := "") (Or.inl (hw _ (List.mem_of_getElem? (i := 22) rfl))) Via.refl e47 F43_va_low E41_va (Or.inl (hw _ (List.mem_of_getElem? (i := 23) rfl))) (hw _ (List.mem_of_getElem? (i := 1) rfl)) (ty := .int) (by decide) rfl rfl (g := (mkF m 59 #[.val (.ref va), .val (.int vp), .val (.int ((vp.toUInt32 >>> ((6 : Int32) &&& 31).toUInt32).toInt32))] [(.int (FMin vw vp)), (.ref va)])) rfl rfl (hb hby d4_59)
    have Z49 : n0 ≤ h48.size := Nat.le_trans Z40 (Keep.of_wr W48).1
    have E50_va := E41_va.wr W48
    have F51_va_words := F42_va_words.other W48 (Or.inr (slot_ne (Or.inl (hw _ (List.mem_of_getElem? (i := 11) rfl))) (Or.inl (hw _ (List.mem_of_getElem? (i := 23) rfl))) (by decide) (t := (.array .long)) (t' := .int) (by decide) (by decide)))
    have V53_wd := V44_wd.other W48 (Ne.symm ne_va_wd)
    have V54_b23 := V39.other W48 (Ne.symm ne_va_b23)
    have Fw48 := F43_va_low.same W48
    have N48 := Fr.snoc X48 N47 g_va
    obtain ⟨fs, hr, hrun, hended, hW, hsame⟩ := X48.leave (v := none) (fun _ => rfl)
    refine ⟨_, _, pre0 _ ?_, hrun, hended, _, _, rfl, ?_, ⟨_, rfl⟩, hW, hsame.mono (by decide) (by decide)⟩
    · show Steps p.tables e below (s₁.setTop (mkF m 0 #[.val (.ref va), .val (.int vp), .unset] [])) _
      refine XS.iloadN X0.here hx rfl (hb hby d4_0) rfl ?_
      show Steps p.tables e below (s₁.setTop (mkF m 1 #[.val (.ref va), .val (.int vp), .unset] [(.int vp)])) _
      refine XS.bipush X0.here hx rfl (hb hby d4_1) ?_
      show Steps p.tables e below (s₁.setTop (mkF m 3 #[.val (.ref va), .val (.int vp), .unset] [(.int (6 : Int32)), (.int vp)])) _
      refine XS.iushr X0.here hx rfl (hb hby d4_3) rfl ?_
      show Steps p.tables e below (s₁.setTop (mkF m 4 #[.val (.ref va), .val (.int vp), .unset] [(.int ((vp.toUInt32 >>> ((6 : Int32) &&& 31).toUInt32).toInt32))])) _
      refine XS.istoreN X0.here hx rfl (hb hby d4_4) rfl (l' := #[.val (.ref va), .val (.int vp), .val (.int ((vp.toUInt32 >>> ((6 : Int32) &&& 31).toUInt32).toInt32))]) rfl ?_
      show Steps p.tables e below (s₁.setTop (mkF m 5 #[.val (.ref va), .val (.int vp), .val (.int ((vp.toUInt32 >>> ((6 : Int32) &&& 31).toUInt32).toInt32))] [])) _
      refine XS.iloadN X0.here hx rfl (hb hby d4_5) rfl ?_
      show Steps p.tables e below (s₁.setTop (mkF m 6 #[.val (.ref va), .val (.int vp), .val (.int ((vp.toUInt32 >>> ((6 : Int32) &&& 31).toUInt32).toInt32))] [(.int ((vp.toUInt32 >>> ((6 : Int32) &&& 31).toUInt32).toInt32))])) _
      refine XS.aloadN X0.here hx rfl (hb hby d4_6) rfl rfl ?_
      show Steps p.tables e below (s₁.setTop (mkF m 7 #[.val (.ref va), .val (.int vp), .val (.int ((vp.toUInt32 >>> ((6 : Int32) &&& 31).toUInt32).toInt32))] [(.ref va), (.int ((vp.toUInt32 >>> ((6 : Int32) &&& 31).toUInt32).toInt32))])) _
      refine st1 _ ?_
      show Steps p.tables e below (T1.setTop (mkF m 10 #[.val (.ref va), .val (.int vp), .val (.int ((vp.toUInt32 >>> ((6 : Int32) &&& 31).toUInt32).toInt32))] [(.ref wd), (.int ((vp.toUInt32 >>> ((6 : Int32) &&& 31).toUInt32).toInt32))])) _
      refine X1.arraylength hx (by rw [e1]; exact Ar2.1) (State.isArrayOf_alike hZ.alike Ar2.2.1) (g := (mkF m 10 #[.val (.ref va), .val (.int vp), .val (.int ((vp.toUInt32 >>> ((6 : Int32) &&& 31).toUInt32).toInt32))] [(.ref wd), (.int ((vp.toUInt32 >>> ((6 : Int32) &&& 31).toUInt32).toInt32))])) rfl rfl (hb hby d4_10) _ ?_
      rw [len_of S2 M2]
      show Steps p.tables e below (T1.setTop (mkF m 11 #[.val (.ref va), .val (.int vp), .val (.int ((vp.toUInt32 >>> ((6 : Int32) &&& 31).toUInt32).toInt32))] [(.int vn), (.int ((vp.toUInt32 >>> ((6 : Int32) &&& 31).toUInt32).toInt32))])) _
      refine XS.icmpNo X1.here hx rfl (hb hby d4_11) rfl (flt hb3).1 ?_
      show Steps p.tables e below (T1.setTop (mkF m 14 #[.val (.ref va), .val (.int vp), .val (.int ((vp.toUInt32 >>> ((6 : Int32) &&& 31).toUInt32).toInt32))] [])) _
      refine XS.aloadN X1.here hx rfl (hb hby d4_14) rfl rfl ?_
      show Steps p.tables e below (T1.setTop (mkF m 15 #[.val (.ref va), .val (.int vp), .val (.int ((vp.toUInt32 >>> ((6 : Int32) &&& 31).toUInt32).toInt32))] [(.ref va)])) _
      refine XS.aloadN X1.here hx rfl (hb hby d4_15) rfl rfl ?_
      show Steps p.tables e below (T1.setTop (mkF m 16 #[.val (.ref va), .val (.int vp), .val (.int ((vp.toUInt32 >>> ((6 : Int32) &&& 31).toUInt32).toInt32))] [(.ref va), (.ref va)])) _
      refine st20 _ ?_
      show Steps p.tables e below (T20.setTop (mkF m 19 #[.val (.ref va), .val (.int vp), .val (.int ((vp.toUInt32 >>> ((6 : Int32) &&& 31).toUInt32).toInt32))] [(.ref wd), (.ref va)])) _
      refine XS.iconst X20.here hx rfl (hb hby d4_19) ?_
      show Steps p.tables e below (T20.setTop (mkF m 20 #[.val (.ref va), .val (.int vp), .val (.int ((vp.toUInt32 >>> ((6 : Int32) &&& 31).toUInt32).toInt32))] [(.int (2 : Int32)), (.ref wd), (.ref va)])) _
      refine XS.aloadN X20.here hx rfl (hb hby d4_20) rfl rfl ?_
      show Steps p.tables e below (T20.setTop (mkF m 21 #[.val (.ref va), .val (.int vp), .val (.int ((vp.toUInt32 >>> ((6 : Int32) &&& 31).toUInt32).toInt32))] [(.ref va), (.int (2 : Int32)), (.ref wd), (.ref va)])) _
      refine st21 _ ?_
      show Steps p.tables e below (T21.setTop (mkF m 24 #[.val (.ref va), .val (.int vp), .val (.int ((vp.toUInt32 >>> ((6 : Int32) &&& 31).toUInt32).toInt32))] [(.ref wd), (.int (2 : Int32)), (.ref wd), (.ref va)])) _
      refine X21.arraylength hx (by rw [e21]; exact Ar2.1) (State.isArrayOf_alike hZ.alike Ar2.2.1) (g := (mkF m 24 #[.val (.ref va), .val (.int vp), .val (.int ((vp.toUInt32 >>> ((6 : Int32) &&& 31).toUInt32).toInt32))] [(.ref wd), (.int (2 : Int32)), (.ref wd), (.ref va)])) rfl rfl (hb hby d4_24) _ ?_
      rw [len_of S2 M2]
      show Steps p.tables e below (T21.setTop (mkF m 25 #[.val (.ref va), .val (.int vp), .val (.int ((vp.toUInt32 >>> ((6 : Int32) &&& 31).toUInt32).toInt32))] [(.int vn), (.int (2 : Int32)), (.ref wd), (.ref va)])) _
      refine XS.imul X21.here hx rfl (hb hby d4_25) rfl ?_
      show Steps p.tables e below (T21.setTop (mkF m 26 #[.val (.ref va), .val (.int vp), .val (.int ((vp.toUInt32 >>> ((6 : Int32) &&& 31).toUInt32).toInt32))] [(.int ((2 : Int32) * vn)), (.ref wd), (.ref va)])) _
      refine XS.iloadN X21.here hx rfl (hb hby d4_26) rfl ?_
      show Steps p.tables e below (T21.setTop (mkF m 27 #[.val (.ref va), .val (.int vp), .val (.int ((vp.toUInt32 >>> ((6 : Int32) &&& 31).toUInt32).toInt32))] [(.int ((vp.toUInt32 >>> ((6 : Int32) &&& 31).toUInt32).toInt32)), (.int ((2 : Int32) * vn)), (.ref wd), (.ref va)])) _
      refine XS.iconst X21.here hx rfl (hb hby d4_27) ?_
      show Steps p.tables e below (T21.setTop (mkF m 28 #[.val (.ref va), .val (.int vp), .val (.int ((vp.toUInt32 >>> ((6 : Int32) &&& 31).toUInt32).toInt32))] [(.int (1 : Int32)), (.int ((vp.toUInt32 >>> ((6 : Int32) &&& 31).toUInt32).toInt32)), (.int ((2 : Int32) * vn)), (.ref wd), (.ref va)])) _
      refine XS.iadd X21.here hx rfl (hb hby d4_28) rfl ?_
      show Steps p.tables e below (T21.setTop (mkF m 29 #[.val (.ref va), .val (.int vp), .val (.int ((vp.toUInt32 >>> ((6 : Int32) &&& 31).toUInt32).toInt32))] [(.int (((vp.toUInt32 >>> ((6 : Int32) &&& 31).toUInt32).toInt32) + (1 : Int32))), (.int ((2 : Int32) * vn)), (.ref wd), (.ref va)])) _
      refine st22 _ ?_
      show Steps p.tables e below (T22.setTop (mkF m 32 #[.val (.ref va), .val (.int vp), .val (.int ((vp.toUInt32 >>> ((6 : Int32) &&& 31).toUInt32).toInt32))] [(.int (FMax ((2 : Int32) * vn) (((vp.toUInt32 >>> ((6 : Int32) &&& 31).toUInt32).toInt32) + (1 : Int32)))), (.ref wd), (.ref va)])) _
      refine st23 _ ?_
      show Steps p.tables e below (T23.setTop (mkF m 35 #[.val (.ref va), .val (.int vp), .val (.int ((vp.toUInt32 >>> ((6 : Int32) &&& 31).toUInt32).toInt32))] [(.ref b23), (.ref va)])) _
      refine st29 _ ?_
      show Steps p.tables e below (T29.setTop (mkF m 38 #[.val (.ref va), .val (.int vp), .val (.int ((vp.toUInt32 >>> ((6 : Int32) &&& 31).toUInt32).toInt32))] [])) _
      refine XS.aloadN X29.here hx rfl (hb hby d4_38) rfl rfl ?_
      show Steps p.tables e below (T29.setTop (mkF m 39 #[.val (.ref va), .val (.int vp), .val (.int ((vp.toUInt32 >>> ((6 : Int32) &&& 31).toUInt32).toInt32))] [(.ref va)])) _
      refine st36 _ ?_
      show Steps p.tables e below (T36.setTop (mkF m 42 #[.val (.ref va), .val (.int vp), .val (.int ((vp.toUInt32 >>> ((6 : Int32) &&& 31).toUInt32).toInt32))] [(.ref b23)])) _
      refine XS.iloadN X36.here hx rfl (hb hby d4_42) rfl ?_
      show Steps p.tables e below (T36.setTop (mkF m 43 #[.val (.ref va), .val (.int vp), .val (.int ((vp.toUInt32 >>> ((6 : Int32) &&& 31).toUInt32).toInt32))] [(.int ((vp.toUInt32 >>> ((6 : Int32) &&& 31).toUInt32).toInt32)), (.ref b23)])) _
      refine Jvm.Free.XT.dup2 X36.here hx rfl (hb hby d4_43) rfl rfl rfl ?_
      show Steps p.tables e below (T36.setTop (mkF m 44 #[.val (.ref va), .val (.int vp), .val (.int ((vp.toUInt32 >>> ((6 : Int32) &&& 31).toUInt32).toInt32))] [(.int ((vp.toUInt32 >>> ((6 : Int32) &&& 31).toUInt32).toInt32)), (.ref b23), (.int ((vp.toUInt32 >>> ((6 : Int32) &&& 31).toUInt32).toInt32)), (.ref b23)])) _
      have hin38 : ¬ (((vp.toUInt32 >>> ((6 : Int32) &&& 31).toUInt32).toInt32) < 0 ∨ cl37.slots.size ≤ (((vp.toUInt32 >>> ((6 : Int32) &&& 31).toUInt32).toInt32)).toNatClampNeg) := inb_of S37 ⟨own_w0 vp, own_grow2 hp hb3 hn1⟩
      refine X36.laload hx (j := ((vp.toUInt32 >>> ((6 : Int32) &&& 31).toUInt32).toInt32)) (v := (.long ((fun i => if i < (vn).toNatClampNeg then (vf) i else 0) (((vp.toUInt32 >>> ((6 : Int32) &&& 31).toUInt32).toInt32)).toNatClampNeg))) (by rw [e36]; exact Ar37.1) (State.isArrayOf_alike hZ.alike Ar37.2.1) Ar37.2.2 hin38 (own_arf_at H37 S37 hin38) (g := (mkF m 44 #[.val (.ref va), .val (.int vp), .val (.int ((vp.toUInt32 >>> ((6 : Int32) &&& 31).toUInt32).toInt32))] [(.int ((vp.toUInt32 >>> ((6 : Int32) &&& 31).toUInt32).toInt32)), (.ref b23), (.int ((vp.toUInt32 >>> ((6 : Int32) &&& 31).toUInt32).toInt32)), (.ref b23)])) rfl rfl (hb hby d4_44) _ ?_
      show Steps p.tables e below (T36.setTop (mkF m 45 #[.val (.ref va), .val (.int vp), .val (.int ((vp.toUInt32 >>> ((6 : Int32) &&& 31).toUInt32).toInt32))] [(.long ((fun i => if i < (vn).toNatClampNeg then (vf) i else 0) (((vp.toUInt32 >>> ((6 : Int32) &&& 31).toUInt32).toInt32)).toNatClampNeg)), (.int ((vp.toUInt32 >>> ((6 : Int32) &&& 31).toUInt32).toInt32)), (.ref b23)])) _
      refine XS.lconst X36.here hx rfl (hb hby d4_45) ?_
      show Steps p.tables e below (T36.setTop (mkF m 46 #[.val (.ref va), .val (.int vp), .val (.int ((vp.toUInt32 >>> ((6 : Int32) &&& 31).toUInt32).toInt32))] [(.long (1 : Int64)), (.long ((fun i => if i < (vn).toNatClampNeg then (vf) i else 0) (((vp.toUInt32 >>> ((6 : Int32) &&& 31).toUInt32).toInt32)).toNatClampNeg)), (.int ((vp.toUInt32 >>> ((6 : Int32) &&& 31).toUInt32).toInt32)), (.ref b23)])) _
      refine XS.iloadN X36.here hx rfl (hb hby d4_46) rfl ?_
      show Steps p.tables e below (T36.setTop (mkF m 47 #[.val (.ref va), .val (.int vp), .val (.int ((vp.toUInt32 >>> ((6 : Int32) &&& 31).toUInt32).toInt32))] [(.int vp), (.long (1 : Int64)), (.long ((fun i => if i < (vn).toNatClampNeg then (vf) i else 0) (((vp.toUInt32 >>> ((6 : Int32) &&& 31).toUInt32).toInt32)).toNatClampNeg)), (.int ((vp.toUInt32 >>> ((6 : Int32) &&& 31).toUInt32).toInt32)), (.ref b23)])) _
      refine XS.lshl X36.here hx rfl (hb hby d4_47) rfl ?_
      show Steps p.tables e below (T36.setTop (mkF m 48 #[.val (.ref va), .val (.int vp), .val (.int ((vp.toUInt32 >>> ((6 : Int32) &&& 31).toUInt32).toInt32))] [(.long ((1 : Int64) <<< (vp &&& 0x3f).toInt64)), (.long ((fun i => if i < (vn).toNatClampNeg then (vf) i else 0) (((vp.toUInt32 >>> ((6 : Int32) &&& 31).toUInt32).toInt32)).toNatClampNeg)), (.int ((vp.toUInt32 >>> ((6 : Int32) &&& 31).toUInt32).toInt32)), (.ref b23)])) _
      refine XS.lor X36.here hx rfl (hb hby d4_48) rfl ?_
      show Steps p.tables e below (T36.setTop (mkF m 49 #[.val (.ref va), .val (.int vp), .val (.int ((vp.toUInt32 >>> ((6 : Int32) &&& 31).toUInt32).toInt32))] [(.long (((fun i => if i < (vn).toNatClampNeg then (vf) i else 0) (((vp.toUInt32 >>> ((6 : Int32) &&& 31).toUInt32).toInt32)).toNatClampNeg) ||| ((1 : Int64) <<< (vp &&& 0x3f).toInt64))), (.int ((vp.toUInt32 >>> ((6 : Int32) &&& 31).toUInt32).toInt32)), (.ref b23)])) _
      refine st39 _ ?_
      show Steps p.tables e below (T39.setTop (mkF m 50 #[.val (.ref va), .val (.int vp), .val (.int ((vp.toUInt32 >>> ((6 : Int32) &&& 31).toUInt32).toInt32))] [])) _
      refine XS.aloadN X39.here hx rfl (hb hby d4_50) rfl rfl ?_
      show Steps p.tables e below (T39.setTop (mkF m 51 #[.val (.ref va), .val (.int vp), .val (.int ((vp.toUInt32 >>> ((6 : Int32) &&& 31).toUInt32).toInt32))] [(.ref va)])) _
      refine XS.aloadN X39.here hx rfl (hb hby d4_51) rfl rfl ?_
      show Steps p.tables e below (T39.setTop (mkF m 52 #[.val (.ref va), .val (.int vp), .val (.int ((vp.toUInt32 >>> ((6 : Int32) &&& 31).toUInt32).toInt32))] [(.ref va), (.ref va)])) _
      refine st46 _ ?_
      show Steps p.tables e below (T46.setTop (mkF m 55 #[.val (.ref va), .val (.int vp), .val (.int ((vp.toUInt32 >>> ((6 : Int32) &&& 31).toUInt32).toInt32))] [(.int vw), (.ref va)])) _
      refine XS.iloadN X46.here hx rfl (hb hby d4_55) rfl ?_
      show Steps p.tables e below (T46.setTop (mkF m 56 #[.val (.ref va), .val (.int vp), .val (.int ((vp.toUInt32 >>> ((6 : Int32) &&& 31).toUInt32).toInt32))] [(.int vp), (.int vw), (.ref va)])) _
      refine st47 _ ?_
      show Steps p.tables e below (T47.setTop (mkF m 59 #[.val (.ref va), .val (.int vp), .val (.int ((vp.toUInt32 >>> ((6 : Int32) &&& 31).toUInt32).toInt32))] [(.int (FMin vw vp)), (.ref va)])) _
      refine st48 _ ?_
      show Steps p.tables e below (T48.setTop (mkF m 62 #[.val (.ref va), .val (.int vp), .val (.int ((vp.toUInt32 >>> ((6 : Int32) &&& 31).toUInt32).toInt32))] [])) _
      exact X48.returnOut hx Bd.returns (hb hby d4_62) hr
    · show Q4 Z va vp vg h0 n0 _ T48.heap _
      rw [e48]
      exact ⟨rfl, N48, Z49, E50_va, ⟨b23, (FMax ((2 : Int32) * vn) (((vp.toUInt32 >>> ((6 : Int32) &&& 31).toUInt32).toInt32) + (1 : Int32))), (FMin vw vp), (fun i => if i = (((vp.toUInt32 >>> ((6 : Int32) &&& 31).toUInt32).toInt32)).toNatClampNeg then (((fun i => if i < (vn).toNatClampNeg then (vf) i else 0) (((vp.toUInt32 >>> ((6 : Int32) &&& 31).toUInt32).toInt32)).toNatClampNeg) ||| ((1 : Int64) <<< (vp &&& 0x3f).toInt64)) else (fun i => if i < (vn).toNatClampNeg then (vf) i else 0) i), E50_va, F51_va_words, Fw48, V54_b23, ne_va_b23, gb23, (own_grow1 hp hb3 hn1), own_add2 hp hb3 hn1 hG⟩⟩

theorem own_mw (x : Int32) : (own_w (x &&& (1023 : Int32))).toInt ≤ 15 := by
  have e1 : (x &&& (1023 : Int32)).toInt = x.toInt % 2 ^ 10 := Jvm.Kit.i32_mask x 1023 (by decide) (by decide)
  have h0 : (0 : Int32) ≤ (x &&& (1023 : Int32)) := by rw [Jvm.Kit.i32_nonneg, e1]; omega
  have e2 : (own_w (x &&& (1023 : Int32))).toInt = (x &&& (1023 : Int32)).toInt / 2 ^ 6 := Jvm.Kit.i32_iushr h0 (by decide) (by decide)
  rw [e2, e1]; omega

def own_q (x1 : Int32) (x2 : Int32) (x3 : Int32) (x4 : Int32) (x5 : Int32) : Int32 := (if (((x5.toUInt32 >>> ((1 : Int32) &&& 31).toUInt32).toInt32) &&& (3 : Int32)) = (0 : Int32) then (x1 &&& (1023 : Int32)) else (if (((x5.toUInt32 >>> ((1 : Int32) &&& 31).toUInt32).toInt32) &&& (3 : Int32)) = (1 : Int32) then (x2 &&& (1023 : Int32)) else (if (((x5.toUInt32 >>> ((1 : Int32) &&& 31).toUInt32).toInt32) &&& (3 : Int32)) = (2 : Int32) then (x3 &&& (2047 : Int32)) else x4)))
theorem pd_2 : parseMethodDescriptor "()V" = some ⟨[], none⟩ := by decide +kernel
theorem pd_3 : parseMethodDescriptor "(I)Z" = some ⟨[.int], some .boolean⟩ := by decide +kernel
theorem pd_4 : parseMethodDescriptor "(I)V" = some ⟨[.int], none⟩ := by decide +kernel
theorem pn_0 : plainName "com/example/concept_reasoner/conceptreasoner/tableau/PositionsContainsPinLaw" = true := by first | (simp [plainName, overriddenIn]; done) | decide +kernel
theorem ef_0 (m : MethodId) (x1 : Int32) (x2 : Int32) (x3 : Int32) (x4 : Int32) (x5 : Int32) : entryFrame m #[(.int x1), (.int x2), (.int x3), (.int x4), (.int x5)] maxLocals = mkF m 0 #[.val (.int x1), .val (.int x2), .val (.int x3), .val (.int x4), .val (.int x5), .unset, .unset, .unset, .unset, .unset, .unset, .unset, .unset, .unset] [] := by first | (simp [entryFrame, mkF, argsToLocals, Value.category, maxLocals]; done) | rfl
def F0 (x1 : Int32) (x2 : Int32) (x3 : Int32) (x4 : Int32) (x5 : Int32) : Int32 := (if (x5 &&& (1 : Int32)) = (0 : Int32) then (if (((fun q => if q = (x2 &&& (1023 : Int32)) then (1 : Int32) else ((fun q => if q = (x1 &&& (1023 : Int32)) then (1 : Int32) else ((fun _ => (0 : Int32))) q)) q)) (own_q x1 x2 x3 x4 x5)) = (if (own_q x1 x2 x3 x4 x5) = (x2 &&& (1023 : Int32)) then (1 : Int32) else (if (own_q x1 x2 x3 x4 x5) = (x1 &&& (1023 : Int32)) then (if (x5 &&& (1 : Int32)) = (0 : Int32) then (1 : Int32) else (if (x3 &&& (2047 : Int32)) = (x1 &&& (1023 : Int32)) then (0 : Int32) else (1 : Int32))) else (0 : Int32))) then (1 : Int32) else (0 : Int32)) else (if (((fun q => if q = (x2 &&& (1023 : Int32)) then (1 : Int32) else ((fun q => if q = (x3 &&& (2047 : Int32)) then (0 : Int32) else ((fun q => if q = (x1 &&& (1023 : Int32)) then (1 : Int32) else ((fun _ => (0 : Int32))) q)) q)) q)) (own_q x1 x2 x3 x4 x5)) = (if (own_q x1 x2 x3 x4 x5) = (x2 &&& (1023 : Int32)) then (1 : Int32) else (if (own_q x1 x2 x3 x4 x5) = (x1 &&& (1023 : Int32)) then (if (x5 &&& (1 : Int32)) = (0 : Int32) then (1 : Int32) else (if (x3 &&& (2047 : Int32)) = (x1 &&& (1023 : Int32)) then (0 : Int32) else (1 : Int32))) else (0 : Int32))) then (1 : Int32) else (0 : Int32)))
def Q0 (Z : State) (x1 : Int32) (x2 : Int32) (x3 : Int32) (x4 : Int32) (x5 : Int32) (h0 : Heap) (n0 : Nat) (v : Option Value) (h : Heap) (L : List Loc) : Prop := v = some (.int (F0 x1 x2 x3 x4 x5)) ∧ Fr n0 L
set_option maxRecDepth 65536 in
set_option maxHeartbeats 40000000 in
theorem rm0 (l : Launch) (Z : State) (a0 : Array Value) (hw : ∀ d ∈ tables_1, d.before a0 Z = true) (ws : List Jvm.Cond) (x1 : Int32) (x2 : Int32) (x3 : Int32) (x4 : Int32) (x5 : Int32) (h0 : Heap) (n0 : Nat) (Z0 : n0 ≤ h0.size)  :
    MetFree l x (head1 (Jvm.Cond.code x code maxLocals ret :: ws) room_1) (fun a U => a = #[(.int x1), (.int x2), (.int x3), (.int x4), (.int x5)] ∧ Z.Warmed39 U.vm ∧ U.heap = h0) (fun _ _ _ _ _ => True) (fun _ U o U' => ∃ v L, o = .returned v ∧ Q0 Z x1 x2 x3 x4 x5 h0 n0 v U'.heap L ∧ FrameEnd U o U' L room_1.cells room_1.slots) := by
  refine MetFree.of_bodySF (plainFor_of_name pn_0) hisR ?_
  intro p e s m args below meth c s₁ Bd hml0 hP hK
  obtain ⟨rfl, hZ, hh⟩ := hP
  have hx := Bd.exec
  have hby := Bd.bytes
  have hml : c.maxLocals = 14 := hml0
  have hown : s.vm.findClass "com/example/concept_reasoner/conceptreasoner/tableau/PositionsContainsPinLaw" = some m.cls := findClass_of_methodNamed Bd.named
  have hnm := (name_of_methodNamed Bd.named Bd.method).1
  have X0 : Stand p l e room_1 s m #[(.int x1), (.int x2), (.int x3), (.int x4), (.int x5)] below meth c s₁ [] 0 0 := Stand.of_body Bd
  have e0 : s₁.heap = h0 := by rw [← hh, Bd.state]; rfl
  have N0 := Fr.nil n0
  have pre0 : ∀ t, Steps p.tables e below (s₁.setTop (mkF m 0 #[.val (.int x1), .val (.int x2), .val (.int x3), .val (.int x4), .val (.int x5), .unset, .unset, .unset, .unset, .unset, .unset, .unset, .unset, .unset] [])) t → Steps p.tables e below (s₁.setTop (entryFrame m #[(.int x1), (.int x2), (.int x3), (.int x4), (.int x5)] maxLocals)) t := fun t k => castTop (ef_0 m x1 x2 x3 x4 x5) k
  obtain ⟨T5, h5, X5, e5, E5, A5, D5, -, st5⟩ := newO X0 hx hZ hown (hw _ (List.mem_of_getElem? (i := 0) rfl)) (hw _ (List.mem_of_getElem? (i := 1) rfl)) (hw _ (List.mem_of_getElem? (i := 2) rfl)) e0 (g := (mkF m 78 #[.val (.int x1), .val (.int x2), .val (.int x3), .val (.int x4), .val (.int x5), .val (.int (x1 &&& (1023 : Int32))), .val (.int (x2 &&& (1023 : Int32))), .val (.int (x3 &&& (2047 : Int32))), .val (.int (if (x5 &&& (1 : Int32)) = (0 : Int32) then (0 : Int32) else (1 : Int32))), .val (.int (((x5.toUInt32 >>> ((1 : Int32) &&& 31).toUInt32).toInt32) &&& (3 : Int32))), .val (.int (own_q x1 x2 x3 x4 x5)), .unset, .unset, .unset] [])) rfl (hb hby at_78) (by decide) (by decide)
  obtain ⟨b5, g5⟩ : ∃ z, z = h0.size := ⟨_, rfl⟩
  rw [← g5] at A5 D5 st5
  have g_b5 : n0 ≤ b5 := Nat.le_trans Z0 (Nat.le_of_eq g5.symm)
  have Z6 : n0 ≤ h5.size := Nat.le_trans Z0 E5.1
  have F5_words : Fld Z h5 b5 "com/example/concept_reasoner/conceptreasoner/tableau/Positions" "words" "[J" .null := D5 (Or.inl (hw _ (List.mem_of_getElem? (i := 11) rfl))) (ty := (.array .long)) (by decide)
  have F5_low : Fld Z h5 b5 "com/example/concept_reasoner/conceptreasoner/tableau/Positions" "low" "I" (.int (0 : Int32)) := D5 (Or.inl (hw _ (List.mem_of_getElem? (i := 23) rfl))) (ty := .int) (by decide)
  obtain ⟨_, _, ⟨T7, L7, k7, n7⟩, -, X7, ⟨Lc7, hQ7, l7, y7, z7⟩, st7⟩ := X5.specialBack hx (y := (⟨"com/example/concept_reasoner/conceptreasoner/tableau/Positions", "<init>", "()V"⟩ : MethodName)) rfl hown (mvT hZ (hw _ (List.mem_of_getElem? (i := 3) rfl))) (mvT hZ (hw _ (List.mem_of_getElem? (i := 4) rfl))) (mvT hZ (hw _ (List.mem_of_getElem? (i := 5) rfl))) (by decide) (backOf (W := 1) (rm1 l Z a0 hw [] b5  h5 n0 Z6 A5 g_b5 F5_words F5_low) hZ (hw _ (List.mem_of_getElem? (i := 5) rfl)) (hw _ (List.mem_of_getElem? (i := 2) rfl)) (by decide) (by decide)) (g := (mkF m 82 #[.val (.int x1), .val (.int x2), .val (.int x3), .val (.int x4), .val (.int x5), .val (.int (x1 &&& (1023 : Int32))), .val (.int (x2 &&& (1023 : Int32))), .val (.int (x3 &&& (2047 : Int32))), .val (.int (if (x5 &&& (1 : Int32)) = (0 : Int32) then (0 : Int32) else (1 : Int32))), .val (.int (((x5.toUInt32 >>> ((1 : Int32) &&& 31).toUInt32).toInt32) &&& (3 : Int32))), .val (.int (own_q x1 x2 x3 x4 x5)), .unset, .unset, .unset] [(.ref b5), (.ref b5)])) rfl (by rw [hml]; rfl) (Steps.refl _) (a := b5) (argsL := []) (rest := [(.ref b5)]) (lenOf pd_2 rfl) rfl (by show 2 * 0 + _ ≤ _; exact Nat.le_of_eq rfl) (hb hby at_82) (fun _ _ => ⟨rfl, e5, (by decide : 1 + 1 ≤ _), (by decide : 2 + 1 ≤ _)⟩)
  dsimp only [Pt.U, Pt.locs, Pt.cells, Pt.slots] at X7 l7 y7 z7 st7 hQ7
  subst l7 y7 z7
  obtain ⟨rfl, N7q, Q7_0, Q7_1, Q7_2⟩ := hQ7
  have Z7 : n0 ≤ T7.heap.size := Q7_0
  have N7 := Fr.app N0 N7q
  obtain ⟨cq8, kq8, q8a, q8b, q8c⟩ := isOf hZ rfl Q7_1
  obtain ⟨_, _, ⟨T8, L8, k8, n8⟩, -, X8, ⟨Lc8, hQ8, l8, y8, z8⟩, st8⟩ := X7.virtualBack hx (y := (⟨"com/example/concept_reasoner/conceptreasoner/tableau/Positions", "contains", "(I)Z"⟩ : MethodName)) (z := (⟨"com/example/concept_reasoner/conceptreasoner/tableau/Positions", "contains", "(I)Z"⟩ : MethodName)) hown (mvT hZ (hw _ (List.mem_of_getElem? (i := 12) rfl))) (mvT hZ (hw _ (List.mem_of_getElem? (i := 13) rfl))) (notFace_of_selects (args := #[]) (mvT hZ (hw _ (List.mem_of_getElem? (i := 15) rfl)))) (mvT hZ (hw _ (List.mem_of_getElem? (i := 15) rfl))) (mvT hZ (hw _ (List.mem_of_getElem? (i := 14) rfl))) (by decide) (backOf (W := 0) (rm3 l Z a0 hw [] b5 (own_q x1 x2 x3 x4 x5) ((fun _ => (0 : Int32))) T7.heap n0 Z7 Q7_2) hZ (hw _ (List.mem_of_getElem? (i := 16) rfl)) (hw _ (List.mem_of_getElem? (i := 2) rfl)) (by decide) (by decide)) q8a q8c (g := (mkF m 91 #[.val (.int x1), .val (.int x2), .val (.int x3), .val (.int x4), .val (.int x5), .val (.int (x1 &&& (1023 : Int32))), .val (.int (x2 &&& (1023 : Int32))), .val (.int (x3 &&& (2047 : Int32))), .val (.int (if (x5 &&& (1 : Int32)) = (0 : Int32) then (0 : Int32) else (1 : Int32))), .val (.int (((x5.toUInt32 >>> ((1 : Int32) &&& 31).toUInt32).toInt32) &&& (3 : Int32))), .val (.int (own_q x1 x2 x3 x4 x5)), .val (.ref b5), .unset, .unset] [(.int (own_q x1 x2 x3 x4 x5)), (.ref b5)])) rfl (by rw [hml]; rfl) (Steps.refl _) (argsL := [(.int (own_q x1 x2 x3 x4 x5))]) (rest := []) (lenOf pd_3 rfl) rfl (by show 2 * 0 + _ ≤ _; exact Nat.le_of_eq rfl) (hb hby at_91) (fun _ _ => ⟨rfl, rfl, (by decide : 2 + 0 ≤ _), (by decide : 3 + 0 ≤ _)⟩)
  dsimp only [Pt.U, Pt.locs, Pt.cells, Pt.slots] at X8 l8 y8 z8 st8 hQ8
  subst l8 y8 z8
  obtain ⟨rfl, N8q, e8⟩ := hQ8
  have N8 := Fr.app N7 N8q
  obtain ⟨cq10, kq10, q10a, q10b, q10c⟩ := isOf hZ e8 Q7_1
  obtain ⟨_, _, ⟨T10, L10, k10, n10⟩, -, X10, ⟨Lc10, hQ10, l10, y10, z10⟩, st10⟩ := X8.virtualBack hx (y := (⟨"com/example/concept_reasoner/conceptreasoner/tableau/Positions", "add", "(I)V"⟩ : MethodName)) (z := (⟨"com/example/concept_reasoner/conceptreasoner/tableau/Positions", "add", "(I)V"⟩ : MethodName)) hown (mvT hZ (hw _ (List.mem_of_getElem? (i := 17) rfl))) (mvT hZ (hw _ (List.mem_of_getElem? (i := 18) rfl))) (notFace_of_selects (args := #[]) (mvT hZ (hw _ (List.mem_of_getElem? (i := 20) rfl)))) (mvT hZ (hw _ (List.mem_of_getElem? (i := 20) rfl))) (mvT hZ (hw _ (List.mem_of_getElem? (i := 19) rfl))) (by decide) (backOf (W := 0) (rm4 l Z a0 hw [] b5 (x1 &&& (1023 : Int32)) ((fun _ => (0 : Int32))) T7.heap n0 Z7 Q7_2 g_b5 (own_mw x1)) hZ (hw _ (List.mem_of_getElem? (i := 21) rfl)) (hw _ (List.mem_of_getElem? (i := 2) rfl)) (by decide) (by decide)) q10a q10c (g := (mkF m 108 #[.val (.int x1), .val (.int x2), .val (.int x3), .val (.int x4), .val (.int x5), .val (.int (x1 &&& (1023 : Int32))), .val (.int (x2 &&& (1023 : Int32))), .val (.int (x3 &&& (2047 : Int32))), .val (.int (if (x5 &&& (1 : Int32)) = (0 : Int32) then (0 : Int32) else (1 : Int32))), .val (.int (((x5.toUInt32 >>> ((1 : Int32) &&& 31).toUInt32).toInt32) &&& (3 : Int32))), .val (.int (own_q x1 x2 x3 x4 x5)), .val (.ref b5), .val (.int (if (((fun _ => (0 : Int32))) (own_q x1 x2 x3 x4 x5)) = (0 : Int32) then (1 : Int32) else (0 : Int32))), .unset] [(.int (x1 &&& (1023 : Int32))), (.ref b5)])) rfl (by rw [hml]; rfl) (Steps.refl _) (argsL := [(.int (x1 &&& (1023 : Int32)))]) (rest := []) (lenOf pd_4 rfl) rfl (by show 2 * 0 + _ ≤ _; exact Nat.le_of_eq rfl) (hb hby at_108) (fun _ _ => ⟨rfl, e8, (by decide : 2 + 1 ≤ _), (by decide : 3 + 30 ≤ _)⟩)
  dsimp only [Pt.U, Pt.locs, Pt.cells, Pt.slots] at X10 l10 y10 z10 st10 hQ10
  subst l10 y10 z10
  obtain ⟨rfl, N10q, Q10_0, Q10_1, Q10_2⟩ := hQ10
  have Z10 : n0 ≤ T10.heap.size := Q10_0
  have N10 := Fr.app N8 N10q
  by_cases hb11 : (x5 &&& (1 : Int32)) = (0 : Int32)
  · obtain ⟨cq12, kq12, q12a, q12b, q12c⟩ := isOf hZ rfl Q10_1
    obtain ⟨_, _, ⟨T12, L12, k12, n12⟩, -, X12, ⟨Lc12, hQ12, l12, y12, z12⟩, st12⟩ := X10.virtualBack hx (y := (⟨"com/example/concept_reasoner/conceptreasoner/tableau/Positions", "add", "(I)V"⟩ : MethodName)) (z := (⟨"com/example/concept_reasoner/conceptreasoner/tableau/Positions", "add", "(I)V"⟩ : MethodName)) hown (mvT hZ (hw _ (List.mem_of_getElem? (i := 17) rfl))) (mvT hZ (hw _ (List.mem_of_getElem? (i := 18) rfl))) (notFace_of_selects (args := #[]) (mvT hZ (hw _ (List.mem_of_getElem? (i := 20) rfl)))) (mvT hZ (hw _ (List.mem_of_getElem? (i := 20) rfl))) (mvT hZ (hw _ (List.mem_of_getElem? (i := 19) rfl))) (by decide) (backOf (W := 0) (rm4 l Z a0 hw [] b5 (x2 &&& (1023 : Int32)) ((fun q => if q = (x1 &&& (1023 : Int32)) then (1 : Int32) else ((fun _ => (0 : Int32))) q)) T10.heap n0 Z10 Q10_2 g_b5 (own_mw x2)) hZ (hw _ (List.mem_of_getElem? (i := 21) rfl)) (hw _ (List.mem_of_getElem? (i := 2) rfl)) (by decide) (by decide)) q12a q12c (g := (mkF m 127 #[.val (.int x1), .val (.int x2), .val (.int x3), .val (.int x4), .val (.int x5), .val (.int (x1 &&& (1023 : Int32))), .val (.int (x2 &&& (1023 : Int32))), .val (.int (x3 &&& (2047 : Int32))), .val (.int (if (x5 &&& (1 : Int32)) = (0 : Int32) then (0 : Int32) else (1 : Int32))), .val (.int (((x5.toUInt32 >>> ((1 : Int32) &&& 31).toUInt32).toInt32) &&& (3 : Int32))), .val (.int (own_q x1 x2 x3 x4 x5)), .val (.ref b5), .val (.int (if (((fun _ => (0 : Int32))) (own_q x1 x2 x3 x4 x5)) = (0 : Int32) then (1 : Int32) else (0 : Int32))), .unset] [(.int (x2 &&& (1023 : Int32))), (.ref b5)])) rfl (by rw [hml]; rfl) (Steps.refl _) (argsL := [(.int (x2 &&& (1023 : Int32)))]) (rest := []) (lenOf pd_4 rfl) rfl (by show 2 * 0 + _ ≤ _; exact Nat.le_of_eq rfl) (hb hby at_127) (fun _ _ => ⟨rfl, rfl, (by decide : 3 + 1 ≤ _), (by decide : 33 + 30 ≤ _)⟩)
    dsimp only [Pt.U, Pt.locs, Pt.cells, Pt.slots] at X12 l12 y12 z12 st12 hQ12
    subst l12 y12 z12
    obtain ⟨rfl, N12q, Q12_0, Q12_1, Q12_2⟩ := hQ12
    have Z12 : n0 ≤ T12.heap.size := Q12_0
    have N12 := Fr.app N10 N12q
    obtain ⟨cq17, kq17, q17a, q17b, q17c⟩ := isOf hZ rfl Q12_1
    obtain ⟨_, _, ⟨T17, L17, k17, n17⟩, -, X17, ⟨Lc17, hQ17, l17, y17, z17⟩, st17⟩ := X12.virtualBack hx (y := (⟨"com/example/concept_reasoner/conceptreasoner/tableau/Positions", "contains", "(I)Z"⟩ : MethodName)) (z := (⟨"com/example/concept_reasoner/conceptreasoner/tableau/Positions", "contains", "(I)Z"⟩ : MethodName)) hown (mvT hZ (hw _ (List.mem_of_getElem? (i := 12) rfl))) (mvT hZ (hw _ (List.mem_of_getElem? (i := 13) rfl))) (notFace_of_selects (args := #[]) (mvT hZ (hw _ (List.mem_of_getElem? (i := 15) rfl)))) (mvT hZ (hw _ (List.mem_of_getElem? (i := 15) rfl))) (mvT hZ (hw _ (List.mem_of_getElem? (i := 14) rfl))) (by decide) (backOf (W := 0) (rm3 l Z a0 hw [] b5 (own_q x1 x2 x3 x4 x5) ((fun q => if q = (x2 &&& (1023 : Int32)) then (1 : Int32) else ((fun q => if q = (x1 &&& (1023 : Int32)) then (1 : Int32) else ((fun _ => (0 : Int32))) q)) q)) T12.heap n0 Z12 Q12_2) hZ (hw _ (List.mem_of_getElem? (i := 16) rfl)) (hw _ (List.mem_of_getElem? (i := 2) rfl)) (by decide) (by decide)) q17a q17c (g := (mkF m 172 #[.val (.int x1), .val (.int x2), .val (.int x3), .val (.int x4), .val (.int x5), .val (.int (x1 &&& (1023 : Int32))), .val (.int (x2 &&& (1023 : Int32))), .val (.int (x3 &&& (2047 : Int32))), .val (.int (if (x5 &&& (1 : Int32)) = (0 : Int32) then (0 : Int32) else (1 : Int32))), .val (.int (((x5.toUInt32 >>> ((1 : Int32) &&& 31).toUInt32).toInt32) &&& (3 : Int32))), .val (.int (own_q x1 x2 x3 x4 x5)), .val (.ref b5), .val (.int (if (((fun _ => (0 : Int32))) (own_q x1 x2 x3 x4 x5)) = (0 : Int32) then (1 : Int32) else (0 : Int32))), .val (.int (if (own_q x1 x2 x3 x4 x5) = (x2 &&& (1023 : Int32)) then (1 : Int32) else (if (own_q x1 x2 x3 x4 x5) = (x1 &&& (1023 : Int32)) then (if (x5 &&& (1 : Int32)) = (0 : Int32) then (1 : Int32) else (if (x3 &&& (2047 : Int32)) = (x1 &&& (1023 : Int32)) then (0 : Int32) else (1 : Int32))) else (0 : Int32))))] [(.int (own_q x1 x2 x3 x4 x5)), (.ref b5)])) rfl (by rw [hml]; rfl) (Steps.refl _) (argsL := [(.int (own_q x1 x2 x3 x4 x5))]) (rest := []) (lenOf pd_3 rfl) rfl (by show 2 * 0 + _ ≤ _; exact Nat.le_of_eq rfl) (hb hby at_172) (fun _ _ => ⟨rfl, rfl, (by decide : 4 + 0 ≤ _), (by decide : 63 + 0 ≤ _)⟩)
    dsimp only [Pt.U, Pt.locs, Pt.cells, Pt.slots] at X17 l17 y17 z17 st17 hQ17
    subst l17 y17 z17
    obtain ⟨rfl, N17q, e17⟩ := hQ17
    have N17 := Fr.app N12 N17q
    obtain ⟨fs, hr, hrun, hended, hW, hsame⟩ := X17.leave (v := some (.int (if (((fun q => if q = (x2 &&& (1023 : Int32)) then (1 : Int32) else ((fun q => if q = (x1 &&& (1023 : Int32)) then (1 : Int32) else ((fun _ => (0 : Int32))) q)) q)) (own_q x1 x2 x3 x4 x5)) = (if (own_q x1 x2 x3 x4 x5) = (x2 &&& (1023 : Int32)) then (1 : Int32) else (if (own_q x1 x2 x3 x4 x5) = (x1 &&& (1023 : Int32)) then (if (x5 &&& (1 : Int32)) = (0 : Int32) then (1 : Int32) else (if (x3 &&& (2047 : Int32)) = (x1 &&& (1023 : Int32)) then (0 : Int32) else (1 : Int32))) else (0 : Int32))) then (1 : Int32) else (0 : Int32)))) (fun h => by rw [Bd.returns] at h; cases h)
    refine ⟨_, _, pre0 _ ?_, hrun, hended, _, _, rfl, ?_, ⟨_, rfl⟩, hW, hsame.mono (by decide) (by decide)⟩
    · show Steps p.tables e below (s₁.setTop (mkF m 0 #[.val (.int x1), .val (.int x2), .val (.int x3), .val (.int x4), .val (.int x5), .unset, .unset, .unset, .unset, .unset, .unset, .unset, .unset, .unset] [])) _
      refine XS.iloadN X0.here hx rfl (hb hby at_0) rfl ?_
      show Steps p.tables e below (s₁.setTop (mkF m 1 #[.val (.int x1), .val (.int x2), .val (.int x3), .val (.int x4), .val (.int x5), .unset, .unset, .unset, .unset, .unset, .unset, .unset, .unset, .unset] [(.int x1)])) _
      refine XS.sipush X0.here hx rfl (hb hby at_1) ?_
      show Steps p.tables e below (s₁.setTop (mkF m 4 #[.val (.int x1), .val (.int x2), .val (.int x3), .val (.int x4), .val (.int x5), .unset, .unset, .unset, .unset, .unset, .unset, .unset, .unset, .unset] [(.int (1023 : Int32)), (.int x1)])) _
      refine XS.iand X0.here hx rfl (hb hby at_4) rfl ?_
      show Steps p.tables e below (s₁.setTop (mkF m 5 #[.val (.int x1), .val (.int x2), .val (.int x3), .val (.int x4), .val (.int x5), .unset, .unset, .unset, .unset, .unset, .unset, .unset, .unset, .unset] [(.int (x1 &&& (1023 : Int32)))])) _
      refine XS.istore X0.here hx rfl (hb hby at_5) rfl (l' := #[.val (.int x1), .val (.int x2), .val (.int x3), .val (.int x4), .val (.int x5), .val (.int (x1 &&& (1023 : Int32))), .unset, .unset, .unset, .unset, .unset, .unset, .unset, .unset]) rfl ?_
      show Steps p.tables e below (s₁.setTop (mkF m 7 #[.val (.int x1), .val (.int x2), .val (.int x3), .val (.int x4), .val (.int x5), .val (.int (x1 &&& (1023 : Int32))), .unset, .unset, .unset, .unset, .unset, .unset, .unset, .unset] [])) _
      refine XS.iloadN X0.here hx rfl (hb hby at_7) rfl ?_
      show Steps p.tables e below (s₁.setTop (mkF m 8 #[.val (.int x1), .val (.int x2), .val (.int x3), .val (.int x4), .val (.int x5), .val (.int (x1 &&& (1023 : Int32))), .unset, .unset, .unset, .unset, .unset, .unset, .unset, .unset] [(.int x2)])) _
      refine XS.sipush X0.here hx rfl (hb hby at_8) ?_
      show Steps p.tables e below (s₁.setTop (mkF m 11 #[.val (.int x1), .val (.int x2), .val (.int x3), .val (.int x4), .val (.int x5), .val (.int (x1 &&& (1023 : Int32))), .unset, .unset, .unset, .unset, .unset, .unset, .unset, .unset] [(.int (1023 : Int32)), (.int x2)])) _
      refine XS.iand X0.here hx rfl (hb hby at_11) rfl ?_
      show Steps p.tables e below (s₁.setTop (mkF m 12 #[.val (.int x1), .val (.int x2), .val (.int x3), .val (.int x4), .val (.int x5), .val (.int (x1 &&& (1023 : Int32))), .unset, .unset, .unset, .unset, .unset, .unset, .unset, .unset] [(.int (x2 &&& (1023 : Int32)))])) _
      refine XS.istore X0.here hx rfl (hb hby at_12) rfl (l' := #[.val (.int x1), .val (.int x2), .val (.int x3), .val (.int x4), .val (.int x5), .val (.int (x1 &&& (1023 : Int32))), .val (.int (x2 &&& (1023 : Int32))), .unset, .unset, .unset, .unset, .unset, .unset, .unset]) rfl ?_
      show Steps p.tables e below (s₁.setTop (mkF m 14 #[.val (.int x1), .val (.int x2), .val (.int x3), .val (.int x4), .val (.int x5), .val (.int (x1 &&& (1023 : Int32))), .val (.int (x2 &&& (1023 : Int32))), .unset, .unset, .unset, .unset, .unset, .unset, .unset] [])) _
      refine XS.iloadN X0.here hx rfl (hb hby at_14) rfl ?_
      show Steps p.tables e below (s₁.setTop (mkF m 15 #[.val (.int x1), .val (.int x2), .val (.int x3), .val (.int x4), .val (.int x5), .val (.int (x1 &&& (1023 : Int32))), .val (.int (x2 &&& (1023 : Int32))), .unset, .unset, .unset, .unset, .unset, .unset, .unset] [(.int x3)])) _
      refine XS.sipush X0.here hx rfl (hb hby at_15) ?_
      show Steps p.tables e below (s₁.setTop (mkF m 18 #[.val (.int x1), .val (.int x2), .val (.int x3), .val (.int x4), .val (.int x5), .val (.int (x1 &&& (1023 : Int32))), .val (.int (x2 &&& (1023 : Int32))), .unset, .unset, .unset, .unset, .unset, .unset, .unset] [(.int (2047 : Int32)), (.int x3)])) _
      refine XS.iand X0.here hx rfl (hb hby at_18) rfl ?_
      show Steps p.tables e below (s₁.setTop (mkF m 19 #[.val (.int x1), .val (.int x2), .val (.int x3), .val (.int x4), .val (.int x5), .val (.int (x1 &&& (1023 : Int32))), .val (.int (x2 &&& (1023 : Int32))), .unset, .unset, .unset, .unset, .unset, .unset, .unset] [(.int (x3 &&& (2047 : Int32)))])) _
      refine XS.istore X0.here hx rfl (hb hby at_19) rfl (l' := #[.val (.int x1), .val (.int x2), .val (.int x3), .val (.int x4), .val (.int x5), .val (.int (x1 &&& (1023 : Int32))), .val (.int (x2 &&& (1023 : Int32))), .val (.int (x3 &&& (2047 : Int32))), .unset, .unset, .unset, .unset, .unset, .unset]) rfl ?_
      show Steps p.tables e below (s₁.setTop (mkF m 21 #[.val (.int x1), .val (.int x2), .val (.int x3), .val (.int x4), .val (.int x5), .val (.int (x1 &&& (1023 : Int32))), .val (.int (x2 &&& (1023 : Int32))), .val (.int (x3 &&& (2047 : Int32))), .unset, .unset, .unset, .unset, .unset, .unset] [])) _
      refine XS.iload X0.here hx rfl (hb hby at_21) rfl ?_
      show Steps p.tables e below (s₁.setTop (mkF m 23 #[.val (.int x1), .val (.int x2), .val (.int x3), .val (.int x4), .val (.int x5), .val (.int (x1 &&& (1023 : Int32))), .val (.int (x2 &&& (1023 : Int32))), .val (.int (x3 &&& (2047 : Int32))), .unset, .unset, .unset, .unset, .unset, .unset] [(.int x5)])) _
      refine XS.iconst X0.here hx rfl (hb hby at_23) ?_
      show Steps p.tables e below (s₁.setTop (mkF m 24 #[.val (.int x1), .val (.int x2), .val (.int x3), .val (.int x4), .val (.int x5), .val (.int (x1 &&& (1023 : Int32))), .val (.int (x2 &&& (1023 : Int32))), .val (.int (x3 &&& (2047 : Int32))), .unset, .unset, .unset, .unset, .unset, .unset] [(.int (1 : Int32)), (.int x5)])) _
      refine XS.iand X0.here hx rfl (hb hby at_24) rfl ?_
      show Steps p.tables e below (s₁.setTop (mkF m 25 #[.val (.int x1), .val (.int x2), .val (.int x3), .val (.int x4), .val (.int x5), .val (.int (x1 &&& (1023 : Int32))), .val (.int (x2 &&& (1023 : Int32))), .val (.int (x3 &&& (2047 : Int32))), .unset, .unset, .unset, .unset, .unset, .unset] [(.int (x5 &&& (1 : Int32)))])) _
      refine own_dia (u := ((0 : Int32) : Int32)) (v := (1 : Int32)) ((x5 &&& (1 : Int32)) = (0 : Int32)) (fun z1 => (mkF m 33 #[.val (.int x1), .val (.int x2), .val (.int x3), .val (.int x4), .val (.int x5), .val (.int (x1 &&& (1023 : Int32))), .val (.int (x2 &&& (1023 : Int32))), .val (.int (x3 &&& (2047 : Int32))), .unset, .unset, .unset, .unset, .unset, .unset] [(.int z1)])) (fun hc1 k1 => ?_) (fun hc1 k1 => ?_) ?_
      · refine XS.ifYes X0.here hx rfl (pc0 := 25) (pc' := 32) rfl (hb hby at_25) rfl ((if0 _ _).trans (teq hc1).1) (by decide) (by decide) ?_
        show Steps p.tables e below (s₁.setTop (mkF m 32 #[.val (.int x1), .val (.int x2), .val (.int x3), .val (.int x4), .val (.int x5), .val (.int (x1 &&& (1023 : Int32))), .val (.int (x2 &&& (1023 : Int32))), .val (.int (x3 &&& (2047 : Int32))), .unset, .unset, .unset, .unset, .unset, .unset] [])) _
        refine XS.iconst X0.here hx rfl (hb hby at_32) ?_
        exact k1
      · refine XS.ifNo X0.here hx rfl (hb hby at_25) rfl ((if0 _ _).trans (feq hc1).1) ?_
        show Steps p.tables e below (s₁.setTop (mkF m 28 #[.val (.int x1), .val (.int x2), .val (.int x3), .val (.int x4), .val (.int x5), .val (.int (x1 &&& (1023 : Int32))), .val (.int (x2 &&& (1023 : Int32))), .val (.int (x3 &&& (2047 : Int32))), .unset, .unset, .unset, .unset, .unset, .unset] [])) _
        refine XS.iconst X0.here hx rfl (hb hby at_28) ?_
        show Steps p.tables e below (s₁.setTop (mkF m 29 #[.val (.int x1), .val (.int x2), .val (.int x3), .val (.int x4), .val (.int x5), .val (.int (x1 &&& (1023 : Int32))), .val (.int (x2 &&& (1023 : Int32))), .val (.int (x3 &&& (2047 : Int32))), .unset, .unset, .unset, .unset, .unset, .unset] [(.int (1 : Int32))])) _
        refine XS.goto X0.here hx rfl (pc0 := 29) (pc' := 33) rfl (hb hby at_29) (by decide) (by decide) ?_
        exact k1
      -- meets at 33
      show Steps p.tables e below (s₁.setTop (mkF m 33 #[.val (.int x1), .val (.int x2), .val (.int x3), .val (.int x4), .val (.int x5), .val (.int (x1 &&& (1023 : Int32))), .val (.int (x2 &&& (1023 : Int32))), .val (.int (x3 &&& (2047 : Int32))), .unset, .unset, .unset, .unset, .unset, .unset] [(.int (if (x5 &&& (1 : Int32)) = (0 : Int32) then (0 : Int32) else (1 : Int32)))])) _
      refine XS.istore X0.here hx rfl (hb hby at_33) rfl (l' := #[.val (.int x1), .val (.int x2), .val (.int x3), .val (.int x4), .val (.int x5), .val (.int (x1 &&& (1023 : Int32))), .val (.int (x2 &&& (1023 : Int32))), .val (.int (x3 &&& (2047 : Int32))), .val (.int (if (x5 &&& (1 : Int32)) = (0 : Int32) then (0 : Int32) else (1 : Int32))), .unset, .unset, .unset, .unset, .unset]) rfl ?_
      show Steps p.tables e below (s₁.setTop (mkF m 35 #[.val (.int x1), .val (.int x2), .val (.int x3), .val (.int x4), .val (.int x5), .val (.int (x1 &&& (1023 : Int32))), .val (.int (x2 &&& (1023 : Int32))), .val (.int (x3 &&& (2047 : Int32))), .val (.int (if (x5 &&& (1 : Int32)) = (0 : Int32) then (0 : Int32) else (1 : Int32))), .unset, .unset, .unset, .unset, .unset] [])) _
      refine XS.iload X0.here hx rfl (hb hby at_35) rfl ?_
      show Steps p.tables e below (s₁.setTop (mkF m 37 #[.val (.int x1), .val (.int x2), .val (.int x3), .val (.int x4), .val (.int x5), .val (.int (x1 &&& (1023 : Int32))), .val (.int (x2 &&& (1023 : Int32))), .val (.int (x3 &&& (2047 : Int32))), .val (.int (if (x5 &&& (1 : Int32)) = (0 : Int32) then (0 : Int32) else (1 : Int32))), .unset, .unset, .unset, .unset, .unset] [(.int x5)])) _
      refine XS.iconst X0.here hx rfl (hb hby at_37) ?_
      show Steps p.tables e below (s₁.setTop (mkF m 38 #[.val (.int x1), .val (.int x2), .val (.int x3), .val (.int x4), .val (.int x5), .val (.int (x1 &&& (1023 : Int32))), .val (.int (x2 &&& (1023 : Int32))), .val (.int (x3 &&& (2047 : Int32))), .val (.int (if (x5 &&& (1 : Int32)) = (0 : Int32) then (0 : Int32) else (1 : Int32))), .unset, .unset, .unset, .unset, .unset] [(.int (1 : Int32)), (.int x5)])) _
      refine XS.iushr X0.here hx rfl (hb hby at_38) rfl ?_
      show Steps p.tables e below (s₁.setTop (mkF m 39 #[.val (.int x1), .val (.int x2), .val (.int x3), .val (.int x4), .val (.int x5), .val (.int (x1 &&& (1023 : Int32))), .val (.int (x2 &&& (1023 : Int32))), .val (.int (x3 &&& (2047 : Int32))), .val (.int (if (x5 &&& (1 : Int32)) = (0 : Int32) then (0 : Int32) else (1 : Int32))), .unset, .unset, .unset, .unset, .unset] [(.int ((x5.toUInt32 >>> ((1 : Int32) &&& 31).toUInt32).toInt32))])) _
      refine XS.iconst X0.here hx rfl (hb hby at_39) ?_
      show Steps p.tables e below (s₁.setTop (mkF m 40 #[.val (.int x1), .val (.int x2), .val (.int x3), .val (.int x4), .val (.int x5), .val (.int (x1 &&& (1023 : Int32))), .val (.int (x2 &&& (1023 : Int32))), .val (.int (x3 &&& (2047 : Int32))), .val (.int (if (x5 &&& (1 : Int32)) = (0 : Int32) then (0 : Int32) else (1 : Int32))), .unset, .unset, .unset, .unset, .unset] [(.int (3 : Int32)), (.int ((x5.toUInt32 >>> ((1 : Int32) &&& 31).toUInt32).toInt32))])) _
      refine XS.iand X0.here hx rfl (hb hby at_40) rfl ?_
      show Steps p.tables e below (s₁.setTop (mkF m 41 #[.val (.int x1), .val (.int x2), .val (.int x3), .val (.int x4), .val (.int x5), .val (.int (x1 &&& (1023 : Int32))), .val (.int (x2 &&& (1023 : Int32))), .val (.int (x3 &&& (2047 : Int32))), .val (.int (if (x5 &&& (1 : Int32)) = (0 : Int32) then (0 : Int32) else (1 : Int32))), .unset, .unset, .unset, .unset, .unset] [(.int (((x5.toUInt32 >>> ((1 : Int32) &&& 31).toUInt32).toInt32) &&& (3 : Int32)))])) _
      refine XS.istore X0.here hx rfl (hb hby at_41) rfl (l' := #[.val (.int x1), .val (.int x2), .val (.int x3), .val (.int x4), .val (.int x5), .val (.int (x1 &&& (1023 : Int32))), .val (.int (x2 &&& (1023 : Int32))), .val (.int (x3 &&& (2047 : Int32))), .val (.int (if (x5 &&& (1 : Int32)) = (0 : Int32) then (0 : Int32) else (1 : Int32))), .val (.int (((x5.toUInt32 >>> ((1 : Int32) &&& 31).toUInt32).toInt32) &&& (3 : Int32))), .unset, .unset, .unset, .unset]) rfl ?_
      show Steps p.tables e below (s₁.setTop (mkF m 43 #[.val (.int x1), .val (.int x2), .val (.int x3), .val (.int x4), .val (.int x5), .val (.int (x1 &&& (1023 : Int32))), .val (.int (x2 &&& (1023 : Int32))), .val (.int (x3 &&& (2047 : Int32))), .val (.int (if (x5 &&& (1 : Int32)) = (0 : Int32) then (0 : Int32) else (1 : Int32))), .val (.int (((x5.toUInt32 >>> ((1 : Int32) &&& 31).toUInt32).toInt32) &&& (3 : Int32))), .unset, .unset, .unset, .unset] [])) _
      refine XS.iload X0.here hx rfl (hb hby at_43) rfl ?_
      show Steps p.tables e below (s₁.setTop (mkF m 45 #[.val (.int x1), .val (.int x2), .val (.int x3), .val (.int x4), .val (.int x5), .val (.int (x1 &&& (1023 : Int32))), .val (.int (x2 &&& (1023 : Int32))), .val (.int (x3 &&& (2047 : Int32))), .val (.int (if (x5 &&& (1 : Int32)) = (0 : Int32) then (0 : Int32) else (1 : Int32))), .val (.int (((x5.toUInt32 >>> ((1 : Int32) &&& 31).toUInt32).toInt32) &&& (3 : Int32))), .unset, .unset, .unset, .unset] [(.int (((x5.toUInt32 >>> ((1 : Int32) &&& 31).toUInt32).toInt32) &&& (3 : Int32)))])) _
      refine own_dia (u := ((x1 &&& (1023 : Int32)) : Int32)) (v := (if (((x5.toUInt32 >>> ((1 : Int32) &&& 31).toUInt32).toInt32) &&& (3 : Int32)) = (1 : Int32) then (x2 &&& (1023 : Int32)) else (if (((x5.toUInt32 >>> ((1 : Int32) &&& 31).toUInt32).toInt32) &&& (3 : Int32)) = (2 : Int32) then (x3 &&& (2047 : Int32)) else x4))) ((((x5.toUInt32 >>> ((1 : Int32) &&& 31).toUInt32).toInt32) &&& (3 : Int32)) = (0 : Int32)) (fun z2 => (mkF m 76 #[.val (.int x1), .val (.int x2), .val (.int x3), .val (.int x4), .val (.int x5), .val (.int (x1 &&& (1023 : Int32))), .val (.int (x2 &&& (1023 : Int32))), .val (.int (x3 &&& (2047 : Int32))), .val (.int (if (x5 &&& (1 : Int32)) = (0 : Int32) then (0 : Int32) else (1 : Int32))), .val (.int (((x5.toUInt32 >>> ((1 : Int32) &&& 31).toUInt32).toInt32) &&& (3 : Int32))), .unset, .unset, .unset, .unset] [(.int z2)])) (fun hc2 k2 => ?_) (fun hc2 k2 => ?_) ?_
      · refine XS.ifNo X0.here hx rfl (hb hby at_45) rfl ((if0 _ _).trans (teq hc2).2) ?_
        show Steps p.tables e below (s₁.setTop (mkF m 48 #[.val (.int x1), .val (.int x2), .val (.int x3), .val (.int x4), .val (.int x5), .val (.int (x1 &&& (1023 : Int32))), .val (.int (x2 &&& (1023 : Int32))), .val (.int (x3 &&& (2047 : Int32))), .val (.int (if (x5 &&& (1 : Int32)) = (0 : Int32) then (0 : Int32) else (1 : Int32))), .val (.int (((x5.toUInt32 >>> ((1 : Int32) &&& 31).toUInt32).toInt32) &&& (3 : Int32))), .unset, .unset, .unset, .unset] [])) _
        refine XS.iload X0.here hx rfl (hb hby at_48) rfl ?_
        show Steps p.tables e below (s₁.setTop (mkF m 50 #[.val (.int x1), .val (.int x2), .val (.int x3), .val (.int x4), .val (.int x5), .val (.int (x1 &&& (1023 : Int32))), .val (.int (x2 &&& (1023 : Int32))), .val (.int (x3 &&& (2047 : Int32))), .val (.int (if (x5 &&& (1 : Int32)) = (0 : Int32) then (0 : Int32) else (1 : Int32))), .val (.int (((x5.toUInt32 >>> ((1 : Int32) &&& 31).toUInt32).toInt32) &&& (3 : Int32))), .unset, .unset, .unset, .unset] [(.int (x1 &&& (1023 : Int32)))])) _
        refine XS.goto X0.here hx rfl (pc0 := 50) (pc' := 76) rfl (hb hby at_50) (by decide) (by decide) ?_
        exact k2
      · refine XS.ifYes X0.here hx rfl (pc0 := 45) (pc' := 53) rfl (hb hby at_45) rfl ((if0 _ _).trans (feq hc2).2) (by decide) (by decide) ?_
        show Steps p.tables e below (s₁.setTop (mkF m 53 #[.val (.int x1), .val (.int x2), .val (.int x3), .val (.int x4), .val (.int x5), .val (.int (x1 &&& (1023 : Int32))), .val (.int (x2 &&& (1023 : Int32))), .val (.int (x3 &&& (2047 : Int32))), .val (.int (if (x5 &&& (1 : Int32)) = (0 : Int32) then (0 : Int32) else (1 : Int32))), .val (.int (((x5.toUInt32 >>> ((1 : Int32) &&& 31).toUInt32).toInt32) &&& (3 : Int32))), .unset, .unset, .unset, .unset] [])) _
        refine XS.iload X0.here hx rfl (hb hby at_53) rfl ?_
        show Steps p.tables e below (s₁.setTop (mkF m 55 #[.val (.int x1), .val (.int x2), .val (.int x3), .val (.int x4), .val (.int x5), .val (.int (x1 &&& (1023 : Int32))), .val (.int (x2 &&& (1023 : Int32))), .val (.int (x3 &&& (2047 : Int32))), .val (.int (if (x5 &&& (1 : Int32)) = (0 : Int32) then (0 : Int32) else (1 : Int32))), .val (.int (((x5.toUInt32 >>> ((1 : Int32) &&& 31).toUInt32).toInt32) &&& (3 : Int32))), .unset, .unset, .unset, .unset] [(.int (((x5.toUInt32 >>> ((1 : Int32) &&& 31).toUInt32).toInt32) &&& (3 : Int32)))])) _
        refine XS.iconst X0.here hx rfl (hb hby at_55) ?_
        show Steps p.tables e below (s₁.setTop (mkF m 56 #[.val (.int x1), .val (.int x2), .val (.int x3), .val (.int x4), .val (.int x5), .val (.int (x1 &&& (1023 : Int32))), .val (.int (x2 &&& (1023 : Int32))), .val (.int (x3 &&& (2047 : Int32))), .val (.int (if (x5 &&& (1 : Int32)) = (0 : Int32) then (0 : Int32) else (1 : Int32))), .val (.int (((x5.toUInt32 >>> ((1 : Int32) &&& 31).toUInt32).toInt32) &&& (3 : Int32))), .unset, .unset, .unset, .unset] [(.int (1 : Int32)), (.int (((x5.toUInt32 >>> ((1 : Int32) &&& 31).toUInt32).toInt32) &&& (3 : Int32)))])) _
        refine own_dia (u := ((x2 &&& (1023 : Int32)) : Int32)) (v := (if (((x5.toUInt32 >>> ((1 : Int32) &&& 31).toUInt32).toInt32) &&& (3 : Int32)) = (2 : Int32) then (x3 &&& (2047 : Int32)) else x4)) ((((x5.toUInt32 >>> ((1 : Int32) &&& 31).toUInt32).toInt32) &&& (3 : Int32)) = (1 : Int32)) (fun z3 => (mkF m 76 #[.val (.int x1), .val (.int x2), .val (.int x3), .val (.int x4), .val (.int x5), .val (.int (x1 &&& (1023 : Int32))), .val (.int (x2 &&& (1023 : Int32))), .val (.int (x3 &&& (2047 : Int32))), .val (.int (if (x5 &&& (1 : Int32)) = (0 : Int32) then (0 : Int32) else (1 : Int32))), .val (.int (((x5.toUInt32 >>> ((1 : Int32) &&& 31).toUInt32).toInt32) &&& (3 : Int32))), .unset, .unset, .unset, .unset] [(.int z3)])) (fun hc3 k3 => ?_) (fun hc3 k3 => ?_) ?_
        · refine XS.icmpNo X0.here hx rfl (hb hby at_56) rfl (teq hc3).2 ?_
          show Steps p.tables e below (s₁.setTop (mkF m 59 #[.val (.int x1), .val (.int x2), .val (.int x3), .val (.int x4), .val (.int x5), .val (.int (x1 &&& (1023 : Int32))), .val (.int (x2 &&& (1023 : Int32))), .val (.int (x3 &&& (2047 : Int32))), .val (.int (if (x5 &&& (1 : Int32)) = (0 : Int32) then (0 : Int32) else (1 : Int32))), .val (.int (((x5.toUInt32 >>> ((1 : Int32) &&& 31).toUInt32).toInt32) &&& (3 : Int32))), .unset, .unset, .unset, .unset] [])) _
          refine XS.iload X0.here hx rfl (hb hby at_59) rfl ?_
          show Steps p.tables e below (s₁.setTop (mkF m 61 #[.val (.int x1), .val (.int x2), .val (.int x3), .val (.int x4), .val (.int x5), .val (.int (x1 &&& (1023 : Int32))), .val (.int (x2 &&& (1023 : Int32))), .val (.int (x3 &&& (2047 : Int32))), .val (.int (if (x5 &&& (1 : Int32)) = (0 : Int32) then (0 : Int32) else (1 : Int32))), .val (.int (((x5.toUInt32 >>> ((1 : Int32) &&& 31).toUInt32).toInt32) &&& (3 : Int32))), .unset, .unset, .unset, .unset] [(.int (x2 &&& (1023 : Int32)))])) _
          refine XS.goto X0.here hx rfl (pc0 := 61) (pc' := 76) rfl (hb hby at_61) (by decide) (by decide) ?_
          exact k3
        · refine XS.icmpYes X0.here hx rfl (pc0 := 56) (pc' := 64) rfl (hb hby at_56) rfl (feq hc3).2 (by decide) (by decide) ?_
          show Steps p.tables e below (s₁.setTop (mkF m 64 #[.val (.int x1), .val (.int x2), .val (.int x3), .val (.int x4), .val (.int x5), .val (.int (x1 &&& (1023 : Int32))), .val (.int (x2 &&& (1023 : Int32))), .val (.int (x3 &&& (2047 : Int32))), .val (.int (if (x5 &&& (1 : Int32)) = (0 : Int32) then (0 : Int32) else (1 : Int32))), .val (.int (((x5.toUInt32 >>> ((1 : Int32) &&& 31).toUInt32).toInt32) &&& (3 : Int32))), .unset, .unset, .unset, .unset] [])) _
          refine XS.iload X0.here hx rfl (hb hby at_64) rfl ?_
          show Steps p.tables e below (s₁.setTop (mkF m 66 #[.val (.int x1), .val (.int x2), .val (.int x3), .val (.int x4), .val (.int x5), .val (.int (x1 &&& (1023 : Int32))), .val (.int (x2 &&& (1023 : Int32))), .val (.int (x3 &&& (2047 : Int32))), .val (.int (if (x5 &&& (1 : Int32)) = (0 : Int32) then (0 : Int32) else (1 : Int32))), .val (.int (((x5.toUInt32 >>> ((1 : Int32) &&& 31).toUInt32).toInt32) &&& (3 : Int32))), .unset, .unset, .unset, .unset] [(.int (((x5.toUInt32 >>> ((1 : Int32) &&& 31).toUInt32).toInt32) &&& (3 : Int32)))])) _
          refine XS.iconst X0.here hx rfl (hb hby at_66) ?_
          show Steps p.tables e below (s₁.setTop (mkF m 67 #[.val (.int x1), .val (.int x2), .val (.int x3), .val (.int x4), .val (.int x5), .val (.int (x1 &&& (1023 : Int32))), .val (.int (x2 &&& (1023 : Int32))), .val (.int (x3 &&& (2047 : Int32))), .val (.int (if (x5 &&& (1 : Int32)) = (0 : Int32) then (0 : Int32) else (1 : Int32))), .val (.int (((x5.toUInt32 >>> ((1 : Int32) &&& 31).toUInt32).toInt32) &&& (3 : Int32))), .unset, .unset, .unset, .unset] [(.int (2 : Int32)), (.int (((x5.toUInt32 >>> ((1 : Int32) &&& 31).toUInt32).toInt32) &&& (3 : Int32)))])) _
          refine own_dia (u := ((x3 &&& (2047 : Int32)) : Int32)) (v := x4) ((((x5.toUInt32 >>> ((1 : Int32) &&& 31).toUInt32).toInt32) &&& (3 : Int32)) = (2 : Int32)) (fun z4 => (mkF m 76 #[.val (.int x1), .val (.int x2), .val (.int x3), .val (.int x4), .val (.int x5), .val (.int (x1 &&& (1023 : Int32))), .val (.int (x2 &&& (1023 : Int32))), .val (.int (x3 &&& (2047 : Int32))), .val (.int (if (x5 &&& (1 : Int32)) = (0 : Int32) then (0 : Int32) else (1 : Int32))), .val (.int (((x5.toUInt32 >>> ((1 : Int32) &&& 31).toUInt32).toInt32) &&& (3 : Int32))), .unset, .unset, .unset, .unset] [(.int z4)])) (fun hc4 k4 => ?_) (fun hc4 k4 => ?_) ?_
          · refine XS.icmpNo X0.here hx rfl (hb hby at_67) rfl (teq hc4).2 ?_
            show Steps p.tables e below (s₁.setTop (mkF m 70 #[.val (.int x1), .val (.int x2), .val (.int x3), .val (.int x4), .val (.int x5), .val (.int (x1 &&& (1023 : Int32))), .val (.int (x2 &&& (1023 : Int32))), .val (.int (x3 &&& (2047 : Int32))), .val (.int (if (x5 &&& (1 : Int32)) = (0 : Int32) then (0 : Int32) else (1 : Int32))), .val (.int (((x5.toUInt32 >>> ((1 : Int32) &&& 31).toUInt32).toInt32) &&& (3 : Int32))), .unset, .unset, .unset, .unset] [])) _
            refine XS.iload X0.here hx rfl (hb hby at_70) rfl ?_
            show Steps p.tables e below (s₁.setTop (mkF m 72 #[.val (.int x1), .val (.int x2), .val (.int x3), .val (.int x4), .val (.int x5), .val (.int (x1 &&& (1023 : Int32))), .val (.int (x2 &&& (1023 : Int32))), .val (.int (x3 &&& (2047 : Int32))), .val (.int (if (x5 &&& (1 : Int32)) = (0 : Int32) then (0 : Int32) else (1 : Int32))), .val (.int (((x5.toUInt32 >>> ((1 : Int32) &&& 31).toUInt32).toInt32) &&& (3 : Int32))), .unset, .unset, .unset, .unset] [(.int (x3 &&& (2047 : Int32)))])) _
            refine XS.goto X0.here hx rfl (pc0 := 72) (pc' := 76) rfl (hb hby at_72) (by decide) (by decide) ?_
            exact k4
          · refine XS.icmpYes X0.here hx rfl (pc0 := 67) (pc' := 75) rfl (hb hby at_67) rfl (feq hc4).2 (by decide) (by decide) ?_
            show Steps p.tables e below (s₁.setTop (mkF m 75 #[.val (.int x1), .val (.int x2), .val (.int x3), .val (.int x4), .val (.int x5), .val (.int (x1 &&& (1023 : Int32))), .val (.int (x2 &&& (1023 : Int32))), .val (.int (x3 &&& (2047 : Int32))), .val (.int (if (x5 &&& (1 : Int32)) = (0 : Int32) then (0 : Int32) else (1 : Int32))), .val (.int (((x5.toUInt32 >>> ((1 : Int32) &&& 31).toUInt32).toInt32) &&& (3 : Int32))), .unset, .unset, .unset, .unset] [])) _
            refine XS.iloadN X0.here hx rfl (hb hby at_75) rfl ?_
            exact k4
          -- meets at 76
          exact k3
        -- meets at 76
        exact k2
      -- meets at 76
      show Steps p.tables e below (s₁.setTop (mkF m 76 #[.val (.int x1), .val (.int x2), .val (.int x3), .val (.int x4), .val (.int x5), .val (.int (x1 &&& (1023 : Int32))), .val (.int (x2 &&& (1023 : Int32))), .val (.int (x3 &&& (2047 : Int32))), .val (.int (if (x5 &&& (1 : Int32)) = (0 : Int32) then (0 : Int32) else (1 : Int32))), .val (.int (((x5.toUInt32 >>> ((1 : Int32) &&& 31).toUInt32).toInt32) &&& (3 : Int32))), .unset, .unset, .unset, .unset] [(.int (if (((x5.toUInt32 >>> ((1 : Int32) &&& 31).toUInt32).toInt32) &&& (3 : Int32)) = (0 : Int32) then (x1 &&& (1023 : Int32)) else (if (((x5.toUInt32 >>> ((1 : Int32) &&& 31).toUInt32).toInt32) &&& (3 : Int32)) = (1 : Int32) then (x2 &&& (1023 : Int32)) else (if (((x5.toUInt32 >>> ((1 : Int32) &&& 31).toUInt32).toInt32) &&& (3 : Int32)) = (2 : Int32) then (x3 &&& (2047 : Int32)) else x4))))])) _
      refine XS.istore X0.here hx rfl (hb hby at_76) rfl (l' := #[.val (.int x1), .val (.int x2), .val (.int x3), .val (.int x4), .val (.int x5), .val (.int (x1 &&& (1023 : Int32))), .val (.int (x2 &&& (1023 : Int32))), .val (.int (x3 &&& (2047 : Int32))), .val (.int (if (x5 &&& (1 : Int32)) = (0 : Int32) then (0 : Int32) else (1 : Int32))), .val (.int (((x5.toUInt32 >>> ((1 : Int32) &&& 31).toUInt32).toInt32) &&& (3 : Int32))), .val (.int (if (((x5.toUInt32 >>> ((1 : Int32) &&& 31).toUInt32).toInt32) &&& (3 : Int32)) = (0 : Int32) then (x1 &&& (1023 : Int32)) else (if (((x5.toUInt32 >>> ((1 : Int32) &&& 31).toUInt32).toInt32) &&& (3 : Int32)) = (1 : Int32) then (x2 &&& (1023 : Int32)) else (if (((x5.toUInt32 >>> ((1 : Int32) &&& 31).toUInt32).toInt32) &&& (3 : Int32)) = (2 : Int32) then (x3 &&& (2047 : Int32)) else x4)))), .unset, .unset, .unset]) rfl ?_
      show Steps p.tables e below (s₁.setTop (mkF m 78 #[.val (.int x1), .val (.int x2), .val (.int x3), .val (.int x4), .val (.int x5), .val (.int (x1 &&& (1023 : Int32))), .val (.int (x2 &&& (1023 : Int32))), .val (.int (x3 &&& (2047 : Int32))), .val (.int (if (x5 &&& (1 : Int32)) = (0 : Int32) then (0 : Int32) else (1 : Int32))), .val (.int (((x5.toUInt32 >>> ((1 : Int32) &&& 31).toUInt32).toInt32) &&& (3 : Int32))), .val (.int (own_q x1 x2 x3 x4 x5)), .unset, .unset, .unset] [])) _
      refine st5 _ ?_
      show Steps p.tables e below (T5.setTop (mkF m 81 #[.val (.int x1), .val (.int x2), .val (.int x3), .val (.int x4), .val (.int x5), .val (.int (x1 &&& (1023 : Int32))), .val (.int (x2 &&& (1023 : Int32))), .val (.int (x3 &&& (2047 : Int32))), .val (.int (if (x5 &&& (1 : Int32)) = (0 : Int32) then (0 : Int32) else (1 : Int32))), .val (.int (((x5.toUInt32 >>> ((1 : Int32) &&& 31).toUInt32).toInt32) &&& (3 : Int32))), .val (.int (own_q x1 x2 x3 x4 x5)), .unset, .unset, .unset] [(.ref b5)])) _
      refine XS.dup X5.here hx rfl (hb hby at_81) rfl rfl ?_
      show Steps p.tables e below (T5.setTop (mkF m 82 #[.val (.int x1), .val (.int x2), .val (.int x3), .val (.int x4), .val (.int x5), .val (.int (x1 &&& (1023 : Int32))), .val (.int (x2 &&& (1023 : Int32))), .val (.int (x3 &&& (2047 : Int32))), .val (.int (if (x5 &&& (1 : Int32)) = (0 : Int32) then (0 : Int32) else (1 : Int32))), .val (.int (((x5.toUInt32 >>> ((1 : Int32) &&& 31).toUInt32).toInt32) &&& (3 : Int32))), .val (.int (own_q x1 x2 x3 x4 x5)), .unset, .unset, .unset] [(.ref b5), (.ref b5)])) _
      refine st7.trans ?_
      show Steps p.tables e below (T7.setTop (mkF m 85 #[.val (.int x1), .val (.int x2), .val (.int x3), .val (.int x4), .val (.int x5), .val (.int (x1 &&& (1023 : Int32))), .val (.int (x2 &&& (1023 : Int32))), .val (.int (x3 &&& (2047 : Int32))), .val (.int (if (x5 &&& (1 : Int32)) = (0 : Int32) then (0 : Int32) else (1 : Int32))), .val (.int (((x5.toUInt32 >>> ((1 : Int32) &&& 31).toUInt32).toInt32) &&& (3 : Int32))), .val (.int (own_q x1 x2 x3 x4 x5)), .unset, .unset, .unset] [(.ref b5)])) _
      refine XS.astore X7.here hx rfl (hb hby at_85) rfl rfl (l' := #[.val (.int x1), .val (.int x2), .val (.int x3), .val (.int x4), .val (.int x5), .val (.int (x1 &&& (1023 : Int32))), .val (.int (x2 &&& (1023 : Int32))), .val (.int (x3 &&& (2047 : Int32))), .val (.int (if (x5 &&& (1 : Int32)) = (0 : Int32) then (0 : Int32) else (1 : Int32))), .val (.int (((x5.toUInt32 >>> ((1 : Int32) &&& 31).toUInt32).toInt32) &&& (3 : Int32))), .val (.int (own_q x1 x2 x3 x4 x5)), .val (.ref b5), .unset, .unset]) rfl ?_
      show Steps p.tables e below (T7.setTop (mkF m 87 #[.val (.int x1), .val (.int x2), .val (.int x3), .val (.int x4), .val (.int x5), .val (.int (x1 &&& (1023 : Int32))), .val (.int (x2 &&& (1023 : Int32))), .val (.int (x3 &&& (2047 : Int32))), .val (.int (if (x5 &&& (1 : Int32)) = (0 : Int32) then (0 : Int32) else (1 : Int32))), .val (.int (((x5.toUInt32 >>> ((1 : Int32) &&& 31).toUInt32).toInt32) &&& (3 : Int32))), .val (.int (own_q x1 x2 x3 x4 x5)), .val (.ref b5), .unset, .unset] [])) _
      refine XS.aload X7.here hx rfl (hb hby at_87) rfl rfl ?_
      show Steps p.tables e below (T7.setTop (mkF m 89 #[.val (.int x1), .val (.int x2), .val (.int x3), .val (.int x4), .val (.int x5), .val (.int (x1 &&& (1023 : Int32))), .val (.int (x2 &&& (1023 : Int32))), .val (.int (x3 &&& (2047 : Int32))), .val (.int (if (x5 &&& (1 : Int32)) = (0 : Int32) then (0 : Int32) else (1 : Int32))), .val (.int (((x5.toUInt32 >>> ((1 : Int32) &&& 31).toUInt32).toInt32) &&& (3 : Int32))), .val (.int (own_q x1 x2 x3 x4 x5)), .val (.ref b5), .unset, .unset] [(.ref b5)])) _
      refine XS.iload X7.here hx rfl (hb hby at_89) rfl ?_
      show Steps p.tables e below (T7.setTop (mkF m 91 #[.val (.int x1), .val (.int x2), .val (.int x3), .val (.int x4), .val (.int x5), .val (.int (x1 &&& (1023 : Int32))), .val (.int (x2 &&& (1023 : Int32))), .val (.int (x3 &&& (2047 : Int32))), .val (.int (if (x5 &&& (1 : Int32)) = (0 : Int32) then (0 : Int32) else (1 : Int32))), .val (.int (((x5.toUInt32 >>> ((1 : Int32) &&& 31).toUInt32).toInt32) &&& (3 : Int32))), .val (.int (own_q x1 x2 x3 x4 x5)), .val (.ref b5), .unset, .unset] [(.int (own_q x1 x2 x3 x4 x5)), (.ref b5)])) _
      refine st8.trans ?_
      show Steps p.tables e below (T8.setTop (mkF m 94 #[.val (.int x1), .val (.int x2), .val (.int x3), .val (.int x4), .val (.int x5), .val (.int (x1 &&& (1023 : Int32))), .val (.int (x2 &&& (1023 : Int32))), .val (.int (x3 &&& (2047 : Int32))), .val (.int (if (x5 &&& (1 : Int32)) = (0 : Int32) then (0 : Int32) else (1 : Int32))), .val (.int (((x5.toUInt32 >>> ((1 : Int32) &&& 31).toUInt32).toInt32) &&& (3 : Int32))), .val (.int (own_q x1 x2 x3 x4 x5)), .val (.ref b5), .unset, .unset] [(.int (((fun _ => (0 : Int32))) (own_q x1 x2 x3 x4 x5)))])) _
      refine own_dia (u := ((1 : Int32) : Int32)) (v := (0 : Int32)) ((((fun _ => (0 : Int32))) (own_q x1 x2 x3 x4 x5)) = (0 : Int32)) (fun z9 => (mkF m 102 #[.val (.int x1), .val (.int x2), .val (.int x3), .val (.int x4), .val (.int x5), .val (.int (x1 &&& (1023 : Int32))), .val (.int (x2 &&& (1023 : Int32))), .val (.int (x3 &&& (2047 : Int32))), .val (.int (if (x5 &&& (1 : Int32)) = (0 : Int32) then (0 : Int32) else (1 : Int32))), .val (.int (((x5.toUInt32 >>> ((1 : Int32) &&& 31).toUInt32).toInt32) &&& (3 : Int32))), .val (.int (own_q x1 x2 x3 x4 x5)), .val (.ref b5), .unset, .unset] [(.int z9)])) (fun hc9 k9 => ?_) (fun hc9 k9 => ?_) ?_
      · refine XS.ifNo X8.here hx rfl (hb hby at_94) rfl ((if0 _ _).trans (teq hc9).2) ?_
        show Steps p.tables e below (T8.setTop (mkF m 97 #[.val (.int x1), .val (.int x2), .val (.int x3), .val (.int x4), .val (.int x5), .val (.int (x1 &&& (1023 : Int32))), .val (.int (x2 &&& (1023 : Int32))), .val (.int (x3 &&& (2047 : Int32))), .val (.int (if (x5 &&& (1 : Int32)) = (0 : Int32) then (0 : Int32) else (1 : Int32))), .val (.int (((x5.toUInt32 >>> ((1 : Int32) &&& 31).toUInt32).toInt32) &&& (3 : Int32))), .val (.int (own_q x1 x2 x3 x4 x5)), .val (.ref b5), .unset, .unset] [])) _
        refine XS.iconst X8.here hx rfl (hb hby at_97) ?_
        show Steps p.tables e below (T8.setTop (mkF m 98 #[.val (.int x1), .val (.int x2), .val (.int x3), .val (.int x4), .val (.int x5), .val (.int (x1 &&& (1023 : Int32))), .val (.int (x2 &&& (1023 : Int32))), .val (.int (x3 &&& (2047 : Int32))), .val (.int (if (x5 &&& (1 : Int32)) = (0 : Int32) then (0 : Int32) else (1 : Int32))), .val (.int (((x5.toUInt32 >>> ((1 : Int32) &&& 31).toUInt32).toInt32) &&& (3 : Int32))), .val (.int (own_q x1 x2 x3 x4 x5)), .val (.ref b5), .unset, .unset] [(.int (1 : Int32))])) _
        refine XS.goto X8.here hx rfl (pc0 := 98) (pc' := 102) rfl (hb hby at_98) (by decide) (by decide) ?_
        exact k9
      · refine XS.ifYes X8.here hx rfl (pc0 := 94) (pc' := 101) rfl (hb hby at_94) rfl ((if0 _ _).trans (feq hc9).2) (by decide) (by decide) ?_
        show Steps p.tables e below (T8.setTop (mkF m 101 #[.val (.int x1), .val (.int x2), .val (.int x3), .val (.int x4), .val (.int x5), .val (.int (x1 &&& (1023 : Int32))), .val (.int (x2 &&& (1023 : Int32))), .val (.int (x3 &&& (2047 : Int32))), .val (.int (if (x5 &&& (1 : Int32)) = (0 : Int32) then (0 : Int32) else (1 : Int32))), .val (.int (((x5.toUInt32 >>> ((1 : Int32) &&& 31).toUInt32).toInt32) &&& (3 : Int32))), .val (.int (own_q x1 x2 x3 x4 x5)), .val (.ref b5), .unset, .unset] [])) _
        refine XS.iconst X8.here hx rfl (hb hby at_101) ?_
        exact k9
      -- meets at 102
      show Steps p.tables e below (T8.setTop (mkF m 102 #[.val (.int x1), .val (.int x2), .val (.int x3), .val (.int x4), .val (.int x5), .val (.int (x1 &&& (1023 : Int32))), .val (.int (x2 &&& (1023 : Int32))), .val (.int (x3 &&& (2047 : Int32))), .val (.int (if (x5 &&& (1 : Int32)) = (0 : Int32) then (0 : Int32) else (1 : Int32))), .val (.int (((x5.toUInt32 >>> ((1 : Int32) &&& 31).toUInt32).toInt32) &&& (3 : Int32))), .val (.int (own_q x1 x2 x3 x4 x5)), .val (.ref b5), .unset, .unset] [(.int (if (((fun _ => (0 : Int32))) (own_q x1 x2 x3 x4 x5)) = (0 : Int32) then (1 : Int32) else (0 : Int32)))])) _
      refine XS.istore X8.here hx rfl (hb hby at_102) rfl (l' := #[.val (.int x1), .val (.int x2), .val (.int x3), .val (.int x4), .val (.int x5), .val (.int (x1 &&& (1023 : Int32))), .val (.int (x2 &&& (1023 : Int32))), .val (.int (x3 &&& (2047 : Int32))), .val (.int (if (x5 &&& (1 : Int32)) = (0 : Int32) then (0 : Int32) else (1 : Int32))), .val (.int (((x5.toUInt32 >>> ((1 : Int32) &&& 31).toUInt32).toInt32) &&& (3 : Int32))), .val (.int (own_q x1 x2 x3 x4 x5)), .val (.ref b5), .val (.int (if (((fun _ => (0 : Int32))) (own_q x1 x2 x3 x4 x5)) = (0 : Int32) then (1 : Int32) else (0 : Int32))), .unset]) rfl ?_
      show Steps p.tables e below (T8.setTop (mkF m 104 #[.val (.int x1), .val (.int x2), .val (.int x3), .val (.int x4), .val (.int x5), .val (.int (x1 &&& (1023 : Int32))), .val (.int (x2 &&& (1023 : Int32))), .val (.int (x3 &&& (2047 : Int32))), .val (.int (if (x5 &&& (1 : Int32)) = (0 : Int32) then (0 : Int32) else (1 : Int32))), .val (.int (((x5.toUInt32 >>> ((1 : Int32) &&& 31).toUInt32).toInt32) &&& (3 : Int32))), .val (.int (own_q x1 x2 x3 x4 x5)), .val (.ref b5), .val (.int (if (((fun _ => (0 : Int32))) (own_q x1 x2 x3 x4 x5)) = (0 : Int32) then (1 : Int32) else (0 : Int32))), .unset] [])) _
      refine XS.aload X8.here hx rfl (hb hby at_104) rfl rfl ?_
      show Steps p.tables e below (T8.setTop (mkF m 106 #[.val (.int x1), .val (.int x2), .val (.int x3), .val (.int x4), .val (.int x5), .val (.int (x1 &&& (1023 : Int32))), .val (.int (x2 &&& (1023 : Int32))), .val (.int (x3 &&& (2047 : Int32))), .val (.int (if (x5 &&& (1 : Int32)) = (0 : Int32) then (0 : Int32) else (1 : Int32))), .val (.int (((x5.toUInt32 >>> ((1 : Int32) &&& 31).toUInt32).toInt32) &&& (3 : Int32))), .val (.int (own_q x1 x2 x3 x4 x5)), .val (.ref b5), .val (.int (if (((fun _ => (0 : Int32))) (own_q x1 x2 x3 x4 x5)) = (0 : Int32) then (1 : Int32) else (0 : Int32))), .unset] [(.ref b5)])) _
      refine XS.iload X8.here hx rfl (hb hby at_106) rfl ?_
      show Steps p.tables e below (T8.setTop (mkF m 108 #[.val (.int x1), .val (.int x2), .val (.int x3), .val (.int x4), .val (.int x5), .val (.int (x1 &&& (1023 : Int32))), .val (.int (x2 &&& (1023 : Int32))), .val (.int (x3 &&& (2047 : Int32))), .val (.int (if (x5 &&& (1 : Int32)) = (0 : Int32) then (0 : Int32) else (1 : Int32))), .val (.int (((x5.toUInt32 >>> ((1 : Int32) &&& 31).toUInt32).toInt32) &&& (3 : Int32))), .val (.int (own_q x1 x2 x3 x4 x5)), .val (.ref b5), .val (.int (if (((fun _ => (0 : Int32))) (own_q x1 x2 x3 x4 x5)) = (0 : Int32) then (1 : Int32) else (0 : Int32))), .unset] [(.int (x1 &&& (1023 : Int32))), (.ref b5)])) _
      refine st10.trans ?_
      show Steps p.tables e below (T10.setTop (mkF m 111 #[.val (.int x1), .val (.int x2), .val (.int x3), .val (.int x4), .val (.int x5), .val (.int (x1 &&& (1023 : Int32))), .val (.int (x2 &&& (1023 : Int32))), .val (.int (x3 &&& (2047 : Int32))), .val (.int (if (x5 &&& (1 : Int32)) = (0 : Int32) then (0 : Int32) else (1 : Int32))), .val (.int (((x5.toUInt32 >>> ((1 : Int32) &&& 31).toUInt32).toInt32) &&& (3 : Int32))), .val (.int (own_q x1 x2 x3 x4 x5)), .val (.ref b5), .val (.int (if (((fun _ => (0 : Int32))) (own_q x1 x2 x3 x4 x5)) = (0 : Int32) then (1 : Int32) else (0 : Int32))), .unset] [])) _
      refine XS.iload X10.here hx rfl (hb hby at_111) rfl ?_
      show Steps p.tables e below (T10.setTop (mkF m 113 #[.val (.int x1), .val (.int x2), .val (.int x3), .val (.int x4), .val (.int x5), .val (.int (x1 &&& (1023 : Int32))), .val (.int (x2 &&& (1023 : Int32))), .val (.int (x3 &&& (2047 : Int32))), .val (.int (if (x5 &&& (1 : Int32)) = (0 : Int32) then (0 : Int32) else (1 : Int32))), .val (.int (((x5.toUInt32 >>> ((1 : Int32) &&& 31).toUInt32).toInt32) &&& (3 : Int32))), .val (.int (own_q x1 x2 x3 x4 x5)), .val (.ref b5), .val (.int (if (((fun _ => (0 : Int32))) (own_q x1 x2 x3 x4 x5)) = (0 : Int32) then (1 : Int32) else (0 : Int32))), .unset] [(.int (if (x5 &&& (1 : Int32)) = (0 : Int32) then (0 : Int32) else (1 : Int32)))])) _
      refine XS.ifYes X10.here hx rfl (pc0 := 113) (pc' := 123) rfl (hb hby at_113) rfl (own_ct hb11).2 (by decide) (by decide) ?_
      show Steps p.tables e below (T10.setTop (mkF m 123 #[.val (.int x1), .val (.int x2), .val (.int x3), .val (.int x4), .val (.int x5), .val (.int (x1 &&& (1023 : Int32))), .val (.int (x2 &&& (1023 : Int32))), .val (.int (x3 &&& (2047 : Int32))), .val (.int (if (x5 &&& (1 : Int32)) = (0 : Int32) then (0 : Int32) else (1 : Int32))), .val (.int (((x5.toUInt32 >>> ((1 : Int32) &&& 31).toUInt32).toInt32) &&& (3 : Int32))), .val (.int (own_q x1 x2 x3 x4 x5)), .val (.ref b5), .val (.int (if (((fun _ => (0 : Int32))) (own_q x1 x2 x3 x4 x5)) = (0 : Int32) then (1 : Int32) else (0 : Int32))), .unset] [])) _
      refine XS.aload X10.here hx rfl (hb hby at_123) rfl rfl ?_
      show Steps p.tables e below (T10.setTop (mkF m 125 #[.val (.int x1), .val (.int x2), .val (.int x3), .val (.int x4), .val (.int x5), .val (.int (x1 &&& (1023 : Int32))), .val (.int (x2 &&& (1023 : Int32))), .val (.int (x3 &&& (2047 : Int32))), .val (.int (if (x5 &&& (1 : Int32)) = (0 : Int32) then (0 : Int32) else (1 : Int32))), .val (.int (((x5.toUInt32 >>> ((1 : Int32) &&& 31).toUInt32).toInt32) &&& (3 : Int32))), .val (.int (own_q x1 x2 x3 x4 x5)), .val (.ref b5), .val (.int (if (((fun _ => (0 : Int32))) (own_q x1 x2 x3 x4 x5)) = (0 : Int32) then (1 : Int32) else (0 : Int32))), .unset] [(.ref b5)])) _
      refine XS.iload X10.here hx rfl (hb hby at_125) rfl ?_
      show Steps p.tables e below (T10.setTop (mkF m 127 #[.val (.int x1), .val (.int x2), .val (.int x3), .val (.int x4), .val (.int x5), .val (.int (x1 &&& (1023 : Int32))), .val (.int (x2 &&& (1023 : Int32))), .val (.int (x3 &&& (2047 : Int32))), .val (.int (if (x5 &&& (1 : Int32)) = (0 : Int32) then (0 : Int32) else (1 : Int32))), .val (.int (((x5.toUInt32 >>> ((1 : Int32) &&& 31).toUInt32).toInt32) &&& (3 : Int32))), .val (.int (own_q x1 x2 x3 x4 x5)), .val (.ref b5), .val (.int (if (((fun _ => (0 : Int32))) (own_q x1 x2 x3 x4 x5)) = (0 : Int32) then (1 : Int32) else (0 : Int32))), .unset] [(.int (x2 &&& (1023 : Int32))), (.ref b5)])) _
      refine st12.trans ?_
      show Steps p.tables e below (T12.setTop (mkF m 130 #[.val (.int x1), .val (.int x2), .val (.int x3), .val (.int x4), .val (.int x5), .val (.int (x1 &&& (1023 : Int32))), .val (.int (x2 &&& (1023 : Int32))), .val (.int (x3 &&& (2047 : Int32))), .val (.int (if (x5 &&& (1 : Int32)) = (0 : Int32) then (0 : Int32) else (1 : Int32))), .val (.int (((x5.toUInt32 >>> ((1 : Int32) &&& 31).toUInt32).toInt32) &&& (3 : Int32))), .val (.int (own_q x1 x2 x3 x4 x5)), .val (.ref b5), .val (.int (if (((fun _ => (0 : Int32))) (own_q x1 x2 x3 x4 x5)) = (0 : Int32) then (1 : Int32) else (0 : Int32))), .unset] [])) _
      refine XS.iload X12.here hx rfl (hb hby at_130) rfl ?_
      show Steps p.tables e below (T12.setTop (mkF m 132 #[.val (.int x1), .val (.int x2), .val (.int x3), .val (.int x4), .val (.int x5), .val (.int (x1 &&& (1023 : Int32))), .val (.int (x2 &&& (1023 : Int32))), .val (.int (x3 &&& (2047 : Int32))), .val (.int (if (x5 &&& (1 : Int32)) = (0 : Int32) then (0 : Int32) else (1 : Int32))), .val (.int (((x5.toUInt32 >>> ((1 : Int32) &&& 31).toUInt32).toInt32) &&& (3 : Int32))), .val (.int (own_q x1 x2 x3 x4 x5)), .val (.ref b5), .val (.int (if (((fun _ => (0 : Int32))) (own_q x1 x2 x3 x4 x5)) = (0 : Int32) then (1 : Int32) else (0 : Int32))), .unset] [(.int (own_q x1 x2 x3 x4 x5))])) _
      refine XS.iload X12.here hx rfl (hb hby at_132) rfl ?_
      show Steps p.tables e below (T12.setTop (mkF m 134 #[.val (.int x1), .val (.int x2), .val (.int x3), .val (.int x4), .val (.int x5), .val (.int (x1 &&& (1023 : Int32))), .val (.int (x2 &&& (1023 : Int32))), .val (.int (x3 &&& (2047 : Int32))), .val (.int (if (x5 &&& (1 : Int32)) = (0 : Int32) then (0 : Int32) else (1 : Int32))), .val (.int (((x5.toUInt32 >>> ((1 : Int32) &&& 31).toUInt32).toInt32) &&& (3 : Int32))), .val (.int (own_q x1 x2 x3 x4 x5)), .val (.ref b5), .val (.int (if (((fun _ => (0 : Int32))) (own_q x1 x2 x3 x4 x5)) = (0 : Int32) then (1 : Int32) else (0 : Int32))), .unset] [(.int (x2 &&& (1023 : Int32))), (.int (own_q x1 x2 x3 x4 x5))])) _
      refine own_dia (u := ((1 : Int32) : Int32)) (v := (if (own_q x1 x2 x3 x4 x5) = (x1 &&& (1023 : Int32)) then (if (x5 &&& (1 : Int32)) = (0 : Int32) then (1 : Int32) else (if (x3 &&& (2047 : Int32)) = (x1 &&& (1023 : Int32)) then (0 : Int32) else (1 : Int32))) else (0 : Int32))) ((own_q x1 x2 x3 x4 x5) = (x2 &&& (1023 : Int32))) (fun z13 => (mkF m 161 #[.val (.int x1), .val (.int x2), .val (.int x3), .val (.int x4), .val (.int x5), .val (.int (x1 &&& (1023 : Int32))), .val (.int (x2 &&& (1023 : Int32))), .val (.int (x3 &&& (2047 : Int32))), .val (.int (if (x5 &&& (1 : Int32)) = (0 : Int32) then (0 : Int32) else (1 : Int32))), .val (.int (((x5.toUInt32 >>> ((1 : Int32) &&& 31).toUInt32).toInt32) &&& (3 : Int32))), .val (.int (own_q x1 x2 x3 x4 x5)), .val (.ref b5), .val (.int (if (((fun _ => (0 : Int32))) (own_q x1 x2 x3 x4 x5)) = (0 : Int32) then (1 : Int32) else (0 : Int32))), .unset] [(.int z13)])) (fun hc13 k13 => ?_) (fun hc13 k13 => ?_) ?_
      · refine XS.icmpYes X12.here hx rfl (pc0 := 134) (pc' := 156) rfl (hb hby at_134) rfl (teq hc13).1 (by decide) (by decide) ?_
        show Steps p.tables e below (T12.setTop (mkF m 156 #[.val (.int x1), .val (.int x2), .val (.int x3), .val (.int x4), .val (.int x5), .val (.int (x1 &&& (1023 : Int32))), .val (.int (x2 &&& (1023 : Int32))), .val (.int (x3 &&& (2047 : Int32))), .val (.int (if (x5 &&& (1 : Int32)) = (0 : Int32) then (0 : Int32) else (1 : Int32))), .val (.int (((x5.toUInt32 >>> ((1 : Int32) &&& 31).toUInt32).toInt32) &&& (3 : Int32))), .val (.int (own_q x1 x2 x3 x4 x5)), .val (.ref b5), .val (.int (if (((fun _ => (0 : Int32))) (own_q x1 x2 x3 x4 x5)) = (0 : Int32) then (1 : Int32) else (0 : Int32))), .unset] [])) _
        refine XS.iconst X12.here hx rfl (hb hby at_156) ?_
        show Steps p.tables e below (T12.setTop (mkF m 157 #[.val (.int x1), .val (.int x2), .val (.int x3), .val (.int x4), .val (.int x5), .val (.int (x1 &&& (1023 : Int32))), .val (.int (x2 &&& (1023 : Int32))), .val (.int (x3 &&& (2047 : Int32))), .val (.int (if (x5 &&& (1 : Int32)) = (0 : Int32) then (0 : Int32) else (1 : Int32))), .val (.int (((x5.toUInt32 >>> ((1 : Int32) &&& 31).toUInt32).toInt32) &&& (3 : Int32))), .val (.int (own_q x1 x2 x3 x4 x5)), .val (.ref b5), .val (.int (if (((fun _ => (0 : Int32))) (own_q x1 x2 x3 x4 x5)) = (0 : Int32) then (1 : Int32) else (0 : Int32))), .unset] [(.int (1 : Int32))])) _
        refine XS.goto X12.here hx rfl (pc0 := 157) (pc' := 161) rfl (hb hby at_157) (by decide) (by decide) ?_
        exact k13
      · refine XS.icmpNo X12.here hx rfl (hb hby at_134) rfl (feq hc13).1 ?_
        show Steps p.tables e below (T12.setTop (mkF m 137 #[.val (.int x1), .val (.int x2), .val (.int x3), .val (.int x4), .val (.int x5), .val (.int (x1 &&& (1023 : Int32))), .val (.int (x2 &&& (1023 : Int32))), .val (.int (x3 &&& (2047 : Int32))), .val (.int (if (x5 &&& (1 : Int32)) = (0 : Int32) then (0 : Int32) else (1 : Int32))), .val (.int (((x5.toUInt32 >>> ((1 : Int32) &&& 31).toUInt32).toInt32) &&& (3 : Int32))), .val (.int (own_q x1 x2 x3 x4 x5)), .val (.ref b5), .val (.int (if (((fun _ => (0 : Int32))) (own_q x1 x2 x3 x4 x5)) = (0 : Int32) then (1 : Int32) else (0 : Int32))), .unset] [])) _
        refine XS.iload X12.here hx rfl (hb hby at_137) rfl ?_
        show Steps p.tables e below (T12.setTop (mkF m 139 #[.val (.int x1), .val (.int x2), .val (.int x3), .val (.int x4), .val (.int x5), .val (.int (x1 &&& (1023 : Int32))), .val (.int (x2 &&& (1023 : Int32))), .val (.int (x3 &&& (2047 : Int32))), .val (.int (if (x5 &&& (1 : Int32)) = (0 : Int32) then (0 : Int32) else (1 : Int32))), .val (.int (((x5.toUInt32 >>> ((1 : Int32) &&& 31).toUInt32).toInt32) &&& (3 : Int32))), .val (.int (own_q x1 x2 x3 x4 x5)), .val (.ref b5), .val (.int (if (((fun _ => (0 : Int32))) (own_q x1 x2 x3 x4 x5)) = (0 : Int32) then (1 : Int32) else (0 : Int32))), .unset] [(.int (own_q x1 x2 x3 x4 x5))])) _
        refine XS.iload X12.here hx rfl (hb hby at_139) rfl ?_
        show Steps p.tables e below (T12.setTop (mkF m 141 #[.val (.int x1), .val (.int x2), .val (.int x3), .val (.int x4), .val (.int x5), .val (.int (x1 &&& (1023 : Int32))), .val (.int (x2 &&& (1023 : Int32))), .val (.int (x3 &&& (2047 : Int32))), .val (.int (if (x5 &&& (1 : Int32)) = (0 : Int32) then (0 : Int32) else (1 : Int32))), .val (.int (((x5.toUInt32 >>> ((1 : Int32) &&& 31).toUInt32).toInt32) &&& (3 : Int32))), .val (.int (own_q x1 x2 x3 x4 x5)), .val (.ref b5), .val (.int (if (((fun _ => (0 : Int32))) (own_q x1 x2 x3 x4 x5)) = (0 : Int32) then (1 : Int32) else (0 : Int32))), .unset] [(.int (x1 &&& (1023 : Int32))), (.int (own_q x1 x2 x3 x4 x5))])) _
        refine own_dia (u := ((if (x5 &&& (1 : Int32)) = (0 : Int32) then (1 : Int32) else (if (x3 &&& (2047 : Int32)) = (x1 &&& (1023 : Int32)) then (0 : Int32) else (1 : Int32))) : Int32)) (v := (0 : Int32)) ((own_q x1 x2 x3 x4 x5) = (x1 &&& (1023 : Int32))) (fun z14 => (mkF m 161 #[.val (.int x1), .val (.int x2), .val (.int x3), .val (.int x4), .val (.int x5), .val (.int (x1 &&& (1023 : Int32))), .val (.int (x2 &&& (1023 : Int32))), .val (.int (x3 &&& (2047 : Int32))), .val (.int (if (x5 &&& (1 : Int32)) = (0 : Int32) then (0 : Int32) else (1 : Int32))), .val (.int (((x5.toUInt32 >>> ((1 : Int32) &&& 31).toUInt32).toInt32) &&& (3 : Int32))), .val (.int (own_q x1 x2 x3 x4 x5)), .val (.ref b5), .val (.int (if (((fun _ => (0 : Int32))) (own_q x1 x2 x3 x4 x5)) = (0 : Int32) then (1 : Int32) else (0 : Int32))), .unset] [(.int z14)])) (fun hc14 k14 => ?_) (fun hc14 k14 => ?_) ?_
        · refine XS.icmpNo X12.here hx rfl (hb hby at_141) rfl (teq hc14).2 ?_
          show Steps p.tables e below (T12.setTop (mkF m 144 #[.val (.int x1), .val (.int x2), .val (.int x3), .val (.int x4), .val (.int x5), .val (.int (x1 &&& (1023 : Int32))), .val (.int (x2 &&& (1023 : Int32))), .val (.int (x3 &&& (2047 : Int32))), .val (.int (if (x5 &&& (1 : Int32)) = (0 : Int32) then (0 : Int32) else (1 : Int32))), .val (.int (((x5.toUInt32 >>> ((1 : Int32) &&& 31).toUInt32).toInt32) &&& (3 : Int32))), .val (.int (own_q x1 x2 x3 x4 x5)), .val (.ref b5), .val (.int (if (((fun _ => (0 : Int32))) (own_q x1 x2 x3 x4 x5)) = (0 : Int32) then (1 : Int32) else (0 : Int32))), .unset] [])) _
          refine XS.iload X12.here hx rfl (hb hby at_144) rfl ?_
          show Steps p.tables e below (T12.setTop (mkF m 146 #[.val (.int x1), .val (.int x2), .val (.int x3), .val (.int x4), .val (.int x5), .val (.int (x1 &&& (1023 : Int32))), .val (.int (x2 &&& (1023 : Int32))), .val (.int (x3 &&& (2047 : Int32))), .val (.int (if (x5 &&& (1 : Int32)) = (0 : Int32) then (0 : Int32) else (1 : Int32))), .val (.int (((x5.toUInt32 >>> ((1 : Int32) &&& 31).toUInt32).toInt32) &&& (3 : Int32))), .val (.int (own_q x1 x2 x3 x4 x5)), .val (.ref b5), .val (.int (if (((fun _ => (0 : Int32))) (own_q x1 x2 x3 x4 x5)) = (0 : Int32) then (1 : Int32) else (0 : Int32))), .unset] [(.int (if (x5 &&& (1 : Int32)) = (0 : Int32) then (0 : Int32) else (1 : Int32)))])) _
          refine own_dia (u := ((1 : Int32) : Int32)) (v := (if (x3 &&& (2047 : Int32)) = (x1 &&& (1023 : Int32)) then (0 : Int32) else (1 : Int32))) ((x5 &&& (1 : Int32)) = (0 : Int32)) (fun z15 => (mkF m 161 #[.val (.int x1), .val (.int x2), .val (.int x3), .val (.int x4), .val (.int x5), .val (.int (x1 &&& (1023 : Int32))), .val (.int (x2 &&& (1023 : Int32))), .val (.int (x3 &&& (2047 : Int32))), .val (.int (if (x5 &&& (1 : Int32)) = (0 : Int32) then (0 : Int32) else (1 : Int32))), .val (.int (((x5.toUInt32 >>> ((1 : Int32) &&& 31).toUInt32).toInt32) &&& (3 : Int32))), .val (.int (own_q x1 x2 x3 x4 x5)), .val (.ref b5), .val (.int (if (((fun _ => (0 : Int32))) (own_q x1 x2 x3 x4 x5)) = (0 : Int32) then (1 : Int32) else (0 : Int32))), .unset] [(.int z15)])) (fun hc15 k15 => ?_) (fun hc15 k15 => ?_) ?_
          · refine XS.ifYes X12.here hx rfl (pc0 := 146) (pc' := 156) rfl (hb hby at_146) rfl (own_ct hc15).2 (by decide) (by decide) ?_
            show Steps p.tables e below (T12.setTop (mkF m 156 #[.val (.int x1), .val (.int x2), .val (.int x3), .val (.int x4), .val (.int x5), .val (.int (x1 &&& (1023 : Int32))), .val (.int (x2 &&& (1023 : Int32))), .val (.int (x3 &&& (2047 : Int32))), .val (.int (if (x5 &&& (1 : Int32)) = (0 : Int32) then (0 : Int32) else (1 : Int32))), .val (.int (((x5.toUInt32 >>> ((1 : Int32) &&& 31).toUInt32).toInt32) &&& (3 : Int32))), .val (.int (own_q x1 x2 x3 x4 x5)), .val (.ref b5), .val (.int (if (((fun _ => (0 : Int32))) (own_q x1 x2 x3 x4 x5)) = (0 : Int32) then (1 : Int32) else (0 : Int32))), .unset] [])) _
            refine XS.iconst X12.here hx rfl (hb hby at_156) ?_
            show Steps p.tables e below (T12.setTop (mkF m 157 #[.val (.int x1), .val (.int x2), .val (.int x3), .val (.int x4), .val (.int x5), .val (.int (x1 &&& (1023 : Int32))), .val (.int (x2 &&& (1023 : Int32))), .val (.int (x3 &&& (2047 : Int32))), .val (.int (if (x5 &&& (1 : Int32)) = (0 : Int32) then (0 : Int32) else (1 : Int32))), .val (.int (((x5.toUInt32 >>> ((1 : Int32) &&& 31).toUInt32).toInt32) &&& (3 : Int32))), .val (.int (own_q x1 x2 x3 x4 x5)), .val (.ref b5), .val (.int (if (((fun _ => (0 : Int32))) (own_q x1 x2 x3 x4 x5)) = (0 : Int32) then (1 : Int32) else (0 : Int32))), .unset] [(.int (1 : Int32))])) _
            refine XS.goto X12.here hx rfl (pc0 := 157) (pc' := 161) rfl (hb hby at_157) (by decide) (by decide) ?_
            exact k15
          · refine XS.ifNo X12.here hx rfl (hb hby at_146) rfl (own_cf hc15).2 ?_
            show Steps p.tables e below (T12.setTop (mkF m 149 #[.val (.int x1), .val (.int x2), .val (.int x3), .val (.int x4), .val (.int x5), .val (.int (x1 &&& (1023 : Int32))), .val (.int (x2 &&& (1023 : Int32))), .val (.int (x3 &&& (2047 : Int32))), .val (.int (if (x5 &&& (1 : Int32)) = (0 : Int32) then (0 : Int32) else (1 : Int32))), .val (.int (((x5.toUInt32 >>> ((1 : Int32) &&& 31).toUInt32).toInt32) &&& (3 : Int32))), .val (.int (own_q x1 x2 x3 x4 x5)), .val (.ref b5), .val (.int (if (((fun _ => (0 : Int32))) (own_q x1 x2 x3 x4 x5)) = (0 : Int32) then (1 : Int32) else (0 : Int32))), .unset] [])) _
            refine XS.iload X12.here hx rfl (hb hby at_149) rfl ?_
            show Steps p.tables e below (T12.setTop (mkF m 151 #[.val (.int x1), .val (.int x2), .val (.int x3), .val (.int x4), .val (.int x5), .val (.int (x1 &&& (1023 : Int32))), .val (.int (x2 &&& (1023 : Int32))), .val (.int (x3 &&& (2047 : Int32))), .val (.int (if (x5 &&& (1 : Int32)) = (0 : Int32) then (0 : Int32) else (1 : Int32))), .val (.int (((x5.toUInt32 >>> ((1 : Int32) &&& 31).toUInt32).toInt32) &&& (3 : Int32))), .val (.int (own_q x1 x2 x3 x4 x5)), .val (.ref b5), .val (.int (if (((fun _ => (0 : Int32))) (own_q x1 x2 x3 x4 x5)) = (0 : Int32) then (1 : Int32) else (0 : Int32))), .unset] [(.int (x3 &&& (2047 : Int32)))])) _
            refine XS.iload X12.here hx rfl (hb hby at_151) rfl ?_
            show Steps p.tables e below (T12.setTop (mkF m 153 #[.val (.int x1), .val (.int x2), .val (.int x3), .val (.int x4), .val (.int x5), .val (.int (x1 &&& (1023 : Int32))), .val (.int (x2 &&& (1023 : Int32))), .val (.int (x3 &&& (2047 : Int32))), .val (.int (if (x5 &&& (1 : Int32)) = (0 : Int32) then (0 : Int32) else (1 : Int32))), .val (.int (((x5.toUInt32 >>> ((1 : Int32) &&& 31).toUInt32).toInt32) &&& (3 : Int32))), .val (.int (own_q x1 x2 x3 x4 x5)), .val (.ref b5), .val (.int (if (((fun _ => (0 : Int32))) (own_q x1 x2 x3 x4 x5)) = (0 : Int32) then (1 : Int32) else (0 : Int32))), .unset] [(.int (x1 &&& (1023 : Int32))), (.int (x3 &&& (2047 : Int32)))])) _
            refine own_dia (u := ((0 : Int32) : Int32)) (v := (1 : Int32)) ((x3 &&& (2047 : Int32)) = (x1 &&& (1023 : Int32))) (fun z16 => (mkF m 161 #[.val (.int x1), .val (.int x2), .val (.int x3), .val (.int x4), .val (.int x5), .val (.int (x1 &&& (1023 : Int32))), .val (.int (x2 &&& (1023 : Int32))), .val (.int (x3 &&& (2047 : Int32))), .val (.int (if (x5 &&& (1 : Int32)) = (0 : Int32) then (0 : Int32) else (1 : Int32))), .val (.int (((x5.toUInt32 >>> ((1 : Int32) &&& 31).toUInt32).toInt32) &&& (3 : Int32))), .val (.int (own_q x1 x2 x3 x4 x5)), .val (.ref b5), .val (.int (if (((fun _ => (0 : Int32))) (own_q x1 x2 x3 x4 x5)) = (0 : Int32) then (1 : Int32) else (0 : Int32))), .unset] [(.int z16)])) (fun hc16 k16 => ?_) (fun hc16 k16 => ?_) ?_
            · refine XS.icmpYes X12.here hx rfl (pc0 := 153) (pc' := 160) rfl (hb hby at_153) rfl (teq hc16).1 (by decide) (by decide) ?_
              show Steps p.tables e below (T12.setTop (mkF m 160 #[.val (.int x1), .val (.int x2), .val (.int x3), .val (.int x4), .val (.int x5), .val (.int (x1 &&& (1023 : Int32))), .val (.int (x2 &&& (1023 : Int32))), .val (.int (x3 &&& (2047 : Int32))), .val (.int (if (x5 &&& (1 : Int32)) = (0 : Int32) then (0 : Int32) else (1 : Int32))), .val (.int (((x5.toUInt32 >>> ((1 : Int32) &&& 31).toUInt32).toInt32) &&& (3 : Int32))), .val (.int (own_q x1 x2 x3 x4 x5)), .val (.ref b5), .val (.int (if (((fun _ => (0 : Int32))) (own_q x1 x2 x3 x4 x5)) = (0 : Int32) then (1 : Int32) else (0 : Int32))), .unset] [])) _
              refine XS.iconst X12.here hx rfl (hb hby at_160) ?_
              exact k16
            · refine XS.icmpNo X12.here hx rfl (hb hby at_153) rfl (feq hc16).1 ?_
              show Steps p.tables e below (T12.setTop (mkF m 156 #[.val (.int x1), .val (.int x2), .val (.int x3), .val (.int x4), .val (.int x5), .val (.int (x1 &&& (1023 : Int32))), .val (.int (x2 &&& (1023 : Int32))), .val (.int (x3 &&& (2047 : Int32))), .val (.int (if (x5 &&& (1 : Int32)) = (0 : Int32) then (0 : Int32) else (1 : Int32))), .val (.int (((x5.toUInt32 >>> ((1 : Int32) &&& 31).toUInt32).toInt32) &&& (3 : Int32))), .val (.int (own_q x1 x2 x3 x4 x5)), .val (.ref b5), .val (.int (if (((fun _ => (0 : Int32))) (own_q x1 x2 x3 x4 x5)) = (0 : Int32) then (1 : Int32) else (0 : Int32))), .unset] [])) _
              refine XS.iconst X12.here hx rfl (hb hby at_156) ?_
              show Steps p.tables e below (T12.setTop (mkF m 157 #[.val (.int x1), .val (.int x2), .val (.int x3), .val (.int x4), .val (.int x5), .val (.int (x1 &&& (1023 : Int32))), .val (.int (x2 &&& (1023 : Int32))), .val (.int (x3 &&& (2047 : Int32))), .val (.int (if (x5 &&& (1 : Int32)) = (0 : Int32) then (0 : Int32) else (1 : Int32))), .val (.int (((x5.toUInt32 >>> ((1 : Int32) &&& 31).toUInt32).toInt32) &&& (3 : Int32))), .val (.int (own_q x1 x2 x3 x4 x5)), .val (.ref b5), .val (.int (if (((fun _ => (0 : Int32))) (own_q x1 x2 x3 x4 x5)) = (0 : Int32) then (1 : Int32) else (0 : Int32))), .unset] [(.int (1 : Int32))])) _
              refine XS.goto X12.here hx rfl (pc0 := 157) (pc' := 161) rfl (hb hby at_157) (by decide) (by decide) ?_
              exact k16
            -- meets at 161
            exact k15
          -- meets at 161
          exact k14
        · refine XS.icmpYes X12.here hx rfl (pc0 := 141) (pc' := 160) rfl (hb hby at_141) rfl (feq hc14).2 (by decide) (by decide) ?_
          show Steps p.tables e below (T12.setTop (mkF m 160 #[.val (.int x1), .val (.int x2), .val (.int x3), .val (.int x4), .val (.int x5), .val (.int (x1 &&& (1023 : Int32))), .val (.int (x2 &&& (1023 : Int32))), .val (.int (x3 &&& (2047 : Int32))), .val (.int (if (x5 &&& (1 : Int32)) = (0 : Int32) then (0 : Int32) else (1 : Int32))), .val (.int (((x5.toUInt32 >>> ((1 : Int32) &&& 31).toUInt32).toInt32) &&& (3 : Int32))), .val (.int (own_q x1 x2 x3 x4 x5)), .val (.ref b5), .val (.int (if (((fun _ => (0 : Int32))) (own_q x1 x2 x3 x4 x5)) = (0 : Int32) then (1 : Int32) else (0 : Int32))), .unset] [])) _
          refine XS.iconst X12.here hx rfl (hb hby at_160) ?_
          exact k14
        -- meets at 161
        exact k13
      -- meets at 161
      show Steps p.tables e below (T12.setTop (mkF m 161 #[.val (.int x1), .val (.int x2), .val (.int x3), .val (.int x4), .val (.int x5), .val (.int (x1 &&& (1023 : Int32))), .val (.int (x2 &&& (1023 : Int32))), .val (.int (x3 &&& (2047 : Int32))), .val (.int (if (x5 &&& (1 : Int32)) = (0 : Int32) then (0 : Int32) else (1 : Int32))), .val (.int (((x5.toUInt32 >>> ((1 : Int32) &&& 31).toUInt32).toInt32) &&& (3 : Int32))), .val (.int (own_q x1 x2 x3 x4 x5)), .val (.ref b5), .val (.int (if (((fun _ => (0 : Int32))) (own_q x1 x2 x3 x4 x5)) = (0 : Int32) then (1 : Int32) else (0 : Int32))), .unset] [(.int (if (own_q x1 x2 x3 x4 x5) = (x2 &&& (1023 : Int32)) then (1 : Int32) else (if (own_q x1 x2 x3 x4 x5) = (x1 &&& (1023 : Int32)) then (if (x5 &&& (1 : Int32)) = (0 : Int32) then (1 : Int32) else (if (x3 &&& (2047 : Int32)) = (x1 &&& (1023 : Int32)) then (0 : Int32) else (1 : Int32))) else (0 : Int32))))])) _
      refine XS.istore X12.here hx rfl (hb hby at_161) rfl (l' := #[.val (.int x1), .val (.int x2), .val (.int x3), .val (.int x4), .val (.int x5), .val (.int (x1 &&& (1023 : Int32))), .val (.int (x2 &&& (1023 : Int32))), .val (.int (x3 &&& (2047 : Int32))), .val (.int (if (x5 &&& (1 : Int32)) = (0 : Int32) then (0 : Int32) else (1 : Int32))), .val (.int (((x5.toUInt32 >>> ((1 : Int32) &&& 31).toUInt32).toInt32) &&& (3 : Int32))), .val (.int (own_q x1 x2 x3 x4 x5)), .val (.ref b5), .val (.int (if (((fun _ => (0 : Int32))) (own_q x1 x2 x3 x4 x5)) = (0 : Int32) then (1 : Int32) else (0 : Int32))), .val (.int (if (own_q x1 x2 x3 x4 x5) = (x2 &&& (1023 : Int32)) then (1 : Int32) else (if (own_q x1 x2 x3 x4 x5) = (x1 &&& (1023 : Int32)) then (if (x5 &&& (1 : Int32)) = (0 : Int32) then (1 : Int32) else (if (x3 &&& (2047 : Int32)) = (x1 &&& (1023 : Int32)) then (0 : Int32) else (1 : Int32))) else (0 : Int32))))]) rfl ?_
      show Steps p.tables e below (T12.setTop (mkF m 163 #[.val (.int x1), .val (.int x2), .val (.int x3), .val (.int x4), .val (.int x5), .val (.int (x1 &&& (1023 : Int32))), .val (.int (x2 &&& (1023 : Int32))), .val (.int (x3 &&& (2047 : Int32))), .val (.int (if (x5 &&& (1 : Int32)) = (0 : Int32) then (0 : Int32) else (1 : Int32))), .val (.int (((x5.toUInt32 >>> ((1 : Int32) &&& 31).toUInt32).toInt32) &&& (3 : Int32))), .val (.int (own_q x1 x2 x3 x4 x5)), .val (.ref b5), .val (.int (if (((fun _ => (0 : Int32))) (own_q x1 x2 x3 x4 x5)) = (0 : Int32) then (1 : Int32) else (0 : Int32))), .val (.int (if (own_q x1 x2 x3 x4 x5) = (x2 &&& (1023 : Int32)) then (1 : Int32) else (if (own_q x1 x2 x3 x4 x5) = (x1 &&& (1023 : Int32)) then (if (x5 &&& (1 : Int32)) = (0 : Int32) then (1 : Int32) else (if (x3 &&& (2047 : Int32)) = (x1 &&& (1023 : Int32)) then (0 : Int32) else (1 : Int32))) else (0 : Int32))))] [])) _
      refine XS.iload X12.here hx rfl (hb hby at_163) rfl ?_
      show Steps p.tables e below (T12.setTop (mkF m 165 #[.val (.int x1), .val (.int x2), .val (.int x3), .val (.int x4), .val (.int x5), .val (.int (x1 &&& (1023 : Int32))), .val (.int (x2 &&& (1023 : Int32))), .val (.int (x3 &&& (2047 : Int32))), .val (.int (if (x5 &&& (1 : Int32)) = (0 : Int32) then (0 : Int32) else (1 : Int32))), .val (.int (((x5.toUInt32 >>> ((1 : Int32) &&& 31).toUInt32).toInt32) &&& (3 : Int32))), .val (.int (own_q x1 x2 x3 x4 x5)), .val (.ref b5), .val (.int (if (((fun _ => (0 : Int32))) (own_q x1 x2 x3 x4 x5)) = (0 : Int32) then (1 : Int32) else (0 : Int32))), .val (.int (if (own_q x1 x2 x3 x4 x5) = (x2 &&& (1023 : Int32)) then (1 : Int32) else (if (own_q x1 x2 x3 x4 x5) = (x1 &&& (1023 : Int32)) then (if (x5 &&& (1 : Int32)) = (0 : Int32) then (1 : Int32) else (if (x3 &&& (2047 : Int32)) = (x1 &&& (1023 : Int32)) then (0 : Int32) else (1 : Int32))) else (0 : Int32))))] [(.int (if (((fun _ => (0 : Int32))) (own_q x1 x2 x3 x4 x5)) = (0 : Int32) then (1 : Int32) else (0 : Int32)))])) _
      refine XS.ifNo X12.here hx rfl (hb hby at_165) rfl (own_bt (rfl : (((fun _ => (0 : Int32))) (own_q x1 x2 x3 x4 x5)) = (0 : Int32))).2 ?_
      show Steps p.tables e below (T12.setTop (mkF m 168 #[.val (.int x1), .val (.int x2), .val (.int x3), .val (.int x4), .val (.int x5), .val (.int (x1 &&& (1023 : Int32))), .val (.int (x2 &&& (1023 : Int32))), .val (.int (x3 &&& (2047 : Int32))), .val (.int (if (x5 &&& (1 : Int32)) = (0 : Int32) then (0 : Int32) else (1 : Int32))), .val (.int (((x5.toUInt32 >>> ((1 : Int32) &&& 31).toUInt32).toInt32) &&& (3 : Int32))), .val (.int (own_q x1 x2 x3 x4 x5)), .val (.ref b5), .val (.int (if (((fun _ => (0 : Int32))) (own_q x1 x2 x3 x4 x5)) = (0 : Int32) then (1 : Int32) else (0 : Int32))), .val (.int (if (own_q x1 x2 x3 x4 x5) = (x2 &&& (1023 : Int32)) then (1 : Int32) else (if (own_q x1 x2 x3 x4 x5) = (x1 &&& (1023 : Int32)) then (if (x5 &&& (1 : Int32)) = (0 : Int32) then (1 : Int32) else (if (x3 &&& (2047 : Int32)) = (x1 &&& (1023 : Int32)) then (0 : Int32) else (1 : Int32))) else (0 : Int32))))] [])) _
      refine XS.aload X12.here hx rfl (hb hby at_168) rfl rfl ?_
      show Steps p.tables e below (T12.setTop (mkF m 170 #[.val (.int x1), .val (.int x2), .val (.int x3), .val (.int x4), .val (.int x5), .val (.int (x1 &&& (1023 : Int32))), .val (.int (x2 &&& (1023 : Int32))), .val (.int (x3 &&& (2047 : Int32))), .val (.int (if (x5 &&& (1 : Int32)) = (0 : Int32) then (0 : Int32) else (1 : Int32))), .val (.int (((x5.toUInt32 >>> ((1 : Int32) &&& 31).toUInt32).toInt32) &&& (3 : Int32))), .val (.int (own_q x1 x2 x3 x4 x5)), .val (.ref b5), .val (.int (if (((fun _ => (0 : Int32))) (own_q x1 x2 x3 x4 x5)) = (0 : Int32) then (1 : Int32) else (0 : Int32))), .val (.int (if (own_q x1 x2 x3 x4 x5) = (x2 &&& (1023 : Int32)) then (1 : Int32) else (if (own_q x1 x2 x3 x4 x5) = (x1 &&& (1023 : Int32)) then (if (x5 &&& (1 : Int32)) = (0 : Int32) then (1 : Int32) else (if (x3 &&& (2047 : Int32)) = (x1 &&& (1023 : Int32)) then (0 : Int32) else (1 : Int32))) else (0 : Int32))))] [(.ref b5)])) _
      refine XS.iload X12.here hx rfl (hb hby at_170) rfl ?_
      show Steps p.tables e below (T12.setTop (mkF m 172 #[.val (.int x1), .val (.int x2), .val (.int x3), .val (.int x4), .val (.int x5), .val (.int (x1 &&& (1023 : Int32))), .val (.int (x2 &&& (1023 : Int32))), .val (.int (x3 &&& (2047 : Int32))), .val (.int (if (x5 &&& (1 : Int32)) = (0 : Int32) then (0 : Int32) else (1 : Int32))), .val (.int (((x5.toUInt32 >>> ((1 : Int32) &&& 31).toUInt32).toInt32) &&& (3 : Int32))), .val (.int (own_q x1 x2 x3 x4 x5)), .val (.ref b5), .val (.int (if (((fun _ => (0 : Int32))) (own_q x1 x2 x3 x4 x5)) = (0 : Int32) then (1 : Int32) else (0 : Int32))), .val (.int (if (own_q x1 x2 x3 x4 x5) = (x2 &&& (1023 : Int32)) then (1 : Int32) else (if (own_q x1 x2 x3 x4 x5) = (x1 &&& (1023 : Int32)) then (if (x5 &&& (1 : Int32)) = (0 : Int32) then (1 : Int32) else (if (x3 &&& (2047 : Int32)) = (x1 &&& (1023 : Int32)) then (0 : Int32) else (1 : Int32))) else (0 : Int32))))] [(.int (own_q x1 x2 x3 x4 x5)), (.ref b5)])) _
      refine st17.trans ?_
      show Steps p.tables e below (T17.setTop (mkF m 175 #[.val (.int x1), .val (.int x2), .val (.int x3), .val (.int x4), .val (.int x5), .val (.int (x1 &&& (1023 : Int32))), .val (.int (x2 &&& (1023 : Int32))), .val (.int (x3 &&& (2047 : Int32))), .val (.int (if (x5 &&& (1 : Int32)) = (0 : Int32) then (0 : Int32) else (1 : Int32))), .val (.int (((x5.toUInt32 >>> ((1 : Int32) &&& 31).toUInt32).toInt32) &&& (3 : Int32))), .val (.int (own_q x1 x2 x3 x4 x5)), .val (.ref b5), .val (.int (if (((fun _ => (0 : Int32))) (own_q x1 x2 x3 x4 x5)) = (0 : Int32) then (1 : Int32) else (0 : Int32))), .val (.int (if (own_q x1 x2 x3 x4 x5) = (x2 &&& (1023 : Int32)) then (1 : Int32) else (if (own_q x1 x2 x3 x4 x5) = (x1 &&& (1023 : Int32)) then (if (x5 &&& (1 : Int32)) = (0 : Int32) then (1 : Int32) else (if (x3 &&& (2047 : Int32)) = (x1 &&& (1023 : Int32)) then (0 : Int32) else (1 : Int32))) else (0 : Int32))))] [(.int (((fun q => if q = (x2 &&& (1023 : Int32)) then (1 : Int32) else ((fun q => if q = (x1 &&& (1023 : Int32)) then (1 : Int32) else ((fun _ => (0 : Int32))) q)) q)) (own_q x1 x2 x3 x4 x5)))])) _
      refine XS.iload X17.here hx rfl (hb hby at_175) rfl ?_
      show Steps p.tables e below (T17.setTop (mkF m 177 #[.val (.int x1), .val (.int x2), .val (.int x3), .val (.int x4), .val (.int x5), .val (.int (x1 &&& (1023 : Int32))), .val (.int (x2 &&& (1023 : Int32))), .val (.int (x3 &&& (2047 : Int32))), .val (.int (if (x5 &&& (1 : Int32)) = (0 : Int32) then (0 : Int32) else (1 : Int32))), .val (.int (((x5.toUInt32 >>> ((1 : Int32) &&& 31).toUInt32).toInt32) &&& (3 : Int32))), .val (.int (own_q x1 x2 x3 x4 x5)), .val (.ref b5), .val (.int (if (((fun _ => (0 : Int32))) (own_q x1 x2 x3 x4 x5)) = (0 : Int32) then (1 : Int32) else (0 : Int32))), .val (.int (if (own_q x1 x2 x3 x4 x5) = (x2 &&& (1023 : Int32)) then (1 : Int32) else (if (own_q x1 x2 x3 x4 x5) = (x1 &&& (1023 : Int32)) then (if (x5 &&& (1 : Int32)) = (0 : Int32) then (1 : Int32) else (if (x3 &&& (2047 : Int32)) = (x1 &&& (1023 : Int32)) then (0 : Int32) else (1 : Int32))) else (0 : Int32))))] [(.int (if (own_q x1 x2 x3 x4 x5) = (x2 &&& (1023 : Int32)) then (1 : Int32) else (if (own_q x1 x2 x3 x4 x5) = (x1 &&& (1023 : Int32)) then (if (x5 &&& (1 : Int32)) = (0 : Int32) then (1 : Int32) else (if (x3 &&& (2047 : Int32)) = (x1 &&& (1023 : Int32)) then (0 : Int32) else (1 : Int32))) else (0 : Int32)))), (.int (((fun q => if q = (x2 &&& (1023 : Int32)) then (1 : Int32) else ((fun q => if q = (x1 &&& (1023 : Int32)) then (1 : Int32) else ((fun _ => (0 : Int32))) q)) q)) (own_q x1 x2 x3 x4 x5)))])) _
      refine own_dia (u := ((1 : Int32) : Int32)) (v := (0 : Int32)) ((((fun q => if q = (x2 &&& (1023 : Int32)) then (1 : Int32) else ((fun q => if q = (x1 &&& (1023 : Int32)) then (1 : Int32) else ((fun _ => (0 : Int32))) q)) q)) (own_q x1 x2 x3 x4 x5)) = (if (own_q x1 x2 x3 x4 x5) = (x2 &&& (1023 : Int32)) then (1 : Int32) else (if (own_q x1 x2 x3 x4 x5) = (x1 &&& (1023 : Int32)) then (if (x5 &&& (1 : Int32)) = (0 : Int32) then (1 : Int32) else (if (x3 &&& (2047 : Int32)) = (x1 &&& (1023 : Int32)) then (0 : Int32) else (1 : Int32))) else (0 : Int32)))) (fun z18 => (mkF m 185 #[.val (.int x1), .val (.int x2), .val (.int x3), .val (.int x4), .val (.int x5), .val (.int (x1 &&& (1023 : Int32))), .val (.int (x2 &&& (1023 : Int32))), .val (.int (x3 &&& (2047 : Int32))), .val (.int (if (x5 &&& (1 : Int32)) = (0 : Int32) then (0 : Int32) else (1 : Int32))), .val (.int (((x5.toUInt32 >>> ((1 : Int32) &&& 31).toUInt32).toInt32) &&& (3 : Int32))), .val (.int (own_q x1 x2 x3 x4 x5)), .val (.ref b5), .val (.int (if (((fun _ => (0 : Int32))) (own_q x1 x2 x3 x4 x5)) = (0 : Int32) then (1 : Int32) else (0 : Int32))), .val (.int (if (own_q x1 x2 x3 x4 x5) = (x2 &&& (1023 : Int32)) then (1 : Int32) else (if (own_q x1 x2 x3 x4 x5) = (x1 &&& (1023 : Int32)) then (if (x5 &&& (1 : Int32)) = (0 : Int32) then (1 : Int32) else (if (x3 &&& (2047 : Int32)) = (x1 &&& (1023 : Int32)) then (0 : Int32) else (1 : Int32))) else (0 : Int32))))] [(.int z18)])) (fun hc18 k18 => ?_) (fun hc18 k18 => ?_) ?_
      · refine XS.icmpNo X17.here hx rfl (hb hby at_177) rfl (teq hc18).2 ?_
        show Steps p.tables e below (T17.setTop (mkF m 180 #[.val (.int x1), .val (.int x2), .val (.int x3), .val (.int x4), .val (.int x5), .val (.int (x1 &&& (1023 : Int32))), .val (.int (x2 &&& (1023 : Int32))), .val (.int (x3 &&& (2047 : Int32))), .val (.int (if (x5 &&& (1 : Int32)) = (0 : Int32) then (0 : Int32) else (1 : Int32))), .val (.int (((x5.toUInt32 >>> ((1 : Int32) &&& 31).toUInt32).toInt32) &&& (3 : Int32))), .val (.int (own_q x1 x2 x3 x4 x5)), .val (.ref b5), .val (.int (if (((fun _ => (0 : Int32))) (own_q x1 x2 x3 x4 x5)) = (0 : Int32) then (1 : Int32) else (0 : Int32))), .val (.int (if (own_q x1 x2 x3 x4 x5) = (x2 &&& (1023 : Int32)) then (1 : Int32) else (if (own_q x1 x2 x3 x4 x5) = (x1 &&& (1023 : Int32)) then (if (x5 &&& (1 : Int32)) = (0 : Int32) then (1 : Int32) else (if (x3 &&& (2047 : Int32)) = (x1 &&& (1023 : Int32)) then (0 : Int32) else (1 : Int32))) else (0 : Int32))))] [])) _
        refine XS.iconst X17.here hx rfl (hb hby at_180) ?_
        show Steps p.tables e below (T17.setTop (mkF m 181 #[.val (.int x1), .val (.int x2), .val (.int x3), .val (.int x4), .val (.int x5), .val (.int (x1 &&& (1023 : Int32))), .val (.int (x2 &&& (1023 : Int32))), .val (.int (x3 &&& (2047 : Int32))), .val (.int (if (x5 &&& (1 : Int32)) = (0 : Int32) then (0 : Int32) else (1 : Int32))), .val (.int (((x5.toUInt32 >>> ((1 : Int32) &&& 31).toUInt32).toInt32) &&& (3 : Int32))), .val (.int (own_q x1 x2 x3 x4 x5)), .val (.ref b5), .val (.int (if (((fun _ => (0 : Int32))) (own_q x1 x2 x3 x4 x5)) = (0 : Int32) then (1 : Int32) else (0 : Int32))), .val (.int (if (own_q x1 x2 x3 x4 x5) = (x2 &&& (1023 : Int32)) then (1 : Int32) else (if (own_q x1 x2 x3 x4 x5) = (x1 &&& (1023 : Int32)) then (if (x5 &&& (1 : Int32)) = (0 : Int32) then (1 : Int32) else (if (x3 &&& (2047 : Int32)) = (x1 &&& (1023 : Int32)) then (0 : Int32) else (1 : Int32))) else (0 : Int32))))] [(.int (1 : Int32))])) _
        refine XS.goto X17.here hx rfl (pc0 := 181) (pc' := 185) rfl (hb hby at_181) (by decide) (by decide) ?_
        exact k18
      · refine XS.icmpYes X17.here hx rfl (pc0 := 177) (pc' := 184) rfl (hb hby at_177) rfl (feq hc18).2 (by decide) (by decide) ?_
        show Steps p.tables e below (T17.setTop (mkF m 184 #[.val (.int x1), .val (.int x2), .val (.int x3), .val (.int x4), .val (.int x5), .val (.int (x1 &&& (1023 : Int32))), .val (.int (x2 &&& (1023 : Int32))), .val (.int (x3 &&& (2047 : Int32))), .val (.int (if (x5 &&& (1 : Int32)) = (0 : Int32) then (0 : Int32) else (1 : Int32))), .val (.int (((x5.toUInt32 >>> ((1 : Int32) &&& 31).toUInt32).toInt32) &&& (3 : Int32))), .val (.int (own_q x1 x2 x3 x4 x5)), .val (.ref b5), .val (.int (if (((fun _ => (0 : Int32))) (own_q x1 x2 x3 x4 x5)) = (0 : Int32) then (1 : Int32) else (0 : Int32))), .val (.int (if (own_q x1 x2 x3 x4 x5) = (x2 &&& (1023 : Int32)) then (1 : Int32) else (if (own_q x1 x2 x3 x4 x5) = (x1 &&& (1023 : Int32)) then (if (x5 &&& (1 : Int32)) = (0 : Int32) then (1 : Int32) else (if (x3 &&& (2047 : Int32)) = (x1 &&& (1023 : Int32)) then (0 : Int32) else (1 : Int32))) else (0 : Int32))))] [])) _
        refine XS.iconst X17.here hx rfl (hb hby at_184) ?_
        exact k18
      -- meets at 185
      show Steps p.tables e below (T17.setTop (mkF m 185 #[.val (.int x1), .val (.int x2), .val (.int x3), .val (.int x4), .val (.int x5), .val (.int (x1 &&& (1023 : Int32))), .val (.int (x2 &&& (1023 : Int32))), .val (.int (x3 &&& (2047 : Int32))), .val (.int (if (x5 &&& (1 : Int32)) = (0 : Int32) then (0 : Int32) else (1 : Int32))), .val (.int (((x5.toUInt32 >>> ((1 : Int32) &&& 31).toUInt32).toInt32) &&& (3 : Int32))), .val (.int (own_q x1 x2 x3 x4 x5)), .val (.ref b5), .val (.int (if (((fun _ => (0 : Int32))) (own_q x1 x2 x3 x4 x5)) = (0 : Int32) then (1 : Int32) else (0 : Int32))), .val (.int (if (own_q x1 x2 x3 x4 x5) = (x2 &&& (1023 : Int32)) then (1 : Int32) else (if (own_q x1 x2 x3 x4 x5) = (x1 &&& (1023 : Int32)) then (if (x5 &&& (1 : Int32)) = (0 : Int32) then (1 : Int32) else (if (x3 &&& (2047 : Int32)) = (x1 &&& (1023 : Int32)) then (0 : Int32) else (1 : Int32))) else (0 : Int32))))] [(.int (if (((fun q => if q = (x2 &&& (1023 : Int32)) then (1 : Int32) else ((fun q => if q = (x1 &&& (1023 : Int32)) then (1 : Int32) else ((fun _ => (0 : Int32))) q)) q)) (own_q x1 x2 x3 x4 x5)) = (if (own_q x1 x2 x3 x4 x5) = (x2 &&& (1023 : Int32)) then (1 : Int32) else (if (own_q x1 x2 x3 x4 x5) = (x1 &&& (1023 : Int32)) then (if (x5 &&& (1 : Int32)) = (0 : Int32) then (1 : Int32) else (if (x3 &&& (2047 : Int32)) = (x1 &&& (1023 : Int32)) then (0 : Int32) else (1 : Int32))) else (0 : Int32))) then (1 : Int32) else (0 : Int32)))])) _
      exact retN X17 hx (t := .boolean) Bd.returns (by simp) (hb hby at_185) (by rw [own_nb (own_b01 (Or.inr rfl) (Or.inl rfl))]; exact hr)
    · show Q0 Z x1 x2 x3 x4 x5 h0 n0 _ T17.heap _
      rw [e17]
      exact ⟨(congrArg (fun z => some (Value.int z)) (Eq.symm (if_pos hb11))), N17⟩
  · obtain ⟨cq19, kq19, q19a, q19b, q19c⟩ := isOf hZ rfl Q10_1
    obtain ⟨_, _, ⟨T19, L19, k19, n19⟩, -, X19, ⟨Lc19, hQ19, l19, y19, z19⟩, st19⟩ := X10.virtualBack hx (y := (⟨"com/example/concept_reasoner/conceptreasoner/tableau/Positions", "remove", "(I)V"⟩ : MethodName)) (z := (⟨"com/example/concept_reasoner/conceptreasoner/tableau/Positions", "remove", "(I)V"⟩ : MethodName)) hown (mvT hZ (hw _ (List.mem_of_getElem? (i := 28) rfl))) (mvT hZ (hw _ (List.mem_of_getElem? (i := 29) rfl))) (notFace_of_selects (args := #[]) (mvT hZ (hw _ (List.mem_of_getElem? (i := 31) rfl)))) (mvT hZ (hw _ (List.mem_of_getElem? (i := 31) rfl))) (mvT hZ (hw _ (List.mem_of_getElem? (i := 30) rfl))) (by decide) (backOf (W := 0) (rm6 l Z a0 hw [] b5 (x3 &&& (2047 : Int32)) ((fun q => if q = (x1 &&& (1023 : Int32)) then (1 : Int32) else ((fun _ => (0 : Int32))) q)) T10.heap n0 Z10 Q10_2 g_b5) hZ (hw _ (List.mem_of_getElem? (i := 32) rfl)) (hw _ (List.mem_of_getElem? (i := 2) rfl)) (by decide) (by decide)) q19a q19c (g := (mkF m 120 #[.val (.int x1), .val (.int x2), .val (.int x3), .val (.int x4), .val (.int x5), .val (.int (x1 &&& (1023 : Int32))), .val (.int (x2 &&& (1023 : Int32))), .val (.int (x3 &&& (2047 : Int32))), .val (.int (if (x5 &&& (1 : Int32)) = (0 : Int32) then (0 : Int32) else (1 : Int32))), .val (.int (((x5.toUInt32 >>> ((1 : Int32) &&& 31).toUInt32).toInt32) &&& (3 : Int32))), .val (.int (own_q x1 x2 x3 x4 x5)), .val (.ref b5), .val (.int (if (((fun _ => (0 : Int32))) (own_q x1 x2 x3 x4 x5)) = (0 : Int32) then (1 : Int32) else (0 : Int32))), .unset] [(.int (x3 &&& (2047 : Int32))), (.ref b5)])) rfl (by rw [hml]; rfl) (Steps.refl _) (argsL := [(.int (x3 &&& (2047 : Int32)))]) (rest := []) (lenOf pd_4 rfl) rfl (by show 2 * 0 + _ ≤ _; exact Nat.le_of_eq rfl) (hb hby at_120) (fun _ _ => ⟨rfl, rfl, (by decide : 3 + 0 ≤ _), (by decide : 33 + 0 ≤ _)⟩)
    dsimp only [Pt.U, Pt.locs, Pt.cells, Pt.slots] at X19 l19 y19 z19 st19 hQ19
    subst l19 y19 z19
    obtain ⟨rfl, N19q, Q19_0, Q19_1, Q19_2⟩ := hQ19
    have Z19 : n0 ≤ T19.heap.size := Q19_0
    have N19 := Fr.app N10 N19q
    obtain ⟨cq20, kq20, q20a, q20b, q20c⟩ := isOf hZ rfl Q19_1
    obtain ⟨_, _, ⟨T20, L20, k20, n20⟩, -, X20, ⟨Lc20, hQ20, l20, y20, z20⟩, st20⟩ := X19.virtualBack hx (y := (⟨"com/example/concept_reasoner/conceptreasoner/tableau/Positions", "add", "(I)V"⟩ : MethodName)) (z := (⟨"com/example/concept_reasoner/conceptreasoner/tableau/Positions", "add", "(I)V"⟩ : MethodName)) hown (mvT hZ (hw _ (List.mem_of_getElem? (i := 17) rfl))) (mvT hZ (hw _ (List.mem_of_getElem? (i := 18) rfl))) (notFace_of_selects (args := #[]) (mvT hZ (hw _ (List.mem_of_getElem? (i := 20) rfl)))) (mvT hZ (hw _ (List.mem_of_getElem? (i := 20) rfl))) (mvT hZ (hw _ (List.mem_of_getElem? (i := 19) rfl))) (by decide) (backOf (W := 0) (rm4 l Z a0 hw [] b5 (x2 &&& (1023 : Int32)) ((fun q => if q = (x3 &&& (2047 : Int32)) then (0 : Int32) else ((fun q => if q = (x1 &&& (1023 : Int32)) then (1 : Int32) else ((fun _ => (0 : Int32))) q)) q)) T19.heap n0 Z19 Q19_2 g_b5 (own_mw x2)) hZ (hw _ (List.mem_of_getElem? (i := 21) rfl)) (hw _ (List.mem_of_getElem? (i := 2) rfl)) (by decide) (by decide)) q20a q20c (g := (mkF m 127 #[.val (.int x1), .val (.int x2), .val (.int x3), .val (.int x4), .val (.int x5), .val (.int (x1 &&& (1023 : Int32))), .val (.int (x2 &&& (1023 : Int32))), .val (.int (x3 &&& (2047 : Int32))), .val (.int (if (x5 &&& (1 : Int32)) = (0 : Int32) then (0 : Int32) else (1 : Int32))), .val (.int (((x5.toUInt32 >>> ((1 : Int32) &&& 31).toUInt32).toInt32) &&& (3 : Int32))), .val (.int (own_q x1 x2 x3 x4 x5)), .val (.ref b5), .val (.int (if (((fun _ => (0 : Int32))) (own_q x1 x2 x3 x4 x5)) = (0 : Int32) then (1 : Int32) else (0 : Int32))), .unset] [(.int (x2 &&& (1023 : Int32))), (.ref b5)])) rfl (by rw [hml]; rfl) (Steps.refl _) (argsL := [(.int (x2 &&& (1023 : Int32)))]) (rest := []) (lenOf pd_4 rfl) rfl (by show 2 * 0 + _ ≤ _; exact Nat.le_of_eq rfl) (hb hby at_127) (fun _ _ => ⟨rfl, rfl, (by decide : 3 + 1 ≤ _), (by decide : 33 + 30 ≤ _)⟩)
    dsimp only [Pt.U, Pt.locs, Pt.cells, Pt.slots] at X20 l20 y20 z20 st20 hQ20
    subst l20 y20 z20
    obtain ⟨rfl, N20q, Q20_0, Q20_1, Q20_2⟩ := hQ20
    have Z20 : n0 ≤ T20.heap.size := Q20_0
    have N20 := Fr.app N19 N20q
    obtain ⟨cq25, kq25, q25a, q25b, q25c⟩ := isOf hZ rfl Q20_1
    obtain ⟨_, _, ⟨T25, L25, k25, n25⟩, -, X25, ⟨Lc25, hQ25, l25, y25, z25⟩, st25⟩ := X20.virtualBack hx (y := (⟨"com/example/concept_reasoner/conceptreasoner/tableau/Positions", "contains", "(I)Z"⟩ : MethodName)) (z := (⟨"com/example/concept_reasoner/conceptreasoner/tableau/Positions", "contains", "(I)Z"⟩ : MethodName)) hown (mvT hZ (hw _ (List.mem_of_getElem? (i := 12) rfl))) (mvT hZ (hw _ (List.mem_of_getElem? (i := 13) rfl))) (notFace_of_selects (args := #[]) (mvT hZ (hw _ (List.mem_of_getElem? (i := 15) rfl)))) (mvT hZ (hw _ (List.mem_of_getElem? (i := 15) rfl))) (mvT hZ (hw _ (List.mem_of_getElem? (i := 14) rfl))) (by decide) (backOf (W := 0) (rm3 l Z a0 hw [] b5 (own_q x1 x2 x3 x4 x5) ((fun q => if q = (x2 &&& (1023 : Int32)) then (1 : Int32) else ((fun q => if q = (x3 &&& (2047 : Int32)) then (0 : Int32) else ((fun q => if q = (x1 &&& (1023 : Int32)) then (1 : Int32) else ((fun _ => (0 : Int32))) q)) q)) q)) T20.heap n0 Z20 Q20_2) hZ (hw _ (List.mem_of_getElem? (i := 16) rfl)) (hw _ (List.mem_of_getElem? (i := 2) rfl)) (by decide) (by decide)) q25a q25c (g := (mkF m 172 #[.val (.int x1), .val (.int x2), .val (.int x3), .val (.int x4), .val (.int x5), .val (.int (x1 &&& (1023 : Int32))), .val (.int (x2 &&& (1023 : Int32))), .val (.int (x3 &&& (2047 : Int32))), .val (.int (if (x5 &&& (1 : Int32)) = (0 : Int32) then (0 : Int32) else (1 : Int32))), .val (.int (((x5.toUInt32 >>> ((1 : Int32) &&& 31).toUInt32).toInt32) &&& (3 : Int32))), .val (.int (own_q x1 x2 x3 x4 x5)), .val (.ref b5), .val (.int (if (((fun _ => (0 : Int32))) (own_q x1 x2 x3 x4 x5)) = (0 : Int32) then (1 : Int32) else (0 : Int32))), .val (.int (if (own_q x1 x2 x3 x4 x5) = (x2 &&& (1023 : Int32)) then (1 : Int32) else (if (own_q x1 x2 x3 x4 x5) = (x1 &&& (1023 : Int32)) then (if (x5 &&& (1 : Int32)) = (0 : Int32) then (1 : Int32) else (if (x3 &&& (2047 : Int32)) = (x1 &&& (1023 : Int32)) then (0 : Int32) else (1 : Int32))) else (0 : Int32))))] [(.int (own_q x1 x2 x3 x4 x5)), (.ref b5)])) rfl (by rw [hml]; rfl) (Steps.refl _) (argsL := [(.int (own_q x1 x2 x3 x4 x5))]) (rest := []) (lenOf pd_3 rfl) rfl (by show 2 * 0 + _ ≤ _; exact Nat.le_of_eq rfl) (hb hby at_172) (fun _ _ => ⟨rfl, rfl, (by decide : 4 + 0 ≤ _), (by decide : 63 + 0 ≤ _)⟩)
    dsimp only [Pt.U, Pt.locs, Pt.cells, Pt.slots] at X25 l25 y25 z25 st25 hQ25
    subst l25 y25 z25
    obtain ⟨rfl, N25q, e25⟩ := hQ25
    have N25 := Fr.app N20 N25q
    obtain ⟨fs, hr, hrun, hended, hW, hsame⟩ := X25.leave (v := some (.int (if (((fun q => if q = (x2 &&& (1023 : Int32)) then (1 : Int32) else ((fun q => if q = (x3 &&& (2047 : Int32)) then (0 : Int32) else ((fun q => if q = (x1 &&& (1023 : Int32)) then (1 : Int32) else ((fun _ => (0 : Int32))) q)) q)) q)) (own_q x1 x2 x3 x4 x5)) = (if (own_q x1 x2 x3 x4 x5) = (x2 &&& (1023 : Int32)) then (1 : Int32) else (if (own_q x1 x2 x3 x4 x5) = (x1 &&& (1023 : Int32)) then (if (x5 &&& (1 : Int32)) = (0 : Int32) then (1 : Int32) else (if (x3 &&& (2047 : Int32)) = (x1 &&& (1023 : Int32)) then (0 : Int32) else (1 : Int32))) else (0 : Int32))) then (1 : Int32) else (0 : Int32)))) (fun h => by rw [Bd.returns] at h; cases h)
    refine ⟨_, _, pre0 _ ?_, hrun, hended, _, _, rfl, ?_, ⟨_, rfl⟩, hW, hsame.mono (by decide) (by decide)⟩
    · show Steps p.tables e below (s₁.setTop (mkF m 0 #[.val (.int x1), .val (.int x2), .val (.int x3), .val (.int x4), .val (.int x5), .unset, .unset, .unset, .unset, .unset, .unset, .unset, .unset, .unset] [])) _
      refine XS.iloadN X0.here hx rfl (hb hby at_0) rfl ?_
      show Steps p.tables e below (s₁.setTop (mkF m 1 #[.val (.int x1), .val (.int x2), .val (.int x3), .val (.int x4), .val (.int x5), .unset, .unset, .unset, .unset, .unset, .unset, .unset, .unset, .unset] [(.int x1)])) _
      refine XS.sipush X0.here hx rfl (hb hby at_1) ?_
      show Steps p.tables e below (s₁.setTop (mkF m 4 #[.val (.int x1), .val (.int x2), .val (.int x3), .val (.int x4), .val (.int x5), .unset, .unset, .unset, .unset, .unset, .unset, .unset, .unset, .unset] [(.int (1023 : Int32)), (.int x1)])) _
      refine XS.iand X0.here hx rfl (hb hby at_4) rfl ?_
      show Steps p.tables e below (s₁.setTop (mkF m 5 #[.val (.int x1), .val (.int x2), .val (.int x3), .val (.int x4), .val (.int x5), .unset, .unset, .unset, .unset, .unset, .unset, .unset, .unset, .unset] [(.int (x1 &&& (1023 : Int32)))])) _
      refine XS.istore X0.here hx rfl (hb hby at_5) rfl (l' := #[.val (.int x1), .val (.int x2), .val (.int x3), .val (.int x4), .val (.int x5), .val (.int (x1 &&& (1023 : Int32))), .unset, .unset, .unset, .unset, .unset, .unset, .unset, .unset]) rfl ?_
      show Steps p.tables e below (s₁.setTop (mkF m 7 #[.val (.int x1), .val (.int x2), .val (.int x3), .val (.int x4), .val (.int x5), .val (.int (x1 &&& (1023 : Int32))), .unset, .unset, .unset, .unset, .unset, .unset, .unset, .unset] [])) _
      refine XS.iloadN X0.here hx rfl (hb hby at_7) rfl ?_
      show Steps p.tables e below (s₁.setTop (mkF m 8 #[.val (.int x1), .val (.int x2), .val (.int x3), .val (.int x4), .val (.int x5), .val (.int (x1 &&& (1023 : Int32))), .unset, .unset, .unset, .unset, .unset, .unset, .unset, .unset] [(.int x2)])) _
      refine XS.sipush X0.here hx rfl (hb hby at_8) ?_
      show Steps p.tables e below (s₁.setTop (mkF m 11 #[.val (.int x1), .val (.int x2), .val (.int x3), .val (.int x4), .val (.int x5), .val (.int (x1 &&& (1023 : Int32))), .unset, .unset, .unset, .unset, .unset, .unset, .unset, .unset] [(.int (1023 : Int32)), (.int x2)])) _
      refine XS.iand X0.here hx rfl (hb hby at_11) rfl ?_
      show Steps p.tables e below (s₁.setTop (mkF m 12 #[.val (.int x1), .val (.int x2), .val (.int x3), .val (.int x4), .val (.int x5), .val (.int (x1 &&& (1023 : Int32))), .unset, .unset, .unset, .unset, .unset, .unset, .unset, .unset] [(.int (x2 &&& (1023 : Int32)))])) _
      refine XS.istore X0.here hx rfl (hb hby at_12) rfl (l' := #[.val (.int x1), .val (.int x2), .val (.int x3), .val (.int x4), .val (.int x5), .val (.int (x1 &&& (1023 : Int32))), .val (.int (x2 &&& (1023 : Int32))), .unset, .unset, .unset, .unset, .unset, .unset, .unset]) rfl ?_
      show Steps p.tables e below (s₁.setTop (mkF m 14 #[.val (.int x1), .val (.int x2), .val (.int x3), .val (.int x4), .val (.int x5), .val (.int (x1 &&& (1023 : Int32))), .val (.int (x2 &&& (1023 : Int32))), .unset, .unset, .unset, .unset, .unset, .unset, .unset] [])) _
      refine XS.iloadN X0.here hx rfl (hb hby at_14) rfl ?_
      show Steps p.tables e below (s₁.setTop (mkF m 15 #[.val (.int x1), .val (.int x2), .val (.int x3), .val (.int x4), .val (.int x5), .val (.int (x1 &&& (1023 : Int32))), .val (.int (x2 &&& (1023 : Int32))), .unset, .unset, .unset, .unset, .unset, .unset, .unset] [(.int x3)])) _
      refine XS.sipush X0.here hx rfl (hb hby at_15) ?_
      show Steps p.tables e below (s₁.setTop (mkF m 18 #[.val (.int x1), .val (.int x2), .val (.int x3), .val (.int x4), .val (.int x5), .val (.int (x1 &&& (1023 : Int32))), .val (.int (x2 &&& (1023 : Int32))), .unset, .unset, .unset, .unset, .unset, .unset, .unset] [(.int (2047 : Int32)), (.int x3)])) _
      refine XS.iand X0.here hx rfl (hb hby at_18) rfl ?_
      show Steps p.tables e below (s₁.setTop (mkF m 19 #[.val (.int x1), .val (.int x2), .val (.int x3), .val (.int x4), .val (.int x5), .val (.int (x1 &&& (1023 : Int32))), .val (.int (x2 &&& (1023 : Int32))), .unset, .unset, .unset, .unset, .unset, .unset, .unset] [(.int (x3 &&& (2047 : Int32)))])) _
      refine XS.istore X0.here hx rfl (hb hby at_19) rfl (l' := #[.val (.int x1), .val (.int x2), .val (.int x3), .val (.int x4), .val (.int x5), .val (.int (x1 &&& (1023 : Int32))), .val (.int (x2 &&& (1023 : Int32))), .val (.int (x3 &&& (2047 : Int32))), .unset, .unset, .unset, .unset, .unset, .unset]) rfl ?_
      show Steps p.tables e below (s₁.setTop (mkF m 21 #[.val (.int x1), .val (.int x2), .val (.int x3), .val (.int x4), .val (.int x5), .val (.int (x1 &&& (1023 : Int32))), .val (.int (x2 &&& (1023 : Int32))), .val (.int (x3 &&& (2047 : Int32))), .unset, .unset, .unset, .unset, .unset, .unset] [])) _
      refine XS.iload X0.here hx rfl (hb hby at_21) rfl ?_
      show Steps p.tables e below (s₁.setTop (mkF m 23 #[.val (.int x1), .val (.int x2), .val (.int x3), .val (.int x4), .val (.int x5), .val (.int (x1 &&& (1023 : Int32))), .val (.int (x2 &&& (1023 : Int32))), .val (.int (x3 &&& (2047 : Int32))), .unset, .unset, .unset, .unset, .unset, .unset] [(.int x5)])) _
      refine XS.iconst X0.here hx rfl (hb hby at_23) ?_
      show Steps p.tables e below (s₁.setTop (mkF m 24 #[.val (.int x1), .val (.int x2), .val (.int x3), .val (.int x4), .val (.int x5), .val (.int (x1 &&& (1023 : Int32))), .val (.int (x2 &&& (1023 : Int32))), .val (.int (x3 &&& (2047 : Int32))), .unset, .unset, .unset, .unset, .unset, .unset] [(.int (1 : Int32)), (.int x5)])) _
      refine XS.iand X0.here hx rfl (hb hby at_24) rfl ?_
      show Steps p.tables e below (s₁.setTop (mkF m 25 #[.val (.int x1), .val (.int x2), .val (.int x3), .val (.int x4), .val (.int x5), .val (.int (x1 &&& (1023 : Int32))), .val (.int (x2 &&& (1023 : Int32))), .val (.int (x3 &&& (2047 : Int32))), .unset, .unset, .unset, .unset, .unset, .unset] [(.int (x5 &&& (1 : Int32)))])) _
      refine own_dia (u := ((0 : Int32) : Int32)) (v := (1 : Int32)) ((x5 &&& (1 : Int32)) = (0 : Int32)) (fun z1 => (mkF m 33 #[.val (.int x1), .val (.int x2), .val (.int x3), .val (.int x4), .val (.int x5), .val (.int (x1 &&& (1023 : Int32))), .val (.int (x2 &&& (1023 : Int32))), .val (.int (x3 &&& (2047 : Int32))), .unset, .unset, .unset, .unset, .unset, .unset] [(.int z1)])) (fun hc1 k1 => ?_) (fun hc1 k1 => ?_) ?_
      · refine XS.ifYes X0.here hx rfl (pc0 := 25) (pc' := 32) rfl (hb hby at_25) rfl ((if0 _ _).trans (teq hc1).1) (by decide) (by decide) ?_
        show Steps p.tables e below (s₁.setTop (mkF m 32 #[.val (.int x1), .val (.int x2), .val (.int x3), .val (.int x4), .val (.int x5), .val (.int (x1 &&& (1023 : Int32))), .val (.int (x2 &&& (1023 : Int32))), .val (.int (x3 &&& (2047 : Int32))), .unset, .unset, .unset, .unset, .unset, .unset] [])) _
        refine XS.iconst X0.here hx rfl (hb hby at_32) ?_
        exact k1
      · refine XS.ifNo X0.here hx rfl (hb hby at_25) rfl ((if0 _ _).trans (feq hc1).1) ?_
        show Steps p.tables e below (s₁.setTop (mkF m 28 #[.val (.int x1), .val (.int x2), .val (.int x3), .val (.int x4), .val (.int x5), .val (.int (x1 &&& (1023 : Int32))), .val (.int (x2 &&& (1023 : Int32))), .val (.int (x3 &&& (2047 : Int32))), .unset, .unset, .unset, .unset, .unset, .unset] [])) _
        refine XS.iconst X0.here hx rfl (hb hby at_28) ?_
        show Steps p.tables e below (s₁.setTop (mkF m 29 #[.val (.int x1), .val (.int x2), .val (.int x3), .val (.int x4), .val (.int x5), .val (.int (x1 &&& (1023 : Int32))), .val (.int (x2 &&& (1023 : Int32))), .val (.int (x3 &&& (2047 : Int32))), .unset, .unset, .unset, .unset, .unset, .unset] [(.int (1 : Int32))])) _
        refine XS.goto X0.here hx rfl (pc0 := 29) (pc' := 33) rfl (hb hby at_29) (by decide) (by decide) ?_
        exact k1
      -- meets at 33
      show Steps p.tables e below (s₁.setTop (mkF m 33 #[.val (.int x1), .val (.int x2), .val (.int x3), .val (.int x4), .val (.int x5), .val (.int (x1 &&& (1023 : Int32))), .val (.int (x2 &&& (1023 : Int32))), .val (.int (x3 &&& (2047 : Int32))), .unset, .unset, .unset, .unset, .unset, .unset] [(.int (if (x5 &&& (1 : Int32)) = (0 : Int32) then (0 : Int32) else (1 : Int32)))])) _
      refine XS.istore X0.here hx rfl (hb hby at_33) rfl (l' := #[.val (.int x1), .val (.int x2), .val (.int x3), .val (.int x4), .val (.int x5), .val (.int (x1 &&& (1023 : Int32))), .val (.int (x2 &&& (1023 : Int32))), .val (.int (x3 &&& (2047 : Int32))), .val (.int (if (x5 &&& (1 : Int32)) = (0 : Int32) then (0 : Int32) else (1 : Int32))), .unset, .unset, .unset, .unset, .unset]) rfl ?_
      show Steps p.tables e below (s₁.setTop (mkF m 35 #[.val (.int x1), .val (.int x2), .val (.int x3), .val (.int x4), .val (.int x5), .val (.int (x1 &&& (1023 : Int32))), .val (.int (x2 &&& (1023 : Int32))), .val (.int (x3 &&& (2047 : Int32))), .val (.int (if (x5 &&& (1 : Int32)) = (0 : Int32) then (0 : Int32) else (1 : Int32))), .unset, .unset, .unset, .unset, .unset] [])) _
      refine XS.iload X0.here hx rfl (hb hby at_35) rfl ?_
      show Steps p.tables e below (s₁.setTop (mkF m 37 #[.val (.int x1), .val (.int x2), .val (.int x3), .val (.int x4), .val (.int x5), .val (.int (x1 &&& (1023 : Int32))), .val (.int (x2 &&& (1023 : Int32))), .val (.int (x3 &&& (2047 : Int32))), .val (.int (if (x5 &&& (1 : Int32)) = (0 : Int32) then (0 : Int32) else (1 : Int32))), .unset, .unset, .unset, .unset, .unset] [(.int x5)])) _
      refine XS.iconst X0.here hx rfl (hb hby at_37) ?_
      show Steps p.tables e below (s₁.setTop (mkF m 38 #[.val (.int x1), .val (.int x2), .val (.int x3), .val (.int x4), .val (.int x5), .val (.int (x1 &&& (1023 : Int32))), .val (.int (x2 &&& (1023 : Int32))), .val (.int (x3 &&& (2047 : Int32))), .val (.int (if (x5 &&& (1 : Int32)) = (0 : Int32) then (0 : Int32) else (1 : Int32))), .unset, .unset, .unset, .unset, .unset] [(.int (1 : Int32)), (.int x5)])) _
      refine XS.iushr X0.here hx rfl (hb hby at_38) rfl ?_
      show Steps p.tables e below (s₁.setTop (mkF m 39 #[.val (.int x1), .val (.int x2), .val (.int x3), .val (.int x4), .val (.int x5), .val (.int (x1 &&& (1023 : Int32))), .val (.int (x2 &&& (1023 : Int32))), .val (.int (x3 &&& (2047 : Int32))), .val (.int (if (x5 &&& (1 : Int32)) = (0 : Int32) then (0 : Int32) else (1 : Int32))), .unset, .unset, .unset, .unset, .unset] [(.int ((x5.toUInt32 >>> ((1 : Int32) &&& 31).toUInt32).toInt32))])) _
      refine XS.iconst X0.here hx rfl (hb hby at_39) ?_
      show Steps p.tables e below (s₁.setTop (mkF m 40 #[.val (.int x1), .val (.int x2), .val (.int x3), .val (.int x4), .val (.int x5), .val (.int (x1 &&& (1023 : Int32))), .val (.int (x2 &&& (1023 : Int32))), .val (.int (x3 &&& (2047 : Int32))), .val (.int (if (x5 &&& (1 : Int32)) = (0 : Int32) then (0 : Int32) else (1 : Int32))), .unset, .unset, .unset, .unset, .unset] [(.int (3 : Int32)), (.int ((x5.toUInt32 >>> ((1 : Int32) &&& 31).toUInt32).toInt32))])) _
      refine XS.iand X0.here hx rfl (hb hby at_40) rfl ?_
      show Steps p.tables e below (s₁.setTop (mkF m 41 #[.val (.int x1), .val (.int x2), .val (.int x3), .val (.int x4), .val (.int x5), .val (.int (x1 &&& (1023 : Int32))), .val (.int (x2 &&& (1023 : Int32))), .val (.int (x3 &&& (2047 : Int32))), .val (.int (if (x5 &&& (1 : Int32)) = (0 : Int32) then (0 : Int32) else (1 : Int32))), .unset, .unset, .unset, .unset, .unset] [(.int (((x5.toUInt32 >>> ((1 : Int32) &&& 31).toUInt32).toInt32) &&& (3 : Int32)))])) _
      refine XS.istore X0.here hx rfl (hb hby at_41) rfl (l' := #[.val (.int x1), .val (.int x2), .val (.int x3), .val (.int x4), .val (.int x5), .val (.int (x1 &&& (1023 : Int32))), .val (.int (x2 &&& (1023 : Int32))), .val (.int (x3 &&& (2047 : Int32))), .val (.int (if (x5 &&& (1 : Int32)) = (0 : Int32) then (0 : Int32) else (1 : Int32))), .val (.int (((x5.toUInt32 >>> ((1 : Int32) &&& 31).toUInt32).toInt32) &&& (3 : Int32))), .unset, .unset, .unset, .unset]) rfl ?_
      show Steps p.tables e below (s₁.setTop (mkF m 43 #[.val (.int x1), .val (.int x2), .val (.int x3), .val (.int x4), .val (.int x5), .val (.int (x1 &&& (1023 : Int32))), .val (.int (x2 &&& (1023 : Int32))), .val (.int (x3 &&& (2047 : Int32))), .val (.int (if (x5 &&& (1 : Int32)) = (0 : Int32) then (0 : Int32) else (1 : Int32))), .val (.int (((x5.toUInt32 >>> ((1 : Int32) &&& 31).toUInt32).toInt32) &&& (3 : Int32))), .unset, .unset, .unset, .unset] [])) _
      refine XS.iload X0.here hx rfl (hb hby at_43) rfl ?_
      show Steps p.tables e below (s₁.setTop (mkF m 45 #[.val (.int x1), .val (.int x2), .val (.int x3), .val (.int x4), .val (.int x5), .val (.int (x1 &&& (1023 : Int32))), .val (.int (x2 &&& (1023 : Int32))), .val (.int (x3 &&& (2047 : Int32))), .val (.int (if (x5 &&& (1 : Int32)) = (0 : Int32) then (0 : Int32) else (1 : Int32))), .val (.int (((x5.toUInt32 >>> ((1 : Int32) &&& 31).toUInt32).toInt32) &&& (3 : Int32))), .unset, .unset, .unset, .unset] [(.int (((x5.toUInt32 >>> ((1 : Int32) &&& 31).toUInt32).toInt32) &&& (3 : Int32)))])) _
      refine own_dia (u := ((x1 &&& (1023 : Int32)) : Int32)) (v := (if (((x5.toUInt32 >>> ((1 : Int32) &&& 31).toUInt32).toInt32) &&& (3 : Int32)) = (1 : Int32) then (x2 &&& (1023 : Int32)) else (if (((x5.toUInt32 >>> ((1 : Int32) &&& 31).toUInt32).toInt32) &&& (3 : Int32)) = (2 : Int32) then (x3 &&& (2047 : Int32)) else x4))) ((((x5.toUInt32 >>> ((1 : Int32) &&& 31).toUInt32).toInt32) &&& (3 : Int32)) = (0 : Int32)) (fun z2 => (mkF m 76 #[.val (.int x1), .val (.int x2), .val (.int x3), .val (.int x4), .val (.int x5), .val (.int (x1 &&& (1023 : Int32))), .val (.int (x2 &&& (1023 : Int32))), .val (.int (x3 &&& (2047 : Int32))), .val (.int (if (x5 &&& (1 : Int32)) = (0 : Int32) then (0 : Int32) else (1 : Int32))), .val (.int (((x5.toUInt32 >>> ((1 : Int32) &&& 31).toUInt32).toInt32) &&& (3 : Int32))), .unset, .unset, .unset, .unset] [(.int z2)])) (fun hc2 k2 => ?_) (fun hc2 k2 => ?_) ?_
      · refine XS.ifNo X0.here hx rfl (hb hby at_45) rfl ((if0 _ _).trans (teq hc2).2) ?_
        show Steps p.tables e below (s₁.setTop (mkF m 48 #[.val (.int x1), .val (.int x2), .val (.int x3), .val (.int x4), .val (.int x5), .val (.int (x1 &&& (1023 : Int32))), .val (.int (x2 &&& (1023 : Int32))), .val (.int (x3 &&& (2047 : Int32))), .val (.int (if (x5 &&& (1 : Int32)) = (0 : Int32) then (0 : Int32) else (1 : Int32))), .val (.int (((x5.toUInt32 >>> ((1 : Int32) &&& 31).toUInt32).toInt32) &&& (3 : Int32))), .unset, .unset, .unset, .unset] [])) _
        refine XS.iload X0.here hx rfl (hb hby at_48) rfl ?_
        show Steps p.tables e below (s₁.setTop (mkF m 50 #[.val (.int x1), .val (.int x2), .val (.int x3), .val (.int x4), .val (.int x5), .val (.int (x1 &&& (1023 : Int32))), .val (.int (x2 &&& (1023 : Int32))), .val (.int (x3 &&& (2047 : Int32))), .val (.int (if (x5 &&& (1 : Int32)) = (0 : Int32) then (0 : Int32) else (1 : Int32))), .val (.int (((x5.toUInt32 >>> ((1 : Int32) &&& 31).toUInt32).toInt32) &&& (3 : Int32))), .unset, .unset, .unset, .unset] [(.int (x1 &&& (1023 : Int32)))])) _
        refine XS.goto X0.here hx rfl (pc0 := 50) (pc' := 76) rfl (hb hby at_50) (by decide) (by decide) ?_
        exact k2
      · refine XS.ifYes X0.here hx rfl (pc0 := 45) (pc' := 53) rfl (hb hby at_45) rfl ((if0 _ _).trans (feq hc2).2) (by decide) (by decide) ?_
        show Steps p.tables e below (s₁.setTop (mkF m 53 #[.val (.int x1), .val (.int x2), .val (.int x3), .val (.int x4), .val (.int x5), .val (.int (x1 &&& (1023 : Int32))), .val (.int (x2 &&& (1023 : Int32))), .val (.int (x3 &&& (2047 : Int32))), .val (.int (if (x5 &&& (1 : Int32)) = (0 : Int32) then (0 : Int32) else (1 : Int32))), .val (.int (((x5.toUInt32 >>> ((1 : Int32) &&& 31).toUInt32).toInt32) &&& (3 : Int32))), .unset, .unset, .unset, .unset] [])) _
        refine XS.iload X0.here hx rfl (hb hby at_53) rfl ?_
        show Steps p.tables e below (s₁.setTop (mkF m 55 #[.val (.int x1), .val (.int x2), .val (.int x3), .val (.int x4), .val (.int x5), .val (.int (x1 &&& (1023 : Int32))), .val (.int (x2 &&& (1023 : Int32))), .val (.int (x3 &&& (2047 : Int32))), .val (.int (if (x5 &&& (1 : Int32)) = (0 : Int32) then (0 : Int32) else (1 : Int32))), .val (.int (((x5.toUInt32 >>> ((1 : Int32) &&& 31).toUInt32).toInt32) &&& (3 : Int32))), .unset, .unset, .unset, .unset] [(.int (((x5.toUInt32 >>> ((1 : Int32) &&& 31).toUInt32).toInt32) &&& (3 : Int32)))])) _
        refine XS.iconst X0.here hx rfl (hb hby at_55) ?_
        show Steps p.tables e below (s₁.setTop (mkF m 56 #[.val (.int x1), .val (.int x2), .val (.int x3), .val (.int x4), .val (.int x5), .val (.int (x1 &&& (1023 : Int32))), .val (.int (x2 &&& (1023 : Int32))), .val (.int (x3 &&& (2047 : Int32))), .val (.int (if (x5 &&& (1 : Int32)) = (0 : Int32) then (0 : Int32) else (1 : Int32))), .val (.int (((x5.toUInt32 >>> ((1 : Int32) &&& 31).toUInt32).toInt32) &&& (3 : Int32))), .unset, .unset, .unset, .unset] [(.int (1 : Int32)), (.int (((x5.toUInt32 >>> ((1 : Int32) &&& 31).toUInt32).toInt32) &&& (3 : Int32)))])) _
        refine own_dia (u := ((x2 &&& (1023 : Int32)) : Int32)) (v := (if (((x5.toUInt32 >>> ((1 : Int32) &&& 31).toUInt32).toInt32) &&& (3 : Int32)) = (2 : Int32) then (x3 &&& (2047 : Int32)) else x4)) ((((x5.toUInt32 >>> ((1 : Int32) &&& 31).toUInt32).toInt32) &&& (3 : Int32)) = (1 : Int32)) (fun z3 => (mkF m 76 #[.val (.int x1), .val (.int x2), .val (.int x3), .val (.int x4), .val (.int x5), .val (.int (x1 &&& (1023 : Int32))), .val (.int (x2 &&& (1023 : Int32))), .val (.int (x3 &&& (2047 : Int32))), .val (.int (if (x5 &&& (1 : Int32)) = (0 : Int32) then (0 : Int32) else (1 : Int32))), .val (.int (((x5.toUInt32 >>> ((1 : Int32) &&& 31).toUInt32).toInt32) &&& (3 : Int32))), .unset, .unset, .unset, .unset] [(.int z3)])) (fun hc3 k3 => ?_) (fun hc3 k3 => ?_) ?_
        · refine XS.icmpNo X0.here hx rfl (hb hby at_56) rfl (teq hc3).2 ?_
          show Steps p.tables e below (s₁.setTop (mkF m 59 #[.val (.int x1), .val (.int x2), .val (.int x3), .val (.int x4), .val (.int x5), .val (.int (x1 &&& (1023 : Int32))), .val (.int (x2 &&& (1023 : Int32))), .val (.int (x3 &&& (2047 : Int32))), .val (.int (if (x5 &&& (1 : Int32)) = (0 : Int32) then (0 : Int32) else (1 : Int32))), .val (.int (((x5.toUInt32 >>> ((1 : Int32) &&& 31).toUInt32).toInt32) &&& (3 : Int32))), .unset, .unset, .unset, .unset] [])) _
          refine XS.iload X0.here hx rfl (hb hby at_59) rfl ?_
          show Steps p.tables e below (s₁.setTop (mkF m 61 #[.val (.int x1), .val (.int x2), .val (.int x3), .val (.int x4), .val (.int x5), .val (.int (x1 &&& (1023 : Int32))), .val (.int (x2 &&& (1023 : Int32))), .val (.int (x3 &&& (2047 : Int32))), .val (.int (if (x5 &&& (1 : Int32)) = (0 : Int32) then (0 : Int32) else (1 : Int32))), .val (.int (((x5.toUInt32 >>> ((1 : Int32) &&& 31).toUInt32).toInt32) &&& (3 : Int32))), .unset, .unset, .unset, .unset] [(.int (x2 &&& (1023 : Int32)))])) _
          refine XS.goto X0.here hx rfl (pc0 := 61) (pc' := 76) rfl (hb hby at_61) (by decide) (by decide) ?_
          exact k3
        · refine XS.icmpYes X0.here hx rfl (pc0 := 56) (pc' := 64) rfl (hb hby at_56) rfl (feq hc3).2 (by decide) (by decide) ?_
          show Steps p.tables e below (s₁.setTop (mkF m 64 #[.val (.int x1), .val (.int x2), .val (.int x3), .val (.int x4), .val (.int x5), .val (.int (x1 &&& (1023 : Int32))), .val (.int (x2 &&& (1023 : Int32))), .val (.int (x3 &&& (2047 : Int32))), .val (.int (if (x5 &&& (1 : Int32)) = (0 : Int32) then (0 : Int32) else (1 : Int32))), .val (.int (((x5.toUInt32 >>> ((1 : Int32) &&& 31).toUInt32).toInt32) &&& (3 : Int32))), .unset, .unset, .unset, .unset] [])) _
          refine XS.iload X0.here hx rfl (hb hby at_64) rfl ?_
          show Steps p.tables e below (s₁.setTop (mkF m 66 #[.val (.int x1), .val (.int x2), .val (.int x3), .val (.int x4), .val (.int x5), .val (.int (x1 &&& (1023 : Int32))), .val (.int (x2 &&& (1023 : Int32))), .val (.int (x3 &&& (2047 : Int32))), .val (.int (if (x5 &&& (1 : Int32)) = (0 : Int32) then (0 : Int32) else (1 : Int32))), .val (.int (((x5.toUInt32 >>> ((1 : Int32) &&& 31).toUInt32).toInt32) &&& (3 : Int32))), .unset, .unset, .unset, .unset] [(.int (((x5.toUInt32 >>> ((1 : Int32) &&& 31).toUInt32).toInt32) &&& (3 : Int32)))])) _
          refine XS.iconst X0.here hx rfl (hb hby at_66) ?_
          show Steps p.tables e below (s₁.setTop (mkF m 67 #[.val (.int x1), .val (.int x2), .val (.int x3), .val (.int x4), .val (.int x5), .val (.int (x1 &&& (1023 : Int32))), .val (.int (x2 &&& (1023 : Int32))), .val (.int (x3 &&& (2047 : Int32))), .val (.int (if (x5 &&& (1 : Int32)) = (0 : Int32) then (0 : Int32) else (1 : Int32))), .val (.int (((x5.toUInt32 >>> ((1 : Int32) &&& 31).toUInt32).toInt32) &&& (3 : Int32))), .unset, .unset, .unset, .unset] [(.int (2 : Int32)), (.int (((x5.toUInt32 >>> ((1 : Int32) &&& 31).toUInt32).toInt32) &&& (3 : Int32)))])) _
          refine own_dia (u := ((x3 &&& (2047 : Int32)) : Int32)) (v := x4) ((((x5.toUInt32 >>> ((1 : Int32) &&& 31).toUInt32).toInt32) &&& (3 : Int32)) = (2 : Int32)) (fun z4 => (mkF m 76 #[.val (.int x1), .val (.int x2), .val (.int x3), .val (.int x4), .val (.int x5), .val (.int (x1 &&& (1023 : Int32))), .val (.int (x2 &&& (1023 : Int32))), .val (.int (x3 &&& (2047 : Int32))), .val (.int (if (x5 &&& (1 : Int32)) = (0 : Int32) then (0 : Int32) else (1 : Int32))), .val (.int (((x5.toUInt32 >>> ((1 : Int32) &&& 31).toUInt32).toInt32) &&& (3 : Int32))), .unset, .unset, .unset, .unset] [(.int z4)])) (fun hc4 k4 => ?_) (fun hc4 k4 => ?_) ?_
          · refine XS.icmpNo X0.here hx rfl (hb hby at_67) rfl (teq hc4).2 ?_
            show Steps p.tables e below (s₁.setTop (mkF m 70 #[.val (.int x1), .val (.int x2), .val (.int x3), .val (.int x4), .val (.int x5), .val (.int (x1 &&& (1023 : Int32))), .val (.int (x2 &&& (1023 : Int32))), .val (.int (x3 &&& (2047 : Int32))), .val (.int (if (x5 &&& (1 : Int32)) = (0 : Int32) then (0 : Int32) else (1 : Int32))), .val (.int (((x5.toUInt32 >>> ((1 : Int32) &&& 31).toUInt32).toInt32) &&& (3 : Int32))), .unset, .unset, .unset, .unset] [])) _
            refine XS.iload X0.here hx rfl (hb hby at_70) rfl ?_
            show Steps p.tables e below (s₁.setTop (mkF m 72 #[.val (.int x1), .val (.int x2), .val (.int x3), .val (.int x4), .val (.int x5), .val (.int (x1 &&& (1023 : Int32))), .val (.int (x2 &&& (1023 : Int32))), .val (.int (x3 &&& (2047 : Int32))), .val (.int (if (x5 &&& (1 : Int32)) = (0 : Int32) then (0 : Int32) else (1 : Int32))), .val (.int (((x5.toUInt32 >>> ((1 : Int32) &&& 31).toUInt32).toInt32) &&& (3 : Int32))), .unset, .unset, .unset, .unset] [(.int (x3 &&& (2047 : Int32)))])) _
            refine XS.goto X0.here hx rfl (pc0 := 72) (pc' := 76) rfl (hb hby at_72) (by decide) (by decide) ?_
            exact k4
          · refine XS.icmpYes X0.here hx rfl (pc0 := 67) (pc' := 75) rfl (hb hby at_67) rfl (feq hc4).2 (by decide) (by decide) ?_
            show Steps p.tables e below (s₁.setTop (mkF m 75 #[.val (.int x1), .val (.int x2), .val (.int x3), .val (.int x4), .val (.int x5), .val (.int (x1 &&& (1023 : Int32))), .val (.int (x2 &&& (1023 : Int32))), .val (.int (x3 &&& (2047 : Int32))), .val (.int (if (x5 &&& (1 : Int32)) = (0 : Int32) then (0 : Int32) else (1 : Int32))), .val (.int (((x5.toUInt32 >>> ((1 : Int32) &&& 31).toUInt32).toInt32) &&& (3 : Int32))), .unset, .unset, .unset, .unset] [])) _
            refine XS.iloadN X0.here hx rfl (hb hby at_75) rfl ?_
            exact k4
          -- meets at 76
          exact k3
        -- meets at 76
        exact k2
      -- meets at 76
      show Steps p.tables e below (s₁.setTop (mkF m 76 #[.val (.int x1), .val (.int x2), .val (.int x3), .val (.int x4), .val (.int x5), .val (.int (x1 &&& (1023 : Int32))), .val (.int (x2 &&& (1023 : Int32))), .val (.int (x3 &&& (2047 : Int32))), .val (.int (if (x5 &&& (1 : Int32)) = (0 : Int32) then (0 : Int32) else (1 : Int32))), .val (.int (((x5.toUInt32 >>> ((1 : Int32) &&& 31).toUInt32).toInt32) &&& (3 : Int32))), .unset, .unset, .unset, .unset] [(.int (if (((x5.toUInt32 >>> ((1 : Int32) &&& 31).toUInt32).toInt32) &&& (3 : Int32)) = (0 : Int32) then (x1 &&& (1023 : Int32)) else (if (((x5.toUInt32 >>> ((1 : Int32) &&& 31).toUInt32).toInt32) &&& (3 : Int32)) = (1 : Int32) then (x2 &&& (1023 : Int32)) else (if (((x5.toUInt32 >>> ((1 : Int32) &&& 31).toUInt32).toInt32) &&& (3 : Int32)) = (2 : Int32) then (x3 &&& (2047 : Int32)) else x4))))])) _
      refine XS.istore X0.here hx rfl (hb hby at_76) rfl (l' := #[.val (.int x1), .val (.int x2), .val (.int x3), .val (.int x4), .val (.int x5), .val (.int (x1 &&& (1023 : Int32))), .val (.int (x2 &&& (1023 : Int32))), .val (.int (x3 &&& (2047 : Int32))), .val (.int (if (x5 &&& (1 : Int32)) = (0 : Int32) then (0 : Int32) else (1 : Int32))), .val (.int (((x5.toUInt32 >>> ((1 : Int32) &&& 31).toUInt32).toInt32) &&& (3 : Int32))), .val (.int (if (((x5.toUInt32 >>> ((1 : Int32) &&& 31).toUInt32).toInt32) &&& (3 : Int32)) = (0 : Int32) then (x1 &&& (1023 : Int32)) else (if (((x5.toUInt32 >>> ((1 : Int32) &&& 31).toUInt32).toInt32) &&& (3 : Int32)) = (1 : Int32) then (x2 &&& (1023 : Int32)) else (if (((x5.toUInt32 >>> ((1 : Int32) &&& 31).toUInt32).toInt32) &&& (3 : Int32)) = (2 : Int32) then (x3 &&& (2047 : Int32)) else x4)))), .unset, .unset, .unset]) rfl ?_
      show Steps p.tables e below (s₁.setTop (mkF m 78 #[.val (.int x1), .val (.int x2), .val (.int x3), .val (.int x4), .val (.int x5), .val (.int (x1 &&& (1023 : Int32))), .val (.int (x2 &&& (1023 : Int32))), .val (.int (x3 &&& (2047 : Int32))), .val (.int (if (x5 &&& (1 : Int32)) = (0 : Int32) then (0 : Int32) else (1 : Int32))), .val (.int (((x5.toUInt32 >>> ((1 : Int32) &&& 31).toUInt32).toInt32) &&& (3 : Int32))), .val (.int (own_q x1 x2 x3 x4 x5)), .unset, .unset, .unset] [])) _
      refine st5 _ ?_
      show Steps p.tables e below (T5.setTop (mkF m 81 #[.val (.int x1), .val (.int x2), .val (.int x3), .val (.int x4), .val (.int x5), .val (.int (x1 &&& (1023 : Int32))), .val (.int (x2 &&& (1023 : Int32))), .val (.int (x3 &&& (2047 : Int32))), .val (.int (if (x5 &&& (1 : Int32)) = (0 : Int32) then (0 : Int32) else (1 : Int32))), .val (.int (((x5.toUInt32 >>> ((1 : Int32) &&& 31).toUInt32).toInt32) &&& (3 : Int32))), .val (.int (own_q x1 x2 x3 x4 x5)), .unset, .unset, .unset] [(.ref b5)])) _
      refine XS.dup X5.here hx rfl (hb hby at_81) rfl rfl ?_
      show Steps p.tables e below (T5.setTop (mkF m 82 #[.val (.int x1), .val (.int x2), .val (.int x3), .val (.int x4), .val (.int x5), .val (.int (x1 &&& (1023 : Int32))), .val (.int (x2 &&& (1023 : Int32))), .val (.int (x3 &&& (2047 : Int32))), .val (.int (if (x5 &&& (1 : Int32)) = (0 : Int32) then (0 : Int32) else (1 : Int32))), .val (.int (((x5.toUInt32 >>> ((1 : Int32) &&& 31).toUInt32).toInt32) &&& (3 : Int32))), .val (.int (own_q x1 x2 x3 x4 x5)), .unset, .unset, .unset] [(.ref b5), (.ref b5)])) _
      refine st7.trans ?_
      show Steps p.tables e below (T7.setTop (mkF m 85 #[.val (.int x1), .val (.int x2), .val (.int x3), .val (.int x4), .val (.int x5), .val (.int (x1 &&& (1023 : Int32))), .val (.int (x2 &&& (1023 : Int32))), .val (.int (x3 &&& (2047 : Int32))), .val (.int (if (x5 &&& (1 : Int32)) = (0 : Int32) then (0 : Int32) else (1 : Int32))), .val (.int (((x5.toUInt32 >>> ((1 : Int32) &&& 31).toUInt32).toInt32) &&& (3 : Int32))), .val (.int (own_q x1 x2 x3 x4 x5)), .unset, .unset, .unset] [(.ref b5)])) _
      refine XS.astore X7.here hx rfl (hb hby at_85) rfl rfl (l' := #[.val (.int x1), .val (.int x2), .val (.int x3), .val (.int x4), .val (.int x5), .val (.int (x1 &&& (1023 : Int32))), .val (.int (x2 &&& (1023 : Int32))), .val (.int (x3 &&& (2047 : Int32))), .val (.int (if (x5 &&& (1 : Int32)) = (0 : Int32) then (0 : Int32) else (1 : Int32))), .val (.int (((x5.toUInt32 >>> ((1 : Int32) &&& 31).toUInt32).toInt32) &&& (3 : Int32))), .val (.int (own_q x1 x2 x3 x4 x5)), .val (.ref b5), .unset, .unset]) rfl ?_
      show Steps p.tables e below (T7.setTop (mkF m 87 #[.val (.int x1), .val (.int x2), .val (.int x3), .val (.int x4), .val (.int x5), .val (.int (x1 &&& (1023 : Int32))), .val (.int (x2 &&& (1023 : Int32))), .val (.int (x3 &&& (2047 : Int32))), .val (.int (if (x5 &&& (1 : Int32)) = (0 : Int32) then (0 : Int32) else (1 : Int32))), .val (.int (((x5.toUInt32 >>> ((1 : Int32) &&& 31).toUInt32).toInt32) &&& (3 : Int32))), .val (.int (own_q x1 x2 x3 x4 x5)), .val (.ref b5), .unset, .unset] [])) _
      refine XS.aload X7.here hx rfl (hb hby at_87) rfl rfl ?_
      show Steps p.tables e below (T7.setTop (mkF m 89 #[.val (.int x1), .val (.int x2), .val (.int x3), .val (.int x4), .val (.int x5), .val (.int (x1 &&& (1023 : Int32))), .val (.int (x2 &&& (1023 : Int32))), .val (.int (x3 &&& (2047 : Int32))), .val (.int (if (x5 &&& (1 : Int32)) = (0 : Int32) then (0 : Int32) else (1 : Int32))), .val (.int (((x5.toUInt32 >>> ((1 : Int32) &&& 31).toUInt32).toInt32) &&& (3 : Int32))), .val (.int (own_q x1 x2 x3 x4 x5)), .val (.ref b5), .unset, .unset] [(.ref b5)])) _
      refine XS.iload X7.here hx rfl (hb hby at_89) rfl ?_
      show Steps p.tables e below (T7.setTop (mkF m 91 #[.val (.int x1), .val (.int x2), .val (.int x3), .val (.int x4), .val (.int x5), .val (.int (x1 &&& (1023 : Int32))), .val (.int (x2 &&& (1023 : Int32))), .val (.int (x3 &&& (2047 : Int32))), .val (.int (if (x5 &&& (1 : Int32)) = (0 : Int32) then (0 : Int32) else (1 : Int32))), .val (.int (((x5.toUInt32 >>> ((1 : Int32) &&& 31).toUInt32).toInt32) &&& (3 : Int32))), .val (.int (own_q x1 x2 x3 x4 x5)), .val (.ref b5), .unset, .unset] [(.int (own_q x1 x2 x3 x4 x5)), (.ref b5)])) _
      refine st8.trans ?_
      show Steps p.tables e below (T8.setTop (mkF m 94 #[.val (.int x1), .val (.int x2), .val (.int x3), .val (.int x4), .val (.int x5), .val (.int (x1 &&& (1023 : Int32))), .val (.int (x2 &&& (1023 : Int32))), .val (.int (x3 &&& (2047 : Int32))), .val (.int (if (x5 &&& (1 : Int32)) = (0 : Int32) then (0 : Int32) else (1 : Int32))), .val (.int (((x5.toUInt32 >>> ((1 : Int32) &&& 31).toUInt32).toInt32) &&& (3 : Int32))), .val (.int (own_q x1 x2 x3 x4 x5)), .val (.ref b5), .unset, .unset] [(.int (((fun _ => (0 : Int32))) (own_q x1 x2 x3 x4 x5)))])) _
      refine own_dia (u := ((1 : Int32) : Int32)) (v := (0 : Int32)) ((((fun _ => (0 : Int32))) (own_q x1 x2 x3 x4 x5)) = (0 : Int32)) (fun z9 => (mkF m 102 #[.val (.int x1), .val (.int x2), .val (.int x3), .val (.int x4), .val (.int x5), .val (.int (x1 &&& (1023 : Int32))), .val (.int (x2 &&& (1023 : Int32))), .val (.int (x3 &&& (2047 : Int32))), .val (.int (if (x5 &&& (1 : Int32)) = (0 : Int32) then (0 : Int32) else (1 : Int32))), .val (.int (((x5.toUInt32 >>> ((1 : Int32) &&& 31).toUInt32).toInt32) &&& (3 : Int32))), .val (.int (own_q x1 x2 x3 x4 x5)), .val (.ref b5), .unset, .unset] [(.int z9)])) (fun hc9 k9 => ?_) (fun hc9 k9 => ?_) ?_
      · refine XS.ifNo X8.here hx rfl (hb hby at_94) rfl ((if0 _ _).trans (teq hc9).2) ?_
        show Steps p.tables e below (T8.setTop (mkF m 97 #[.val (.int x1), .val (.int x2), .val (.int x3), .val (.int x4), .val (.int x5), .val (.int (x1 &&& (1023 : Int32))), .val (.int (x2 &&& (1023 : Int32))), .val (.int (x3 &&& (2047 : Int32))), .val (.int (if (x5 &&& (1 : Int32)) = (0 : Int32) then (0 : Int32) else (1 : Int32))), .val (.int (((x5.toUInt32 >>> ((1 : Int32) &&& 31).toUInt32).toInt32) &&& (3 : Int32))), .val (.int (own_q x1 x2 x3 x4 x5)), .val (.ref b5), .unset, .unset] [])) _
        refine XS.iconst X8.here hx rfl (hb hby at_97) ?_
        show Steps p.tables e below (T8.setTop (mkF m 98 #[.val (.int x1), .val (.int x2), .val (.int x3), .val (.int x4), .val (.int x5), .val (.int (x1 &&& (1023 : Int32))), .val (.int (x2 &&& (1023 : Int32))), .val (.int (x3 &&& (2047 : Int32))), .val (.int (if (x5 &&& (1 : Int32)) = (0 : Int32) then (0 : Int32) else (1 : Int32))), .val (.int (((x5.toUInt32 >>> ((1 : Int32) &&& 31).toUInt32).toInt32) &&& (3 : Int32))), .val (.int (own_q x1 x2 x3 x4 x5)), .val (.ref b5), .unset, .unset] [(.int (1 : Int32))])) _
        refine XS.goto X8.here hx rfl (pc0 := 98) (pc' := 102) rfl (hb hby at_98) (by decide) (by decide) ?_
        exact k9
      · refine XS.ifYes X8.here hx rfl (pc0 := 94) (pc' := 101) rfl (hb hby at_94) rfl ((if0 _ _).trans (feq hc9).2) (by decide) (by decide) ?_
        show Steps p.tables e below (T8.setTop (mkF m 101 #[.val (.int x1), .val (.int x2), .val (.int x3), .val (.int x4), .val (.int x5), .val (.int (x1 &&& (1023 : Int32))), .val (.int (x2 &&& (1023 : Int32))), .val (.int (x3 &&& (2047 : Int32))), .val (.int (if (x5 &&& (1 : Int32)) = (0 : Int32) then (0 : Int32) else (1 : Int32))), .val (.int (((x5.toUInt32 >>> ((1 : Int32) &&& 31).toUInt32).toInt32) &&& (3 : Int32))), .val (.int (own_q x1 x2 x3 x4 x5)), .val (.ref b5), .unset, .unset] [])) _
        refine XS.iconst X8.here hx rfl (hb hby at_101) ?_
        exact k9
      -- meets at 102
      show Steps p.tables e below (T8.setTop (mkF m 102 #[.val (.int x1), .val (.int x2), .val (.int x3), .val (.int x4), .val (.int x5), .val (.int (x1 &&& (1023 : Int32))), .val (.int (x2 &&& (1023 : Int32))), .val (.int (x3 &&& (2047 : Int32))), .val (.int (if (x5 &&& (1 : Int32)) = (0 : Int32) then (0 : Int32) else (1 : Int32))), .val (.int (((x5.toUInt32 >>> ((1 : Int32) &&& 31).toUInt32).toInt32) &&& (3 : Int32))), .val (.int (own_q x1 x2 x3 x4 x5)), .val (.ref b5), .unset, .unset] [(.int (if (((fun _ => (0 : Int32))) (own_q x1 x2 x3 x4 x5)) = (0 : Int32) then (1 : Int32) else (0 : Int32)))])) _
      refine XS.istore X8.here hx rfl (hb hby at_102) rfl (l' := #[.val (.int x1), .val (.int x2), .val (.int x3), .val (.int x4), .val (.int x5), .val (.int (x1 &&& (1023 : Int32))), .val (.int (x2 &&& (1023 : Int32))), .val (.int (x3 &&& (2047 : Int32))), .val (.int (if (x5 &&& (1 : Int32)) = (0 : Int32) then (0 : Int32) else (1 : Int32))), .val (.int (((x5.toUInt32 >>> ((1 : Int32) &&& 31).toUInt32).toInt32) &&& (3 : Int32))), .val (.int (own_q x1 x2 x3 x4 x5)), .val (.ref b5), .val (.int (if (((fun _ => (0 : Int32))) (own_q x1 x2 x3 x4 x5)) = (0 : Int32) then (1 : Int32) else (0 : Int32))), .unset]) rfl ?_
      show Steps p.tables e below (T8.setTop (mkF m 104 #[.val (.int x1), .val (.int x2), .val (.int x3), .val (.int x4), .val (.int x5), .val (.int (x1 &&& (1023 : Int32))), .val (.int (x2 &&& (1023 : Int32))), .val (.int (x3 &&& (2047 : Int32))), .val (.int (if (x5 &&& (1 : Int32)) = (0 : Int32) then (0 : Int32) else (1 : Int32))), .val (.int (((x5.toUInt32 >>> ((1 : Int32) &&& 31).toUInt32).toInt32) &&& (3 : Int32))), .val (.int (own_q x1 x2 x3 x4 x5)), .val (.ref b5), .val (.int (if (((fun _ => (0 : Int32))) (own_q x1 x2 x3 x4 x5)) = (0 : Int32) then (1 : Int32) else (0 : Int32))), .unset] [])) _
      refine XS.aload X8.here hx rfl (hb hby at_104) rfl rfl ?_
      show Steps p.tables e below (T8.setTop (mkF m 106 #[.val (.int x1), .val (.int x2), .val (.int x3), .val (.int x4), .val (.int x5), .val (.int (x1 &&& (1023 : Int32))), .val (.int (x2 &&& (1023 : Int32))), .val (.int (x3 &&& (2047 : Int32))), .val (.int (if (x5 &&& (1 : Int32)) = (0 : Int32) then (0 : Int32) else (1 : Int32))), .val (.int (((x5.toUInt32 >>> ((1 : Int32) &&& 31).toUInt32).toInt32) &&& (3 : Int32))), .val (.int (own_q x1 x2 x3 x4 x5)), .val (.ref b5), .val (.int (if (((fun _ => (0 : Int32))) (own_q x1 x2 x3 x4 x5)) = (0 : Int32) then (1 : Int32) else (0 : Int32))), .unset] [(.ref b5)])) _
      refine XS.iload X8.here hx rfl (hb hby at_106) rfl ?_
      show Steps p.tables e below (T8.setTop (mkF m 108 #[.val (.int x1), .val (.int x2), .val (.int x3), .val (.int x4), .val (.int x5), .val (.int (x1 &&& (1023 : Int32))), .val (.int (x2 &&& (1023 : Int32))), .val (.int (x3 &&& (2047 : Int32))), .val (.int (if (x5 &&& (1 : Int32)) = (0 : Int32) then (0 : Int32) else (1 : Int32))), .val (.int (((x5.toUInt32 >>> ((1 : Int32) &&& 31).toUInt32).toInt32) &&& (3 : Int32))), .val (.int (own_q x1 x2 x3 x4 x5)), .val (.ref b5), .val (.int (if (((fun _ => (0 : Int32))) (own_q x1 x2 x3 x4 x5)) = (0 : Int32) then (1 : Int32) else (0 : Int32))), .unset] [(.int (x1 &&& (1023 : Int32))), (.ref b5)])) _
      refine st10.trans ?_
      show Steps p.tables e below (T10.setTop (mkF m 111 #[.val (.int x1), .val (.int x2), .val (.int x3), .val (.int x4), .val (.int x5), .val (.int (x1 &&& (1023 : Int32))), .val (.int (x2 &&& (1023 : Int32))), .val (.int (x3 &&& (2047 : Int32))), .val (.int (if (x5 &&& (1 : Int32)) = (0 : Int32) then (0 : Int32) else (1 : Int32))), .val (.int (((x5.toUInt32 >>> ((1 : Int32) &&& 31).toUInt32).toInt32) &&& (3 : Int32))), .val (.int (own_q x1 x2 x3 x4 x5)), .val (.ref b5), .val (.int (if (((fun _ => (0 : Int32))) (own_q x1 x2 x3 x4 x5)) = (0 : Int32) then (1 : Int32) else (0 : Int32))), .unset] [])) _
      refine XS.iload X10.here hx rfl (hb hby at_111) rfl ?_
      show Steps p.tables e below (T10.setTop (mkF m 113 #[.val (.int x1), .val (.int x2), .val (.int x3), .val (.int x4), .val (.int x5), .val (.int (x1 &&& (1023 : Int32))), .val (.int (x2 &&& (1023 : Int32))), .val (.int (x3 &&& (2047 : Int32))), .val (.int (if (x5 &&& (1 : Int32)) = (0 : Int32) then (0 : Int32) else (1 : Int32))), .val (.int (((x5.toUInt32 >>> ((1 : Int32) &&& 31).toUInt32).toInt32) &&& (3 : Int32))), .val (.int (own_q x1 x2 x3 x4 x5)), .val (.ref b5), .val (.int (if (((fun _ => (0 : Int32))) (own_q x1 x2 x3 x4 x5)) = (0 : Int32) then (1 : Int32) else (0 : Int32))), .unset] [(.int (if (x5 &&& (1 : Int32)) = (0 : Int32) then (0 : Int32) else (1 : Int32)))])) _
      refine XS.ifNo X10.here hx rfl (hb hby at_113) rfl (own_cf hb11).2 ?_
      show Steps p.tables e below (T10.setTop (mkF m 116 #[.val (.int x1), .val (.int x2), .val (.int x3), .val (.int x4), .val (.int x5), .val (.int (x1 &&& (1023 : Int32))), .val (.int (x2 &&& (1023 : Int32))), .val (.int (x3 &&& (2047 : Int32))), .val (.int (if (x5 &&& (1 : Int32)) = (0 : Int32) then (0 : Int32) else (1 : Int32))), .val (.int (((x5.toUInt32 >>> ((1 : Int32) &&& 31).toUInt32).toInt32) &&& (3 : Int32))), .val (.int (own_q x1 x2 x3 x4 x5)), .val (.ref b5), .val (.int (if (((fun _ => (0 : Int32))) (own_q x1 x2 x3 x4 x5)) = (0 : Int32) then (1 : Int32) else (0 : Int32))), .unset] [])) _
      refine XS.aload X10.here hx rfl (hb hby at_116) rfl rfl ?_
      show Steps p.tables e below (T10.setTop (mkF m 118 #[.val (.int x1), .val (.int x2), .val (.int x3), .val (.int x4), .val (.int x5), .val (.int (x1 &&& (1023 : Int32))), .val (.int (x2 &&& (1023 : Int32))), .val (.int (x3 &&& (2047 : Int32))), .val (.int (if (x5 &&& (1 : Int32)) = (0 : Int32) then (0 : Int32) else (1 : Int32))), .val (.int (((x5.toUInt32 >>> ((1 : Int32) &&& 31).toUInt32).toInt32) &&& (3 : Int32))), .val (.int (own_q x1 x2 x3 x4 x5)), .val (.ref b5), .val (.int (if (((fun _ => (0 : Int32))) (own_q x1 x2 x3 x4 x5)) = (0 : Int32) then (1 : Int32) else (0 : Int32))), .unset] [(.ref b5)])) _
      refine XS.iload X10.here hx rfl (hb hby at_118) rfl ?_
      show Steps p.tables e below (T10.setTop (mkF m 120 #[.val (.int x1), .val (.int x2), .val (.int x3), .val (.int x4), .val (.int x5), .val (.int (x1 &&& (1023 : Int32))), .val (.int (x2 &&& (1023 : Int32))), .val (.int (x3 &&& (2047 : Int32))), .val (.int (if (x5 &&& (1 : Int32)) = (0 : Int32) then (0 : Int32) else (1 : Int32))), .val (.int (((x5.toUInt32 >>> ((1 : Int32) &&& 31).toUInt32).toInt32) &&& (3 : Int32))), .val (.int (own_q x1 x2 x3 x4 x5)), .val (.ref b5), .val (.int (if (((fun _ => (0 : Int32))) (own_q x1 x2 x3 x4 x5)) = (0 : Int32) then (1 : Int32) else (0 : Int32))), .unset] [(.int (x3 &&& (2047 : Int32))), (.ref b5)])) _
      refine st19.trans ?_
      show Steps p.tables e below (T19.setTop (mkF m 123 #[.val (.int x1), .val (.int x2), .val (.int x3), .val (.int x4), .val (.int x5), .val (.int (x1 &&& (1023 : Int32))), .val (.int (x2 &&& (1023 : Int32))), .val (.int (x3 &&& (2047 : Int32))), .val (.int (if (x5 &&& (1 : Int32)) = (0 : Int32) then (0 : Int32) else (1 : Int32))), .val (.int (((x5.toUInt32 >>> ((1 : Int32) &&& 31).toUInt32).toInt32) &&& (3 : Int32))), .val (.int (own_q x1 x2 x3 x4 x5)), .val (.ref b5), .val (.int (if (((fun _ => (0 : Int32))) (own_q x1 x2 x3 x4 x5)) = (0 : Int32) then (1 : Int32) else (0 : Int32))), .unset] [])) _
      refine XS.aload X19.here hx rfl (hb hby at_123) rfl rfl ?_
      show Steps p.tables e below (T19.setTop (mkF m 125 #[.val (.int x1), .val (.int x2), .val (.int x3), .val (.int x4), .val (.int x5), .val (.int (x1 &&& (1023 : Int32))), .val (.int (x2 &&& (1023 : Int32))), .val (.int (x3 &&& (2047 : Int32))), .val (.int (if (x5 &&& (1 : Int32)) = (0 : Int32) then (0 : Int32) else (1 : Int32))), .val (.int (((x5.toUInt32 >>> ((1 : Int32) &&& 31).toUInt32).toInt32) &&& (3 : Int32))), .val (.int (own_q x1 x2 x3 x4 x5)), .val (.ref b5), .val (.int (if (((fun _ => (0 : Int32))) (own_q x1 x2 x3 x4 x5)) = (0 : Int32) then (1 : Int32) else (0 : Int32))), .unset] [(.ref b5)])) _
      refine XS.iload X19.here hx rfl (hb hby at_125) rfl ?_
      show Steps p.tables e below (T19.setTop (mkF m 127 #[.val (.int x1), .val (.int x2), .val (.int x3), .val (.int x4), .val (.int x5), .val (.int (x1 &&& (1023 : Int32))), .val (.int (x2 &&& (1023 : Int32))), .val (.int (x3 &&& (2047 : Int32))), .val (.int (if (x5 &&& (1 : Int32)) = (0 : Int32) then (0 : Int32) else (1 : Int32))), .val (.int (((x5.toUInt32 >>> ((1 : Int32) &&& 31).toUInt32).toInt32) &&& (3 : Int32))), .val (.int (own_q x1 x2 x3 x4 x5)), .val (.ref b5), .val (.int (if (((fun _ => (0 : Int32))) (own_q x1 x2 x3 x4 x5)) = (0 : Int32) then (1 : Int32) else (0 : Int32))), .unset] [(.int (x2 &&& (1023 : Int32))), (.ref b5)])) _
      refine st20.trans ?_
      show Steps p.tables e below (T20.setTop (mkF m 130 #[.val (.int x1), .val (.int x2), .val (.int x3), .val (.int x4), .val (.int x5), .val (.int (x1 &&& (1023 : Int32))), .val (.int (x2 &&& (1023 : Int32))), .val (.int (x3 &&& (2047 : Int32))), .val (.int (if (x5 &&& (1 : Int32)) = (0 : Int32) then (0 : Int32) else (1 : Int32))), .val (.int (((x5.toUInt32 >>> ((1 : Int32) &&& 31).toUInt32).toInt32) &&& (3 : Int32))), .val (.int (own_q x1 x2 x3 x4 x5)), .val (.ref b5), .val (.int (if (((fun _ => (0 : Int32))) (own_q x1 x2 x3 x4 x5)) = (0 : Int32) then (1 : Int32) else (0 : Int32))), .unset] [])) _
      refine XS.iload X20.here hx rfl (hb hby at_130) rfl ?_
      show Steps p.tables e below (T20.setTop (mkF m 132 #[.val (.int x1), .val (.int x2), .val (.int x3), .val (.int x4), .val (.int x5), .val (.int (x1 &&& (1023 : Int32))), .val (.int (x2 &&& (1023 : Int32))), .val (.int (x3 &&& (2047 : Int32))), .val (.int (if (x5 &&& (1 : Int32)) = (0 : Int32) then (0 : Int32) else (1 : Int32))), .val (.int (((x5.toUInt32 >>> ((1 : Int32) &&& 31).toUInt32).toInt32) &&& (3 : Int32))), .val (.int (own_q x1 x2 x3 x4 x5)), .val (.ref b5), .val (.int (if (((fun _ => (0 : Int32))) (own_q x1 x2 x3 x4 x5)) = (0 : Int32) then (1 : Int32) else (0 : Int32))), .unset] [(.int (own_q x1 x2 x3 x4 x5))])) _
      refine XS.iload X20.here hx rfl (hb hby at_132) rfl ?_
      show Steps p.tables e below (T20.setTop (mkF m 134 #[.val (.int x1), .val (.int x2), .val (.int x3), .val (.int x4), .val (.int x5), .val (.int (x1 &&& (1023 : Int32))), .val (.int (x2 &&& (1023 : Int32))), .val (.int (x3 &&& (2047 : Int32))), .val (.int (if (x5 &&& (1 : Int32)) = (0 : Int32) then (0 : Int32) else (1 : Int32))), .val (.int (((x5.toUInt32 >>> ((1 : Int32) &&& 31).toUInt32).toInt32) &&& (3 : Int32))), .val (.int (own_q x1 x2 x3 x4 x5)), .val (.ref b5), .val (.int (if (((fun _ => (0 : Int32))) (own_q x1 x2 x3 x4 x5)) = (0 : Int32) then (1 : Int32) else (0 : Int32))), .unset] [(.int (x2 &&& (1023 : Int32))), (.int (own_q x1 x2 x3 x4 x5))])) _
      refine own_dia (u := ((1 : Int32) : Int32)) (v := (if (own_q x1 x2 x3 x4 x5) = (x1 &&& (1023 : Int32)) then (if (x5 &&& (1 : Int32)) = (0 : Int32) then (1 : Int32) else (if (x3 &&& (2047 : Int32)) = (x1 &&& (1023 : Int32)) then (0 : Int32) else (1 : Int32))) else (0 : Int32))) ((own_q x1 x2 x3 x4 x5) = (x2 &&& (1023 : Int32))) (fun z21 => (mkF m 161 #[.val (.int x1), .val (.int x2), .val (.int x3), .val (.int x4), .val (.int x5), .val (.int (x1 &&& (1023 : Int32))), .val (.int (x2 &&& (1023 : Int32))), .val (.int (x3 &&& (2047 : Int32))), .val (.int (if (x5 &&& (1 : Int32)) = (0 : Int32) then (0 : Int32) else (1 : Int32))), .val (.int (((x5.toUInt32 >>> ((1 : Int32) &&& 31).toUInt32).toInt32) &&& (3 : Int32))), .val (.int (own_q x1 x2 x3 x4 x5)), .val (.ref b5), .val (.int (if (((fun _ => (0 : Int32))) (own_q x1 x2 x3 x4 x5)) = (0 : Int32) then (1 : Int32) else (0 : Int32))), .unset] [(.int z21)])) (fun hc21 k21 => ?_) (fun hc21 k21 => ?_) ?_
      · refine XS.icmpYes X20.here hx rfl (pc0 := 134) (pc' := 156) rfl (hb hby at_134) rfl (teq hc21).1 (by decide) (by decide) ?_
        show Steps p.tables e below (T20.setTop (mkF m 156 #[.val (.int x1), .val (.int x2), .val (.int x3), .val (.int x4), .val (.int x5), .val (.int (x1 &&& (1023 : Int32))), .val (.int (x2 &&& (1023 : Int32))), .val (.int (x3 &&& (2047 : Int32))), .val (.int (if (x5 &&& (1 : Int32)) = (0 : Int32) then (0 : Int32) else (1 : Int32))), .val (.int (((x5.toUInt32 >>> ((1 : Int32) &&& 31).toUInt32).toInt32) &&& (3 : Int32))), .val (.int (own_q x1 x2 x3 x4 x5)), .val (.ref b5), .val (.int (if (((fun _ => (0 : Int32))) (own_q x1 x2 x3 x4 x5)) = (0 : Int32) then (1 : Int32) else (0 : Int32))), .unset] [])) _
        refine XS.iconst X20.here hx rfl (hb hby at_156) ?_
        show Steps p.tables e below (T20.setTop (mkF m 157 #[.val (.int x1), .val (.int x2), .val (.int x3), .val (.int x4), .val (.int x5), .val (.int (x1 &&& (1023 : Int32))), .val (.int (x2 &&& (1023 : Int32))), .val (.int (x3 &&& (2047 : Int32))), .val (.int (if (x5 &&& (1 : Int32)) = (0 : Int32) then (0 : Int32) else (1 : Int32))), .val (.int (((x5.toUInt32 >>> ((1 : Int32) &&& 31).toUInt32).toInt32) &&& (3 : Int32))), .val (.int (own_q x1 x2 x3 x4 x5)), .val (.ref b5), .val (.int (if (((fun _ => (0 : Int32))) (own_q x1 x2 x3 x4 x5)) = (0 : Int32) then (1 : Int32) else (0 : Int32))), .unset] [(.int (1 : Int32))])) _
        refine XS.goto X20.here hx rfl (pc0 := 157) (pc' := 161) rfl (hb hby at_157) (by decide) (by decide) ?_
        exact k21
      · refine XS.icmpNo X20.here hx rfl (hb hby at_134) rfl (feq hc21).1 ?_
        show Steps p.tables e below (T20.setTop (mkF m 137 #[.val (.int x1), .val (.int x2), .val (.int x3), .val (.int x4), .val (.int x5), .val (.int (x1 &&& (1023 : Int32))), .val (.int (x2 &&& (1023 : Int32))), .val (.int (x3 &&& (2047 : Int32))), .val (.int (if (x5 &&& (1 : Int32)) = (0 : Int32) then (0 : Int32) else (1 : Int32))), .val (.int (((x5.toUInt32 >>> ((1 : Int32) &&& 31).toUInt32).toInt32) &&& (3 : Int32))), .val (.int (own_q x1 x2 x3 x4 x5)), .val (.ref b5), .val (.int (if (((fun _ => (0 : Int32))) (own_q x1 x2 x3 x4 x5)) = (0 : Int32) then (1 : Int32) else (0 : Int32))), .unset] [])) _
        refine XS.iload X20.here hx rfl (hb hby at_137) rfl ?_
        show Steps p.tables e below (T20.setTop (mkF m 139 #[.val (.int x1), .val (.int x2), .val (.int x3), .val (.int x4), .val (.int x5), .val (.int (x1 &&& (1023 : Int32))), .val (.int (x2 &&& (1023 : Int32))), .val (.int (x3 &&& (2047 : Int32))), .val (.int (if (x5 &&& (1 : Int32)) = (0 : Int32) then (0 : Int32) else (1 : Int32))), .val (.int (((x5.toUInt32 >>> ((1 : Int32) &&& 31).toUInt32).toInt32) &&& (3 : Int32))), .val (.int (own_q x1 x2 x3 x4 x5)), .val (.ref b5), .val (.int (if (((fun _ => (0 : Int32))) (own_q x1 x2 x3 x4 x5)) = (0 : Int32) then (1 : Int32) else (0 : Int32))), .unset] [(.int (own_q x1 x2 x3 x4 x5))])) _
        refine XS.iload X20.here hx rfl (hb hby at_139) rfl ?_
        show Steps p.tables e below (T20.setTop (mkF m 141 #[.val (.int x1), .val (.int x2), .val (.int x3), .val (.int x4), .val (.int x5), .val (.int (x1 &&& (1023 : Int32))), .val (.int (x2 &&& (1023 : Int32))), .val (.int (x3 &&& (2047 : Int32))), .val (.int (if (x5 &&& (1 : Int32)) = (0 : Int32) then (0 : Int32) else (1 : Int32))), .val (.int (((x5.toUInt32 >>> ((1 : Int32) &&& 31).toUInt32).toInt32) &&& (3 : Int32))), .val (.int (own_q x1 x2 x3 x4 x5)), .val (.ref b5), .val (.int (if (((fun _ => (0 : Int32))) (own_q x1 x2 x3 x4 x5)) = (0 : Int32) then (1 : Int32) else (0 : Int32))), .unset] [(.int (x1 &&& (1023 : Int32))), (.int (own_q x1 x2 x3 x4 x5))])) _
        refine own_dia (u := ((if (x5 &&& (1 : Int32)) = (0 : Int32) then (1 : Int32) else (if (x3 &&& (2047 : Int32)) = (x1 &&& (1023 : Int32)) then (0 : Int32) else (1 : Int32))) : Int32)) (v := (0 : Int32)) ((own_q x1 x2 x3 x4 x5) = (x1 &&& (1023 : Int32))) (fun z22 => (mkF m 161 #[.val (.int x1), .val (.int x2), .val (.int x3), .val (.int x4), .val (.int x5), .val (.int (x1 &&& (1023 : Int32))), .val (.int (x2 &&& (1023 : Int32))), .val (.int (x3 &&& (2047 : Int32))), .val (.int (if (x5 &&& (1 : Int32)) = (0 : Int32) then (0 : Int32) else (1 : Int32))), .val (.int (((x5.toUInt32 >>> ((1 : Int32) &&& 31).toUInt32).toInt32) &&& (3 : Int32))), .val (.int (own_q x1 x2 x3 x4 x5)), .val (.ref b5), .val (.int (if (((fun _ => (0 : Int32))) (own_q x1 x2 x3 x4 x5)) = (0 : Int32) then (1 : Int32) else (0 : Int32))), .unset] [(.int z22)])) (fun hc22 k22 => ?_) (fun hc22 k22 => ?_) ?_
        · refine XS.icmpNo X20.here hx rfl (hb hby at_141) rfl (teq hc22).2 ?_
          show Steps p.tables e below (T20.setTop (mkF m 144 #[.val (.int x1), .val (.int x2), .val (.int x3), .val (.int x4), .val (.int x5), .val (.int (x1 &&& (1023 : Int32))), .val (.int (x2 &&& (1023 : Int32))), .val (.int (x3 &&& (2047 : Int32))), .val (.int (if (x5 &&& (1 : Int32)) = (0 : Int32) then (0 : Int32) else (1 : Int32))), .val (.int (((x5.toUInt32 >>> ((1 : Int32) &&& 31).toUInt32).toInt32) &&& (3 : Int32))), .val (.int (own_q x1 x2 x3 x4 x5)), .val (.ref b5), .val (.int (if (((fun _ => (0 : Int32))) (own_q x1 x2 x3 x4 x5)) = (0 : Int32) then (1 : Int32) else (0 : Int32))), .unset] [])) _
          refine XS.iload X20.here hx rfl (hb hby at_144) rfl ?_
          show Steps p.tables e below (T20.setTop (mkF m 146 #[.val (.int x1), .val (.int x2), .val (.int x3), .val (.int x4), .val (.int x5), .val (.int (x1 &&& (1023 : Int32))), .val (.int (x2 &&& (1023 : Int32))), .val (.int (x3 &&& (2047 : Int32))), .val (.int (if (x5 &&& (1 : Int32)) = (0 : Int32) then (0 : Int32) else (1 : Int32))), .val (.int (((x5.toUInt32 >>> ((1 : Int32) &&& 31).toUInt32).toInt32) &&& (3 : Int32))), .val (.int (own_q x1 x2 x3 x4 x5)), .val (.ref b5), .val (.int (if (((fun _ => (0 : Int32))) (own_q x1 x2 x3 x4 x5)) = (0 : Int32) then (1 : Int32) else (0 : Int32))), .unset] [(.int (if (x5 &&& (1 : Int32)) = (0 : Int32) then (0 : Int32) else (1 : Int32)))])) _
          refine own_dia (u := ((1 : Int32) : Int32)) (v := (if (x3 &&& (2047 : Int32)) = (x1 &&& (1023 : Int32)) then (0 : Int32) else (1 : Int32))) ((x5 &&& (1 : Int32)) = (0 : Int32)) (fun z23 => (mkF m 161 #[.val (.int x1), .val (.int x2), .val (.int x3), .val (.int x4), .val (.int x5), .val (.int (x1 &&& (1023 : Int32))), .val (.int (x2 &&& (1023 : Int32))), .val (.int (x3 &&& (2047 : Int32))), .val (.int (if (x5 &&& (1 : Int32)) = (0 : Int32) then (0 : Int32) else (1 : Int32))), .val (.int (((x5.toUInt32 >>> ((1 : Int32) &&& 31).toUInt32).toInt32) &&& (3 : Int32))), .val (.int (own_q x1 x2 x3 x4 x5)), .val (.ref b5), .val (.int (if (((fun _ => (0 : Int32))) (own_q x1 x2 x3 x4 x5)) = (0 : Int32) then (1 : Int32) else (0 : Int32))), .unset] [(.int z23)])) (fun hc23 k23 => ?_) (fun hc23 k23 => ?_) ?_
          · refine XS.ifYes X20.here hx rfl (pc0 := 146) (pc' := 156) rfl (hb hby at_146) rfl (own_ct hc23).2 (by decide) (by decide) ?_
            show Steps p.tables e below (T20.setTop (mkF m 156 #[.val (.int x1), .val (.int x2), .val (.int x3), .val (.int x4), .val (.int x5), .val (.int (x1 &&& (1023 : Int32))), .val (.int (x2 &&& (1023 : Int32))), .val (.int (x3 &&& (2047 : Int32))), .val (.int (if (x5 &&& (1 : Int32)) = (0 : Int32) then (0 : Int32) else (1 : Int32))), .val (.int (((x5.toUInt32 >>> ((1 : Int32) &&& 31).toUInt32).toInt32) &&& (3 : Int32))), .val (.int (own_q x1 x2 x3 x4 x5)), .val (.ref b5), .val (.int (if (((fun _ => (0 : Int32))) (own_q x1 x2 x3 x4 x5)) = (0 : Int32) then (1 : Int32) else (0 : Int32))), .unset] [])) _
            refine XS.iconst X20.here hx rfl (hb hby at_156) ?_
            show Steps p.tables e below (T20.setTop (mkF m 157 #[.val (.int x1), .val (.int x2), .val (.int x3), .val (.int x4), .val (.int x5), .val (.int (x1 &&& (1023 : Int32))), .val (.int (x2 &&& (1023 : Int32))), .val (.int (x3 &&& (2047 : Int32))), .val (.int (if (x5 &&& (1 : Int32)) = (0 : Int32) then (0 : Int32) else (1 : Int32))), .val (.int (((x5.toUInt32 >>> ((1 : Int32) &&& 31).toUInt32).toInt32) &&& (3 : Int32))), .val (.int (own_q x1 x2 x3 x4 x5)), .val (.ref b5), .val (.int (if (((fun _ => (0 : Int32))) (own_q x1 x2 x3 x4 x5)) = (0 : Int32) then (1 : Int32) else (0 : Int32))), .unset] [(.int (1 : Int32))])) _
            refine XS.goto X20.here hx rfl (pc0 := 157) (pc' := 161) rfl (hb hby at_157) (by decide) (by decide) ?_
            exact k23
          · refine XS.ifNo X20.here hx rfl (hb hby at_146) rfl (own_cf hc23).2 ?_
            show Steps p.tables e below (T20.setTop (mkF m 149 #[.val (.int x1), .val (.int x2), .val (.int x3), .val (.int x4), .val (.int x5), .val (.int (x1 &&& (1023 : Int32))), .val (.int (x2 &&& (1023 : Int32))), .val (.int (x3 &&& (2047 : Int32))), .val (.int (if (x5 &&& (1 : Int32)) = (0 : Int32) then (0 : Int32) else (1 : Int32))), .val (.int (((x5.toUInt32 >>> ((1 : Int32) &&& 31).toUInt32).toInt32) &&& (3 : Int32))), .val (.int (own_q x1 x2 x3 x4 x5)), .val (.ref b5), .val (.int (if (((fun _ => (0 : Int32))) (own_q x1 x2 x3 x4 x5)) = (0 : Int32) then (1 : Int32) else (0 : Int32))), .unset] [])) _
            refine XS.iload X20.here hx rfl (hb hby at_149) rfl ?_
            show Steps p.tables e below (T20.setTop (mkF m 151 #[.val (.int x1), .val (.int x2), .val (.int x3), .val (.int x4), .val (.int x5), .val (.int (x1 &&& (1023 : Int32))), .val (.int (x2 &&& (1023 : Int32))), .val (.int (x3 &&& (2047 : Int32))), .val (.int (if (x5 &&& (1 : Int32)) = (0 : Int32) then (0 : Int32) else (1 : Int32))), .val (.int (((x5.toUInt32 >>> ((1 : Int32) &&& 31).toUInt32).toInt32) &&& (3 : Int32))), .val (.int (own_q x1 x2 x3 x4 x5)), .val (.ref b5), .val (.int (if (((fun _ => (0 : Int32))) (own_q x1 x2 x3 x4 x5)) = (0 : Int32) then (1 : Int32) else (0 : Int32))), .unset] [(.int (x3 &&& (2047 : Int32)))])) _
            refine XS.iload X20.here hx rfl (hb hby at_151) rfl ?_
            show Steps p.tables e below (T20.setTop (mkF m 153 #[.val (.int x1), .val (.int x2), .val (.int x3), .val (.int x4), .val (.int x5), .val (.int (x1 &&& (1023 : Int32))), .val (.int (x2 &&& (1023 : Int32))), .val (.int (x3 &&& (2047 : Int32))), .val (.int (if (x5 &&& (1 : Int32)) = (0 : Int32) then (0 : Int32) else (1 : Int32))), .val (.int (((x5.toUInt32 >>> ((1 : Int32) &&& 31).toUInt32).toInt32) &&& (3 : Int32))), .val (.int (own_q x1 x2 x3 x4 x5)), .val (.ref b5), .val (.int (if (((fun _ => (0 : Int32))) (own_q x1 x2 x3 x4 x5)) = (0 : Int32) then (1 : Int32) else (0 : Int32))), .unset] [(.int (x1 &&& (1023 : Int32))), (.int (x3 &&& (2047 : Int32)))])) _
            refine own_dia (u := ((0 : Int32) : Int32)) (v := (1 : Int32)) ((x3 &&& (2047 : Int32)) = (x1 &&& (1023 : Int32))) (fun z24 => (mkF m 161 #[.val (.int x1), .val (.int x2), .val (.int x3), .val (.int x4), .val (.int x5), .val (.int (x1 &&& (1023 : Int32))), .val (.int (x2 &&& (1023 : Int32))), .val (.int (x3 &&& (2047 : Int32))), .val (.int (if (x5 &&& (1 : Int32)) = (0 : Int32) then (0 : Int32) else (1 : Int32))), .val (.int (((x5.toUInt32 >>> ((1 : Int32) &&& 31).toUInt32).toInt32) &&& (3 : Int32))), .val (.int (own_q x1 x2 x3 x4 x5)), .val (.ref b5), .val (.int (if (((fun _ => (0 : Int32))) (own_q x1 x2 x3 x4 x5)) = (0 : Int32) then (1 : Int32) else (0 : Int32))), .unset] [(.int z24)])) (fun hc24 k24 => ?_) (fun hc24 k24 => ?_) ?_
            · refine XS.icmpYes X20.here hx rfl (pc0 := 153) (pc' := 160) rfl (hb hby at_153) rfl (teq hc24).1 (by decide) (by decide) ?_
              show Steps p.tables e below (T20.setTop (mkF m 160 #[.val (.int x1), .val (.int x2), .val (.int x3), .val (.int x4), .val (.int x5), .val (.int (x1 &&& (1023 : Int32))), .val (.int (x2 &&& (1023 : Int32))), .val (.int (x3 &&& (2047 : Int32))), .val (.int (if (x5 &&& (1 : Int32)) = (0 : Int32) then (0 : Int32) else (1 : Int32))), .val (.int (((x5.toUInt32 >>> ((1 : Int32) &&& 31).toUInt32).toInt32) &&& (3 : Int32))), .val (.int (own_q x1 x2 x3 x4 x5)), .val (.ref b5), .val (.int (if (((fun _ => (0 : Int32))) (own_q x1 x2 x3 x4 x5)) = (0 : Int32) then (1 : Int32) else (0 : Int32))), .unset] [])) _
              refine XS.iconst X20.here hx rfl (hb hby at_160) ?_
              exact k24
            · refine XS.icmpNo X20.here hx rfl (hb hby at_153) rfl (feq hc24).1 ?_
              show Steps p.tables e below (T20.setTop (mkF m 156 #[.val (.int x1), .val (.int x2), .val (.int x3), .val (.int x4), .val (.int x5), .val (.int (x1 &&& (1023 : Int32))), .val (.int (x2 &&& (1023 : Int32))), .val (.int (x3 &&& (2047 : Int32))), .val (.int (if (x5 &&& (1 : Int32)) = (0 : Int32) then (0 : Int32) else (1 : Int32))), .val (.int (((x5.toUInt32 >>> ((1 : Int32) &&& 31).toUInt32).toInt32) &&& (3 : Int32))), .val (.int (own_q x1 x2 x3 x4 x5)), .val (.ref b5), .val (.int (if (((fun _ => (0 : Int32))) (own_q x1 x2 x3 x4 x5)) = (0 : Int32) then (1 : Int32) else (0 : Int32))), .unset] [])) _
              refine XS.iconst X20.here hx rfl (hb hby at_156) ?_
              show Steps p.tables e below (T20.setTop (mkF m 157 #[.val (.int x1), .val (.int x2), .val (.int x3), .val (.int x4), .val (.int x5), .val (.int (x1 &&& (1023 : Int32))), .val (.int (x2 &&& (1023 : Int32))), .val (.int (x3 &&& (2047 : Int32))), .val (.int (if (x5 &&& (1 : Int32)) = (0 : Int32) then (0 : Int32) else (1 : Int32))), .val (.int (((x5.toUInt32 >>> ((1 : Int32) &&& 31).toUInt32).toInt32) &&& (3 : Int32))), .val (.int (own_q x1 x2 x3 x4 x5)), .val (.ref b5), .val (.int (if (((fun _ => (0 : Int32))) (own_q x1 x2 x3 x4 x5)) = (0 : Int32) then (1 : Int32) else (0 : Int32))), .unset] [(.int (1 : Int32))])) _
              refine XS.goto X20.here hx rfl (pc0 := 157) (pc' := 161) rfl (hb hby at_157) (by decide) (by decide) ?_
              exact k24
            -- meets at 161
            exact k23
          -- meets at 161
          exact k22
        · refine XS.icmpYes X20.here hx rfl (pc0 := 141) (pc' := 160) rfl (hb hby at_141) rfl (feq hc22).2 (by decide) (by decide) ?_
          show Steps p.tables e below (T20.setTop (mkF m 160 #[.val (.int x1), .val (.int x2), .val (.int x3), .val (.int x4), .val (.int x5), .val (.int (x1 &&& (1023 : Int32))), .val (.int (x2 &&& (1023 : Int32))), .val (.int (x3 &&& (2047 : Int32))), .val (.int (if (x5 &&& (1 : Int32)) = (0 : Int32) then (0 : Int32) else (1 : Int32))), .val (.int (((x5.toUInt32 >>> ((1 : Int32) &&& 31).toUInt32).toInt32) &&& (3 : Int32))), .val (.int (own_q x1 x2 x3 x4 x5)), .val (.ref b5), .val (.int (if (((fun _ => (0 : Int32))) (own_q x1 x2 x3 x4 x5)) = (0 : Int32) then (1 : Int32) else (0 : Int32))), .unset] [])) _
          refine XS.iconst X20.here hx rfl (hb hby at_160) ?_
          exact k22
        -- meets at 161
        exact k21
      -- meets at 161
      show Steps p.tables e below (T20.setTop (mkF m 161 #[.val (.int x1), .val (.int x2), .val (.int x3), .val (.int x4), .val (.int x5), .val (.int (x1 &&& (1023 : Int32))), .val (.int (x2 &&& (1023 : Int32))), .val (.int (x3 &&& (2047 : Int32))), .val (.int (if (x5 &&& (1 : Int32)) = (0 : Int32) then (0 : Int32) else (1 : Int32))), .val (.int (((x5.toUInt32 >>> ((1 : Int32) &&& 31).toUInt32).toInt32) &&& (3 : Int32))), .val (.int (own_q x1 x2 x3 x4 x5)), .val (.ref b5), .val (.int (if (((fun _ => (0 : Int32))) (own_q x1 x2 x3 x4 x5)) = (0 : Int32) then (1 : Int32) else (0 : Int32))), .unset] [(.int (if (own_q x1 x2 x3 x4 x5) = (x2 &&& (1023 : Int32)) then (1 : Int32) else (if (own_q x1 x2 x3 x4 x5) = (x1 &&& (1023 : Int32)) then (if (x5 &&& (1 : Int32)) = (0 : Int32) then (1 : Int32) else (if (x3 &&& (2047 : Int32)) = (x1 &&& (1023 : Int32)) then (0 : Int32) else (1 : Int32))) else (0 : Int32))))])) _
      refine XS.istore X20.here hx rfl (hb hby at_161) rfl (l' := #[.val (.int x1), .val (.int x2), .val (.int x3), .val (.int x4), .val (.int x5), .val (.int (x1 &&& (1023 : Int32))), .val (.int (x2 &&& (1023 : Int32))), .val (.int (x3 &&& (2047 : Int32))), .val (.int (if (x5 &&& (1 : Int32)) = (0 : Int32) then (0 : Int32) else (1 : Int32))), .val (.int (((x5.toUInt32 >>> ((1 : Int32) &&& 31).toUInt32).toInt32) &&& (3 : Int32))), .val (.int (own_q x1 x2 x3 x4 x5)), .val (.ref b5), .val (.int (if (((fun _ => (0 : Int32))) (own_q x1 x2 x3 x4 x5)) = (0 : Int32) then (1 : Int32) else (0 : Int32))), .val (.int (if (own_q x1 x2 x3 x4 x5) = (x2 &&& (1023 : Int32)) then (1 : Int32) else (if (own_q x1 x2 x3 x4 x5) = (x1 &&& (1023 : Int32)) then (if (x5 &&& (1 : Int32)) = (0 : Int32) then (1 : Int32) else (if (x3 &&& (2047 : Int32)) = (x1 &&& (1023 : Int32)) then (0 : Int32) else (1 : Int32))) else (0 : Int32))))]) rfl ?_
      show Steps p.tables e below (T20.setTop (mkF m 163 #[.val (.int x1), .val (.int x2), .val (.int x3), .val (.int x4), .val (.int x5), .val (.int (x1 &&& (1023 : Int32))), .val (.int (x2 &&& (1023 : Int32))), .val (.int (x3 &&& (2047 : Int32))), .val (.int (if (x5 &&& (1 : Int32)) = (0 : Int32) then (0 : Int32) else (1 : Int32))), .val (.int (((x5.toUInt32 >>> ((1 : Int32) &&& 31).toUInt32).toInt32) &&& (3 : Int32))), .val (.int (own_q x1 x2 x3 x4 x5)), .val (.ref b5), .val (.int (if (((fun _ => (0 : Int32))) (own_q x1 x2 x3 x4 x5)) = (0 : Int32) then (1 : Int32) else (0 : Int32))), .val (.int (if (own_q x1 x2 x3 x4 x5) = (x2 &&& (1023 : Int32)) then (1 : Int32) else (if (own_q x1 x2 x3 x4 x5) = (x1 &&& (1023 : Int32)) then (if (x5 &&& (1 : Int32)) = (0 : Int32) then (1 : Int32) else (if (x3 &&& (2047 : Int32)) = (x1 &&& (1023 : Int32)) then (0 : Int32) else (1 : Int32))) else (0 : Int32))))] [])) _
      refine XS.iload X20.here hx rfl (hb hby at_163) rfl ?_
      show Steps p.tables e below (T20.setTop (mkF m 165 #[.val (.int x1), .val (.int x2), .val (.int x3), .val (.int x4), .val (.int x5), .val (.int (x1 &&& (1023 : Int32))), .val (.int (x2 &&& (1023 : Int32))), .val (.int (x3 &&& (2047 : Int32))), .val (.int (if (x5 &&& (1 : Int32)) = (0 : Int32) then (0 : Int32) else (1 : Int32))), .val (.int (((x5.toUInt32 >>> ((1 : Int32) &&& 31).toUInt32).toInt32) &&& (3 : Int32))), .val (.int (own_q x1 x2 x3 x4 x5)), .val (.ref b5), .val (.int (if (((fun _ => (0 : Int32))) (own_q x1 x2 x3 x4 x5)) = (0 : Int32) then (1 : Int32) else (0 : Int32))), .val (.int (if (own_q x1 x2 x3 x4 x5) = (x2 &&& (1023 : Int32)) then (1 : Int32) else (if (own_q x1 x2 x3 x4 x5) = (x1 &&& (1023 : Int32)) then (if (x5 &&& (1 : Int32)) = (0 : Int32) then (1 : Int32) else (if (x3 &&& (2047 : Int32)) = (x1 &&& (1023 : Int32)) then (0 : Int32) else (1 : Int32))) else (0 : Int32))))] [(.int (if (((fun _ => (0 : Int32))) (own_q x1 x2 x3 x4 x5)) = (0 : Int32) then (1 : Int32) else (0 : Int32)))])) _
      refine XS.ifNo X20.here hx rfl (hb hby at_165) rfl (own_bt (rfl : (((fun _ => (0 : Int32))) (own_q x1 x2 x3 x4 x5)) = (0 : Int32))).2 ?_
      show Steps p.tables e below (T20.setTop (mkF m 168 #[.val (.int x1), .val (.int x2), .val (.int x3), .val (.int x4), .val (.int x5), .val (.int (x1 &&& (1023 : Int32))), .val (.int (x2 &&& (1023 : Int32))), .val (.int (x3 &&& (2047 : Int32))), .val (.int (if (x5 &&& (1 : Int32)) = (0 : Int32) then (0 : Int32) else (1 : Int32))), .val (.int (((x5.toUInt32 >>> ((1 : Int32) &&& 31).toUInt32).toInt32) &&& (3 : Int32))), .val (.int (own_q x1 x2 x3 x4 x5)), .val (.ref b5), .val (.int (if (((fun _ => (0 : Int32))) (own_q x1 x2 x3 x4 x5)) = (0 : Int32) then (1 : Int32) else (0 : Int32))), .val (.int (if (own_q x1 x2 x3 x4 x5) = (x2 &&& (1023 : Int32)) then (1 : Int32) else (if (own_q x1 x2 x3 x4 x5) = (x1 &&& (1023 : Int32)) then (if (x5 &&& (1 : Int32)) = (0 : Int32) then (1 : Int32) else (if (x3 &&& (2047 : Int32)) = (x1 &&& (1023 : Int32)) then (0 : Int32) else (1 : Int32))) else (0 : Int32))))] [])) _
      refine XS.aload X20.here hx rfl (hb hby at_168) rfl rfl ?_
      show Steps p.tables e below (T20.setTop (mkF m 170 #[.val (.int x1), .val (.int x2), .val (.int x3), .val (.int x4), .val (.int x5), .val (.int (x1 &&& (1023 : Int32))), .val (.int (x2 &&& (1023 : Int32))), .val (.int (x3 &&& (2047 : Int32))), .val (.int (if (x5 &&& (1 : Int32)) = (0 : Int32) then (0 : Int32) else (1 : Int32))), .val (.int (((x5.toUInt32 >>> ((1 : Int32) &&& 31).toUInt32).toInt32) &&& (3 : Int32))), .val (.int (own_q x1 x2 x3 x4 x5)), .val (.ref b5), .val (.int (if (((fun _ => (0 : Int32))) (own_q x1 x2 x3 x4 x5)) = (0 : Int32) then (1 : Int32) else (0 : Int32))), .val (.int (if (own_q x1 x2 x3 x4 x5) = (x2 &&& (1023 : Int32)) then (1 : Int32) else (if (own_q x1 x2 x3 x4 x5) = (x1 &&& (1023 : Int32)) then (if (x5 &&& (1 : Int32)) = (0 : Int32) then (1 : Int32) else (if (x3 &&& (2047 : Int32)) = (x1 &&& (1023 : Int32)) then (0 : Int32) else (1 : Int32))) else (0 : Int32))))] [(.ref b5)])) _
      refine XS.iload X20.here hx rfl (hb hby at_170) rfl ?_
      show Steps p.tables e below (T20.setTop (mkF m 172 #[.val (.int x1), .val (.int x2), .val (.int x3), .val (.int x4), .val (.int x5), .val (.int (x1 &&& (1023 : Int32))), .val (.int (x2 &&& (1023 : Int32))), .val (.int (x3 &&& (2047 : Int32))), .val (.int (if (x5 &&& (1 : Int32)) = (0 : Int32) then (0 : Int32) else (1 : Int32))), .val (.int (((x5.toUInt32 >>> ((1 : Int32) &&& 31).toUInt32).toInt32) &&& (3 : Int32))), .val (.int (own_q x1 x2 x3 x4 x5)), .val (.ref b5), .val (.int (if (((fun _ => (0 : Int32))) (own_q x1 x2 x3 x4 x5)) = (0 : Int32) then (1 : Int32) else (0 : Int32))), .val (.int (if (own_q x1 x2 x3 x4 x5) = (x2 &&& (1023 : Int32)) then (1 : Int32) else (if (own_q x1 x2 x3 x4 x5) = (x1 &&& (1023 : Int32)) then (if (x5 &&& (1 : Int32)) = (0 : Int32) then (1 : Int32) else (if (x3 &&& (2047 : Int32)) = (x1 &&& (1023 : Int32)) then (0 : Int32) else (1 : Int32))) else (0 : Int32))))] [(.int (own_q x1 x2 x3 x4 x5)), (.ref b5)])) _
      refine st25.trans ?_
      show Steps p.tables e below (T25.setTop (mkF m 175 #[.val (.int x1), .val (.int x2), .val (.int x3), .val (.int x4), .val (.int x5), .val (.int (x1 &&& (1023 : Int32))), .val (.int (x2 &&& (1023 : Int32))), .val (.int (x3 &&& (2047 : Int32))), .val (.int (if (x5 &&& (1 : Int32)) = (0 : Int32) then (0 : Int32) else (1 : Int32))), .val (.int (((x5.toUInt32 >>> ((1 : Int32) &&& 31).toUInt32).toInt32) &&& (3 : Int32))), .val (.int (own_q x1 x2 x3 x4 x5)), .val (.ref b5), .val (.int (if (((fun _ => (0 : Int32))) (own_q x1 x2 x3 x4 x5)) = (0 : Int32) then (1 : Int32) else (0 : Int32))), .val (.int (if (own_q x1 x2 x3 x4 x5) = (x2 &&& (1023 : Int32)) then (1 : Int32) else (if (own_q x1 x2 x3 x4 x5) = (x1 &&& (1023 : Int32)) then (if (x5 &&& (1 : Int32)) = (0 : Int32) then (1 : Int32) else (if (x3 &&& (2047 : Int32)) = (x1 &&& (1023 : Int32)) then (0 : Int32) else (1 : Int32))) else (0 : Int32))))] [(.int (((fun q => if q = (x2 &&& (1023 : Int32)) then (1 : Int32) else ((fun q => if q = (x3 &&& (2047 : Int32)) then (0 : Int32) else ((fun q => if q = (x1 &&& (1023 : Int32)) then (1 : Int32) else ((fun _ => (0 : Int32))) q)) q)) q)) (own_q x1 x2 x3 x4 x5)))])) _
      refine XS.iload X25.here hx rfl (hb hby at_175) rfl ?_
      show Steps p.tables e below (T25.setTop (mkF m 177 #[.val (.int x1), .val (.int x2), .val (.int x3), .val (.int x4), .val (.int x5), .val (.int (x1 &&& (1023 : Int32))), .val (.int (x2 &&& (1023 : Int32))), .val (.int (x3 &&& (2047 : Int32))), .val (.int (if (x5 &&& (1 : Int32)) = (0 : Int32) then (0 : Int32) else (1 : Int32))), .val (.int (((x5.toUInt32 >>> ((1 : Int32) &&& 31).toUInt32).toInt32) &&& (3 : Int32))), .val (.int (own_q x1 x2 x3 x4 x5)), .val (.ref b5), .val (.int (if (((fun _ => (0 : Int32))) (own_q x1 x2 x3 x4 x5)) = (0 : Int32) then (1 : Int32) else (0 : Int32))), .val (.int (if (own_q x1 x2 x3 x4 x5) = (x2 &&& (1023 : Int32)) then (1 : Int32) else (if (own_q x1 x2 x3 x4 x5) = (x1 &&& (1023 : Int32)) then (if (x5 &&& (1 : Int32)) = (0 : Int32) then (1 : Int32) else (if (x3 &&& (2047 : Int32)) = (x1 &&& (1023 : Int32)) then (0 : Int32) else (1 : Int32))) else (0 : Int32))))] [(.int (if (own_q x1 x2 x3 x4 x5) = (x2 &&& (1023 : Int32)) then (1 : Int32) else (if (own_q x1 x2 x3 x4 x5) = (x1 &&& (1023 : Int32)) then (if (x5 &&& (1 : Int32)) = (0 : Int32) then (1 : Int32) else (if (x3 &&& (2047 : Int32)) = (x1 &&& (1023 : Int32)) then (0 : Int32) else (1 : Int32))) else (0 : Int32)))), (.int (((fun q => if q = (x2 &&& (1023 : Int32)) then (1 : Int32) else ((fun q => if q = (x3 &&& (2047 : Int32)) then (0 : Int32) else ((fun q => if q = (x1 &&& (1023 : Int32)) then (1 : Int32) else ((fun _ => (0 : Int32))) q)) q)) q)) (own_q x1 x2 x3 x4 x5)))])) _
      refine own_dia (u := ((1 : Int32) : Int32)) (v := (0 : Int32)) ((((fun q => if q = (x2 &&& (1023 : Int32)) then (1 : Int32) else ((fun q => if q = (x3 &&& (2047 : Int32)) then (0 : Int32) else ((fun q => if q = (x1 &&& (1023 : Int32)) then (1 : Int32) else ((fun _ => (0 : Int32))) q)) q)) q)) (own_q x1 x2 x3 x4 x5)) = (if (own_q x1 x2 x3 x4 x5) = (x2 &&& (1023 : Int32)) then (1 : Int32) else (if (own_q x1 x2 x3 x4 x5) = (x1 &&& (1023 : Int32)) then (if (x5 &&& (1 : Int32)) = (0 : Int32) then (1 : Int32) else (if (x3 &&& (2047 : Int32)) = (x1 &&& (1023 : Int32)) then (0 : Int32) else (1 : Int32))) else (0 : Int32)))) (fun z26 => (mkF m 185 #[.val (.int x1), .val (.int x2), .val (.int x3), .val (.int x4), .val (.int x5), .val (.int (x1 &&& (1023 : Int32))), .val (.int (x2 &&& (1023 : Int32))), .val (.int (x3 &&& (2047 : Int32))), .val (.int (if (x5 &&& (1 : Int32)) = (0 : Int32) then (0 : Int32) else (1 : Int32))), .val (.int (((x5.toUInt32 >>> ((1 : Int32) &&& 31).toUInt32).toInt32) &&& (3 : Int32))), .val (.int (own_q x1 x2 x3 x4 x5)), .val (.ref b5), .val (.int (if (((fun _ => (0 : Int32))) (own_q x1 x2 x3 x4 x5)) = (0 : Int32) then (1 : Int32) else (0 : Int32))), .val (.int (if (own_q x1 x2 x3 x4 x5) = (x2 &&& (1023 : Int32)) then (1 : Int32) else (if (own_q x1 x2 x3 x4 x5) = (x1 &&& (1023 : Int32)) then (if (x5 &&& (1 : Int32)) = (0 : Int32) then (1 : Int32) else (if (x3 &&& (2047 : Int32)) = (x1 &&& (1023 : Int32)) then (0 : Int32) else (1 : Int32))) else (0 : Int32))))] [(.int z26)])) (fun hc26 k26 => ?_) (fun hc26 k26 => ?_) ?_
      · refine XS.icmpNo X25.here hx rfl (hb hby at_177) rfl (teq hc26).2 ?_
        show Steps p.tables e below (T25.setTop (mkF m 180 #[.val (.int x1), .val (.int x2), .val (.int x3), .val (.int x4), .val (.int x5), .val (.int (x1 &&& (1023 : Int32))), .val (.int (x2 &&& (1023 : Int32))), .val (.int (x3 &&& (2047 : Int32))), .val (.int (if (x5 &&& (1 : Int32)) = (0 : Int32) then (0 : Int32) else (1 : Int32))), .val (.int (((x5.toUInt32 >>> ((1 : Int32) &&& 31).toUInt32).toInt32) &&& (3 : Int32))), .val (.int (own_q x1 x2 x3 x4 x5)), .val (.ref b5), .val (.int (if (((fun _ => (0 : Int32))) (own_q x1 x2 x3 x4 x5)) = (0 : Int32) then (1 : Int32) else (0 : Int32))), .val (.int (if (own_q x1 x2 x3 x4 x5) = (x2 &&& (1023 : Int32)) then (1 : Int32) else (if (own_q x1 x2 x3 x4 x5) = (x1 &&& (1023 : Int32)) then (if (x5 &&& (1 : Int32)) = (0 : Int32) then (1 : Int32) else (if (x3 &&& (2047 : Int32)) = (x1 &&& (1023 : Int32)) then (0 : Int32) else (1 : Int32))) else (0 : Int32))))] [])) _
        refine XS.iconst X25.here hx rfl (hb hby at_180) ?_
        show Steps p.tables e below (T25.setTop (mkF m 181 #[.val (.int x1), .val (.int x2), .val (.int x3), .val (.int x4), .val (.int x5), .val (.int (x1 &&& (1023 : Int32))), .val (.int (x2 &&& (1023 : Int32))), .val (.int (x3 &&& (2047 : Int32))), .val (.int (if (x5 &&& (1 : Int32)) = (0 : Int32) then (0 : Int32) else (1 : Int32))), .val (.int (((x5.toUInt32 >>> ((1 : Int32) &&& 31).toUInt32).toInt32) &&& (3 : Int32))), .val (.int (own_q x1 x2 x3 x4 x5)), .val (.ref b5), .val (.int (if (((fun _ => (0 : Int32))) (own_q x1 x2 x3 x4 x5)) = (0 : Int32) then (1 : Int32) else (0 : Int32))), .val (.int (if (own_q x1 x2 x3 x4 x5) = (x2 &&& (1023 : Int32)) then (1 : Int32) else (if (own_q x1 x2 x3 x4 x5) = (x1 &&& (1023 : Int32)) then (if (x5 &&& (1 : Int32)) = (0 : Int32) then (1 : Int32) else (if (x3 &&& (2047 : Int32)) = (x1 &&& (1023 : Int32)) then (0 : Int32) else (1 : Int32))) else (0 : Int32))))] [(.int (1 : Int32))])) _
        refine XS.goto X25.here hx rfl (pc0 := 181) (pc' := 185) rfl (hb hby at_181) (by decide) (by decide) ?_
        exact k26
      · refine XS.icmpYes X25.here hx rfl (pc0 := 177) (pc' := 184) rfl (hb hby at_177) rfl (feq hc26).2 (by decide) (by decide) ?_
        show Steps p.tables e below (T25.setTop (mkF m 184 #[.val (.int x1), .val (.int x2), .val (.int x3), .val (.int x4), .val (.int x5), .val (.int (x1 &&& (1023 : Int32))), .val (.int (x2 &&& (1023 : Int32))), .val (.int (x3 &&& (2047 : Int32))), .val (.int (if (x5 &&& (1 : Int32)) = (0 : Int32) then (0 : Int32) else (1 : Int32))), .val (.int (((x5.toUInt32 >>> ((1 : Int32) &&& 31).toUInt32).toInt32) &&& (3 : Int32))), .val (.int (own_q x1 x2 x3 x4 x5)), .val (.ref b5), .val (.int (if (((fun _ => (0 : Int32))) (own_q x1 x2 x3 x4 x5)) = (0 : Int32) then (1 : Int32) else (0 : Int32))), .val (.int (if (own_q x1 x2 x3 x4 x5) = (x2 &&& (1023 : Int32)) then (1 : Int32) else (if (own_q x1 x2 x3 x4 x5) = (x1 &&& (1023 : Int32)) then (if (x5 &&& (1 : Int32)) = (0 : Int32) then (1 : Int32) else (if (x3 &&& (2047 : Int32)) = (x1 &&& (1023 : Int32)) then (0 : Int32) else (1 : Int32))) else (0 : Int32))))] [])) _
        refine XS.iconst X25.here hx rfl (hb hby at_184) ?_
        exact k26
      -- meets at 185
      show Steps p.tables e below (T25.setTop (mkF m 185 #[.val (.int x1), .val (.int x2), .val (.int x3), .val (.int x4), .val (.int x5), .val (.int (x1 &&& (1023 : Int32))), .val (.int (x2 &&& (1023 : Int32))), .val (.int (x3 &&& (2047 : Int32))), .val (.int (if (x5 &&& (1 : Int32)) = (0 : Int32) then (0 : Int32) else (1 : Int32))), .val (.int (((x5.toUInt32 >>> ((1 : Int32) &&& 31).toUInt32).toInt32) &&& (3 : Int32))), .val (.int (own_q x1 x2 x3 x4 x5)), .val (.ref b5), .val (.int (if (((fun _ => (0 : Int32))) (own_q x1 x2 x3 x4 x5)) = (0 : Int32) then (1 : Int32) else (0 : Int32))), .val (.int (if (own_q x1 x2 x3 x4 x5) = (x2 &&& (1023 : Int32)) then (1 : Int32) else (if (own_q x1 x2 x3 x4 x5) = (x1 &&& (1023 : Int32)) then (if (x5 &&& (1 : Int32)) = (0 : Int32) then (1 : Int32) else (if (x3 &&& (2047 : Int32)) = (x1 &&& (1023 : Int32)) then (0 : Int32) else (1 : Int32))) else (0 : Int32))))] [(.int (if (((fun q => if q = (x2 &&& (1023 : Int32)) then (1 : Int32) else ((fun q => if q = (x3 &&& (2047 : Int32)) then (0 : Int32) else ((fun q => if q = (x1 &&& (1023 : Int32)) then (1 : Int32) else ((fun _ => (0 : Int32))) q)) q)) q)) (own_q x1 x2 x3 x4 x5)) = (if (own_q x1 x2 x3 x4 x5) = (x2 &&& (1023 : Int32)) then (1 : Int32) else (if (own_q x1 x2 x3 x4 x5) = (x1 &&& (1023 : Int32)) then (if (x5 &&& (1 : Int32)) = (0 : Int32) then (1 : Int32) else (if (x3 &&& (2047 : Int32)) = (x1 &&& (1023 : Int32)) then (0 : Int32) else (1 : Int32))) else (0 : Int32))) then (1 : Int32) else (0 : Int32)))])) _
      exact retN X25 hx (t := .boolean) Bd.returns (by simp) (hb hby at_185) (by rw [own_nb (own_b01 (Or.inr rfl) (Or.inl rfl))]; exact hr)
    · show Q0 Z x1 x2 x3 x4 x5 h0 n0 _ T25.heap _
      rw [e25]
      exact ⟨(congrArg (fun z => some (Value.int z)) (Eq.symm (if_neg hb11))), N25⟩

theorem own_core (a b c q z : Int32) : (if z = (0 : Int32) then (if ((fun q => if q = b then (1 : Int32) else ((fun q => if q = a then (1 : Int32) else ((fun _ => (0 : Int32))) q)) q)) q = (if q = b then (1 : Int32) else (if q = a then (if z = (0 : Int32) then (1 : Int32) else (if c = a then (0 : Int32) else (1 : Int32))) else (0 : Int32))) then (1 : Int32) else (0 : Int32)) else (if ((fun q => if q = b then (1 : Int32) else ((fun q => if q = c then (0 : Int32) else ((fun q => if q = a then (1 : Int32) else ((fun _ => (0 : Int32))) q)) q)) q)) q = (if q = b then (1 : Int32) else (if q = a then (if z = (0 : Int32) then (1 : Int32) else (if c = a then (0 : Int32) else (1 : Int32))) else (0 : Int32))) then (1 : Int32) else (0 : Int32))) = 1 := by
  by_cases hz : z = 0
  · rw [if_pos hz]
    refine if_pos ?_
    show (if q = b then (1 : Int32) else (if q = a then (1 : Int32) else (0 : Int32))) = _
    rw [if_pos hz]
  · rw [if_neg hz]
    refine if_pos ?_
    show (if q = b then (1 : Int32) else (if q = c then (0 : Int32) else (if q = a then (1 : Int32) else (0 : Int32)))) = _
    rw [if_neg hz]
    by_cases h1 : q = b
    · rw [if_pos h1, if_pos h1]
    · rw [if_neg h1, if_neg h1]
      by_cases h2 : q = a
      · by_cases h3 : c = a
        · rw [if_pos (h2.trans h3.symm), if_pos h2, if_pos h3]
        · rw [if_neg (fun e => h3 (e.symm.trans h2)), if_pos h2, if_pos h2, if_neg h3]
      · rw [if_neg h2, if_neg h2]; split <;> rfl
theorem own_plain (x1 x2 x3 x4 x5 : Int32) : F0 x1 x2 x3 x4 x5 = 1 := own_core _ _ _ _ _

set_option maxRecDepth 65536 in
set_option maxHeartbeats 40000000 in
theorem comes_1 {Post : Tables → Env → Array Value → State → Outcome → State → Prop} (hpost : ∀ tb e args s v u, (limb_1_1.after args s (.returned v) u = true ∧ limb_1_2.after args s (.returned v) u = true ∧ True) → FrameEnd s (.returned v) u (Jvm.fieldLocs frame_1_writes args s ++ Jvm.arrayLocs frame_1_arrays args s ++ Jvm.staticLocs frame_1_statics s) 16 192 → Post tb e args s (.returned v) u) :
    ArmFor flags0 classFile x code maxLocals ret World_1 tables_1 room_1 Calls_1 rest_1 Pre_1 Post := by
  intro l hfl _ _ p e ha hc hk s m args below hf hA hF happ hP
  obtain ⟨hcalls, hrest, hpre⟩ := hP
  obtain ⟨-, -, -, hnamed, -, -, -, hat⟩ := (Spec.applies_iff hf).mp happ
  obtain ⟨hg, hn⟩ := and_e (Cond.before_iff.mp (show (Jvm.Cond.and given_1 narrow_1).before args s = true from hpre))
  obtain ⟨hcount, t0⟩ := and_e hg
  obtain ⟨k0, t1⟩ := and_e t0
  obtain ⟨k1, t2⟩ := and_e t1
  obtain ⟨k2, t3⟩ := and_e t2
  obtain ⟨k3, t4⟩ := and_e t3
  have k4 := t4
  obtain ⟨w0, w1, w2, w3, w4, rfl⟩ : ∃ w0 w1 w2 w3 w4 : Value, args = #[w0, w1, w2, w3, w4] := by
    have hs : args.size = 5 := by simpa [Cond.value, given_1] using hcount
    obtain ⟨L⟩ := args
    match L, hs with
    | [w0, w1, w2, w3, w4], _ => exact ⟨w0, w1, w2, w3, w4, rfl⟩
  have hw := fun d (hd : d ∈ tables_1) => atoms_spec (ws := Jvm.Cond.code x code maxLocals ret :: tables_1) hat d (List.mem_cons_of_mem _ hd)
  obtain ⟨i0, ei0⟩ := is_v k0
  obtain rfl : w0 = (.int i0) := Option.some.inj ei0
  obtain ⟨i1, ei1⟩ := is_v k1
  obtain rfl : w1 = (.int i1) := Option.some.inj ei1
  obtain ⟨i2, ei2⟩ := is_v k2
  obtain rfl : w2 = (.int i2) := Option.some.inj ei2
  obtain ⟨i3, ei3⟩ := is_v k3
  obtain rfl : w3 = (.int i3) := Option.some.inj ei3
  obtain ⟨i4, ei4⟩ := is_v k4
  obtain rfl : w4 = (.int i4) := Option.some.inj ei4
  obtain ⟨n, o, h1, h2, h3, _, L, rfl, ⟨hv, N⟩, hq⟩ := rm0 l s _ hw tables_1 i0 i1 i2 i3 i4 s.heap s.heap.size (Nat.le_refl _) p e ha hc hk s m _ below hf ((Spec.applies_iff_loose hf).mp happ).1 ⟨rfl, State.Warmed39.refl s, rfl⟩ trivial
  rw [own_plain i0 i1 i2 i3 i4] at hv
  subst hv
  refine ⟨n, _, h1, h2, h3, hpost _ _ _ _ _ _ ⟨Cond.after_iff.mpr rfl, Cond.after_iff.mpr (eq_i res_at (Term.int_eval (1)) rfl), trivial⟩ ⟨hq.1, hq.2.1, (hq.2.2.sift fun y hy => Or.inr (N y hy)).mono (by decide) (by decide)⟩⟩
theorem main_1_1 : Claimed_1_1 := comes_1 fun _ _ _ _ _ _ h hF => ⟨h.1, hF⟩
theorem main_1_2 : Claimed_1_2 := comes_1 fun _ _ _ _ _ _ h hF => ⟨h.2.1, hF⟩
end Jvm.Pilot.@@N@@
namespace Jvm.Pilot.@@N@@
open Jvm Jvm.ClassFile Sem Op Lib Jvm.Free Jvm.Stand Jvm.Pilot.@@N@@.Jvm.D
/-! MADE BY PROGRAM (witnessworld.py) out of the Statement's table words and the real class files: 14 classes; the members and pool entries that the words name. The judged class is class 1, her method 1. -/
namespace start1
open Jvm.ClassFile
def u (s : String) : CpInfo := .utf8 (stringToUtf16 s)
/-- a pool by its gaps: so many unusable entries, then the entry; so many at the end -/
def gap : Nat → List CpInfo → List CpInfo
  | 0, r => r
  | n + 1, r => .unusable :: gap n r
def poolList (es : List (Nat × CpInfo)) (last : Nat) : List CpInfo := es.foldr (fun e r => gap e.1 (e.2 :: r)) (gap last [])
def pool (es : List (Nat × CpInfo)) (last : Nat) : Array CpInfo := ⟨poolList es last⟩
def fileOf (pool : Array CpInfo) (this : Nat) (attrs : Array Attribute := #[]) (ms : Array MethodInfo := #[]) (fl : Nat := 33) (sup : Nat := 0) (ifs : Array Nat := #[]) (fds : Array FieldInfo := #[]) : ClassFile where
  minorVersion := 0
  majorVersion := 65
  constantPool := pool
  accessFlags := fl
  thisClass := this
  superClass := sup
  interfaces := ifs
  fields := fds
  methods := ms
  attributes := attrs
def plain (name : String) (sup : Option ClassId) : Class where
  name := name
  kind := .ordinary
  loader := none
  accessFlags := 33
  super := sup
  interfaces := #[]
  cf := none
  fields := #[]
  methods := #[]
  instanceTypes := #[]
  staticTypes := #[]
  resolved := #[]
  callSites := []
  init := .initialized
  statics := none
  mirror := none

def pool0 : Array CpInfo := pool [(5, u "<init>"), (0, u "()V"), (1, .class_ 10), (1, u "java/lang/Object")] 113

def k0c0 : Code := { maxStack := 0, maxLocals := 1, code := object_method_1_code, exceptionTable := #[], attributes := #[] }
def k0m0 : Method := { name := "<init>", desc := "()V", sig := { parameters := [], returnType := none }, accessFlags := 1, code := some k0c0 }
/-- java/lang/Object -/
def k0 : Class := { plain "java/lang/Object" none with
  accessFlags := 33
  interfaces := #[]
  cf := some (fileOf pool0 8 #[] #[{ accessFlags := 1, nameIndex := 5, descriptorIndex := 6, attributes := #[] }] 33 0 #[] #[])
  fields := #[]
  methods := #[k0m0]
  instanceTypes := #[]
  staticTypes := #[]
  resolved := Array.replicate 124 none
  statics := none }

def pool1 : Array CpInfo := pool [(2, .class_ 4), (0, .nameAndType 5 6), (0, u "java/lang/Object"), (0, u "<init>"), (0, u "()V"), (0, .class_ 8), (0, u "com/example/concept_reasoner/conceptreasoner/tableau/Positions"), (0, .methodref 7 3), (0, .methodref 7 11), (0, .nameAndType 12 13), (0, u "contains"), (0, u "(I)Z"), (0, .methodref 7 15), (0, .nameAndType 16 17), (0, u "add"), (0, u "(I)V"), (0, .methodref 7 19), (0, .nameAndType 20 17), (0, u "remove"), (0, .class_ 22), (0, u "com/example/concept_reasoner/conceptreasoner/tableau/PositionsContainsPinLaw"), (2, u "law"), (0, u "(IIIII)Z")] 3

def k1m0 : Method := { name := "<init>", desc := "()V", sig := { parameters := [], returnType := none }, accessFlags := 1, code := none }
def k1c1 : Code := { maxStack := 2, maxLocals := 14, code := code, exceptionTable := #[], attributes := #[] }
def k1m1 : Method := { name := "law", desc := "(IIIII)Z", sig := { parameters := [.int, .int, .int, .int, .int], returnType := some .boolean }, accessFlags := 9, code := some k1c1 }
/-- com/example/concept_reasoner/conceptreasoner/tableau/PositionsContainsPinLaw -/
def k1 : Class := { plain "com/example/concept_reasoner/conceptreasoner/tableau/PositionsContainsPinLaw" (some 0) with
  accessFlags := 49
  interfaces := #[]
  cf := some (fileOf pool1 21 #[] #[{ accessFlags := 1, nameIndex := 5, descriptorIndex := 6, attributes := #[] }, { accessFlags := 9, nameIndex := 25, descriptorIndex := 26, attributes := #[] }] 49 2 #[] #[])
  fields := #[]
  methods := #[k1m0, k1m1]
  instanceTypes := #[]
  staticTypes := #[]
  resolved := Array.replicate 30 none
  statics := none }

def pool2 : Array CpInfo := pool [(1, .methodref 2 3), (0, .class_ 4), (0, .nameAndType 5 6), (0, u "java/lang/Object"), (0, u "<init>"), (0, u "()V"), (0, .fieldref 8 9), (0, .class_ 10), (0, .nameAndType 11 12), (0, u "com/example/concept_reasoner/conceptreasoner/tableau/Positions"), (0, u "words"), (0, u "[J"), (0, .methodref 14 15), (0, .class_ 16), (0, .nameAndType 17 18), (0, u "java/lang/Math"), (0, u "max"), (0, u "(II)I"), (0, .methodref 20 21), (0, .class_ 22), (0, .nameAndType 23 24), (0, u "java/util/Arrays"), (0, u "copyOf"), (0, u "([JI)[J"), (0, .fieldref 8 26), (0, .nameAndType 27 28), (0, u "low"), (0, u "I"), (0, .methodref 14 30), (0, .nameAndType 31 18), (0, u "min"), (0, .long 18446744073709551615), (9, u "contains"), (0, u "(I)Z"), (1, u "add"), (0, u "(I)V"), (0, u "remove")] 4

def k2c0 : Code := { maxStack := 2, maxLocals := 1, code := prog_42_method_1_code, exceptionTable := #[], attributes := #[] }
def k2m0 : Method := { name := "<init>", desc := "()V", sig := { parameters := [], returnType := none }, accessFlags := 0, code := some k2c0 }
def k2c1 : Code := { maxStack := 5, maxLocals := 3, code := prog_42_method_2_code, exceptionTable := #[], attributes := #[] }
def k2m1 : Method := { name := "contains", desc := "(I)Z", sig := { parameters := [.int], returnType := some .boolean }, accessFlags := 0, code := some k2c1 }
def k2c2 : Code := { maxStack := 7, maxLocals := 3, code := prog_42_method_3_code, exceptionTable := #[], attributes := #[] }
def k2m2 : Method := { name := "add", desc := "(I)V", sig := { parameters := [.int], returnType := none }, accessFlags := 0, code := some k2c2 }
def k2c3 : Code := { maxStack := 8, maxLocals := 3, code := prog_42_method_4_code, exceptionTable := #[], attributes := #[] }
def k2m3 : Method := { name := "remove", desc := "(I)V", sig := { parameters := [.int], returnType := none }, accessFlags := 0, code := some k2c3 }
/-- com/example/concept_reasoner/conceptreasoner/tableau/Positions -/
def k2 : Class := { plain "com/example/concept_reasoner/conceptreasoner/tableau/Positions" (some 0) with
  accessFlags := 48
  interfaces := #[]
  cf := some (fileOf pool2 8 #[] #[{ accessFlags := 0, nameIndex := 5, descriptorIndex := 6, attributes := #[] }, { accessFlags := 0, nameIndex := 42, descriptorIndex := 43, attributes := #[] }, { accessFlags := 0, nameIndex := 45, descriptorIndex := 46, attributes := #[] }, { accessFlags := 0, nameIndex := 47, descriptorIndex := 46, attributes := #[] }] 48 2 #[] #[{ accessFlags := 2, nameIndex := 11, descriptorIndex := 12, attributes := #[] }, { accessFlags := 2, nameIndex := 27, descriptorIndex := 28, attributes := #[] }])
  fields := #[{ name := "words", type := (.array .long), accessFlags := 2, slot := 0, constantValue := 0 }, { name := "low", type := .int, accessFlags := 2, slot := 1, constantValue := 0 }]
  methods := #[k2m0, k2m1, k2m2, k2m3]
  instanceTypes := #[(.array .long), .int]
  staticTypes := #[]
  resolved := Array.replicate 52 none
  statics := none }

def pool3 : Array CpInfo := pool [(1, .class_ 2), (0, u "java/lang/Math"), (1, .class_ 6), (1, u "java/lang/Object"), (0, u "<init>"), (0, u "()V"), (89, .class_ 100), (1, u "java/lang/Math$RandomNumberGeneratorHolder"), (71, u "negativeZeroFloatBits"), (0, u "J"), (2, u "negativeZeroDoubleBits"), (21, u "max"), (2, u "min"), (43, u "$assertionsDisabled"), (0, u "Z"), (88, u "(II)I"), (2, u "twoToTheDoubleScaleDown"), (0, u "D"), (4, u "twoToTheDoubleScaleUp"), (9, u "E"), (3, u "PI"), (2, u "TAU"), (2, u "DEGREES_TO_RADIANS"), (0, u "RADIANS_TO_DEGREES")] 94

def k3m0 : Method := { name := "<init>", desc := "()V", sig := { parameters := [], returnType := none }, accessFlags := 2, code := none }
def k3c1 : Code := { maxStack := 2, maxLocals := 2, code := jdk_29_method_65_code, exceptionTable := #[], attributes := #[] }
def k3m1 : Method := { name := "max", desc := "(II)I", sig := { parameters := [.int, .int], returnType := some .int }, accessFlags := 9, code := some k3c1 }
def k3c2 : Code := { maxStack := 2, maxLocals := 2, code := jdk_29_method_69_code, exceptionTable := #[], attributes := #[] }
def k3m2 : Method := { name := "min", desc := "(II)I", sig := { parameters := [.int, .int], returnType := some .int }, accessFlags := 9, code := some k3c2 }
/-- java/lang/Math -/
def k3 : Class := { plain "java/lang/Math" (some 0) with
  accessFlags := 49
  interfaces := #[]
  cf := some (fileOf pool3 1 #[.nestMembers #[98]] #[{ accessFlags := 2, nameIndex := 7, descriptorIndex := 8, attributes := #[] }, { accessFlags := 9, nameIndex := 198, descriptorIndex := 335, attributes := #[] }, { accessFlags := 9, nameIndex := 201, descriptorIndex := 335, attributes := #[] }] 49 4 #[] #[{ accessFlags := 25, nameIndex := 354, descriptorIndex := 339, attributes := #[] }, { accessFlags := 25, nameIndex := 358, descriptorIndex := 339, attributes := #[] }, { accessFlags := 25, nameIndex := 361, descriptorIndex := 339, attributes := #[] }, { accessFlags := 26, nameIndex := 364, descriptorIndex := 339, attributes := #[] }, { accessFlags := 26, nameIndex := 365, descriptorIndex := 339, attributes := #[] }, { accessFlags := 26, nameIndex := 172, descriptorIndex := 173, attributes := #[] }, { accessFlags := 26, nameIndex := 176, descriptorIndex := 173, attributes := #[] }, { accessFlags := 8, nameIndex := 344, descriptorIndex := 339, attributes := #[] }, { accessFlags := 8, nameIndex := 338, descriptorIndex := 339, attributes := #[] }, { accessFlags := 4120, nameIndex := 245, descriptorIndex := 246, attributes := #[] }])
  fields := #[{ name := "E", type := .double, accessFlags := 25, slot := 0, constantValue := 0 }, { name := "PI", type := .double, accessFlags := 25, slot := 1, constantValue := 0 }, { name := "TAU", type := .double, accessFlags := 25, slot := 2, constantValue := 0 }, { name := "DEGREES_TO_RADIANS", type := .double, accessFlags := 26, slot := 3, constantValue := 0 }, { name := "RADIANS_TO_DEGREES", type := .double, accessFlags := 26, slot := 4, constantValue := 0 }, { name := "negativeZeroFloatBits", type := .long, accessFlags := 26, slot := 5, constantValue := 0 }, { name := "negativeZeroDoubleBits", type := .long, accessFlags := 26, slot := 6, constantValue := 0 }, { name := "twoToTheDoubleScaleUp", type := .double, accessFlags := 8, slot := 7, constantValue := 0 }, { name := "twoToTheDoubleScaleDown", type := .double, accessFlags := 8, slot := 8, constantValue := 0 }, { name := "$assertionsDisabled", type := .boolean, accessFlags := 4120, slot := 9, constantValue := 0 }]
  methods := #[k3m0, k3m1, k3m2]
  instanceTypes := #[]
  staticTypes := #[.double, .double, .double, .double, .double, .long, .long, .double, .double, .boolean]
  resolved := Array.replicate 460 none
  statics := none }

def pool4 : Array CpInfo := pool [(2, .class_ 4), (1, u "java/lang/Object"), (0, u "<init>"), (0, u "()V"), (7, .class_ 16), (1, u "java/util/Arrays"), (57, .class_ 76), (1, u "java/util/Arrays$NaturalOrder"), (36, .class_ 115), (1, u "java/util/Arrays$LegacyMergeSort"), (1, u "Z"), (32, .methodref 151 152), (0, .class_ 153), (0, .nameAndType 154 155), (0, u "java/lang/System"), (0, u "arraycopy"), (0, u "(Ljava/lang/Object;ILjava/lang/Object;II)V"), (146, u "copyOf"), (1, .methodref 305 306), (0, .class_ 307), (0, .nameAndType 308 309), (0, u "java/lang/Math"), (0, u "min"), (0, u "(II)I"), (65, .class_ 376), (0, u "java/util/Arrays$ArrayList"), (68, u "$assertionsDisabled"), (269, u "MIN_ARRAY_SORT_GRAN"), (0, u "I"), (2, u "INSERTIONSORT_THRESHOLD"), (152, u "([JI)[J"), (102, .class_ 976), (0, u "java/util/Arrays$ArrayItr")] 52

def k4m0 : Method := { name := "<init>", desc := "()V", sig := { parameters := [], returnType := none }, accessFlags := 2, code := none }
def k4c1 : Code := { maxStack := 6, maxLocals := 3, code := jdk_65_method_124_code, exceptionTable := #[], attributes := #[] }
def k4m1 : Method := { name := "copyOf", desc := "([JI)[J", sig := { parameters := [(.array .long), .int], returnType := some (.array .long) }, accessFlags := 9, code := some k4c1 }
/-- java/util/Arrays -/
def k4 : Class := { plain "java/util/Arrays" (some 0) with
  accessFlags := 49
  interfaces := #[]
  cf := some (fileOf pool4 14 #[.nestMembers #[975, 375, 113, 74]] #[{ accessFlags := 2, nameIndex := 5, descriptorIndex := 6, attributes := #[] }, { accessFlags := 9, nameIndex := 302, descriptorIndex := 872, attributes := #[] }] 49 2 #[] #[{ accessFlags := 26, nameIndex := 715, descriptorIndex := 716, attributes := #[] }, { accessFlags := 26, nameIndex := 719, descriptorIndex := 716, attributes := #[] }, { accessFlags := 4120, nameIndex := 445, descriptorIndex := 117, attributes := #[] }])
  fields := #[{ name := "MIN_ARRAY_SORT_GRAN", type := .int, accessFlags := 26, slot := 0, constantValue := 0 }, { name := "INSERTIONSORT_THRESHOLD", type := .int, accessFlags := 26, slot := 1, constantValue := 0 }, { name := "$assertionsDisabled", type := .boolean, accessFlags := 4120, slot := 2, constantValue := 0 }]
  methods := #[k4m0, k4m1]
  instanceTypes := #[]
  staticTypes := #[.int, .int, .boolean]
  resolved := Array.replicate 1029 none
  statics := none }

def pool5 : Array CpInfo := pool [(2, .class_ 4), (1, u "java/lang/Object"), (0, u "<init>"), (0, u "()V"), (1, .class_ 10), (1, u "java/lang/System"), (0, u "allowSecurityManager"), (0, u "I"), (16, u "cons"), (0, u "Ljava/io/Console;"), (77, .class_ 110), (1, u "java/lang/System$CallersHolder"), (43, u "initialErrStream"), (0, u "Ljava/io/PrintStream;"), (19, u "security"), (0, u "Ljava/lang/SecurityManager;"), (31, .class_ 209), (0, u "java/lang/System$1"), (7, u "props"), (0, u "Ljava/util/Properties;"), (2, u "lineSeparator"), (0, u "Ljava/lang/String;"), (96, .class_ 321), (1, u "java/lang/System$LoggerFinder"), (5, .class_ 328), (0, u "java/lang/System$Logger"), (67, u "err"), (2, u "out"), (91, u "notSupportedJnuEncoding"), (15, u "in"), (17, u "initialIn"), (0, u "Ljava/io/InputStream;"), (35, u "bootLayer"), (0, u "Ljava/lang/ModuleLayer;"), (99, .class_ 664), (0, u "java/lang/System$2"), (9, u "NEVER"), (2, u "MAYBE"), (49, u "arraycopy"), (0, u "(Ljava/lang/Object;ILjava/lang/Object;II)V"), (72, .class_ 802), (0, u "java/lang/System$Logger$Level")] 31

def k5m0 : Method := { name := "<init>", desc := "()V", sig := { parameters := [], returnType := none }, accessFlags := 2, code := none }
def k5m1 : Method := { name := "arraycopy", desc := "(Ljava/lang/Object;ILjava/lang/Object;II)V", sig := { parameters := [(.object "java/lang/Object"), .int, (.object "java/lang/Object"), .int, .int], returnType := none }, accessFlags := 265, code := none }
/-- java/lang/System -/
def k5 : Class := { plain "java/lang/System" (some 0) with
  accessFlags := 49
  interfaces := #[]
  cf := some (fileOf pool5 8 #[.nestMembers #[319, 327, 801, 108, 663, 208]] #[{ accessFlags := 2, nameIndex := 5, descriptorIndex := 6, attributes := #[] }, { accessFlags := 265, nameIndex := 727, descriptorIndex := 728, attributes := #[] }] 49 2 #[] #[{ accessFlags := 25, nameIndex := 507, descriptorIndex := 526, attributes := #[] }, { accessFlags := 25, nameIndex := 399, descriptorIndex := 155, attributes := #[] }, { accessFlags := 25, nameIndex := 396, descriptorIndex := 155, attributes := #[] }, { accessFlags := 10, nameIndex := 525, descriptorIndex := 526, attributes := #[] }, { accessFlags := 26, nameIndex := 674, descriptorIndex := 12, attributes := #[] }, { accessFlags := 26, nameIndex := 677, descriptorIndex := 12, attributes := #[] }, { accessFlags := 10, nameIndex := 11, descriptorIndex := 12, attributes := #[] }, { accessFlags := 74, nameIndex := 175, descriptorIndex := 176, attributes := #[] }, { accessFlags := 10, nameIndex := 491, descriptorIndex := 222, attributes := #[] }, { accessFlags := 74, nameIndex := 29, descriptorIndex := 30, attributes := #[] }, { accessFlags := 74, nameIndex := 154, descriptorIndex := 155, attributes := #[] }, { accessFlags := 10, nameIndex := 217, descriptorIndex := 218, attributes := #[] }, { accessFlags := 10, nameIndex := 221, descriptorIndex := 222, attributes := #[] }, { accessFlags := 8, nameIndex := 562, descriptorIndex := 563, attributes := #[] }])
  fields := #[{ name := "in", type := (.object "java/io/InputStream"), accessFlags := 25, slot := 0, constantValue := 0 }, { name := "out", type := (.object "java/io/PrintStream"), accessFlags := 25, slot := 1, constantValue := 0 }, { name := "err", type := (.object "java/io/PrintStream"), accessFlags := 25, slot := 2, constantValue := 0 }, { name := "initialIn", type := (.object "java/io/InputStream"), accessFlags := 10, slot := 3, constantValue := 0 }, { name := "NEVER", type := .int, accessFlags := 26, slot := 4, constantValue := 0 }, { name := "MAYBE", type := .int, accessFlags := 26, slot := 5, constantValue := 0 }, { name := "allowSecurityManager", type := .int, accessFlags := 10, slot := 6, constantValue := 0 }, { name := "security", type := (.object "java/lang/SecurityManager"), accessFlags := 74, slot := 7, constantValue := 0 }, { name := "notSupportedJnuEncoding", type := (.object "java/lang/String"), accessFlags := 10, slot := 8, constantValue := 0 }, { name := "cons", type := (.object "java/io/Console"), accessFlags := 74, slot := 9, constantValue := 0 }, { name := "initialErrStream", type := (.object "java/io/PrintStream"), accessFlags := 74, slot := 10, constantValue := 0 }, { name := "props", type := (.object "java/util/Properties"), accessFlags := 10, slot := 11, constantValue := 0 }, { name := "lineSeparator", type := (.object "java/lang/String"), accessFlags := 10, slot := 12, constantValue := 0 }, { name := "bootLayer", type := (.object "java/lang/ModuleLayer"), accessFlags := 8, slot := 13, constantValue := 0 }]
  methods := #[k5m0, k5m1]
  instanceTypes := #[]
  staticTypes := #[(.object "java/io/InputStream"), (.object "java/io/PrintStream"), (.object "java/io/PrintStream"), (.object "java/io/InputStream"), .int, .int, .int, (.object "java/lang/SecurityManager"), (.object "java/lang/String"), (.object "java/io/Console"), (.object "java/io/PrintStream"), (.object "java/util/Properties"), (.object "java/lang/String"), (.object "java/lang/ModuleLayer")]
  resolved := Array.replicate 834 none
  statics := none }

def pool6 : Array CpInfo := pool [(1, u "java/lang/Cloneable"), (0, .class_ 1), (0, u "java/lang/Object"), (0, .class_ 3)] 3

/-- java/lang/Cloneable -/
def k6 : Class := { plain "java/lang/Cloneable" (some 0) with
  accessFlags := 1537
  interfaces := #[]
  cf := some (fileOf pool6 2 #[] #[] 1537 4 #[] #[])
  fields := #[]
  methods := #[]
  instanceTypes := #[]
  staticTypes := #[]
  resolved := Array.replicate 8 none
  statics := none }

def pool7 : Array CpInfo := pool [(1, u "java/io/Serializable"), (0, .class_ 1), (0, u "java/lang/Object"), (0, .class_ 3)] 3

/-- java/io/Serializable -/
def k7 : Class := { plain "java/io/Serializable" (some 0) with
  accessFlags := 1537
  interfaces := #[]
  cf := some (fileOf pool7 2 #[] #[] 1537 4 #[] #[])
  fields := #[]
  methods := #[]
  instanceTypes := #[]
  staticTypes := #[]
  resolved := Array.replicate 8 none
  statics := none }

/-- the primitive byte -/
def k8 : Class := { plain "byte" none with kind := .primitive 'B', accessFlags := 0x411 }
/-- [B -/
def k9 : Class := { plain "[B" (some 0) with kind := .array 8 .byte, interfaces := #[6, 7], accessFlags := 1041 }

/-- the primitive int -/
def k10 : Class := { plain "int" none with kind := .primitive 'I', accessFlags := 0x411 }
/-- [I -/
def k11 : Class := { plain "[I" (some 0) with kind := .array 10 .int, interfaces := #[6, 7], accessFlags := 1041 }

/-- the primitive long -/
def k12 : Class := { plain "long" none with kind := .primitive 'J', accessFlags := 0x411 }
/-- [J -/
def k13 : Class := { plain "[J" (some 0) with kind := .array 12 .long, interfaces := #[6, 7], accessFlags := 1041 }

def heap : Heap := #[]
def classes : Array Class := #[k0, k1, k2, k3, k4, k5, k6, k7, k8, k9, k10, k11, k12, k13]
def interned : List (Array UInt16 × Addr) := []
def slotsUsed : Nat := 0
def theMethod : MethodId := ⟨1, 1⟩
def args0 : Array Value := #[.int 5, .int 5, .int 5, .int 5, .int 5]
def aboutOver (below : List Frame) : State where
  vm := { classes := classes, interned := interned.toArray }
  heap := heap
  slotsUsed := slotsUsed
  threads := #[{ frames := .invoking theMethod args0 :: below }]
def below0 : List Frame := [.native { method := ⟨0, 0⟩, args := #[] }]
def about1 : State := aboutOver below0
def p0 : Program := .bare "" "" ""
def e0 : Env := launch0.env 0 0 0
theorem w_frames : about1.frames = Frame.invoking theMethod args0 :: below0 := rfl
set_option maxRecDepth 65536 in
theorem w_args : argsFit about1.vm theMethod args0 = true := by decide +kernel
set_option maxRecDepth 65536 in
theorem w_heap : heapFits about1 = true := by decide +kernel
set_option maxRecDepth 65536 in
theorem w_runnable : about1.curStatus? = some .runnable := by decide +kernel
set_option maxRecDepth 65536 in
theorem w_alone : about1.alone = true := by decide +kernel
set_option maxRecDepth 65536 in
theorem w_named : about1.methodNamed? x = some theMethod := by decide +kernel
set_option maxRecDepth 65536 in
theorem w_hears : about1.hears theMethod below0 = true := by decide +kernel
set_option maxRecDepth 65536 in
theorem w_ripe : about1.ripe theMethod args0 below0 = true := by decide +kernel
theorem w_running : about1.status = .running := rfl
set_option maxRecDepth 65536 in
theorem w_room : about1.hasRoom e0.platform room_1 = true :=
  launch0.hasRoom_least _ room_1 (by decide +kernel) (by decide +kernel) (by decide +kernel) (by decide +kernel) (by decide +kernel) (by decide +kernel)
theorem allAtoms_all (ts : List Jvm.Cond) (a : Array Jvm.Value) (st : Jvm.State) : (allAtoms ts).before a st = ts.all (fun c => c.before a st) := by
  induction ts with
  | nil => rfl
  | cons c t ih =>
    show (Jvm.Cond.and c (allAtoms t)).before a st = _
    rw [Jvm.Cond.before_and, ih, List.all_cons]
def words1 : List Jvm.Cond := Jvm.Cond.code x code maxLocals ret :: tables_1
/-- a 'code' word, met by the world's own term for the bytes: nothing is compared byte by byte -/
theorem code_word {y : MethodName} {bytes : ByteArray} {mx : Nat} {rt : Option FieldType} {a : Array Value} {s : State} {m : MethodId} {meth : Method} {c : Code} (h1 : s.methodNamed? y = some m) (h2 : s.vm.method? m = some meth) (h3 : meth.code = some c) (h4 : c.code = bytes)
    (h5 : (c.maxLocals == mx && c.exceptionTable.isEmpty && decide (c.maxStack ≤ mostOperands) && decide (meth.sig.returnType = rt) && !meth.locks && decide (parseMethodDescriptor y.desc = some meth.sig)) = true) : (Jvm.Cond.code y bytes mx rt).before a s = true := by
  simp only [Bool.and_eq_true, beq_iff_eq, Bool.not_eq_true', decide_eq_true_eq] at h5
  obtain ⟨⟨⟨⟨⟨g1, g2⟩, g3⟩, g4⟩, g5⟩, g6⟩ := h5
  simp [Cond.before, Cond.holds, Cond.value, h1, h2, h3, h4, g1, g2, g3, g4, g5, g6]
def isCode : Jvm.Cond → Bool
  | .code _ _ _ _ => true
  | _ => false
theorem all_split {L : List Jvm.Cond} {P : Jvm.Cond → Bool} (h1 : L.all (fun c => isCode c || P c) = true) (h2 : ∀ c ∈ L.filter isCode, P c = true) : L.all P = true := by
  refine List.all_eq_true.mpr fun c hc => ?_
  have h := List.all_eq_true.mp h1 c hc
  rcases Bool.eq_false_or_eq_true (isCode c) with hi | hi
  · exact h2 c (List.mem_filter.mpr ⟨hc, hi⟩)
  · simpa [hi] using h
set_option maxRecDepth 65536 in
theorem w_c0 : (Jvm.Cond.code x code maxLocals ret).before args0 about1 = true := code_word (m := ⟨1, 1⟩) (meth := k1m1) (c := k1c1) (by decide +kernel) rfl rfl rfl (by decide +kernel)
set_option maxRecDepth 65536 in
theorem w_c1 : (Jvm.Cond.code ({ cls := "com/example/concept_reasoner/conceptreasoner/tableau/Positions", name := "<init>", desc := "()V" } : Jvm.MethodName) prog_42_method_1_code (1 : Nat) (Option.none : Option Jvm.ClassFile.FieldType)).before args0 about1 = true := code_word (m := ⟨2, 0⟩) (meth := k2m0) (c := k2c0) (by decide +kernel) rfl rfl rfl (by decide +kernel)
set_option maxRecDepth 65536 in
theorem w_c2 : (Jvm.Cond.code ({ cls := "java/lang/Object", name := "<init>", desc := "()V" } : Jvm.MethodName) object_method_1_code (1 : Nat) (Option.none : Option Jvm.ClassFile.FieldType)).before args0 about1 = true := code_word (m := ⟨0, 0⟩) (meth := k0m0) (c := k0c0) (by decide +kernel) rfl rfl rfl (by decide +kernel)
set_option maxRecDepth 65536 in
theorem w_c3 : (Jvm.Cond.code ({ cls := "com/example/concept_reasoner/conceptreasoner/tableau/Positions", name := "contains", desc := "(I)Z" } : Jvm.MethodName) prog_42_method_2_code (3 : Nat) (Option.some Jvm.ClassFile.FieldType.boolean)).before args0 about1 = true := code_word (m := ⟨2, 1⟩) (meth := k2m1) (c := k2c1) (by decide +kernel) rfl rfl rfl (by decide +kernel)
set_option maxRecDepth 65536 in
theorem w_c4 : (Jvm.Cond.code ({ cls := "com/example/concept_reasoner/conceptreasoner/tableau/Positions", name := "add", desc := "(I)V" } : Jvm.MethodName) prog_42_method_3_code (3 : Nat) (Option.none : Option Jvm.ClassFile.FieldType)).before args0 about1 = true := code_word (m := ⟨2, 2⟩) (meth := k2m2) (c := k2c2) (by decide +kernel) rfl rfl rfl (by decide +kernel)
set_option maxRecDepth 65536 in
theorem w_c5 : (Jvm.Cond.code ({ cls := "java/lang/Math", name := "min", desc := "(II)I" } : Jvm.MethodName) jdk_29_method_69_code (2 : Nat) (Option.some Jvm.ClassFile.FieldType.int)).before args0 about1 = true := code_word (m := ⟨3, 2⟩) (meth := k3m2) (c := k3c2) (by decide +kernel) rfl rfl rfl (by decide +kernel)
set_option maxRecDepth 65536 in
theorem w_c6 : (Jvm.Cond.code ({ cls := "com/example/concept_reasoner/conceptreasoner/tableau/Positions", name := "remove", desc := "(I)V" } : Jvm.MethodName) prog_42_method_4_code (3 : Nat) (Option.none : Option Jvm.ClassFile.FieldType)).before args0 about1 = true := code_word (m := ⟨2, 3⟩) (meth := k2m3) (c := k2c3) (by decide +kernel) rfl rfl rfl (by decide +kernel)
set_option maxRecDepth 65536 in
theorem w_c7 : (Jvm.Cond.code ({ cls := "java/lang/Math", name := "max", desc := "(II)I" } : Jvm.MethodName) jdk_29_method_65_code (2 : Nat) (Option.some Jvm.ClassFile.FieldType.int)).before args0 about1 = true := code_word (m := ⟨3, 1⟩) (meth := k3m1) (c := k3c1) (by decide +kernel) rfl rfl rfl (by decide +kernel)
set_option maxRecDepth 65536 in
theorem w_c8 : (Jvm.Cond.code ({ cls := "java/util/Arrays", name := "copyOf", desc := "([JI)[J" } : Jvm.MethodName) jdk_65_method_124_code (3 : Nat) (Option.some (Jvm.ClassFile.FieldType.array Jvm.ClassFile.FieldType.long))).before args0 about1 = true := code_word (m := ⟨4, 1⟩) (meth := k4m1) (c := k4c1) (by decide +kernel) rfl rfl rfl (by decide +kernel)
def codes1 : List Jvm.Cond := [Jvm.Cond.code x code maxLocals ret, Jvm.Cond.code ({ cls := "com/example/concept_reasoner/conceptreasoner/tableau/Positions", name := "<init>", desc := "()V" } : Jvm.MethodName) prog_42_method_1_code (1 : Nat) (Option.none : Option Jvm.ClassFile.FieldType), Jvm.Cond.code ({ cls := "java/lang/Object", name := "<init>", desc := "()V" } : Jvm.MethodName) object_method_1_code (1 : Nat) (Option.none : Option Jvm.ClassFile.FieldType), Jvm.Cond.code ({ cls := "com/example/concept_reasoner/conceptreasoner/tableau/Positions", name := "contains", desc := "(I)Z" } : Jvm.MethodName) prog_42_method_2_code (3 : Nat) (Option.some Jvm.ClassFile.FieldType.boolean), Jvm.Cond.code ({ cls := "com/example/concept_reasoner/conceptreasoner/tableau/Positions", name := "add", desc := "(I)V" } : Jvm.MethodName) prog_42_method_3_code (3 : Nat) (Option.none : Option Jvm.ClassFile.FieldType), Jvm.Cond.code ({ cls := "java/lang/Math", name := "min", desc := "(II)I" } : Jvm.MethodName) jdk_29_method_69_code (2 : Nat) (Option.some Jvm.ClassFile.FieldType.int), Jvm.Cond.code ({ cls := "com/example/concept_reasoner/conceptreasoner/tableau/Positions", name := "remove", desc := "(I)V" } : Jvm.MethodName) prog_42_method_4_code (3 : Nat) (Option.none : Option Jvm.ClassFile.FieldType), Jvm.Cond.code ({ cls := "java/lang/Math", name := "max", desc := "(II)I" } : Jvm.MethodName) jdk_29_method_65_code (2 : Nat) (Option.some Jvm.ClassFile.FieldType.int), Jvm.Cond.code ({ cls := "java/util/Arrays", name := "copyOf", desc := "([JI)[J" } : Jvm.MethodName) jdk_65_method_124_code (3 : Nat) (Option.some (Jvm.ClassFile.FieldType.array Jvm.ClassFile.FieldType.long))]
set_option maxRecDepth 65536 in
theorem codes_eq : words1.filter isCode = codes1 := rfl
theorem w_codes : ∀ c ∈ words1.filter isCode, c.before args0 about1 = true := by
  rw [codes_eq]
  intro c hc
  simp only [codes1, List.mem_cons, List.not_mem_nil, or_false] at hc
  rcases hc with rfl | rfl | rfl | rfl | rfl | rfl | rfl | rfl | rfl
  · exact w_c0
  · exact w_c1
  · exact w_c2
  · exact w_c3
  · exact w_c4
  · exact w_c5
  · exact w_c6
  · exact w_c7
  · exact w_c8
set_option maxRecDepth 65536 in
theorem w_t1 : (words1.take 24).all (fun c => isCode c || c.before args0 about1) = true := by decide +kernel
set_option maxRecDepth 65536 in
theorem w_t2 : (words1.drop 24).all (fun c => isCode c || c.before args0 about1) = true := by decide +kernel
theorem w_tables : (allAtoms (Jvm.Cond.code x code maxLocals ret :: tables_1)).before args0 about1 = true := by
  rw [allAtoms_all]
  show words1.all (fun c => c.before args0 about1) = true
  refine all_split ?_ w_codes
  rw [← List.take_append_drop 24 words1, List.all_append, w_t1, w_t2]
  rfl
set_option maxRecDepth 65536 in
theorem w_case : (Jvm.Cond.and given_1 narrow_1).before args0 about1 = true := by decide +kernel
theorem w_applies : (headSpec (Jvm.Cond.code x code maxLocals ret :: tables_1) room_1).applies x e0.platform about1 = true :=
  (Spec.applies_iff w_frames).mpr ⟨w_running, w_runnable, w_alone, w_named, w_hears, w_ripe, w_room, w_tables⟩
theorem atStart : AtStart classFile x code maxLocals ret World_1 tables_1 room_1 Calls_1 rest_1 Pre_1 launch0 p0 e0 about1 theMethod args0 below0 :=
  ⟨lists_1, trivial, launch0.admits_env _ _ _, launch0.least_env, fairChoices_fair.cas, fairChoices_fair.clock, w_frames, w_args, w_heap, w_applies, trivial, trivial, w_case⟩
end start1
theorem witness_1 : WitnessClaimed_1 := ⟨start1.p0, start1.e0, start1.about1, start1.theMethod, start1.args0, start1.below0, start1.atStart⟩
end Jvm.Pilot.@@N@@
