import JvmDerived
import JvmDerived.Pilot.@@N@@Statement
import JvmDerived.Pilot.@@N@@Code
set_option linter.unusedVariables false
set_option linter.unusedSimpArgs false
@@BLOCK:NumsL.lean.txt@@
namespace Jvm.RoadKit
open Sem ClassFile Op Lib Jvm.Stand Jvm.Free Jvm.LawKit
section New
variable {p : Program} {l : Launch} {e : Env} {R : Room} {s : State} {m : MethodId} {args : Array Value} {below : List Frame} {meth : Method} {c : Code} {T : State} {locs : List Loc} {cells slots : Nat}
theorem retI (X : Stand p l e R s m args below meth c T locs cells slots) (hx : p.tables.exec = Jvm.exec) {pc : Nat} {Ls : Array Slot} {z : Int32} {rest : List Value} (hret : meth.sig.returnType = some .int) (hd : decode c.code pc = .ok (.ireturn, 1)) {fs : List Frame}
    (hl : ∀ (f : JFrame) (acts : List Action), f.method = m → f.locked = none → f.entered = [] → (doReturn e (T.setTop f) acts (some (.int z))).1 = T.setFrames fs) : Steps p.tables e below (T.setTop (mkF m pc Ls (.int z :: rest))) (T.setFrames fs) := by
  have hm' : T.vm.method? m = some meth := X.method'
  have hn : narrow .int (.int z) = .int z := rfl
  show Steps p.tables e below (T.setTop { method := m, pc := pc, locals := Ls, stack := _ :: rest, locked := none }) _
  jvm_step X.here [X.here.top, hx, hd, hm', hret, hn]
  first | (intro acts; rw [hl _ acts rfl rfl rfl]) | rw [hl _ _ rfl rfl rfl]
  exact Steps.refl _
end New
theorem own_dia {tb : Tables} {e : Env} {below : List Frame} {T tgt : State} {g : JFrame} {A : Type} {u v : A} (q : Prop) [Decidable q] (f : A → JFrame)
    (h1 : q → Steps tb e below (T.setTop (f u)) tgt → Steps tb e below (T.setTop g) tgt) (h0 : ¬ q → Steps tb e below (T.setTop (f v)) tgt → Steps tb e below (T.setTop g) tgt)
    (k : Steps tb e below (T.setTop (f (if q then u else v))) tgt) : Steps tb e below (T.setTop g) tgt := by
  by_cases hq : q
  · rw [if_pos hq] at k; exact h1 hq k
  · rw [if_neg hq] at k; exact h0 hq k
theorem own_cast {tb : Tables} {e : Env} {below : List Frame} {T tgt : State} {A : Type} {u v : A} (f : A → JFrame) (h : u = v) (k : Steps tb e below (T.setTop (f v)) tgt) : Steps tb e below (T.setTop (f u)) tgt := h ▸ k
theorem own_llt {x y : Int64} (h : x < y) : ifCond.holds .lt (lcmpW x y) = true ∧ ifCond.holds .ge (lcmpW x y) = false := by
  rw [if0, if0]; exact ⟨(tlt ((lw_lt x y).mpr h)).1, (tlt ((lw_lt x y).mpr h)).2.1⟩
theorem own_lge {x y : Int64} (h : ¬ x < y) : ifCond.holds .lt (lcmpW x y) = false ∧ ifCond.holds .ge (lcmpW x y) = true := by
  rw [if0, if0]; exact ⟨(flt fun q => h ((lw_lt x y).mp q)).1, (flt fun q => h ((lw_lt x y).mp q)).2.1⟩
theorem own_lgt {x y : Int64} (h : y < x) : ifCond.holds .gt (lcmpW x y) = true ∧ ifCond.holds .le (lcmpW x y) = false := by
  rw [if0, if0]; exact ⟨(tlt ((lw_gt x y).mpr h)).2.2.1, (tlt ((lw_gt x y).mpr h)).2.2.2⟩
theorem own_lle {x y : Int64} (h : ¬ y < x) : ifCond.holds .gt (lcmpW x y) = false ∧ ifCond.holds .le (lcmpW x y) = true := by
  rw [if0, if0]; exact ⟨(flt fun q => h ((lw_gt x y).mp q)).2.2.1, (flt fun q => h ((lw_gt x y).mp q)).2.2.2⟩
theorem own_leq {x y : Int64} (h : x = y) : ifCond.holds .eq (lcmpW x y) = true ∧ ifCond.holds .ne (lcmpW x y) = false := by
  rw [if0, if0]; exact ⟨(teq ((lw_eq x y).mpr h)).1, (teq ((lw_eq x y).mpr h)).2⟩
theorem own_lne {x y : Int64} (h : ¬ x = y) : ifCond.holds .eq (lcmpW x y) = false ∧ ifCond.holds .ne (lcmpW x y) = true := by
  rw [if0, if0]; exact ⟨(feq fun q => h ((lw_eq x y).mp q)).1, (feq fun q => h ((lw_eq x y).mp q)).2⟩
theorem own_bt {q : Prop} [Decidable q] (h : q) : ifCond.holds .ne (if q then (1 : Int32) else (0 : Int32)) = true ∧ ifCond.holds .eq (if q then (1 : Int32) else (0 : Int32)) = false := by
  rw [if_pos h]; exact ⟨rfl, rfl⟩
theorem own_bf {q : Prop} [Decidable q] (h : ¬ q) : ifCond.holds .ne (if q then (1 : Int32) else (0 : Int32)) = false ∧ ifCond.holds .eq (if q then (1 : Int32) else (0 : Int32)) = true := by
  rw [if_neg h]; exact ⟨rfl, rfl⟩
theorem own_ct {q : Prop} [Decidable q] (h : q) : ifCond.holds .ne (if q then (0 : Int32) else (1 : Int32)) = false ∧ ifCond.holds .eq (if q then (0 : Int32) else (1 : Int32)) = true := by
  rw [if_pos h]; exact ⟨rfl, rfl⟩
theorem own_cf {q : Prop} [Decidable q] (h : ¬ q) : ifCond.holds .ne (if q then (0 : Int32) else (1 : Int32)) = true ∧ ifCond.holds .eq (if q then (0 : Int32) else (1 : Int32)) = false := by
  rw [if_neg h]; exact ⟨rfl, rfl⟩
theorem own_b01 {q : Prop} [Decidable q] {x y : Int32} (hx : x = 0 ∨ x = 1) (hy : y = 0 ∨ y = 1) : (if q then x else y) = 0 ∨ (if q then x else y) = 1 := by
  split <;> assumption
def Arf (Z : State) (h : Heap) (a : Addr) (ty : FieldType) (n : Int32) (f : Nat → Value) : Prop :=
  ∃ c : Cell, Arr Z h a c ty ∧ c.slots.size = n.toNatClampNeg ∧ ¬ n < 0 ∧ ∀ i, i < n.toNatClampNeg → c.slots[i]? = some (f i)
theorem Arf.lt {Z : State} {h : Heap} {a : Addr} {ty : FieldType} {n : Int32} {f : Nat → Value} (F : Arf Z h a ty n f) : a < h.size := by
  obtain ⟨c, A, -⟩ := F; exact A.lt
theorem Arf.ext {Z : State} {h h' : Heap} {a : Addr} {ty : FieldType} {n : Int32} {f : Nat → Value} (F : Arf Z h a ty n f) (E : Ext h h') : Arf Z h' a ty n f := by
  obtain ⟨c, A, r⟩ := F; exact ⟨c, A.ext E, r⟩
theorem Arf.other {Z : State} {h h' : Heap} {a b : Addr} {sl : Nat} {v : Value} {ty : FieldType} {n : Int32} {f : Nat → Value} (F : Arf Z h b ty n f) (W : Wr h h' a sl v) (q : b ≠ a) : Arf Z h' b ty n f := by
  obtain ⟨c, A, r⟩ := F; exact ⟨c, A.other W q, r⟩
theorem Arf.keep {Z : State} {h h' : Heap} {a : Addr} {ws : List Addr} {ty : FieldType} {n : Int32} {f : Nat → Value} (F : Arf Z h a ty n f) (K : Keep h h' ws) (q : a ∉ ws) : Arf Z h' a ty n f := by
  obtain ⟨c, A, r⟩ := F; exact ⟨c, ⟨K.2.1 a c A.1 q, A.2⟩, r⟩
theorem own_arf_new {Z : State} {h : Heap} {a : Addr} {k : ClassId} {ty : FieldType} {z : Int32} (A : Arr Z h a (newA k ty z) ty) (q : ¬ z < 0) : Arf Z h a ty z (fun _ => defaultValue ty) :=
  ⟨_, A, sz_new _ _ _, q, fun i hi => by simp [newA, hi]⟩
theorem own_arf_set {Z : State} {h h' : Heap} {a : Addr} {ty : FieldType} {n : Int32} {f : Nat → Value} {j : Nat} {v : Value} (F : Arf Z h a ty n f) (W : Wr h h' a j v) : Arf Z h' a ty n (fun i => if i = j then v else f i) := by
  obtain ⟨c, A, S, M, H⟩ := F
  refine ⟨_, A.same W, by rw [sz_set]; exact S, M, fun i hi => ?_⟩
  show _ = some (if i = j then v else f i)
  by_cases u : i = j
  · subst u; rw [if_pos rfl]; rw [← S] at hi; simp [Cell.setSlot, hi]
  · rw [if_neg u]; have := H i hi; simp only [Cell.setSlot]; rw [Array.getElem?_setIfInBounds_ne (Ne.symm u)]; exact this
theorem own_arf_fn {Z : State} {h : Heap} {a : Addr} {ty : FieldType} {n : Int32} {f g : Nat → Value} (F : Arf Z h a ty n f) (q : ∀ i, i < n.toNatClampNeg → f i = g i) : Arf Z h a ty n g := by
  obtain ⟨c, A, S, M, H⟩ := F
  exact ⟨c, A, S, M, fun i hi => by rw [← q i hi]; exact H i hi⟩
theorem own_arf_setI {Z : State} {h h' : Heap} {a : Addr} {ty : FieldType} {n : Int32} {f : Nat → Int32} {j : Nat} {v : Int32} (F : Arf Z h a ty n (fun i => Value.int (f i))) (W : Wr h h' a j (.int v)) : Arf Z h' a ty n (fun i => Value.int (if i = j then v else f i)) :=
  own_arf_fn (own_arf_set F W) fun i _ => by by_cases u : i = j <;> simp [u]
theorem own_arf_setL {Z : State} {h h' : Heap} {a : Addr} {ty : FieldType} {n : Int32} {f : Nat → Int64} {j : Nat} {v : Int64} (F : Arf Z h a ty n (fun i => Value.long (f i))) (W : Wr h h' a j (.long v)) : Arf Z h' a ty n (fun i => Value.long (if i = j then v else f i)) :=
  own_arf_fn (own_arf_set F W) fun i _ => by by_cases u : i = j <;> simp [u]
theorem own_arf_at {c : Cell} {n j : Int32} {f : Nat → Value} (H : ∀ i, i < n.toNatClampNeg → c.slots[i]? = some (f i)) (S : c.slots.size = n.toNatClampNeg) (q : ¬ (j < 0 ∨ c.slots.size ≤ j.toNatClampNeg)) : c.slots[j.toNatClampNeg]? = some (f j.toNatClampNeg) :=
  H _ (by rw [← S]; exact Nat.lt_of_not_le fun y => q (Or.inr y))
theorem own_nb {x : Int32} (h : x = 0 ∨ x = 1) : nar .boolean x = x := by
  rcases h with rfl | rfl <;> rfl
end Jvm.RoadKit
namespace Jvm.Pilot.@@N@@
open Jvm Jvm.ClassFile Sem Op Lib Jvm.Free Jvm.Stand Jvm.LawKit Jvm.RoadKit Bundle Jvm.Pilot.@@N@@.Jvm.D
theorem d1_0 : decode jdk_29_method_65_code 0 = .ok (.iload_n 0, 1) := by decide +kernel
theorem d1_1 : decode jdk_29_method_65_code 1 = .ok (.iload_n 1, 1) := by decide +kernel
theorem d1_2 : decode jdk_29_method_65_code 2 = .ok (.if_icmp .lt 7, 3) := by decide +kernel
theorem d1_5 : decode jdk_29_method_65_code 5 = .ok (.iload_n 0, 1) := by decide +kernel
theorem d1_6 : decode jdk_29_method_65_code 6 = .ok (.goto 4, 3) := by decide +kernel
theorem d1_9 : decode jdk_29_method_65_code 9 = .ok (.iload_n 1, 1) := by decide +kernel
theorem d1_10 : decode jdk_29_method_65_code 10 = .ok (.ireturn, 1) := by decide +kernel
theorem ef_1 (m : MethodId) (va : Int32) (vb : Int32) : entryFrame m #[(.int va), (.int vb)] 2 = mkF m 0 #[.val (.int va), .val (.int vb)] [] := by first | (simp [entryFrame, mkF, argsToLocals, Value.category]; done) | rfl
def F1 (va : Int32) (vb : Int32) : Int32 := (if va < vb then vb else va)
def Q1 (Z : State) (va : Int32) (vb : Int32) (h0 : Heap) (n0 : Nat) (v : Option Value) (h : Heap) (L : List Loc) : Prop := v = some (.int (F1 va vb)) ∧ Fr n0 L ∧ h = h0
set_option maxRecDepth 65536 in
set_option maxHeartbeats 40000000 in
theorem rm1 (l : Launch) (Z : State) (a0 : Array Value) (hw : ∀ d ∈ tables_1, d.before a0 Z = true) (ws : List Jvm.Cond) (va : Int32) (vb : Int32) (h0 : Heap) (n0 : Nat) (Z0 : n0 ≤ h0.size)  :
    MetFree l (⟨"java/lang/Math", "max", "(II)I"⟩ : MethodName) (head1 (Jvm.Cond.code (⟨"java/lang/Math", "max", "(II)I"⟩ : MethodName) jdk_29_method_65_code 2 (some .int) :: ws) ({ frames := 0, cells := 0, slots := 0, locals := 0 } : Room)) (fun a U => a = #[(.int va), (.int vb)] ∧ Z.Warmed39 U.vm ∧ U.heap = h0) (fun _ _ _ _ _ => True) (fun _ U o U' => ∃ v L, o = .returned v ∧ Q1 Z va vb h0 n0 v U'.heap L ∧ FrameEnd U o U' L ({ frames := 0, cells := 0, slots := 0, locals := 0 } : Room).cells ({ frames := 0, cells := 0, slots := 0, locals := 0 } : Room).slots) := by
  refine MetFree.of_bodySF (Jvm.Free.JP.mathPlain rfl (by decide +kernel)) hisR ?_
  intro p e s m args below meth c s₁ Bd hml0 hP hK
  obtain ⟨rfl, hZ, hh⟩ := hP
  have hx := Bd.exec
  have hby := Bd.bytes
  have hml : c.maxLocals = 2 := hml0
  have hown : s.vm.findClass "java/lang/Math" = some m.cls := findClass_of_methodNamed Bd.named
  have hnm := (name_of_methodNamed Bd.named Bd.method).1
  have X0 : Stand p l e ({ frames := 0, cells := 0, slots := 0, locals := 0 } : Room) s m #[(.int va), (.int vb)] below meth c s₁ [] 0 0 := Stand.of_body Bd
  have e0 : s₁.heap = h0 := by rw [← hh, Bd.state]; rfl
  have N0 := Fr.nil n0
  have pre0 : ∀ t, Steps p.tables e below (s₁.setTop (mkF m 0 #[.val (.int va), .val (.int vb)] [])) t → Steps p.tables e below (s₁.setTop (entryFrame m #[(.int va), (.int vb)] 2)) t := fun t k => castTop (ef_1 m va vb) k
  obtain ⟨fs, hr, hrun, hended, hW, hsame⟩ := X0.leave (v := some (.int (if va < vb then vb else va))) (fun h => by rw [Bd.returns] at h; cases h)
  refine ⟨_, _, pre0 _ ?_, hrun, hended, _, _, rfl, ?_, ⟨_, rfl⟩, hW, hsame.mono (by decide) (by decide)⟩
  · show Steps p.tables e below (s₁.setTop (mkF m 0 #[.val (.int va), .val (.int vb)] [])) _
    refine XS.iloadN X0.here hx rfl (hb hby d1_0) rfl ?_
    show Steps p.tables e below (s₁.setTop (mkF m 1 #[.val (.int va), .val (.int vb)] [(.int va)])) _
    refine XS.iloadN X0.here hx rfl (hb hby d1_1) rfl ?_
    show Steps p.tables e below (s₁.setTop (mkF m 2 #[.val (.int va), .val (.int vb)] [(.int vb), (.int va)])) _
    refine own_dia (u := (vb : Int32)) (v := va) (va < vb) (fun z1 => (mkF m 10 #[.val (.int va), .val (.int vb)] [(.int z1)])) (fun hc1 k1 => ?_) (fun hc1 k1 => ?_) ?_
    · refine XS.icmpYes X0.here hx rfl (pc0 := 2) (pc' := 9) rfl (hb hby d1_2) rfl (tlt hc1).1 (by decide) (by decide) ?_
      show Steps p.tables e below (s₁.setTop (mkF m 9 #[.val (.int va), .val (.int vb)] [])) _
      refine XS.iloadN X0.here hx rfl (hb hby d1_9) rfl ?_
      exact k1
    · refine XS.icmpNo X0.here hx rfl (hb hby d1_2) rfl (flt hc1).1 ?_
      show Steps p.tables e below (s₁.setTop (mkF m 5 #[.val (.int va), .val (.int vb)] [])) _
      refine XS.iloadN X0.here hx rfl (hb hby d1_5) rfl ?_
      show Steps p.tables e below (s₁.setTop (mkF m 6 #[.val (.int va), .val (.int vb)] [(.int va)])) _
      refine XS.goto X0.here hx rfl (pc0 := 6) (pc' := 10) rfl (hb hby d1_6) (by decide) (by decide) ?_
      exact k1
    -- meets at 10
    show Steps p.tables e below (s₁.setTop (mkF m 10 #[.val (.int va), .val (.int vb)] [(.int (if va < vb then vb else va))])) _
    exact retI X0 hx Bd.returns (hb hby d1_10) hr
  · show Q1 Z va vb h0 n0 _ s₁.heap _
    rw [e0]
    exact ⟨rfl, N0, rfl⟩
theorem d2_0 : decode jdk_29_method_66_code 0 = .ok (.lload_n 0, 1) := by decide +kernel
theorem d2_1 : decode jdk_29_method_66_code 1 = .ok (.lload_n 2, 1) := by decide +kernel
theorem d2_2 : decode jdk_29_method_66_code 2 = .ok (.lcmp, 1) := by decide +kernel
theorem d2_3 : decode jdk_29_method_66_code 3 = .ok (.ifCond .lt 7, 3) := by decide +kernel
theorem d2_6 : decode jdk_29_method_66_code 6 = .ok (.lload_n 0, 1) := by decide +kernel
theorem d2_7 : decode jdk_29_method_66_code 7 = .ok (.goto 4, 3) := by decide +kernel
theorem d2_10 : decode jdk_29_method_66_code 10 = .ok (.lload_n 2, 1) := by decide +kernel
theorem d2_11 : decode jdk_29_method_66_code 11 = .ok (.lreturn, 1) := by decide +kernel
theorem ef_2 (m : MethodId) (va : Int64) (vb : Int64) : entryFrame m #[(.long va), (.long vb)] 4 = mkF m 0 #[.val (.long va), .second, .val (.long vb), .second] [] := by first | (simp [entryFrame, mkF, argsToLocals, Value.category]; done) | rfl
def F2 (va : Int64) (vb : Int64) : Int64 := (if va < vb then vb else va)
def Q2 (Z : State) (va : Int64) (vb : Int64) (h0 : Heap) (n0 : Nat) (v : Option Value) (h : Heap) (L : List Loc) : Prop := v = some (.long (F2 va vb)) ∧ Fr n0 L ∧ h = h0
set_option maxRecDepth 65536 in
set_option maxHeartbeats 40000000 in
theorem rm2 (l : Launch) (Z : State) (a0 : Array Value) (hw : ∀ d ∈ tables_1, d.before a0 Z = true) (ws : List Jvm.Cond) (va : Int64) (vb : Int64) (h0 : Heap) (n0 : Nat) (Z0 : n0 ≤ h0.size)  :
    MetFree l (⟨"java/lang/Math", "max", "(JJ)J"⟩ : MethodName) (head1 (Jvm.Cond.code (⟨"java/lang/Math", "max", "(JJ)J"⟩ : MethodName) jdk_29_method_66_code 4 (some .long) :: ws) ({ frames := 0, cells := 0, slots := 0, locals := 0 } : Room)) (fun a U => a = #[(.long va), (.long vb)] ∧ Z.Warmed39 U.vm ∧ U.heap = h0) (fun _ _ _ _ _ => True) (fun _ U o U' => ∃ v L, o = .returned v ∧ Q2 Z va vb h0 n0 v U'.heap L ∧ FrameEnd U o U' L ({ frames := 0, cells := 0, slots := 0, locals := 0 } : Room).cells ({ frames := 0, cells := 0, slots := 0, locals := 0 } : Room).slots) := by
  refine MetFree.of_bodySF (Jvm.Free.JP.mathPlain rfl (by decide +kernel)) hisR ?_
  intro p e s m args below meth c s₁ Bd hml0 hP hK
  obtain ⟨rfl, hZ, hh⟩ := hP
  have hx := Bd.exec
  have hby := Bd.bytes
  have hml : c.maxLocals = 4 := hml0
  have hown : s.vm.findClass "java/lang/Math" = some m.cls := findClass_of_methodNamed Bd.named
  have hnm := (name_of_methodNamed Bd.named Bd.method).1
  have X0 : Stand p l e ({ frames := 0, cells := 0, slots := 0, locals := 0 } : Room) s m #[(.long va), (.long vb)] below meth c s₁ [] 0 0 := Stand.of_body Bd
  have e0 : s₁.heap = h0 := by rw [← hh, Bd.state]; rfl
  have N0 := Fr.nil n0
  have pre0 : ∀ t, Steps p.tables e below (s₁.setTop (mkF m 0 #[.val (.long va), .second, .val (.long vb), .second] [])) t → Steps p.tables e below (s₁.setTop (entryFrame m #[(.long va), (.long vb)] 4)) t := fun t k => castTop (ef_2 m va vb) k
  obtain ⟨fs, hr, hrun, hended, hW, hsame⟩ := X0.leave (v := some (.long (if va < vb then vb else va))) (fun h => by rw [Bd.returns] at h; cases h)
  refine ⟨_, _, pre0 _ ?_, hrun, hended, _, _, rfl, ?_, ⟨_, rfl⟩, hW, hsame.mono (by decide) (by decide)⟩
  · show Steps p.tables e below (s₁.setTop (mkF m 0 #[.val (.long va), .second, .val (.long vb), .second] [])) _
    refine XS.lloadN X0.here hx rfl (hb hby d2_0) rfl ?_
    show Steps p.tables e below (s₁.setTop (mkF m 1 #[.val (.long va), .second, .val (.long vb), .second] [(.long va)])) _
    refine XS.lloadN X0.here hx rfl (hb hby d2_1) rfl ?_
    show Steps p.tables e below (s₁.setTop (mkF m 2 #[.val (.long va), .second, .val (.long vb), .second] [(.long vb), (.long va)])) _
    refine XS.lcmp X0.here hx rfl (hb hby d2_2) rfl ?_
    show Steps p.tables e below (s₁.setTop (mkF m 3 #[.val (.long va), .second, .val (.long vb), .second] [(.int (lcmpW va vb))])) _
    refine own_dia (u := (vb : Int64)) (v := va) (va < vb) (fun z1 => (mkF m 11 #[.val (.long va), .second, .val (.long vb), .second] [(.long z1)])) (fun hc1 k1 => ?_) (fun hc1 k1 => ?_) ?_
    · refine XS.ifYes X0.here hx rfl (pc0 := 3) (pc' := 10) rfl (hb hby d2_3) rfl (own_llt hc1).1 (by decide) (by decide) ?_
      show Steps p.tables e below (s₁.setTop (mkF m 10 #[.val (.long va), .second, .val (.long vb), .second] [])) _
      refine XS.lloadN X0.here hx rfl (hb hby d2_10) rfl ?_
      exact k1
    · refine XS.ifNo X0.here hx rfl (hb hby d2_3) rfl (own_lge hc1).1 ?_
      show Steps p.tables e below (s₁.setTop (mkF m 6 #[.val (.long va), .second, .val (.long vb), .second] [])) _
      refine XS.lloadN X0.here hx rfl (hb hby d2_6) rfl ?_
      show Steps p.tables e below (s₁.setTop (mkF m 7 #[.val (.long va), .second, .val (.long vb), .second] [(.long va)])) _
      refine XS.goto X0.here hx rfl (pc0 := 7) (pc' := 11) rfl (hb hby d2_7) (by decide) (by decide) ?_
      exact k1
    -- meets at 11
    show Steps p.tables e below (s₁.setTop (mkF m 11 #[.val (.long va), .second, .val (.long vb), .second] [(.long (if va < vb then vb else va))])) _
    exact X0.lreturnOut hx Bd.returns (hb hby d2_11) hr
  · show Q2 Z va vb h0 n0 _ s₁.heap _
    rw [e0]
    exact ⟨rfl, N0, rfl⟩
theorem d3_0 : decode prog_49_method_1_code 0 = .ok (.aload_n 0, 1) := by decide +kernel
theorem d3_1 : decode prog_49_method_1_code 1 = .ok (.invokespecial 5, 3) := by decide +kernel
theorem d3_4 : decode prog_49_method_1_code 4 = .ok (.aload_n 0, 1) := by decide +kernel
theorem d3_5 : decode prog_49_method_1_code 5 = .ok (.lload_n 1, 1) := by decide +kernel
theorem d3_6 : decode prog_49_method_1_code 6 = .ok (.putfield 11, 3) := by decide +kernel
theorem d3_9 : decode prog_49_method_1_code 9 = .ok (.aload_n 0, 1) := by decide +kernel
theorem d3_10 : decode prog_49_method_1_code 10 = .ok (.lload_n 3, 1) := by decide +kernel
theorem d3_11 : decode prog_49_method_1_code 11 = .ok (.putfield 15, 3) := by decide +kernel
theorem d3_14 : decode prog_49_method_1_code 14 = .ok (.aload_n 0, 1) := by decide +kernel
theorem d3_15 : decode prog_49_method_1_code 15 = .ok (.iload 5, 2) := by decide +kernel
theorem d3_17 : decode prog_49_method_1_code 17 = .ok (.putfield 18, 3) := by decide +kernel
theorem d3_20 : decode prog_49_method_1_code 20 = .ok (.aload_n 0, 1) := by decide +kernel
theorem d3_21 : decode prog_49_method_1_code 21 = .ok (.lload 6, 2) := by decide +kernel
theorem d3_23 : decode prog_49_method_1_code 23 = .ok (.putfield 22, 3) := by decide +kernel
theorem d3_26 : decode prog_49_method_1_code 26 = .ok (.aload_n 0, 1) := by decide +kernel
theorem d3_27 : decode prog_49_method_1_code 27 = .ok (.ldc2_w 25, 3) := by decide +kernel
theorem d3_30 : decode prog_49_method_1_code 30 = .ok (.lload_n 1, 1) := by decide +kernel
theorem d3_31 : decode prog_49_method_1_code 31 = .ok (.lrem, 1) := by decide +kernel
theorem d3_32 : decode prog_49_method_1_code 32 = .ok (.putfield 27, 3) := by decide +kernel
theorem d3_35 : decode prog_49_method_1_code 35 = .ok (.return_, 1) := by decide +kernel
theorem pn_3 : plainName "com/example/inchworm/inchworm/Workload" = true := by first | (simp [plainName, overriddenIn]; done) | decide +kernel
theorem ef_3 (m : MethodId) (va : Addr) (vk : Int64) (ve : Int64) (vt : Int32) (vs : Int64) : entryFrame m #[(.ref va), (.long vk), (.long ve), (.int vt), (.long vs)] 8 = mkF m 0 #[.val (.ref va), .val (.long vk), .second, .val (.long ve), .second, .val (.int vt), .val (.long vs), .second] [] := by first | (simp [entryFrame, mkF, argsToLocals, Value.category]; done) | rfl
def Q3 (Z : State) (va : Addr) (vk : Int64) (ve : Int64) (vt : Int32) (vs : Int64) (h0 : Heap) (n0 : Nat) (v : Option Value) (h : Heap) (L : List Loc) : Prop := v = none ∧ Fr n0 L ∧ Keep h0 h [va] ∧ Exa Z h va "com/example/inchworm/inchworm/Workload" ∧ Fld Z h va "com/example/inchworm/inchworm/Workload" "threads" "I" (.int vt)
set_option maxRecDepth 65536 in
set_option maxHeartbeats 40000000 in
theorem rm3 (l : Launch) (Z : State) (a0 : Array Value) (hw : ∀ d ∈ tables_1, d.before a0 Z = true) (ws : List Jvm.Cond) (va : Addr) (vk : Int64) (ve : Int64) (vt : Int32) (vs : Int64) (h0 : Heap) (n0 : Nat) (Z0 : n0 ≤ h0.size) (E_va : Exa Z h0 va "com/example/inchworm/inchworm/Workload") (g_va : n0 ≤ va) (F_va_keys : Fld Z h0 va "com/example/inchworm/inchworm/Workload" "keys" "J" (.long (0 : Int64))) (F_va_events : Fld Z h0 va "com/example/inchworm/inchworm/Workload" "events" "J" (.long (0 : Int64))) (F_va_threads : Fld Z h0 va "com/example/inchworm/inchworm/Workload" "threads" "I" (.int (0 : Int32))) (F_va_seed : Fld Z h0 va "com/example/inchworm/inchworm/Workload" "seed" "J" (.long (0 : Int64))) (F_va_rejectBelow : Fld Z h0 va "com/example/inchworm/inchworm/Workload" "rejectBelow" "J" (.long (0 : Int64))) (hnz : vk ≠ 0) :
    MetFree l (⟨"com/example/inchworm/inchworm/Workload", "<init>", "(JJIJ)V"⟩ : MethodName) (head1 (Jvm.Cond.code (⟨"com/example/inchworm/inchworm/Workload", "<init>", "(JJIJ)V"⟩ : MethodName) prog_49_method_1_code 8 none :: ws) ({ frames := 1, cells := 0, slots := 0, locals := 12 } : Room)) (fun a U => a = #[(.ref va), (.long vk), (.long ve), (.int vt), (.long vs)] ∧ Z.Warmed39 U.vm ∧ U.heap = h0) (fun _ _ _ _ _ => True) (fun _ U o U' => ∃ v L, o = .returned v ∧ Q3 Z va vk ve vt vs h0 n0 v U'.heap L ∧ FrameEnd U o U' L ({ frames := 1, cells := 0, slots := 0, locals := 12 } : Room).cells ({ frames := 1, cells := 0, slots := 0, locals := 12 } : Room).slots) := by
  refine MetFree.of_bodySF (plainFor_of_name pn_3) hisR ?_
  intro p e s m args below meth c s₁ Bd hml0 hP hK
  obtain ⟨rfl, hZ, hh⟩ := hP
  have hx := Bd.exec
  have hby := Bd.bytes
  have hml : c.maxLocals = 8 := hml0
  have hown : s.vm.findClass "com/example/inchworm/inchworm/Workload" = some m.cls := findClass_of_methodNamed Bd.named
  have hnm := (name_of_methodNamed Bd.named Bd.method).1
  have X0 : Stand p l e ({ frames := 1, cells := 0, slots := 0, locals := 12 } : Room) s m #[(.ref va), (.long vk), (.long ve), (.int vt), (.long vs)] below meth c s₁ [] 0 0 := Stand.of_body Bd
  have e0 : s₁.heap = h0 := by rw [← hh, Bd.state]; rfl
  have N0 := Fr.nil n0
  have pre0 : ∀ t, Steps p.tables e below (s₁.setTop (mkF m 0 #[.val (.ref va), .val (.long vk), .second, .val (.long ve), .second, .val (.int vt), .val (.long vs), .second] [])) t → Steps p.tables e below (s₁.setTop (entryFrame m #[(.ref va), (.long vk), (.long ve), (.int vt), (.long vs)] 8)) t := fun t k => castTop (ef_3 m va vk ve vt vs) k
  have K0 := Keep.refl h0 [va]
  obtain ⟨T1, X1, e1, st1⟩ := initO X0 hx hZ hown (hw _ (List.mem_of_getElem? (i := 16) rfl)) (hw _ (List.mem_of_getElem? (i := 17) rfl)) (hw _ (List.mem_of_getElem? (i := 18) rfl)) e0 (g := (mkF m 1 #[.val (.ref va), .val (.long vk), .second, .val (.long ve), .second, .val (.int vt), .val (.long vs), .second] [(.ref va)])) rfl (by rw [hml]; rfl) rfl (hb hby d3_1) (by decide) (W := 0) (by show 2 * 0 + _ ≤ _; exact Nat.le_of_eq rfl) (by decide)
  obtain ⟨T2, h2, X2, e2, W2, st2⟩ := putF X1 hx hZ hown (host := "") (Or.inl (hw _ (List.mem_of_getElem? (i := 19) rfl))) Via.refl e1 F_va_keys E_va (Or.inr ⟨(hw _ (List.mem_of_getElem? (i := 20) rfl)), rfl, hnm⟩) (hw _ (List.mem_of_getElem? (i := 11) rfl)) (ty := .long) (by decide) rfl rfl (g := (mkF m 6 #[.val (.ref va), .val (.long vk), .second, .val (.long ve), .second, .val (.int vt), .val (.long vs), .second] [(.long vk), (.ref va)])) rfl rfl (hb hby d3_6)
  have Z3 : n0 ≤ h2.size := Nat.le_trans Z0 (Keep.of_wr W2).1
  have E4_va := E_va.wr W2
  have F6_va_events := F_va_events.other W2 (Or.inr (slot_ne (Or.inr (hw _ (List.mem_of_getElem? (i := 22) rfl))) (Or.inr (hw _ (List.mem_of_getElem? (i := 20) rfl))) (by decide) (t := .long) (t' := .long) (by decide) (by decide)))
  have F7_va_threads := F_va_threads.other W2 (Or.inr (slot_ne (Or.inr (hw _ (List.mem_of_getElem? (i := 24) rfl))) (Or.inr (hw _ (List.mem_of_getElem? (i := 20) rfl))) (by decide) (t := .int) (t' := .long) (by decide) (by decide)))
  have F8_va_seed := F_va_seed.other W2 (Or.inr (slot_ne (Or.inr (hw _ (List.mem_of_getElem? (i := 26) rfl))) (Or.inr (hw _ (List.mem_of_getElem? (i := 20) rfl))) (by decide) (t := .long) (t' := .long) (by decide) (by decide)))
  have F9_va_rejectBelow := F_va_rejectBelow.other W2 (Or.inr (slot_ne (Or.inr (hw _ (List.mem_of_getElem? (i := 29) rfl))) (Or.inr (hw _ (List.mem_of_getElem? (i := 20) rfl))) (by decide) (t := .long) (t' := .long) (by decide) (by decide)))
  have Fw2 := F_va_keys.same W2
  have N2 := Fr.snoc X2 N0 g_va
  have K2 := K0.wr W2 (Or.inl (List.mem_of_getElem? (i := 0) rfl))
  obtain ⟨T10, h10, X10, e10, W10, st10⟩ := putF X2 hx hZ hown (host := "") (Or.inl (hw _ (List.mem_of_getElem? (i := 21) rfl))) Via.refl e2 F6_va_events E4_va (Or.inr ⟨(hw _ (List.mem_of_getElem? (i := 22) rfl)), rfl, hnm⟩) (hw _ (List.mem_of_getElem? (i := 11) rfl)) (ty := .long) (by decide) rfl rfl (g := (mkF m 11 #[.val (.ref va), .val (.long vk), .second, .val (.long ve), .second, .val (.int vt), .val (.long vs), .second] [(.long ve), (.ref va)])) rfl rfl (hb hby d3_11)
  have Z11 : n0 ≤ h10.size := Nat.le_trans Z3 (Keep.of_wr W10).1
  have E12_va := E4_va.wr W10
  have F13_va_keys := Fw2.other W10 (Or.inr (slot_ne (Or.inr (hw _ (List.mem_of_getElem? (i := 20) rfl))) (Or.inr (hw _ (List.mem_of_getElem? (i := 22) rfl))) (by decide) (t := .long) (t' := .long) (by decide) (by decide)))
  have F15_va_threads := F7_va_threads.other W10 (Or.inr (slot_ne (Or.inr (hw _ (List.mem_of_getElem? (i := 24) rfl))) (Or.inr (hw _ (List.mem_of_getElem? (i := 22) rfl))) (by decide) (t := .int) (t' := .long) (by decide) (by decide)))
  have F16_va_seed := F8_va_seed.other W10 (Or.inr (slot_ne (Or.inr (hw _ (List.mem_of_getElem? (i := 26) rfl))) (Or.inr (hw _ (List.mem_of_getElem? (i := 22) rfl))) (by decide) (t := .long) (t' := .long) (by decide) (by decide)))
  have F17_va_rejectBelow := F9_va_rejectBelow.other W10 (Or.inr (slot_ne (Or.inr (hw _ (List.mem_of_getElem? (i := 29) rfl))) (Or.inr (hw _ (List.mem_of_getElem? (i := 22) rfl))) (by decide) (t := .long) (t' := .long) (by decide) (by decide)))
  have Fw10 := F6_va_events.same W10
  have N10 := Fr.snoc X10 N2 g_va
  have K10 := K2.wr W10 (Or.inl (List.mem_of_getElem? (i := 0) rfl))
  obtain ⟨T18, h18, X18, e18, W18, st18⟩ := putF X10 hx hZ hown (host := "") (Or.inl (hw _ (List.mem_of_getElem? (i := 23) rfl))) Via.refl e10 F15_va_threads E12_va (Or.inr ⟨(hw _ (List.mem_of_getElem? (i := 24) rfl)), rfl, hnm⟩) (hw _ (List.mem_of_getElem? (i := 11) rfl)) (ty := .int) (by decide) rfl rfl (g := (mkF m 17 #[.val (.ref va), .val (.long vk), .second, .val (.long ve), .second, .val (.int vt), .val (.long vs), .second] [(.int vt), (.ref va)])) rfl rfl (hb hby d3_17)
  have Z19 : n0 ≤ h18.size := Nat.le_trans Z11 (Keep.of_wr W18).1
  have E20_va := E12_va.wr W18
  have F21_va_keys := F13_va_keys.other W18 (Or.inr (slot_ne (Or.inr (hw _ (List.mem_of_getElem? (i := 20) rfl))) (Or.inr (hw _ (List.mem_of_getElem? (i := 24) rfl))) (by decide) (t := .long) (t' := .int) (by decide) (by decide)))
  have F22_va_events := Fw10.other W18 (Or.inr (slot_ne (Or.inr (hw _ (List.mem_of_getElem? (i := 22) rfl))) (Or.inr (hw _ (List.mem_of_getElem? (i := 24) rfl))) (by decide) (t := .long) (t' := .int) (by decide) (by decide)))
  have F24_va_seed := F16_va_seed.other W18 (Or.inr (slot_ne (Or.inr (hw _ (List.mem_of_getElem? (i := 26) rfl))) (Or.inr (hw _ (List.mem_of_getElem? (i := 24) rfl))) (by decide) (t := .long) (t' := .int) (by decide) (by decide)))
  have F25_va_rejectBelow := F17_va_rejectBelow.other W18 (Or.inr (slot_ne (Or.inr (hw _ (List.mem_of_getElem? (i := 29) rfl))) (Or.inr (hw _ (List.mem_of_getElem? (i := 24) rfl))) (by decide) (t := .long) (t' := .int) (by decide) (by decide)))
  have Fw18 := F15_va_threads.same W18
  have N18 := Fr.snoc X18 N10 g_va
  have K18 := K10.wr W18 (Or.inl (List.mem_of_getElem? (i := 0) rfl))
  obtain ⟨T26, h26, X26, e26, W26, st26⟩ := putF X18 hx hZ hown (host := "") (Or.inl (hw _ (List.mem_of_getElem? (i := 25) rfl))) Via.refl e18 F24_va_seed E20_va (Or.inr ⟨(hw _ (List.mem_of_getElem? (i := 26) rfl)), rfl, hnm⟩) (hw _ (List.mem_of_getElem? (i := 11) rfl)) (ty := .long) (by decide) rfl rfl (g := (mkF m 23 #[.val (.ref va), .val (.long vk), .second, .val (.long ve), .second, .val (.int vt), .val (.long vs), .second] [(.long vs), (.ref va)])) rfl rfl (hb hby d3_23)
  have Z27 : n0 ≤ h26.size := Nat.le_trans Z19 (Keep.of_wr W26).1
  have E28_va := E20_va.wr W26
  have F29_va_keys := F21_va_keys.other W26 (Or.inr (slot_ne (Or.inr (hw _ (List.mem_of_getElem? (i := 20) rfl))) (Or.inr (hw _ (List.mem_of_getElem? (i := 26) rfl))) (by decide) (t := .long) (t' := .long) (by decide) (by decide)))
  have F30_va_events := F22_va_events.other W26 (Or.inr (slot_ne (Or.inr (hw _ (List.mem_of_getElem? (i := 22) rfl))) (Or.inr (hw _ (List.mem_of_getElem? (i := 26) rfl))) (by decide) (t := .long) (t' := .long) (by decide) (by decide)))
  have F31_va_threads := Fw18.other W26 (Or.inr (slot_ne (Or.inr (hw _ (List.mem_of_getElem? (i := 24) rfl))) (Or.inr (hw _ (List.mem_of_getElem? (i := 26) rfl))) (by decide) (t := .int) (t' := .long) (by decide) (by decide)))
  have F33_va_rejectBelow := F25_va_rejectBelow.other W26 (Or.inr (slot_ne (Or.inr (hw _ (List.mem_of_getElem? (i := 29) rfl))) (Or.inr (hw _ (List.mem_of_getElem? (i := 26) rfl))) (by decide) (t := .long) (t' := .long) (by decide) (by decide)))
  have Fw26 := F24_va_seed.same W26
  have N26 := Fr.snoc X26 N18 g_va
  have K26 := K18.wr W26 (Or.inl (List.mem_of_getElem? (i := 0) rfl))
  obtain ⟨T34, h34, X34, e34, W34, st34⟩ := putF X26 hx hZ hown (host := "") (Or.inl (hw _ (List.mem_of_getElem? (i := 28) rfl))) Via.refl e26 F33_va_rejectBelow E28_va (Or.inr ⟨(hw _ (List.mem_of_getElem? (i := 29) rfl)), rfl, hnm⟩) (hw _ (List.mem_of_getElem? (i := 11) rfl)) (ty := .long) (by decide) rfl rfl (g := (mkF m 32 #[.val (.ref va), .val (.long vk), .second, .val (.long ve), .second, .val (.int vt), .val (.long vs), .second] [(.long ((4294967296 : Int64) - ((4294967296 : Int64) / vk) * vk)), (.ref va)])) rfl rfl (hb hby d3_32)
  have Z35 : n0 ≤ h34.size := Nat.le_trans Z27 (Keep.of_wr W34).1
  have E36_va := E28_va.wr W34
  have F37_va_keys := F29_va_keys.other W34 (Or.inr (slot_ne (Or.inr (hw _ (List.mem_of_getElem? (i := 20) rfl))) (Or.inr (hw _ (List.mem_of_getElem? (i := 29) rfl))) (by decide) (t := .long) (t' := .long) (by decide) (by decide)))
  have F38_va_events := F30_va_events.other W34 (Or.inr (slot_ne (Or.inr (hw _ (List.mem_of_getElem? (i := 22) rfl))) (Or.inr (hw _ (List.mem_of_getElem? (i := 29) rfl))) (by decide) (t := .long) (t' := .long) (by decide) (by decide)))
  have F39_va_threads := F31_va_threads.other W34 (Or.inr (slot_ne (Or.inr (hw _ (List.mem_of_getElem? (i := 24) rfl))) (Or.inr (hw _ (List.mem_of_getElem? (i := 29) rfl))) (by decide) (t := .int) (t' := .long) (by decide) (by decide)))
  have F40_va_seed := Fw26.other W34 (Or.inr (slot_ne (Or.inr (hw _ (List.mem_of_getElem? (i := 26) rfl))) (Or.inr (hw _ (List.mem_of_getElem? (i := 29) rfl))) (by decide) (t := .long) (t' := .long) (by decide) (by decide)))
  have Fw34 := F33_va_rejectBelow.same W34
  have N34 := Fr.snoc X34 N26 g_va
  have K34 := K26.wr W34 (Or.inl (List.mem_of_getElem? (i := 0) rfl))
  obtain ⟨fs, hr, hrun, hended, hW, hsame⟩ := X34.leave (v := none) (fun _ => rfl)
  refine ⟨_, _, pre0 _ ?_, hrun, hended, _, _, rfl, ?_, ⟨_, rfl⟩, hW, hsame.mono (by decide) (by decide)⟩
  · show Steps p.tables e below (s₁.setTop (mkF m 0 #[.val (.ref va), .val (.long vk), .second, .val (.long ve), .second, .val (.int vt), .val (.long vs), .second] [])) _
    refine XS.aloadN X0.here hx rfl (hb hby d3_0) rfl rfl ?_
    show Steps p.tables e below (s₁.setTop (mkF m 1 #[.val (.ref va), .val (.long vk), .second, .val (.long ve), .second, .val (.int vt), .val (.long vs), .second] [(.ref va)])) _
    refine st1 _ ?_
    show Steps p.tables e below (T1.setTop (mkF m 4 #[.val (.ref va), .val (.long vk), .second, .val (.long ve), .second, .val (.int vt), .val (.long vs), .second] [])) _
    refine XS.aloadN X1.here hx rfl (hb hby d3_4) rfl rfl ?_
    show Steps p.tables e below (T1.setTop (mkF m 5 #[.val (.ref va), .val (.long vk), .second, .val (.long ve), .second, .val (.int vt), .val (.long vs), .second] [(.ref va)])) _
    refine XS.lloadN X1.here hx rfl (hb hby d3_5) rfl ?_
    show Steps p.tables e below (T1.setTop (mkF m 6 #[.val (.ref va), .val (.long vk), .second, .val (.long ve), .second, .val (.int vt), .val (.long vs), .second] [(.long vk), (.ref va)])) _
    refine st2 _ ?_
    show Steps p.tables e below (T2.setTop (mkF m 9 #[.val (.ref va), .val (.long vk), .second, .val (.long ve), .second, .val (.int vt), .val (.long vs), .second] [])) _
    refine XS.aloadN X2.here hx rfl (hb hby d3_9) rfl rfl ?_
    show Steps p.tables e below (T2.setTop (mkF m 10 #[.val (.ref va), .val (.long vk), .second, .val (.long ve), .second, .val (.int vt), .val (.long vs), .second] [(.ref va)])) _
    refine XS.lloadN X2.here hx rfl (hb hby d3_10) rfl ?_
    show Steps p.tables e below (T2.setTop (mkF m 11 #[.val (.ref va), .val (.long vk), .second, .val (.long ve), .second, .val (.int vt), .val (.long vs), .second] [(.long ve), (.ref va)])) _
    refine st10 _ ?_
    show Steps p.tables e below (T10.setTop (mkF m 14 #[.val (.ref va), .val (.long vk), .second, .val (.long ve), .second, .val (.int vt), .val (.long vs), .second] [])) _
    refine XS.aloadN X10.here hx rfl (hb hby d3_14) rfl rfl ?_
    show Steps p.tables e below (T10.setTop (mkF m 15 #[.val (.ref va), .val (.long vk), .second, .val (.long ve), .second, .val (.int vt), .val (.long vs), .second] [(.ref va)])) _
    refine XS.iload X10.here hx rfl (hb hby d3_15) rfl ?_
    show Steps p.tables e below (T10.setTop (mkF m 17 #[.val (.ref va), .val (.long vk), .second, .val (.long ve), .second, .val (.int vt), .val (.long vs), .second] [(.int vt), (.ref va)])) _
    refine st18 _ ?_
    show Steps p.tables e below (T18.setTop (mkF m 20 #[.val (.ref va), .val (.long vk), .second, .val (.long ve), .second, .val (.int vt), .val (.long vs), .second] [])) _
    refine XS.aloadN X18.here hx rfl (hb hby d3_20) rfl rfl ?_
    show Steps p.tables e below (T18.setTop (mkF m 21 #[.val (.ref va), .val (.long vk), .second, .val (.long ve), .second, .val (.int vt), .val (.long vs), .second] [(.ref va)])) _
    refine XS.lload X18.here hx rfl (hb hby d3_21) rfl ?_
    show Steps p.tables e below (T18.setTop (mkF m 23 #[.val (.ref va), .val (.long vk), .second, .val (.long ve), .second, .val (.int vt), .val (.long vs), .second] [(.long vs), (.ref va)])) _
    refine st26 _ ?_
    show Steps p.tables e below (T26.setTop (mkF m 26 #[.val (.ref va), .val (.long vk), .second, .val (.long ve), .second, .val (.int vt), .val (.long vs), .second] [])) _
    refine XS.aloadN X26.here hx rfl (hb hby d3_26) rfl rfl ?_
    show Steps p.tables e below (T26.setTop (mkF m 27 #[.val (.ref va), .val (.long vk), .second, .val (.long ve), .second, .val (.int vt), .val (.long vs), .second] [(.ref va)])) _
    refine X26.ldc2Long hx hown (mvT hZ (hw _ (List.mem_of_getElem? (i := 27) rfl))) (g := (mkF m 27 #[.val (.ref va), .val (.long vk), .second, .val (.long ve), .second, .val (.int vt), .val (.long vs), .second] [(.ref va)])) rfl (hb hby d3_27) _ ?_
    show Steps p.tables e below (T26.setTop (mkF m 30 #[.val (.ref va), .val (.long vk), .second, .val (.long ve), .second, .val (.int vt), .val (.long vs), .second] [(.long (4294967296 : Int64)), (.ref va)])) _
    refine XS.lloadN X26.here hx rfl (hb hby d3_30) rfl ?_
    show Steps p.tables e below (T26.setTop (mkF m 31 #[.val (.ref va), .val (.long vk), .second, .val (.long ve), .second, .val (.int vt), .val (.long vs), .second] [(.long vk), (.long (4294967296 : Int64)), (.ref va)])) _
    refine XS.lrem X26.here hx rfl (hb hby d3_31) rfl hnz ?_
    show Steps p.tables e below (T26.setTop (mkF m 32 #[.val (.ref va), .val (.long vk), .second, .val (.long ve), .second, .val (.int vt), .val (.long vs), .second] [(.long ((4294967296 : Int64) - ((4294967296 : Int64) / vk) * vk)), (.ref va)])) _
    refine st34 _ ?_
    show Steps p.tables e below (T34.setTop (mkF m 35 #[.val (.ref va), .val (.long vk), .second, .val (.long ve), .second, .val (.int vt), .val (.long vs), .second] [])) _
    exact X34.returnOut hx Bd.returns (hb hby d3_35) hr
  · show Q3 Z va vk ve vt vs h0 n0 _ T34.heap _
    rw [e34]
    exact ⟨rfl, N34, K34, E36_va, F39_va_threads⟩
theorem d5_0 : decode prog_49_method_7_code 0 = .ok (.lload_n 1, 1) := by decide +kernel
theorem d5_1 : decode prog_49_method_7_code 1 = .ok (.aload_n 0, 1) := by decide +kernel
theorem d5_2 : decode prog_49_method_7_code 2 = .ok (.getfield 18, 3) := by decide +kernel
theorem d5_5 : decode prog_49_method_7_code 5 = .ok (.i2l, 1) := by decide +kernel
theorem d5_6 : decode prog_49_method_7_code 6 = .ok (.ldiv, 1) := by decide +kernel
theorem d5_7 : decode prog_49_method_7_code 7 = .ok (.iload_n 3, 1) := by decide +kernel
theorem d5_8 : decode prog_49_method_7_code 8 = .ok (.i2l, 1) := by decide +kernel
theorem d5_9 : decode prog_49_method_7_code 9 = .ok (.lload_n 1, 1) := by decide +kernel
theorem d5_10 : decode prog_49_method_7_code 10 = .ok (.aload_n 0, 1) := by decide +kernel
theorem d5_11 : decode prog_49_method_7_code 11 = .ok (.getfield 18, 3) := by decide +kernel
theorem d5_14 : decode prog_49_method_7_code 14 = .ok (.i2l, 1) := by decide +kernel
theorem d5_15 : decode prog_49_method_7_code 15 = .ok (.lrem, 1) := by decide +kernel
theorem d5_16 : decode prog_49_method_7_code 16 = .ok (.lcmp, 1) := by decide +kernel
theorem d5_17 : decode prog_49_method_7_code 17 = .ok (.ifCond .ge 7, 3) := by decide +kernel
theorem d5_20 : decode prog_49_method_7_code 20 = .ok (.iconst 1, 1) := by decide +kernel
theorem d5_21 : decode prog_49_method_7_code 21 = .ok (.goto 4, 3) := by decide +kernel
theorem d5_24 : decode prog_49_method_7_code 24 = .ok (.iconst 0, 1) := by decide +kernel
theorem d5_25 : decode prog_49_method_7_code 25 = .ok (.i2l, 1) := by decide +kernel
theorem d5_26 : decode prog_49_method_7_code 26 = .ok (.ladd, 1) := by decide +kernel
theorem d5_27 : decode prog_49_method_7_code 27 = .ok (.lreturn, 1) := by decide +kernel
theorem pn_5 : plainName "com/example/inchworm/inchworm/Workload" = true := by first | (simp [plainName, overriddenIn]; done) | decide +kernel
theorem ef_5 (m : MethodId) (va : Addr) (vc : Int64) (vd : Int32) : entryFrame m #[(.ref va), (.long vc), (.int vd)] 4 = mkF m 0 #[.val (.ref va), .val (.long vc), .second, .val (.int vd)] [] := by first | (simp [entryFrame, mkF, argsToLocals, Value.category]; done) | rfl
def F5 (vc : Int64) (vd : Int32) (vt : Int32) : Int64 := ((vc / (vt.toInt64)) + ((if (vd.toInt64) < (vc - (vc / (vt.toInt64)) * (vt.toInt64)) then (1 : Int32) else (0 : Int32)).toInt64))
def Q5 (Z : State) (va : Addr) (vc : Int64) (vd : Int32) (vt : Int32) (h0 : Heap) (n0 : Nat) (v : Option Value) (h : Heap) (L : List Loc) : Prop := v = some (.long (F5 vc vd vt)) ∧ Fr n0 L ∧ h = h0
set_option maxRecDepth 65536 in
set_option maxHeartbeats 40000000 in
theorem rm5 (l : Launch) (Z : State) (a0 : Array Value) (hw : ∀ d ∈ tables_1, d.before a0 Z = true) (ws : List Jvm.Cond) (va : Addr) (vc : Int64) (vd : Int32) (vt : Int32) (h0 : Heap) (n0 : Nat) (Z0 : n0 ≤ h0.size) (F_va_threads : Fld Z h0 va "com/example/inchworm/inchworm/Workload" "threads" "I" (.int vt)) (hnz : vt.toInt64 ≠ 0) :
    MetFree l (⟨"com/example/inchworm/inchworm/Workload", "share", "(JI)J"⟩ : MethodName) (head1 (Jvm.Cond.code (⟨"com/example/inchworm/inchworm/Workload", "share", "(JI)J"⟩ : MethodName) prog_49_method_7_code 4 (some .long) :: ws) ({ frames := 0, cells := 0, slots := 0, locals := 0 } : Room)) (fun a U => a = #[(.ref va), (.long vc), (.int vd)] ∧ Z.Warmed39 U.vm ∧ U.heap = h0) (fun _ _ _ _ _ => True) (fun _ U o U' => ∃ v L, o = .returned v ∧ Q5 Z va vc vd vt h0 n0 v U'.heap L ∧ FrameEnd U o U' L ({ frames := 0, cells := 0, slots := 0, locals := 0 } : Room).cells ({ frames := 0, cells := 0, slots := 0, locals := 0 } : Room).slots) := by
  refine MetFree.of_bodySF (plainFor_of_name pn_5) hisR ?_
  intro p e s m args below meth c s₁ Bd hml0 hP hK
  obtain ⟨rfl, hZ, hh⟩ := hP
  have hx := Bd.exec
  have hby := Bd.bytes
  have hml : c.maxLocals = 4 := hml0
  have hown : s.vm.findClass "com/example/inchworm/inchworm/Workload" = some m.cls := findClass_of_methodNamed Bd.named
  have hnm := (name_of_methodNamed Bd.named Bd.method).1
  have X0 : Stand p l e ({ frames := 0, cells := 0, slots := 0, locals := 0 } : Room) s m #[(.ref va), (.long vc), (.int vd)] below meth c s₁ [] 0 0 := Stand.of_body Bd
  have e0 : s₁.heap = h0 := by rw [← hh, Bd.state]; rfl
  have N0 := Fr.nil n0
  have pre0 : ∀ t, Steps p.tables e below (s₁.setTop (mkF m 0 #[.val (.ref va), .val (.long vc), .second, .val (.int vd)] [])) t → Steps p.tables e below (s₁.setTop (entryFrame m #[(.ref va), (.long vc), (.int vd)] 4)) t := fun t k => castTop (ef_5 m va vc vd) k
  obtain ⟨T1, X1, e1, st1⟩ := getF X0 hx hZ hown (host := "") (Or.inl (hw _ (List.mem_of_getElem? (i := 23) rfl))) Via.refl e0 F_va_threads (g := (mkF m 2 #[.val (.ref va), .val (.long vc), .second, .val (.int vd)] [(.ref va), (.long vc)])) rfl rfl (hb hby d5_2)
  obtain ⟨T2, X2, e2, st2⟩ := getF X1 hx hZ hown (host := "") (Or.inl (hw _ (List.mem_of_getElem? (i := 23) rfl))) Via.refl e1 F_va_threads (g := (mkF m 11 #[.val (.ref va), .val (.long vc), .second, .val (.int vd)] [(.ref va), (.long vc), (.long (vd.toInt64)), (.long (vc / (vt.toInt64)))])) rfl rfl (hb hby d5_11)
  obtain ⟨fs, hr, hrun, hended, hW, hsame⟩ := X2.leave (v := some (.long ((vc / (vt.toInt64)) + ((if (vd.toInt64) < (vc - (vc / (vt.toInt64)) * (vt.toInt64)) then (1 : Int32) else (0 : Int32)).toInt64)))) (fun h => by rw [Bd.returns] at h; cases h)
  refine ⟨_, _, pre0 _ ?_, hrun, hended, _, _, rfl, ?_, ⟨_, rfl⟩, hW, hsame.mono (by decide) (by decide)⟩
  · show Steps p.tables e below (s₁.setTop (mkF m 0 #[.val (.ref va), .val (.long vc), .second, .val (.int vd)] [])) _
    refine XS.lloadN X0.here hx rfl (hb hby d5_0) rfl ?_
    show Steps p.tables e below (s₁.setTop (mkF m 1 #[.val (.ref va), .val (.long vc), .second, .val (.int vd)] [(.long vc)])) _
    refine XS.aloadN X0.here hx rfl (hb hby d5_1) rfl rfl ?_
    show Steps p.tables e below (s₁.setTop (mkF m 2 #[.val (.ref va), .val (.long vc), .second, .val (.int vd)] [(.ref va), (.long vc)])) _
    refine st1 _ ?_
    show Steps p.tables e below (T1.setTop (mkF m 5 #[.val (.ref va), .val (.long vc), .second, .val (.int vd)] [(.int vt), (.long vc)])) _
    refine XS.i2l X1.here hx rfl (hb hby d5_5) rfl ?_
    show Steps p.tables e below (T1.setTop (mkF m 6 #[.val (.ref va), .val (.long vc), .second, .val (.int vd)] [(.long (vt.toInt64)), (.long vc)])) _
    refine XS.ldiv X1.here hx rfl (hb hby d5_6) rfl hnz ?_
    show Steps p.tables e below (T1.setTop (mkF m 7 #[.val (.ref va), .val (.long vc), .second, .val (.int vd)] [(.long (vc / (vt.toInt64)))])) _
    refine XS.iloadN X1.here hx rfl (hb hby d5_7) rfl ?_
    show Steps p.tables e below (T1.setTop (mkF m 8 #[.val (.ref va), .val (.long vc), .second, .val (.int vd)] [(.int vd), (.long (vc / (vt.toInt64)))])) _
    refine XS.i2l X1.here hx rfl (hb hby d5_8) rfl ?_
    show Steps p.tables e below (T1.setTop (mkF m 9 #[.val (.ref va), .val (.long vc), .second, .val (.int vd)] [(.long (vd.toInt64)), (.long (vc / (vt.toInt64)))])) _
    refine XS.lloadN X1.here hx rfl (hb hby d5_9) rfl ?_
    show Steps p.tables e below (T1.setTop (mkF m 10 #[.val (.ref va), .val (.long vc), .second, .val (.int vd)] [(.long vc), (.long (vd.toInt64)), (.long (vc / (vt.toInt64)))])) _
    refine XS.aloadN X1.here hx rfl (hb hby d5_10) rfl rfl ?_
    show Steps p.tables e below (T1.setTop (mkF m 11 #[.val (.ref va), .val (.long vc), .second, .val (.int vd)] [(.ref va), (.long vc), (.long (vd.toInt64)), (.long (vc / (vt.toInt64)))])) _
    refine st2 _ ?_
    show Steps p.tables e below (T2.setTop (mkF m 14 #[.val (.ref va), .val (.long vc), .second, .val (.int vd)] [(.int vt), (.long vc), (.long (vd.toInt64)), (.long (vc / (vt.toInt64)))])) _
    refine XS.i2l X2.here hx rfl (hb hby d5_14) rfl ?_
    show Steps p.tables e below (T2.setTop (mkF m 15 #[.val (.ref va), .val (.long vc), .second, .val (.int vd)] [(.long (vt.toInt64)), (.long vc), (.long (vd.toInt64)), (.long (vc / (vt.toInt64)))])) _
    refine XS.lrem X2.here hx rfl (hb hby d5_15) rfl hnz ?_
    show Steps p.tables e below (T2.setTop (mkF m 16 #[.val (.ref va), .val (.long vc), .second, .val (.int vd)] [(.long (vc - (vc / (vt.toInt64)) * (vt.toInt64))), (.long (vd.toInt64)), (.long (vc / (vt.toInt64)))])) _
    refine XS.lcmp X2.here hx rfl (hb hby d5_16) rfl ?_
    show Steps p.tables e below (T2.setTop (mkF m 17 #[.val (.ref va), .val (.long vc), .second, .val (.int vd)] [(.int (lcmpW (vd.toInt64) (vc - (vc / (vt.toInt64)) * (vt.toInt64)))), (.long (vc / (vt.toInt64)))])) _
    refine own_dia (u := ((1 : Int32) : Int32)) (v := (0 : Int32)) ((vd.toInt64) < (vc - (vc / (vt.toInt64)) * (vt.toInt64))) (fun z3 => (mkF m 25 #[.val (.ref va), .val (.long vc), .second, .val (.int vd)] [(.int z3), (.long (vc / (vt.toInt64)))])) (fun hc3 k3 => ?_) (fun hc3 k3 => ?_) ?_
    · refine XS.ifNo X2.here hx rfl (hb hby d5_17) rfl (own_llt hc3).2 ?_
      show Steps p.tables e below (T2.setTop (mkF m 20 #[.val (.ref va), .val (.long vc), .second, .val (.int vd)] [(.long (vc / (vt.toInt64)))])) _
      refine XS.iconst X2.here hx rfl (hb hby d5_20) ?_
      show Steps p.tables e below (T2.setTop (mkF m 21 #[.val (.ref va), .val (.long vc), .second, .val (.int vd)] [(.int (1 : Int32)), (.long (vc / (vt.toInt64)))])) _
      refine XS.goto X2.here hx rfl (pc0 := 21) (pc' := 25) rfl (hb hby d5_21) (by decide) (by decide) ?_
      exact k3
    · refine XS.ifYes X2.here hx rfl (pc0 := 17) (pc' := 24) rfl (hb hby d5_17) rfl (own_lge hc3).2 (by decide) (by decide) ?_
      show Steps p.tables e below (T2.setTop (mkF m 24 #[.val (.ref va), .val (.long vc), .second, .val (.int vd)] [(.long (vc / (vt.toInt64)))])) _
      refine XS.iconst X2.here hx rfl (hb hby d5_24) ?_
      exact k3
    -- meets at 25
    show Steps p.tables e below (T2.setTop (mkF m 25 #[.val (.ref va), .val (.long vc), .second, .val (.int vd)] [(.int (if (vd.toInt64) < (vc - (vc / (vt.toInt64)) * (vt.toInt64)) then (1 : Int32) else (0 : Int32))), (.long (vc / (vt.toInt64)))])) _
    refine XS.i2l X2.here hx rfl (hb hby d5_25) rfl ?_
    show Steps p.tables e below (T2.setTop (mkF m 26 #[.val (.ref va), .val (.long vc), .second, .val (.int vd)] [(.long ((if (vd.toInt64) < (vc - (vc / (vt.toInt64)) * (vt.toInt64)) then (1 : Int32) else (0 : Int32)).toInt64)), (.long (vc / (vt.toInt64)))])) _
    refine XS.ladd X2.here hx rfl (hb hby d5_26) rfl ?_
    show Steps p.tables e below (T2.setTop (mkF m 27 #[.val (.ref va), .val (.long vc), .second, .val (.int vd)] [(.long ((vc / (vt.toInt64)) + ((if (vd.toInt64) < (vc - (vc / (vt.toInt64)) * (vt.toInt64)) then (1 : Int32) else (0 : Int32)).toInt64)))])) _
    exact X2.lreturnOut hx Bd.returns (hb hby d5_27) hr
  · show Q5 Z va vc vd vt h0 n0 _ T2.heap _
    rw [e2]
    exact ⟨rfl, N0, rfl⟩
theorem d6_0 : decode method_2_code 0 = .ok (.lload_n 0, 1) := by decide +kernel
theorem d6_1 : decode method_2_code 1 = .ok (.iload_n 3, 1) := by decide +kernel
theorem d6_2 : decode method_2_code 2 = .ok (.i2l, 1) := by decide +kernel
theorem d6_3 : decode method_2_code 3 = .ok (.lcmp, 1) := by decide +kernel
theorem d6_4 : decode method_2_code 4 = .ok (.ifCond .gt 5, 3) := by decide +kernel
theorem d6_7 : decode method_2_code 7 = .ok (.lconst 0, 1) := by decide +kernel
theorem d6_8 : decode method_2_code 8 = .ok (.lreturn, 1) := by decide +kernel
theorem d6_9 : decode method_2_code 9 = .ok (.lload_n 0, 1) := by decide +kernel
theorem d6_10 : decode method_2_code 10 = .ok (.iload_n 3, 1) := by decide +kernel
theorem d6_11 : decode method_2_code 11 = .ok (.i2l, 1) := by decide +kernel
theorem d6_12 : decode method_2_code 12 = .ok (.lsub, 1) := by decide +kernel
theorem d6_13 : decode method_2_code 13 = .ok (.lconst 1, 1) := by decide +kernel
theorem d6_14 : decode method_2_code 14 = .ok (.lsub, 1) := by decide +kernel
theorem d6_15 : decode method_2_code 15 = .ok (.iload_n 2, 1) := by decide +kernel
theorem d6_16 : decode method_2_code 16 = .ok (.i2l, 1) := by decide +kernel
theorem d6_17 : decode method_2_code 17 = .ok (.ldiv, 1) := by decide +kernel
theorem d6_18 : decode method_2_code 18 = .ok (.lconst 1, 1) := by decide +kernel
theorem d6_19 : decode method_2_code 19 = .ok (.ladd, 1) := by decide +kernel
theorem d6_20 : decode method_2_code 20 = .ok (.lreturn, 1) := by decide +kernel
theorem pn_6 : plainName "com/example/inchworm/inchworm/WorkloadSharePinLaw" = true := by first | (simp [plainName, overriddenIn]; done) | decide +kernel
theorem ef_6 (m : MethodId) (vc : Int64) (vt : Int32) (vd : Int32) : entryFrame m #[(.long vc), (.int vt), (.int vd)] 4 = mkF m 0 #[.val (.long vc), .second, .val (.int vt), .val (.int vd)] [] := by first | (simp [entryFrame, mkF, argsToLocals, Value.category]; done) | rfl
def F6 (vc : Int64) (vt : Int32) (vd : Int32) : Int64 := (if (vd.toInt64) < vc then ((((vc - (vd.toInt64)) - (1 : Int64)) / (vt.toInt64)) + (1 : Int64)) else (0 : Int64))
def Q6 (Z : State) (vc : Int64) (vt : Int32) (vd : Int32) (h0 : Heap) (n0 : Nat) (v : Option Value) (h : Heap) (L : List Loc) : Prop := v = some (.long (F6 vc vt vd)) ∧ Fr n0 L ∧ h = h0
set_option maxRecDepth 65536 in
set_option maxHeartbeats 40000000 in
theorem rm6 (l : Launch) (Z : State) (a0 : Array Value) (hw : ∀ d ∈ tables_1, d.before a0 Z = true) (ws : List Jvm.Cond) (vc : Int64) (vt : Int32) (vd : Int32) (h0 : Heap) (n0 : Nat) (Z0 : n0 ≤ h0.size) (hnz : vt.toInt64 ≠ 0) :
    MetFree l (⟨"com/example/inchworm/inchworm/WorkloadSharePinLaw", "reference", "(JII)J"⟩ : MethodName) (head1 (Jvm.Cond.code (⟨"com/example/inchworm/inchworm/WorkloadSharePinLaw", "reference", "(JII)J"⟩ : MethodName) method_2_code 4 (some .long) :: ws) ({ frames := 0, cells := 0, slots := 0, locals := 0 } : Room)) (fun a U => a = #[(.long vc), (.int vt), (.int vd)] ∧ Z.Warmed39 U.vm ∧ U.heap = h0) (fun _ _ _ _ _ => True) (fun _ U o U' => ∃ v L, o = .returned v ∧ Q6 Z vc vt vd h0 n0 v U'.heap L ∧ FrameEnd U o U' L ({ frames := 0, cells := 0, slots := 0, locals := 0 } : Room).cells ({ frames := 0, cells := 0, slots := 0, locals := 0 } : Room).slots) := by
  refine MetFree.of_bodySF (plainFor_of_name pn_6) hisR ?_
  intro p e s m args below meth c s₁ Bd hml0 hP hK
  obtain ⟨rfl, hZ, hh⟩ := hP
  have hx := Bd.exec
  have hby := Bd.bytes
  have hml : c.maxLocals = 4 := hml0
  have hown : s.vm.findClass "com/example/inchworm/inchworm/WorkloadSharePinLaw" = some m.cls := findClass_of_methodNamed Bd.named
  have hnm := (name_of_methodNamed Bd.named Bd.method).1
  have X0 : Stand p l e ({ frames := 0, cells := 0, slots := 0, locals := 0 } : Room) s m #[(.long vc), (.int vt), (.int vd)] below meth c s₁ [] 0 0 := Stand.of_body Bd
  have e0 : s₁.heap = h0 := by rw [← hh, Bd.state]; rfl
  have N0 := Fr.nil n0
  have pre0 : ∀ t, Steps p.tables e below (s₁.setTop (mkF m 0 #[.val (.long vc), .second, .val (.int vt), .val (.int vd)] [])) t → Steps p.tables e below (s₁.setTop (entryFrame m #[(.long vc), (.int vt), (.int vd)] 4)) t := fun t k => castTop (ef_6 m vc vt vd) k
  by_cases hb1 : (vd.toInt64) < vc
  · obtain ⟨fs, hr, hrun, hended, hW, hsame⟩ := X0.leave (v := some (.long ((((vc - (vd.toInt64)) - (1 : Int64)) / (vt.toInt64)) + (1 : Int64)))) (fun h => by rw [Bd.returns] at h; cases h)
    refine ⟨_, _, pre0 _ ?_, hrun, hended, _, _, rfl, ?_, ⟨_, rfl⟩, hW, hsame.mono (by decide) (by decide)⟩
    · show Steps p.tables e below (s₁.setTop (mkF m 0 #[.val (.long vc), .second, .val (.int vt), .val (.int vd)] [])) _
      refine XS.lloadN X0.here hx rfl (hb hby d6_0) rfl ?_
      show Steps p.tables e below (s₁.setTop (mkF m 1 #[.val (.long vc), .second, .val (.int vt), .val (.int vd)] [(.long vc)])) _
      refine XS.iloadN X0.here hx rfl (hb hby d6_1) rfl ?_
      show Steps p.tables e below (s₁.setTop (mkF m 2 #[.val (.long vc), .second, .val (.int vt), .val (.int vd)] [(.int vd), (.long vc)])) _
      refine XS.i2l X0.here hx rfl (hb hby d6_2) rfl ?_
      show Steps p.tables e below (s₁.setTop (mkF m 3 #[.val (.long vc), .second, .val (.int vt), .val (.int vd)] [(.long (vd.toInt64)), (.long vc)])) _
      refine XS.lcmp X0.here hx rfl (hb hby d6_3) rfl ?_
      show Steps p.tables e below (s₁.setTop (mkF m 4 #[.val (.long vc), .second, .val (.int vt), .val (.int vd)] [(.int (lcmpW vc (vd.toInt64)))])) _
      refine XS.ifYes X0.here hx rfl (pc0 := 4) (pc' := 9) rfl (hb hby d6_4) rfl (own_lgt hb1).1 (by decide) (by decide) ?_
      show Steps p.tables e below (s₁.setTop (mkF m 9 #[.val (.long vc), .second, .val (.int vt), .val (.int vd)] [])) _
      refine XS.lloadN X0.here hx rfl (hb hby d6_9) rfl ?_
      show Steps p.tables e below (s₁.setTop (mkF m 10 #[.val (.long vc), .second, .val (.int vt), .val (.int vd)] [(.long vc)])) _
      refine XS.iloadN X0.here hx rfl (hb hby d6_10) rfl ?_
      show Steps p.tables e below (s₁.setTop (mkF m 11 #[.val (.long vc), .second, .val (.int vt), .val (.int vd)] [(.int vd), (.long vc)])) _
      refine XS.i2l X0.here hx rfl (hb hby d6_11) rfl ?_
      show Steps p.tables e below (s₁.setTop (mkF m 12 #[.val (.long vc), .second, .val (.int vt), .val (.int vd)] [(.long (vd.toInt64)), (.long vc)])) _
      refine XS.lsub X0.here hx rfl (hb hby d6_12) rfl ?_
      show Steps p.tables e below (s₁.setTop (mkF m 13 #[.val (.long vc), .second, .val (.int vt), .val (.int vd)] [(.long (vc - (vd.toInt64)))])) _
      refine XS.lconst X0.here hx rfl (hb hby d6_13) ?_
      show Steps p.tables e below (s₁.setTop (mkF m 14 #[.val (.long vc), .second, .val (.int vt), .val (.int vd)] [(.long (1 : Int64)), (.long (vc - (vd.toInt64)))])) _
      refine XS.lsub X0.here hx rfl (hb hby d6_14) rfl ?_
      show Steps p.tables e below (s₁.setTop (mkF m 15 #[.val (.long vc), .second, .val (.int vt), .val (.int vd)] [(.long ((vc - (vd.toInt64)) - (1 : Int64)))])) _
      refine XS.iloadN X0.here hx rfl (hb hby d6_15) rfl ?_
      show Steps p.tables e below (s₁.setTop (mkF m 16 #[.val (.long vc), .second, .val (.int vt), .val (.int vd)] [(.int vt), (.long ((vc - (vd.toInt64)) - (1 : Int64)))])) _
      refine XS.i2l X0.here hx rfl (hb hby d6_16) rfl ?_
      show Steps p.tables e below (s₁.setTop (mkF m 17 #[.val (.long vc), .second, .val (.int vt), .val (.int vd)] [(.long (vt.toInt64)), (.long ((vc - (vd.toInt64)) - (1 : Int64)))])) _
      refine XS.ldiv X0.here hx rfl (hb hby d6_17) rfl hnz ?_
      show Steps p.tables e below (s₁.setTop (mkF m 18 #[.val (.long vc), .second, .val (.int vt), .val (.int vd)] [(.long (((vc - (vd.toInt64)) - (1 : Int64)) / (vt.toInt64)))])) _
      refine XS.lconst X0.here hx rfl (hb hby d6_18) ?_
      show Steps p.tables e below (s₁.setTop (mkF m 19 #[.val (.long vc), .second, .val (.int vt), .val (.int vd)] [(.long (1 : Int64)), (.long (((vc - (vd.toInt64)) - (1 : Int64)) / (vt.toInt64)))])) _
      refine XS.ladd X0.here hx rfl (hb hby d6_19) rfl ?_
      show Steps p.tables e below (s₁.setTop (mkF m 20 #[.val (.long vc), .second, .val (.int vt), .val (.int vd)] [(.long ((((vc - (vd.toInt64)) - (1 : Int64)) / (vt.toInt64)) + (1 : Int64)))])) _
      exact X0.lreturnOut hx Bd.returns (hb hby d6_20) hr
    · show Q6 Z vc vt vd h0 n0 _ s₁.heap _
      rw [e0]
      exact ⟨(congrArg (fun z => some (Value.long z)) (Eq.symm (if_pos hb1))), N0, rfl⟩
  · obtain ⟨fs, hr, hrun, hended, hW, hsame⟩ := X0.leave (v := some (.long (0 : Int64))) (fun h => by rw [Bd.returns] at h; cases h)
    refine ⟨_, _, pre0 _ ?_, hrun, hended, _, _, rfl, ?_, ⟨_, rfl⟩, hW, hsame.mono (by decide) (by decide)⟩
    · show Steps p.tables e below (s₁.setTop (mkF m 0 #[.val (.long vc), .second, .val (.int vt), .val (.int vd)] [])) _
      refine XS.lloadN X0.here hx rfl (hb hby d6_0) rfl ?_
      show Steps p.tables e below (s₁.setTop (mkF m 1 #[.val (.long vc), .second, .val (.int vt), .val (.int vd)] [(.long vc)])) _
      refine XS.iloadN X0.here hx rfl (hb hby d6_1) rfl ?_
      show Steps p.tables e below (s₁.setTop (mkF m 2 #[.val (.long vc), .second, .val (.int vt), .val (.int vd)] [(.int vd), (.long vc)])) _
      refine XS.i2l X0.here hx rfl (hb hby d6_2) rfl ?_
      show Steps p.tables e below (s₁.setTop (mkF m 3 #[.val (.long vc), .second, .val (.int vt), .val (.int vd)] [(.long (vd.toInt64)), (.long vc)])) _
      refine XS.lcmp X0.here hx rfl (hb hby d6_3) rfl ?_
      show Steps p.tables e below (s₁.setTop (mkF m 4 #[.val (.long vc), .second, .val (.int vt), .val (.int vd)] [(.int (lcmpW vc (vd.toInt64)))])) _
      refine XS.ifNo X0.here hx rfl (hb hby d6_4) rfl (own_lle hb1).1 ?_
      show Steps p.tables e below (s₁.setTop (mkF m 7 #[.val (.long vc), .second, .val (.int vt), .val (.int vd)] [])) _
      refine XS.lconst X0.here hx rfl (hb hby d6_7) ?_
      show Steps p.tables e below (s₁.setTop (mkF m 8 #[.val (.long vc), .second, .val (.int vt), .val (.int vd)] [(.long (0 : Int64))])) _
      exact X0.lreturnOut hx Bd.returns (hb hby d6_8) hr
    · show Q6 Z vc vt vd h0 n0 _ s₁.heap _
      rw [e0]
      exact ⟨(congrArg (fun z => some (Value.long z)) (Eq.symm (if_neg hb1))), N0, rfl⟩

theorem own_th (x2 : Int32) : 1 ≤ (F1 (1 : Int32) (x2 &&& (2147483647 : Int32))).toInt := by
  have k1 : (1 : Int32).toInt = 1 := rfl
  unfold F1
  by_cases h : (1 : Int32) < (x2 &&& (2147483647 : Int32))
  · rw [if_pos h]; rw [Int32.lt_iff_toInt_lt] at h; omega
  · rw [if_neg h, k1]; omega
theorem own_thn (x2 : Int32) : F1 (1 : Int32) (x2 &&& (2147483647 : Int32)) ≠ 0 := by
  have := own_th x2
  intro h; rw [h] at this; exact absurd this (by decide)
theorem own_thl (x2 : Int32) : (F1 (1 : Int32) (x2 &&& (2147483647 : Int32))).toInt64 ≠ 0 := by
  have := own_th x2
  intro h; rw [← Int64.toInt_inj, Int32.toInt_toInt64] at h; rw [h] at this; exact absurd this (by decide)
theorem own_keys (x4 : Int64) : ((x4 &&& (4294967295 : Int64)) + (1 : Int64)) ≠ 0 := by
  have e1 : (x4 &&& (4294967295 : Int64)).toInt = x4.toInt % 2 ^ 32 := Jvm.Kit.i64_mask x4 4294967295 (by decide) (by decide)
  have k1 : (1 : Int64).toInt = 1 := rfl
  have e2 := Jvm.Kit.i64_add (x := (x4 &&& (4294967295 : Int64))) (y := (1 : Int64)) (by rw [k1]; omega) (by rw [k1]; omega)
  intro h
  rw [h, k1] at e2
  have k0 : (0 : Int64).toInt = 0 := rfl
  rw [k0] at e2; omega

theorem pd_0 : parseMethodDescriptor "(II)I" = some ⟨[.int, .int], some .int⟩ := by decide +kernel
theorem pd_1 : parseMethodDescriptor "(JJ)J" = some ⟨[.long, .long], some .long⟩ := by decide +kernel
theorem pd_2 : parseMethodDescriptor "(JJIJ)V" = some ⟨[.long, .long, .int, .long], none⟩ := by decide +kernel
theorem pd_3 : parseMethodDescriptor "(JI)J" = some ⟨[.long, .int], some .long⟩ := by decide +kernel
theorem pd_4 : parseMethodDescriptor "(JII)J" = some ⟨[.long, .int, .int], some .long⟩ := by decide +kernel
theorem pn_0 : plainName "com/example/inchworm/inchworm/WorkloadSharePinLaw" = true := by first | (simp [plainName, overriddenIn]; done) | decide +kernel
theorem ef_0 (m : MethodId) (x1 : Int64) (x2 : Int32) (x3 : Int32) (x4 : Int64) (x5 : Int64) (x6 : Int64) : entryFrame m #[(.long x1), (.int x2), (.int x3), (.long x4), (.long x5), (.long x6)] maxLocals = mkF m 0 #[.val (.long x1), .second, .val (.int x2), .val (.int x3), .val (.long x4), .second, .val (.long x5), .second, .val (.long x6), .second, .unset, .unset, .unset, .unset, .unset, .unset, .unset, .unset, .unset, .unset, .unset] [] := by first | (simp [entryFrame, mkF, argsToLocals, Value.category, maxLocals]; done) | rfl
def F0 (x1 : Int64) (x2 : Int32) (x3 : Int32) (x4 : Int64) (x5 : Int64) (x6 : Int64) : Int32 := (if (F5 (x1 &&& (9223372036854775807 : Int64)) ((x3 &&& (2147483647 : Int32)) % (F1 (1 : Int32) (x2 &&& (2147483647 : Int32)))) ((F1 (1 : Int32) (x2 &&& (2147483647 : Int32))))) = (F6 (x1 &&& (9223372036854775807 : Int64)) (F1 (1 : Int32) (x2 &&& (2147483647 : Int32))) ((x3 &&& (2147483647 : Int32)) % (F1 (1 : Int32) (x2 &&& (2147483647 : Int32))))) then (1 : Int32) else (0 : Int32))
def Q0 (Z : State) (x1 : Int64) (x2 : Int32) (x3 : Int32) (x4 : Int64) (x5 : Int64) (x6 : Int64) (h0 : Heap) (n0 : Nat) (v : Option Value) (h : Heap) (L : List Loc) : Prop := v = some (.int (F0 x1 x2 x3 x4 x5 x6)) ∧ Fr n0 L
set_option maxRecDepth 65536 in
set_option maxHeartbeats 40000000 in
theorem rm0 (l : Launch) (Z : State) (a0 : Array Value) (hw : ∀ d ∈ tables_1, d.before a0 Z = true) (ws : List Jvm.Cond) (x1 : Int64) (x2 : Int32) (x3 : Int32) (x4 : Int64) (x5 : Int64) (x6 : Int64) (h0 : Heap) (n0 : Nat) (Z0 : n0 ≤ h0.size)  :
    MetFree l x (head1 (Jvm.Cond.code x code maxLocals ret :: ws) room_1) (fun a U => a = #[(.long x1), (.int x2), (.int x3), (.long x4), (.long x5), (.long x6)] ∧ Z.Warmed39 U.vm ∧ U.heap = h0) (fun _ _ _ _ _ => True) (fun _ U o U' => ∃ v L, o = .returned v ∧ Q0 Z x1 x2 x3 x4 x5 x6 h0 n0 v U'.heap L ∧ FrameEnd U o U' L room_1.cells room_1.slots) := by
  refine MetFree.of_bodySF (plainFor_of_name pn_0) hisR ?_
  intro p e s m args below meth c s₁ Bd hml0 hP hK
  obtain ⟨rfl, hZ, hh⟩ := hP
  have hx := Bd.exec
  have hby := Bd.bytes
  have hml : c.maxLocals = 21 := hml0
  have hown : s.vm.findClass "com/example/inchworm/inchworm/WorkloadSharePinLaw" = some m.cls := findClass_of_methodNamed Bd.named
  have hnm := (name_of_methodNamed Bd.named Bd.method).1
  have X0 : Stand p l e room_1 s m #[(.long x1), (.int x2), (.int x3), (.long x4), (.long x5), (.long x6)] below meth c s₁ [] 0 0 := Stand.of_body Bd
  have e0 : s₁.heap = h0 := by rw [← hh, Bd.state]; rfl
  have N0 := Fr.nil n0
  have pre0 : ∀ t, Steps p.tables e below (s₁.setTop (mkF m 0 #[.val (.long x1), .second, .val (.int x2), .val (.int x3), .val (.long x4), .second, .val (.long x5), .second, .val (.long x6), .second, .unset, .unset, .unset, .unset, .unset, .unset, .unset, .unset, .unset, .unset, .unset] [])) t → Steps p.tables e below (s₁.setTop (entryFrame m #[(.long x1), (.int x2), (.int x3), (.long x4), (.long x5), (.long x6)] maxLocals)) t := fun t k => castTop (ef_0 m x1 x2 x3 x4 x5 x6) k
  obtain ⟨_, _, ⟨T1, L1, k1, n1⟩, -, X1, ⟨Lc1, hQ1, l1, y1, z1⟩, st1⟩ := Jvm.LawKit.callS X0 hx (y := (⟨"java/lang/Math", "max", "(II)I"⟩ : MethodName)) hown (mvT hZ (hw _ (List.mem_of_getElem? (i := 1) rfl))) (mvT hZ (hw _ (List.mem_of_getElem? (i := 2) rfl))) (mvT hZ (hw _ (List.mem_of_getElem? (i := 3) rfl))) (mvT hZ (hw _ (List.mem_of_getElem? (i := 4) rfl))) (by decide) (backOf (W := 0) (rm1 l Z a0 hw [] (1 : Int32) (x2 &&& (2147483647 : Int32))  h0 n0 Z0 ) hZ (hw _ (List.mem_of_getElem? (i := 4) rfl)) (hw _ (List.mem_of_getElem? (i := 3) rfl)) (by decide) (by decide)) (g := (mkF m 5 #[.val (.long x1), .second, .val (.int x2), .val (.int x3), .val (.long x4), .second, .val (.long x5), .second, .val (.long x6), .second, .unset, .unset, .unset, .unset, .unset, .unset, .unset, .unset, .unset, .unset, .unset] [(.int (x2 &&& (2147483647 : Int32))), (.int (1 : Int32))])) rfl (by rw [hml]; rfl) (argsL := [(.int (1 : Int32)), (.int (x2 &&& (2147483647 : Int32)))]) (rest := []) (lenOf pd_0 rfl) rfl (by show 2 * 0 + _ ≤ _; exact Nat.le_of_eq rfl) (hb hby at_5) (fun _ _ => ⟨rfl, e0, (by decide : 0 + 0 ≤ _), (by decide : 0 + 0 ≤ _)⟩)
  dsimp only [Pt.U, Pt.locs, Pt.cells, Pt.slots] at X1 l1 y1 z1 st1 hQ1
  subst l1 y1 z1
  obtain ⟨rfl, N1q, e1⟩ := hQ1
  have N1 := Fr.app N0 N1q
  obtain ⟨_, _, ⟨T2, L2, k2, n2⟩, -, X2, ⟨Lc2, hQ2, l2, y2, z2⟩, st2⟩ := Jvm.LawKit.callS X1 hx (y := (⟨"java/lang/Math", "max", "(JJ)J"⟩ : MethodName)) hown (mvT hZ (hw _ (List.mem_of_getElem? (i := 7) rfl))) (mvT hZ (hw _ (List.mem_of_getElem? (i := 8) rfl))) (mvT hZ (hw _ (List.mem_of_getElem? (i := 3) rfl))) (mvT hZ (hw _ (List.mem_of_getElem? (i := 9) rfl))) (by decide) (backOf (W := 0) (rm2 l Z a0 hw [] (1 : Int64) (x5 &&& (9223372036854775807 : Int64))  h0 n0 Z0 ) hZ (hw _ (List.mem_of_getElem? (i := 9) rfl)) (hw _ (List.mem_of_getElem? (i := 3) rfl)) (by decide) (by decide)) (g := (mkF m 43 #[.val (.long x1), .second, .val (.int x2), .val (.int x3), .val (.long x4), .second, .val (.long x5), .second, .val (.long x6), .second, .val (.int (F1 (1 : Int32) (x2 &&& (2147483647 : Int32)))), .val (.int ((x3 &&& (2147483647 : Int32)) % (F1 (1 : Int32) (x2 &&& (2147483647 : Int32))))), .val (.long (x1 &&& (9223372036854775807 : Int64))), .second, .val (.long ((x4 &&& (4294967295 : Int64)) + (1 : Int64))), .second, .unset, .unset, .unset, .unset, .unset] [(.long (x5 &&& (9223372036854775807 : Int64))), (.long (1 : Int64))])) rfl (by rw [hml]; rfl) (argsL := [(.long (1 : Int64)), (.long (x5 &&& (9223372036854775807 : Int64)))]) (rest := []) (lenOf pd_1 rfl) rfl (by show 2 * 0 + _ ≤ _; exact Nat.le_of_eq rfl) (hb hby at_43) (fun _ _ => ⟨rfl, e1, (by decide : 0 + 0 ≤ _), (by decide : 0 + 0 ≤ _)⟩)
  dsimp only [Pt.U, Pt.locs, Pt.cells, Pt.slots] at X2 l2 y2 z2 st2 hQ2
  subst l2 y2 z2
  obtain ⟨rfl, N2q, e2⟩ := hQ2
  have N2 := Fr.app N1 N2q
  obtain ⟨T3, h3, X3, e3, E3, A3, D3, -, st3⟩ := newO X2 hx hZ hown (hw _ (List.mem_of_getElem? (i := 10) rfl)) (hw _ (List.mem_of_getElem? (i := 11) rfl)) (hw _ (List.mem_of_getElem? (i := 12) rfl)) e2 (g := (mkF m 48 #[.val (.long x1), .second, .val (.int x2), .val (.int x3), .val (.long x4), .second, .val (.long x5), .second, .val (.long x6), .second, .val (.int (F1 (1 : Int32) (x2 &&& (2147483647 : Int32)))), .val (.int ((x3 &&& (2147483647 : Int32)) % (F1 (1 : Int32) (x2 &&& (2147483647 : Int32))))), .val (.long (x1 &&& (9223372036854775807 : Int64))), .second, .val (.long ((x4 &&& (4294967295 : Int64)) + (1 : Int64))), .second, .val (.long (F2 (1 : Int64) (x5 &&& (9223372036854775807 : Int64)))), .second, .unset, .unset, .unset] [])) rfl (hb hby at_48) (by decide) (by decide)
  obtain ⟨b3, g3⟩ : ∃ z, z = h0.size := ⟨_, rfl⟩
  rw [← g3] at A3 D3 st3
  have g_b3 : n0 ≤ b3 := Nat.le_trans Z0 (Nat.le_of_eq g3.symm)
  have Z4 : n0 ≤ h3.size := Nat.le_trans Z0 E3.1
  have F3_keys : Fld Z h3 b3 "com/example/inchworm/inchworm/Workload" "keys" "J" (.long (0 : Int64)) := D3 (Or.inr (hw _ (List.mem_of_getElem? (i := 20) rfl))) (ty := .long) (by decide)
  have F3_events : Fld Z h3 b3 "com/example/inchworm/inchworm/Workload" "events" "J" (.long (0 : Int64)) := D3 (Or.inr (hw _ (List.mem_of_getElem? (i := 22) rfl))) (ty := .long) (by decide)
  have F3_threads : Fld Z h3 b3 "com/example/inchworm/inchworm/Workload" "threads" "I" (.int (0 : Int32)) := D3 (Or.inr (hw _ (List.mem_of_getElem? (i := 24) rfl))) (ty := .int) (by decide)
  have F3_seed : Fld Z h3 b3 "com/example/inchworm/inchworm/Workload" "seed" "J" (.long (0 : Int64)) := D3 (Or.inr (hw _ (List.mem_of_getElem? (i := 26) rfl))) (ty := .long) (by decide)
  have F3_rejectBelow : Fld Z h3 b3 "com/example/inchworm/inchworm/Workload" "rejectBelow" "J" (.long (0 : Int64)) := D3 (Or.inr (hw _ (List.mem_of_getElem? (i := 29) rfl))) (ty := .long) (by decide)
  obtain ⟨_, _, ⟨T5, L5, k5, n5⟩, -, X5, ⟨Lc5, hQ5, l5, y5, z5⟩, st5⟩ := X3.specialBack hx (y := (⟨"com/example/inchworm/inchworm/Workload", "<init>", "(JJIJ)V"⟩ : MethodName)) rfl hown (mvT hZ (hw _ (List.mem_of_getElem? (i := 13) rfl))) (mvT hZ (hw _ (List.mem_of_getElem? (i := 14) rfl))) (mvT hZ (hw _ (List.mem_of_getElem? (i := 15) rfl))) (by decide) (backOf (W := 1) (rm3 l Z a0 hw [] b3 ((x4 &&& (4294967295 : Int64)) + (1 : Int64)) (F2 (1 : Int64) (x5 &&& (9223372036854775807 : Int64))) (F1 (1 : Int32) (x2 &&& (2147483647 : Int32))) x6  h3 n0 Z4 A3 g_b3 F3_keys F3_events F3_threads F3_seed F3_rejectBelow (own_keys x4)) hZ (hw _ (List.mem_of_getElem? (i := 15) rfl)) (hw _ (List.mem_of_getElem? (i := 12) rfl)) (by decide) (by decide)) (g := (mkF m 60 #[.val (.long x1), .second, .val (.int x2), .val (.int x3), .val (.long x4), .second, .val (.long x5), .second, .val (.long x6), .second, .val (.int (F1 (1 : Int32) (x2 &&& (2147483647 : Int32)))), .val (.int ((x3 &&& (2147483647 : Int32)) % (F1 (1 : Int32) (x2 &&& (2147483647 : Int32))))), .val (.long (x1 &&& (9223372036854775807 : Int64))), .second, .val (.long ((x4 &&& (4294967295 : Int64)) + (1 : Int64))), .second, .val (.long (F2 (1 : Int64) (x5 &&& (9223372036854775807 : Int64)))), .second, .unset, .unset, .unset] [(.long x6), (.int (F1 (1 : Int32) (x2 &&& (2147483647 : Int32)))), (.long (F2 (1 : Int64) (x5 &&& (9223372036854775807 : Int64)))), (.long ((x4 &&& (4294967295 : Int64)) + (1 : Int64))), (.ref b3), (.ref b3)])) rfl (by rw [hml]; rfl) (Steps.refl _) (a := b3) (argsL := [(.long ((x4 &&& (4294967295 : Int64)) + (1 : Int64))), (.long (F2 (1 : Int64) (x5 &&& (9223372036854775807 : Int64)))), (.int (F1 (1 : Int32) (x2 &&& (2147483647 : Int32)))), (.long x6)]) (rest := [(.ref b3)]) (lenOf pd_2 rfl) rfl (by show 2 * 0 + _ ≤ _; exact Nat.le_of_eq rfl) (hb hby at_60) (fun _ _ => ⟨rfl, e3, (by decide : 1 + 0 ≤ _), (by decide : 5 + 0 ≤ _)⟩)
  dsimp only [Pt.U, Pt.locs, Pt.cells, Pt.slots] at X5 l5 y5 z5 st5 hQ5
  subst l5 y5 z5
  obtain ⟨rfl, N5q, Q5_0, Q5_1, Q5_2⟩ := hQ5
  have Z6 : n0 ≤ T5.heap.size := Nat.le_trans Z4 Q5_0.1
  have E7_b3 := A3.keep Q5_0
  have N5 := Fr.app N2 N5q
  obtain ⟨cq13, kq13, q13a, q13b, q13c⟩ := isOf hZ rfl Q5_1
  obtain ⟨_, _, ⟨T13, L13, k13, n13⟩, -, X13, ⟨Lc13, hQ13, l13, y13, z13⟩, st13⟩ := X5.virtualBack hx (y := (⟨"com/example/inchworm/inchworm/Workload", "share", "(JI)J"⟩ : MethodName)) (z := (⟨"com/example/inchworm/inchworm/Workload", "share", "(JI)J"⟩ : MethodName)) hown (mvT hZ (hw _ (List.mem_of_getElem? (i := 30) rfl))) (mvT hZ (hw _ (List.mem_of_getElem? (i := 31) rfl))) (notFace_of_selects (args := #[]) (mvT hZ (hw _ (List.mem_of_getElem? (i := 33) rfl)))) (mvT hZ (hw _ (List.mem_of_getElem? (i := 33) rfl))) (mvT hZ (hw _ (List.mem_of_getElem? (i := 32) rfl))) (by decide) (backOf (W := 0) (rm5 l Z a0 hw [] b3 (x1 &&& (9223372036854775807 : Int64)) ((x3 &&& (2147483647 : Int32)) % (F1 (1 : Int32) (x2 &&& (2147483647 : Int32)))) ((F1 (1 : Int32) (x2 &&& (2147483647 : Int32)))) T5.heap n0 Z6 Q5_2 (own_thl x2)) hZ (hw _ (List.mem_of_getElem? (i := 34) rfl)) (hw _ (List.mem_of_getElem? (i := 12) rfl)) (by decide) (by decide)) q13a q13c (g := (mkF m 71 #[.val (.long x1), .second, .val (.int x2), .val (.int x3), .val (.long x4), .second, .val (.long x5), .second, .val (.long x6), .second, .val (.int (F1 (1 : Int32) (x2 &&& (2147483647 : Int32)))), .val (.int ((x3 &&& (2147483647 : Int32)) % (F1 (1 : Int32) (x2 &&& (2147483647 : Int32))))), .val (.long (x1 &&& (9223372036854775807 : Int64))), .second, .val (.long ((x4 &&& (4294967295 : Int64)) + (1 : Int64))), .second, .val (.long (F2 (1 : Int64) (x5 &&& (9223372036854775807 : Int64)))), .second, .val (.ref b3), .unset, .unset] [(.int ((x3 &&& (2147483647 : Int32)) % (F1 (1 : Int32) (x2 &&& (2147483647 : Int32))))), (.long (x1 &&& (9223372036854775807 : Int64))), (.ref b3)])) rfl (by rw [hml]; rfl) (Steps.refl _) (argsL := [(.long (x1 &&& (9223372036854775807 : Int64))), (.int ((x3 &&& (2147483647 : Int32)) % (F1 (1 : Int32) (x2 &&& (2147483647 : Int32)))))]) (rest := []) (lenOf pd_3 rfl) rfl (by show 2 * 0 + _ ≤ _; exact Nat.le_of_eq rfl) (hb hby at_71) (fun _ _ => ⟨rfl, rfl, (by decide : 1 + 0 ≤ _), (by decide : 5 + 0 ≤ _)⟩)
  dsimp only [Pt.U, Pt.locs, Pt.cells, Pt.slots] at X13 l13 y13 z13 st13 hQ13
  subst l13 y13 z13
  obtain ⟨rfl, N13q, e13⟩ := hQ13
  have N13 := Fr.app N5 N13q
  obtain ⟨_, _, ⟨T14, L14, k14, n14⟩, -, X14, ⟨Lc14, hQ14, l14, y14, z14⟩, st14⟩ := Jvm.LawKit.callS X13 hx (y := (⟨"com/example/inchworm/inchworm/WorkloadSharePinLaw", "reference", "(JII)J"⟩ : MethodName)) hown (mvT hZ (hw _ (List.mem_of_getElem? (i := 35) rfl))) (mvT hZ (hw _ (List.mem_of_getElem? (i := 36) rfl))) (mvT hZ (hw _ (List.mem_of_getElem? (i := 37) rfl))) (mvT hZ (hw _ (List.mem_of_getElem? (i := 38) rfl))) (by decide) (backOf (W := 2) (rm6 l Z a0 hw [] (x1 &&& (9223372036854775807 : Int64)) (F1 (1 : Int32) (x2 &&& (2147483647 : Int32))) ((x3 &&& (2147483647 : Int32)) % (F1 (1 : Int32) (x2 &&& (2147483647 : Int32))))  T5.heap n0 Z6 (own_thl x2)) hZ (hw _ (List.mem_of_getElem? (i := 38) rfl)) (hw _ (List.mem_of_getElem? (i := 37) rfl)) (by decide) (by decide)) (g := (mkF m 84 #[.val (.long x1), .second, .val (.int x2), .val (.int x3), .val (.long x4), .second, .val (.long x5), .second, .val (.long x6), .second, .val (.int (F1 (1 : Int32) (x2 &&& (2147483647 : Int32)))), .val (.int ((x3 &&& (2147483647 : Int32)) % (F1 (1 : Int32) (x2 &&& (2147483647 : Int32))))), .val (.long (x1 &&& (9223372036854775807 : Int64))), .second, .val (.long ((x4 &&& (4294967295 : Int64)) + (1 : Int64))), .second, .val (.long (F2 (1 : Int64) (x5 &&& (9223372036854775807 : Int64)))), .second, .val (.ref b3), .val (.long (F5 (x1 &&& (9223372036854775807 : Int64)) ((x3 &&& (2147483647 : Int32)) % (F1 (1 : Int32) (x2 &&& (2147483647 : Int32)))) ((F1 (1 : Int32) (x2 &&& (2147483647 : Int32)))))), .second] [(.int ((x3 &&& (2147483647 : Int32)) % (F1 (1 : Int32) (x2 &&& (2147483647 : Int32))))), (.int (F1 (1 : Int32) (x2 &&& (2147483647 : Int32)))), (.long (x1 &&& (9223372036854775807 : Int64))), (.long (F5 (x1 &&& (9223372036854775807 : Int64)) ((x3 &&& (2147483647 : Int32)) % (F1 (1 : Int32) (x2 &&& (2147483647 : Int32)))) ((F1 (1 : Int32) (x2 &&& (2147483647 : Int32))))))])) rfl (by rw [hml]; rfl) (argsL := [(.long (x1 &&& (9223372036854775807 : Int64))), (.int (F1 (1 : Int32) (x2 &&& (2147483647 : Int32)))), (.int ((x3 &&& (2147483647 : Int32)) % (F1 (1 : Int32) (x2 &&& (2147483647 : Int32)))))]) (rest := [(.long (F5 (x1 &&& (9223372036854775807 : Int64)) ((x3 &&& (2147483647 : Int32)) % (F1 (1 : Int32) (x2 &&& (2147483647 : Int32)))) ((F1 (1 : Int32) (x2 &&& (2147483647 : Int32))))))]) (lenOf pd_4 rfl) rfl (by show 2 * 0 + _ ≤ _; exact Nat.le_of_eq rfl) (hb hby at_84) (fun _ _ => ⟨rfl, e13, (by decide : 1 + 0 ≤ _), (by decide : 5 + 0 ≤ _)⟩)
  dsimp only [Pt.U, Pt.locs, Pt.cells, Pt.slots] at X14 l14 y14 z14 st14 hQ14
  subst l14 y14 z14
  obtain ⟨rfl, N14q, e14⟩ := hQ14
  have N14 := Fr.app N13 N14q
  obtain ⟨fs, hr, hrun, hended, hW, hsame⟩ := X14.leave (v := some (.int (if (F5 (x1 &&& (9223372036854775807 : Int64)) ((x3 &&& (2147483647 : Int32)) % (F1 (1 : Int32) (x2 &&& (2147483647 : Int32)))) ((F1 (1 : Int32) (x2 &&& (2147483647 : Int32))))) = (F6 (x1 &&& (9223372036854775807 : Int64)) (F1 (1 : Int32) (x2 &&& (2147483647 : Int32))) ((x3 &&& (2147483647 : Int32)) % (F1 (1 : Int32) (x2 &&& (2147483647 : Int32))))) then (1 : Int32) else (0 : Int32)))) (fun h => by rw [Bd.returns] at h; cases h)
  refine ⟨_, _, pre0 _ ?_, hrun, hended, _, _, rfl, ?_, ⟨_, rfl⟩, hW, hsame.mono (by decide) (by decide)⟩
  · show Steps p.tables e below (s₁.setTop (mkF m 0 #[.val (.long x1), .second, .val (.int x2), .val (.int x3), .val (.long x4), .second, .val (.long x5), .second, .val (.long x6), .second, .unset, .unset, .unset, .unset, .unset, .unset, .unset, .unset, .unset, .unset, .unset] [])) _
    refine XS.iconst X0.here hx rfl (hb hby at_0) ?_
    show Steps p.tables e below (s₁.setTop (mkF m 1 #[.val (.long x1), .second, .val (.int x2), .val (.int x3), .val (.long x4), .second, .val (.long x5), .second, .val (.long x6), .second, .unset, .unset, .unset, .unset, .unset, .unset, .unset, .unset, .unset, .unset, .unset] [(.int (1 : Int32))])) _
    refine XS.iloadN X0.here hx rfl (hb hby at_1) rfl ?_
    show Steps p.tables e below (s₁.setTop (mkF m 2 #[.val (.long x1), .second, .val (.int x2), .val (.int x3), .val (.long x4), .second, .val (.long x5), .second, .val (.long x6), .second, .unset, .unset, .unset, .unset, .unset, .unset, .unset, .unset, .unset, .unset, .unset] [(.int x2), (.int (1 : Int32))])) _
    refine X0.ldcInt hx hown (mvT hZ (hw _ (List.mem_of_getElem? (i := 0) rfl))) (g := (mkF m 2 #[.val (.long x1), .second, .val (.int x2), .val (.int x3), .val (.long x4), .second, .val (.long x5), .second, .val (.long x6), .second, .unset, .unset, .unset, .unset, .unset, .unset, .unset, .unset, .unset, .unset, .unset] [(.int x2), (.int (1 : Int32))])) rfl (hb hby at_2) _ ?_
    show Steps p.tables e below (s₁.setTop (mkF m 4 #[.val (.long x1), .second, .val (.int x2), .val (.int x3), .val (.long x4), .second, .val (.long x5), .second, .val (.long x6), .second, .unset, .unset, .unset, .unset, .unset, .unset, .unset, .unset, .unset, .unset, .unset] [(.int (2147483647 : Int32)), (.int x2), (.int (1 : Int32))])) _
    refine XS.iand X0.here hx rfl (hb hby at_4) rfl ?_
    show Steps p.tables e below (s₁.setTop (mkF m 5 #[.val (.long x1), .second, .val (.int x2), .val (.int x3), .val (.long x4), .second, .val (.long x5), .second, .val (.long x6), .second, .unset, .unset, .unset, .unset, .unset, .unset, .unset, .unset, .unset, .unset, .unset] [(.int (x2 &&& (2147483647 : Int32))), (.int (1 : Int32))])) _
    refine st1 _ ?_
    show Steps p.tables e below (T1.setTop (mkF m 8 #[.val (.long x1), .second, .val (.int x2), .val (.int x3), .val (.long x4), .second, .val (.long x5), .second, .val (.long x6), .second, .unset, .unset, .unset, .unset, .unset, .unset, .unset, .unset, .unset, .unset, .unset] [(.int (F1 (1 : Int32) (x2 &&& (2147483647 : Int32))))])) _
    refine XS.istore X1.here hx rfl (hb hby at_8) rfl (l' := #[.val (.long x1), .second, .val (.int x2), .val (.int x3), .val (.long x4), .second, .val (.long x5), .second, .val (.long x6), .second, .val (.int (F1 (1 : Int32) (x2 &&& (2147483647 : Int32)))), .unset, .unset, .unset, .unset, .unset, .unset, .unset, .unset, .unset, .unset]) rfl ?_
    show Steps p.tables e below (T1.setTop (mkF m 10 #[.val (.long x1), .second, .val (.int x2), .val (.int x3), .val (.long x4), .second, .val (.long x5), .second, .val (.long x6), .second, .val (.int (F1 (1 : Int32) (x2 &&& (2147483647 : Int32)))), .unset, .unset, .unset, .unset, .unset, .unset, .unset, .unset, .unset, .unset] [])) _
    refine XS.iloadN X1.here hx rfl (hb hby at_10) rfl ?_
    show Steps p.tables e below (T1.setTop (mkF m 11 #[.val (.long x1), .second, .val (.int x2), .val (.int x3), .val (.long x4), .second, .val (.long x5), .second, .val (.long x6), .second, .val (.int (F1 (1 : Int32) (x2 &&& (2147483647 : Int32)))), .unset, .unset, .unset, .unset, .unset, .unset, .unset, .unset, .unset, .unset] [(.int x3)])) _
    refine X1.ldcInt hx hown (mvT hZ (hw _ (List.mem_of_getElem? (i := 0) rfl))) (g := (mkF m 11 #[.val (.long x1), .second, .val (.int x2), .val (.int x3), .val (.long x4), .second, .val (.long x5), .second, .val (.long x6), .second, .val (.int (F1 (1 : Int32) (x2 &&& (2147483647 : Int32)))), .unset, .unset, .unset, .unset, .unset, .unset, .unset, .unset, .unset, .unset] [(.int x3)])) rfl (hb hby at_11) _ ?_
    show Steps p.tables e below (T1.setTop (mkF m 13 #[.val (.long x1), .second, .val (.int x2), .val (.int x3), .val (.long x4), .second, .val (.long x5), .second, .val (.long x6), .second, .val (.int (F1 (1 : Int32) (x2 &&& (2147483647 : Int32)))), .unset, .unset, .unset, .unset, .unset, .unset, .unset, .unset, .unset, .unset] [(.int (2147483647 : Int32)), (.int x3)])) _
    refine XS.iand X1.here hx rfl (hb hby at_13) rfl ?_
    show Steps p.tables e below (T1.setTop (mkF m 14 #[.val (.long x1), .second, .val (.int x2), .val (.int x3), .val (.long x4), .second, .val (.long x5), .second, .val (.long x6), .second, .val (.int (F1 (1 : Int32) (x2 &&& (2147483647 : Int32)))), .unset, .unset, .unset, .unset, .unset, .unset, .unset, .unset, .unset, .unset] [(.int (x3 &&& (2147483647 : Int32)))])) _
    refine XS.iload X1.here hx rfl (hb hby at_14) rfl ?_
    show Steps p.tables e below (T1.setTop (mkF m 16 #[.val (.long x1), .second, .val (.int x2), .val (.int x3), .val (.long x4), .second, .val (.long x5), .second, .val (.long x6), .second, .val (.int (F1 (1 : Int32) (x2 &&& (2147483647 : Int32)))), .unset, .unset, .unset, .unset, .unset, .unset, .unset, .unset, .unset, .unset] [(.int (F1 (1 : Int32) (x2 &&& (2147483647 : Int32)))), (.int (x3 &&& (2147483647 : Int32)))])) _
    refine iremM X1 hx rfl (hb hby at_16) rfl (own_thn x2) ?_
    show Steps p.tables e below (T1.setTop (mkF m 17 #[.val (.long x1), .second, .val (.int x2), .val (.int x3), .val (.long x4), .second, .val (.long x5), .second, .val (.long x6), .second, .val (.int (F1 (1 : Int32) (x2 &&& (2147483647 : Int32)))), .unset, .unset, .unset, .unset, .unset, .unset, .unset, .unset, .unset, .unset] [(.int ((x3 &&& (2147483647 : Int32)) % (F1 (1 : Int32) (x2 &&& (2147483647 : Int32)))))])) _
    refine XS.istore X1.here hx rfl (hb hby at_17) rfl (l' := #[.val (.long x1), .second, .val (.int x2), .val (.int x3), .val (.long x4), .second, .val (.long x5), .second, .val (.long x6), .second, .val (.int (F1 (1 : Int32) (x2 &&& (2147483647 : Int32)))), .val (.int ((x3 &&& (2147483647 : Int32)) % (F1 (1 : Int32) (x2 &&& (2147483647 : Int32))))), .unset, .unset, .unset, .unset, .unset, .unset, .unset, .unset, .unset]) rfl ?_
    show Steps p.tables e below (T1.setTop (mkF m 19 #[.val (.long x1), .second, .val (.int x2), .val (.int x3), .val (.long x4), .second, .val (.long x5), .second, .val (.long x6), .second, .val (.int (F1 (1 : Int32) (x2 &&& (2147483647 : Int32)))), .val (.int ((x3 &&& (2147483647 : Int32)) % (F1 (1 : Int32) (x2 &&& (2147483647 : Int32))))), .unset, .unset, .unset, .unset, .unset, .unset, .unset, .unset, .unset] [])) _
    refine XS.lloadN X1.here hx rfl (hb hby at_19) rfl ?_
    show Steps p.tables e below (T1.setTop (mkF m 20 #[.val (.long x1), .second, .val (.int x2), .val (.int x3), .val (.long x4), .second, .val (.long x5), .second, .val (.long x6), .second, .val (.int (F1 (1 : Int32) (x2 &&& (2147483647 : Int32)))), .val (.int ((x3 &&& (2147483647 : Int32)) % (F1 (1 : Int32) (x2 &&& (2147483647 : Int32))))), .unset, .unset, .unset, .unset, .unset, .unset, .unset, .unset, .unset] [(.long x1)])) _
    refine X1.ldc2Long hx hown (mvT hZ (hw _ (List.mem_of_getElem? (i := 5) rfl))) (g := (mkF m 20 #[.val (.long x1), .second, .val (.int x2), .val (.int x3), .val (.long x4), .second, .val (.long x5), .second, .val (.long x6), .second, .val (.int (F1 (1 : Int32) (x2 &&& (2147483647 : Int32)))), .val (.int ((x3 &&& (2147483647 : Int32)) % (F1 (1 : Int32) (x2 &&& (2147483647 : Int32))))), .unset, .unset, .unset, .unset, .unset, .unset, .unset, .unset, .unset] [(.long x1)])) rfl (hb hby at_20) _ ?_
    show Steps p.tables e below (T1.setTop (mkF m 23 #[.val (.long x1), .second, .val (.int x2), .val (.int x3), .val (.long x4), .second, .val (.long x5), .second, .val (.long x6), .second, .val (.int (F1 (1 : Int32) (x2 &&& (2147483647 : Int32)))), .val (.int ((x3 &&& (2147483647 : Int32)) % (F1 (1 : Int32) (x2 &&& (2147483647 : Int32))))), .unset, .unset, .unset, .unset, .unset, .unset, .unset, .unset, .unset] [(.long (9223372036854775807 : Int64)), (.long x1)])) _
    refine XS.land X1.here hx rfl (hb hby at_23) rfl ?_
    show Steps p.tables e below (T1.setTop (mkF m 24 #[.val (.long x1), .second, .val (.int x2), .val (.int x3), .val (.long x4), .second, .val (.long x5), .second, .val (.long x6), .second, .val (.int (F1 (1 : Int32) (x2 &&& (2147483647 : Int32)))), .val (.int ((x3 &&& (2147483647 : Int32)) % (F1 (1 : Int32) (x2 &&& (2147483647 : Int32))))), .unset, .unset, .unset, .unset, .unset, .unset, .unset, .unset, .unset] [(.long (x1 &&& (9223372036854775807 : Int64)))])) _
    refine XS.lstore X1.here hx rfl (hb hby at_24) rfl (l' := #[.val (.long x1), .second, .val (.int x2), .val (.int x3), .val (.long x4), .second, .val (.long x5), .second, .val (.long x6), .second, .val (.int (F1 (1 : Int32) (x2 &&& (2147483647 : Int32)))), .val (.int ((x3 &&& (2147483647 : Int32)) % (F1 (1 : Int32) (x2 &&& (2147483647 : Int32))))), .val (.long (x1 &&& (9223372036854775807 : Int64))), .second, .unset, .unset, .unset, .unset, .unset, .unset, .unset]) rfl ?_
    show Steps p.tables e below (T1.setTop (mkF m 26 #[.val (.long x1), .second, .val (.int x2), .val (.int x3), .val (.long x4), .second, .val (.long x5), .second, .val (.long x6), .second, .val (.int (F1 (1 : Int32) (x2 &&& (2147483647 : Int32)))), .val (.int ((x3 &&& (2147483647 : Int32)) % (F1 (1 : Int32) (x2 &&& (2147483647 : Int32))))), .val (.long (x1 &&& (9223372036854775807 : Int64))), .second, .unset, .unset, .unset, .unset, .unset, .unset, .unset] [])) _
    refine XS.lload X1.here hx rfl (hb hby at_26) rfl ?_
    show Steps p.tables e below (T1.setTop (mkF m 28 #[.val (.long x1), .second, .val (.int x2), .val (.int x3), .val (.long x4), .second, .val (.long x5), .second, .val (.long x6), .second, .val (.int (F1 (1 : Int32) (x2 &&& (2147483647 : Int32)))), .val (.int ((x3 &&& (2147483647 : Int32)) % (F1 (1 : Int32) (x2 &&& (2147483647 : Int32))))), .val (.long (x1 &&& (9223372036854775807 : Int64))), .second, .unset, .unset, .unset, .unset, .unset, .unset, .unset] [(.long x4)])) _
    refine X1.ldc2Long hx hown (mvT hZ (hw _ (List.mem_of_getElem? (i := 6) rfl))) (g := (mkF m 28 #[.val (.long x1), .second, .val (.int x2), .val (.int x3), .val (.long x4), .second, .val (.long x5), .second, .val (.long x6), .second, .val (.int (F1 (1 : Int32) (x2 &&& (2147483647 : Int32)))), .val (.int ((x3 &&& (2147483647 : Int32)) % (F1 (1 : Int32) (x2 &&& (2147483647 : Int32))))), .val (.long (x1 &&& (9223372036854775807 : Int64))), .second, .unset, .unset, .unset, .unset, .unset, .unset, .unset] [(.long x4)])) rfl (hb hby at_28) _ ?_
    show Steps p.tables e below (T1.setTop (mkF m 31 #[.val (.long x1), .second, .val (.int x2), .val (.int x3), .val (.long x4), .second, .val (.long x5), .second, .val (.long x6), .second, .val (.int (F1 (1 : Int32) (x2 &&& (2147483647 : Int32)))), .val (.int ((x3 &&& (2147483647 : Int32)) % (F1 (1 : Int32) (x2 &&& (2147483647 : Int32))))), .val (.long (x1 &&& (9223372036854775807 : Int64))), .second, .unset, .unset, .unset, .unset, .unset, .unset, .unset] [(.long (4294967295 : Int64)), (.long x4)])) _
    refine XS.land X1.here hx rfl (hb hby at_31) rfl ?_
    show Steps p.tables e below (T1.setTop (mkF m 32 #[.val (.long x1), .second, .val (.int x2), .val (.int x3), .val (.long x4), .second, .val (.long x5), .second, .val (.long x6), .second, .val (.int (F1 (1 : Int32) (x2 &&& (2147483647 : Int32)))), .val (.int ((x3 &&& (2147483647 : Int32)) % (F1 (1 : Int32) (x2 &&& (2147483647 : Int32))))), .val (.long (x1 &&& (9223372036854775807 : Int64))), .second, .unset, .unset, .unset, .unset, .unset, .unset, .unset] [(.long (x4 &&& (4294967295 : Int64)))])) _
    refine XS.lconst X1.here hx rfl (hb hby at_32) ?_
    show Steps p.tables e below (T1.setTop (mkF m 33 #[.val (.long x1), .second, .val (.int x2), .val (.int x3), .val (.long x4), .second, .val (.long x5), .second, .val (.long x6), .second, .val (.int (F1 (1 : Int32) (x2 &&& (2147483647 : Int32)))), .val (.int ((x3 &&& (2147483647 : Int32)) % (F1 (1 : Int32) (x2 &&& (2147483647 : Int32))))), .val (.long (x1 &&& (9223372036854775807 : Int64))), .second, .unset, .unset, .unset, .unset, .unset, .unset, .unset] [(.long (1 : Int64)), (.long (x4 &&& (4294967295 : Int64)))])) _
    refine XS.ladd X1.here hx rfl (hb hby at_33) rfl ?_
    show Steps p.tables e below (T1.setTop (mkF m 34 #[.val (.long x1), .second, .val (.int x2), .val (.int x3), .val (.long x4), .second, .val (.long x5), .second, .val (.long x6), .second, .val (.int (F1 (1 : Int32) (x2 &&& (2147483647 : Int32)))), .val (.int ((x3 &&& (2147483647 : Int32)) % (F1 (1 : Int32) (x2 &&& (2147483647 : Int32))))), .val (.long (x1 &&& (9223372036854775807 : Int64))), .second, .unset, .unset, .unset, .unset, .unset, .unset, .unset] [(.long ((x4 &&& (4294967295 : Int64)) + (1 : Int64)))])) _
    refine XS.lstore X1.here hx rfl (hb hby at_34) rfl (l' := #[.val (.long x1), .second, .val (.int x2), .val (.int x3), .val (.long x4), .second, .val (.long x5), .second, .val (.long x6), .second, .val (.int (F1 (1 : Int32) (x2 &&& (2147483647 : Int32)))), .val (.int ((x3 &&& (2147483647 : Int32)) % (F1 (1 : Int32) (x2 &&& (2147483647 : Int32))))), .val (.long (x1 &&& (9223372036854775807 : Int64))), .second, .val (.long ((x4 &&& (4294967295 : Int64)) + (1 : Int64))), .second, .unset, .unset, .unset, .unset, .unset]) rfl ?_
    show Steps p.tables e below (T1.setTop (mkF m 36 #[.val (.long x1), .second, .val (.int x2), .val (.int x3), .val (.long x4), .second, .val (.long x5), .second, .val (.long x6), .second, .val (.int (F1 (1 : Int32) (x2 &&& (2147483647 : Int32)))), .val (.int ((x3 &&& (2147483647 : Int32)) % (F1 (1 : Int32) (x2 &&& (2147483647 : Int32))))), .val (.long (x1 &&& (9223372036854775807 : Int64))), .second, .val (.long ((x4 &&& (4294967295 : Int64)) + (1 : Int64))), .second, .unset, .unset, .unset, .unset, .unset] [])) _
    refine XS.lconst X1.here hx rfl (hb hby at_36) ?_
    show Steps p.tables e below (T1.setTop (mkF m 37 #[.val (.long x1), .second, .val (.int x2), .val (.int x3), .val (.long x4), .second, .val (.long x5), .second, .val (.long x6), .second, .val (.int (F1 (1 : Int32) (x2 &&& (2147483647 : Int32)))), .val (.int ((x3 &&& (2147483647 : Int32)) % (F1 (1 : Int32) (x2 &&& (2147483647 : Int32))))), .val (.long (x1 &&& (9223372036854775807 : Int64))), .second, .val (.long ((x4 &&& (4294967295 : Int64)) + (1 : Int64))), .second, .unset, .unset, .unset, .unset, .unset] [(.long (1 : Int64))])) _
    refine XS.lload X1.here hx rfl (hb hby at_37) rfl ?_
    show Steps p.tables e below (T1.setTop (mkF m 39 #[.val (.long x1), .second, .val (.int x2), .val (.int x3), .val (.long x4), .second, .val (.long x5), .second, .val (.long x6), .second, .val (.int (F1 (1 : Int32) (x2 &&& (2147483647 : Int32)))), .val (.int ((x3 &&& (2147483647 : Int32)) % (F1 (1 : Int32) (x2 &&& (2147483647 : Int32))))), .val (.long (x1 &&& (9223372036854775807 : Int64))), .second, .val (.long ((x4 &&& (4294967295 : Int64)) + (1 : Int64))), .second, .unset, .unset, .unset, .unset, .unset] [(.long x5), (.long (1 : Int64))])) _
    refine X1.ldc2Long hx hown (mvT hZ (hw _ (List.mem_of_getElem? (i := 5) rfl))) (g := (mkF m 39 #[.val (.long x1), .second, .val (.int x2), .val (.int x3), .val (.long x4), .second, .val (.long x5), .second, .val (.long x6), .second, .val (.int (F1 (1 : Int32) (x2 &&& (2147483647 : Int32)))), .val (.int ((x3 &&& (2147483647 : Int32)) % (F1 (1 : Int32) (x2 &&& (2147483647 : Int32))))), .val (.long (x1 &&& (9223372036854775807 : Int64))), .second, .val (.long ((x4 &&& (4294967295 : Int64)) + (1 : Int64))), .second, .unset, .unset, .unset, .unset, .unset] [(.long x5), (.long (1 : Int64))])) rfl (hb hby at_39) _ ?_
    show Steps p.tables e below (T1.setTop (mkF m 42 #[.val (.long x1), .second, .val (.int x2), .val (.int x3), .val (.long x4), .second, .val (.long x5), .second, .val (.long x6), .second, .val (.int (F1 (1 : Int32) (x2 &&& (2147483647 : Int32)))), .val (.int ((x3 &&& (2147483647 : Int32)) % (F1 (1 : Int32) (x2 &&& (2147483647 : Int32))))), .val (.long (x1 &&& (9223372036854775807 : Int64))), .second, .val (.long ((x4 &&& (4294967295 : Int64)) + (1 : Int64))), .second, .unset, .unset, .unset, .unset, .unset] [(.long (9223372036854775807 : Int64)), (.long x5), (.long (1 : Int64))])) _
    refine XS.land X1.here hx rfl (hb hby at_42) rfl ?_
    show Steps p.tables e below (T1.setTop (mkF m 43 #[.val (.long x1), .second, .val (.int x2), .val (.int x3), .val (.long x4), .second, .val (.long x5), .second, .val (.long x6), .second, .val (.int (F1 (1 : Int32) (x2 &&& (2147483647 : Int32)))), .val (.int ((x3 &&& (2147483647 : Int32)) % (F1 (1 : Int32) (x2 &&& (2147483647 : Int32))))), .val (.long (x1 &&& (9223372036854775807 : Int64))), .second, .val (.long ((x4 &&& (4294967295 : Int64)) + (1 : Int64))), .second, .unset, .unset, .unset, .unset, .unset] [(.long (x5 &&& (9223372036854775807 : Int64))), (.long (1 : Int64))])) _
    refine st2 _ ?_
    show Steps p.tables e below (T2.setTop (mkF m 46 #[.val (.long x1), .second, .val (.int x2), .val (.int x3), .val (.long x4), .second, .val (.long x5), .second, .val (.long x6), .second, .val (.int (F1 (1 : Int32) (x2 &&& (2147483647 : Int32)))), .val (.int ((x3 &&& (2147483647 : Int32)) % (F1 (1 : Int32) (x2 &&& (2147483647 : Int32))))), .val (.long (x1 &&& (9223372036854775807 : Int64))), .second, .val (.long ((x4 &&& (4294967295 : Int64)) + (1 : Int64))), .second, .unset, .unset, .unset, .unset, .unset] [(.long (F2 (1 : Int64) (x5 &&& (9223372036854775807 : Int64))))])) _
    refine XS.lstore X2.here hx rfl (hb hby at_46) rfl (l' := #[.val (.long x1), .second, .val (.int x2), .val (.int x3), .val (.long x4), .second, .val (.long x5), .second, .val (.long x6), .second, .val (.int (F1 (1 : Int32) (x2 &&& (2147483647 : Int32)))), .val (.int ((x3 &&& (2147483647 : Int32)) % (F1 (1 : Int32) (x2 &&& (2147483647 : Int32))))), .val (.long (x1 &&& (9223372036854775807 : Int64))), .second, .val (.long ((x4 &&& (4294967295 : Int64)) + (1 : Int64))), .second, .val (.long (F2 (1 : Int64) (x5 &&& (9223372036854775807 : Int64)))), .second, .unset, .unset, .unset]) rfl ?_
    show Steps p.tables e below (T2.setTop (mkF m 48 #[.val (.long x1), .second, .val (.int x2), .val (.int x3), .val (.long x4), .second, .val (.long x5), .second, .val (.long x6), .second, .val (.int (F1 (1 : Int32) (x2 &&& (2147483647 : Int32)))), .val (.int ((x3 &&& (2147483647 : Int32)) % (F1 (1 : Int32) (x2 &&& (2147483647 : Int32))))), .val (.long (x1 &&& (9223372036854775807 : Int64))), .second, .val (.long ((x4 &&& (4294967295 : Int64)) + (1 : Int64))), .second, .val (.long (F2 (1 : Int64) (x5 &&& (9223372036854775807 : Int64)))), .second, .unset, .unset, .unset] [])) _
    refine st3 _ ?_
    show Steps p.tables e below (T3.setTop (mkF m 51 #[.val (.long x1), .second, .val (.int x2), .val (.int x3), .val (.long x4), .second, .val (.long x5), .second, .val (.long x6), .second, .val (.int (F1 (1 : Int32) (x2 &&& (2147483647 : Int32)))), .val (.int ((x3 &&& (2147483647 : Int32)) % (F1 (1 : Int32) (x2 &&& (2147483647 : Int32))))), .val (.long (x1 &&& (9223372036854775807 : Int64))), .second, .val (.long ((x4 &&& (4294967295 : Int64)) + (1 : Int64))), .second, .val (.long (F2 (1 : Int64) (x5 &&& (9223372036854775807 : Int64)))), .second, .unset, .unset, .unset] [(.ref b3)])) _
    refine XS.dup X3.here hx rfl (hb hby at_51) rfl rfl ?_
    show Steps p.tables e below (T3.setTop (mkF m 52 #[.val (.long x1), .second, .val (.int x2), .val (.int x3), .val (.long x4), .second, .val (.long x5), .second, .val (.long x6), .second, .val (.int (F1 (1 : Int32) (x2 &&& (2147483647 : Int32)))), .val (.int ((x3 &&& (2147483647 : Int32)) % (F1 (1 : Int32) (x2 &&& (2147483647 : Int32))))), .val (.long (x1 &&& (9223372036854775807 : Int64))), .second, .val (.long ((x4 &&& (4294967295 : Int64)) + (1 : Int64))), .second, .val (.long (F2 (1 : Int64) (x5 &&& (9223372036854775807 : Int64)))), .second, .unset, .unset, .unset] [(.ref b3), (.ref b3)])) _
    refine XS.lload X3.here hx rfl (hb hby at_52) rfl ?_
    show Steps p.tables e below (T3.setTop (mkF m 54 #[.val (.long x1), .second, .val (.int x2), .val (.int x3), .val (.long x4), .second, .val (.long x5), .second, .val (.long x6), .second, .val (.int (F1 (1 : Int32) (x2 &&& (2147483647 : Int32)))), .val (.int ((x3 &&& (2147483647 : Int32)) % (F1 (1 : Int32) (x2 &&& (2147483647 : Int32))))), .val (.long (x1 &&& (9223372036854775807 : Int64))), .second, .val (.long ((x4 &&& (4294967295 : Int64)) + (1 : Int64))), .second, .val (.long (F2 (1 : Int64) (x5 &&& (9223372036854775807 : Int64)))), .second, .unset, .unset, .unset] [(.long ((x4 &&& (4294967295 : Int64)) + (1 : Int64))), (.ref b3), (.ref b3)])) _
    refine XS.lload X3.here hx rfl (hb hby at_54) rfl ?_
    show Steps p.tables e below (T3.setTop (mkF m 56 #[.val (.long x1), .second, .val (.int x2), .val (.int x3), .val (.long x4), .second, .val (.long x5), .second, .val (.long x6), .second, .val (.int (F1 (1 : Int32) (x2 &&& (2147483647 : Int32)))), .val (.int ((x3 &&& (2147483647 : Int32)) % (F1 (1 : Int32) (x2 &&& (2147483647 : Int32))))), .val (.long (x1 &&& (9223372036854775807 : Int64))), .second, .val (.long ((x4 &&& (4294967295 : Int64)) + (1 : Int64))), .second, .val (.long (F2 (1 : Int64) (x5 &&& (9223372036854775807 : Int64)))), .second, .unset, .unset, .unset] [(.long (F2 (1 : Int64) (x5 &&& (9223372036854775807 : Int64)))), (.long ((x4 &&& (4294967295 : Int64)) + (1 : Int64))), (.ref b3), (.ref b3)])) _
    refine XS.iload X3.here hx rfl (hb hby at_56) rfl ?_
    show Steps p.tables e below (T3.setTop (mkF m 58 #[.val (.long x1), .second, .val (.int x2), .val (.int x3), .val (.long x4), .second, .val (.long x5), .second, .val (.long x6), .second, .val (.int (F1 (1 : Int32) (x2 &&& (2147483647 : Int32)))), .val (.int ((x3 &&& (2147483647 : Int32)) % (F1 (1 : Int32) (x2 &&& (2147483647 : Int32))))), .val (.long (x1 &&& (9223372036854775807 : Int64))), .second, .val (.long ((x4 &&& (4294967295 : Int64)) + (1 : Int64))), .second, .val (.long (F2 (1 : Int64) (x5 &&& (9223372036854775807 : Int64)))), .second, .unset, .unset, .unset] [(.int (F1 (1 : Int32) (x2 &&& (2147483647 : Int32)))), (.long (F2 (1 : Int64) (x5 &&& (9223372036854775807 : Int64)))), (.long ((x4 &&& (4294967295 : Int64)) + (1 : Int64))), (.ref b3), (.ref b3)])) _
    refine XS.lload X3.here hx rfl (hb hby at_58) rfl ?_
    show Steps p.tables e below (T3.setTop (mkF m 60 #[.val (.long x1), .second, .val (.int x2), .val (.int x3), .val (.long x4), .second, .val (.long x5), .second, .val (.long x6), .second, .val (.int (F1 (1 : Int32) (x2 &&& (2147483647 : Int32)))), .val (.int ((x3 &&& (2147483647 : Int32)) % (F1 (1 : Int32) (x2 &&& (2147483647 : Int32))))), .val (.long (x1 &&& (9223372036854775807 : Int64))), .second, .val (.long ((x4 &&& (4294967295 : Int64)) + (1 : Int64))), .second, .val (.long (F2 (1 : Int64) (x5 &&& (9223372036854775807 : Int64)))), .second, .unset, .unset, .unset] [(.long x6), (.int (F1 (1 : Int32) (x2 &&& (2147483647 : Int32)))), (.long (F2 (1 : Int64) (x5 &&& (9223372036854775807 : Int64)))), (.long ((x4 &&& (4294967295 : Int64)) + (1 : Int64))), (.ref b3), (.ref b3)])) _
    refine st5.trans ?_
    show Steps p.tables e below (T5.setTop (mkF m 63 #[.val (.long x1), .second, .val (.int x2), .val (.int x3), .val (.long x4), .second, .val (.long x5), .second, .val (.long x6), .second, .val (.int (F1 (1 : Int32) (x2 &&& (2147483647 : Int32)))), .val (.int ((x3 &&& (2147483647 : Int32)) % (F1 (1 : Int32) (x2 &&& (2147483647 : Int32))))), .val (.long (x1 &&& (9223372036854775807 : Int64))), .second, .val (.long ((x4 &&& (4294967295 : Int64)) + (1 : Int64))), .second, .val (.long (F2 (1 : Int64) (x5 &&& (9223372036854775807 : Int64)))), .second, .unset, .unset, .unset] [(.ref b3)])) _
    refine XS.astore X5.here hx rfl (hb hby at_63) rfl rfl (l' := #[.val (.long x1), .second, .val (.int x2), .val (.int x3), .val (.long x4), .second, .val (.long x5), .second, .val (.long x6), .second, .val (.int (F1 (1 : Int32) (x2 &&& (2147483647 : Int32)))), .val (.int ((x3 &&& (2147483647 : Int32)) % (F1 (1 : Int32) (x2 &&& (2147483647 : Int32))))), .val (.long (x1 &&& (9223372036854775807 : Int64))), .second, .val (.long ((x4 &&& (4294967295 : Int64)) + (1 : Int64))), .second, .val (.long (F2 (1 : Int64) (x5 &&& (9223372036854775807 : Int64)))), .second, .val (.ref b3), .unset, .unset]) rfl ?_
    show Steps p.tables e below (T5.setTop (mkF m 65 #[.val (.long x1), .second, .val (.int x2), .val (.int x3), .val (.long x4), .second, .val (.long x5), .second, .val (.long x6), .second, .val (.int (F1 (1 : Int32) (x2 &&& (2147483647 : Int32)))), .val (.int ((x3 &&& (2147483647 : Int32)) % (F1 (1 : Int32) (x2 &&& (2147483647 : Int32))))), .val (.long (x1 &&& (9223372036854775807 : Int64))), .second, .val (.long ((x4 &&& (4294967295 : Int64)) + (1 : Int64))), .second, .val (.long (F2 (1 : Int64) (x5 &&& (9223372036854775807 : Int64)))), .second, .val (.ref b3), .unset, .unset] [])) _
    refine XS.aload X5.here hx rfl (hb hby at_65) rfl rfl ?_
    show Steps p.tables e below (T5.setTop (mkF m 67 #[.val (.long x1), .second, .val (.int x2), .val (.int x3), .val (.long x4), .second, .val (.long x5), .second, .val (.long x6), .second, .val (.int (F1 (1 : Int32) (x2 &&& (2147483647 : Int32)))), .val (.int ((x3 &&& (2147483647 : Int32)) % (F1 (1 : Int32) (x2 &&& (2147483647 : Int32))))), .val (.long (x1 &&& (9223372036854775807 : Int64))), .second, .val (.long ((x4 &&& (4294967295 : Int64)) + (1 : Int64))), .second, .val (.long (F2 (1 : Int64) (x5 &&& (9223372036854775807 : Int64)))), .second, .val (.ref b3), .unset, .unset] [(.ref b3)])) _
    refine XS.lload X5.here hx rfl (hb hby at_67) rfl ?_
    show Steps p.tables e below (T5.setTop (mkF m 69 #[.val (.long x1), .second, .val (.int x2), .val (.int x3), .val (.long x4), .second, .val (.long x5), .second, .val (.long x6), .second, .val (.int (F1 (1 : Int32) (x2 &&& (2147483647 : Int32)))), .val (.int ((x3 &&& (2147483647 : Int32)) % (F1 (1 : Int32) (x2 &&& (2147483647 : Int32))))), .val (.long (x1 &&& (9223372036854775807 : Int64))), .second, .val (.long ((x4 &&& (4294967295 : Int64)) + (1 : Int64))), .second, .val (.long (F2 (1 : Int64) (x5 &&& (9223372036854775807 : Int64)))), .second, .val (.ref b3), .unset, .unset] [(.long (x1 &&& (9223372036854775807 : Int64))), (.ref b3)])) _
    refine XS.iload X5.here hx rfl (hb hby at_69) rfl ?_
    show Steps p.tables e below (T5.setTop (mkF m 71 #[.val (.long x1), .second, .val (.int x2), .val (.int x3), .val (.long x4), .second, .val (.long x5), .second, .val (.long x6), .second, .val (.int (F1 (1 : Int32) (x2 &&& (2147483647 : Int32)))), .val (.int ((x3 &&& (2147483647 : Int32)) % (F1 (1 : Int32) (x2 &&& (2147483647 : Int32))))), .val (.long (x1 &&& (9223372036854775807 : Int64))), .second, .val (.long ((x4 &&& (4294967295 : Int64)) + (1 : Int64))), .second, .val (.long (F2 (1 : Int64) (x5 &&& (9223372036854775807 : Int64)))), .second, .val (.ref b3), .unset, .unset] [(.int ((x3 &&& (2147483647 : Int32)) % (F1 (1 : Int32) (x2 &&& (2147483647 : Int32))))), (.long (x1 &&& (9223372036854775807 : Int64))), (.ref b3)])) _
    refine st13.trans ?_
    show Steps p.tables e below (T13.setTop (mkF m 74 #[.val (.long x1), .second, .val (.int x2), .val (.int x3), .val (.long x4), .second, .val (.long x5), .second, .val (.long x6), .second, .val (.int (F1 (1 : Int32) (x2 &&& (2147483647 : Int32)))), .val (.int ((x3 &&& (2147483647 : Int32)) % (F1 (1 : Int32) (x2 &&& (2147483647 : Int32))))), .val (.long (x1 &&& (9223372036854775807 : Int64))), .second, .val (.long ((x4 &&& (4294967295 : Int64)) + (1 : Int64))), .second, .val (.long (F2 (1 : Int64) (x5 &&& (9223372036854775807 : Int64)))), .second, .val (.ref b3), .unset, .unset] [(.long (F5 (x1 &&& (9223372036854775807 : Int64)) ((x3 &&& (2147483647 : Int32)) % (F1 (1 : Int32) (x2 &&& (2147483647 : Int32)))) ((F1 (1 : Int32) (x2 &&& (2147483647 : Int32))))))])) _
    refine XS.lstore X13.here hx rfl (hb hby at_74) rfl (l' := #[.val (.long x1), .second, .val (.int x2), .val (.int x3), .val (.long x4), .second, .val (.long x5), .second, .val (.long x6), .second, .val (.int (F1 (1 : Int32) (x2 &&& (2147483647 : Int32)))), .val (.int ((x3 &&& (2147483647 : Int32)) % (F1 (1 : Int32) (x2 &&& (2147483647 : Int32))))), .val (.long (x1 &&& (9223372036854775807 : Int64))), .second, .val (.long ((x4 &&& (4294967295 : Int64)) + (1 : Int64))), .second, .val (.long (F2 (1 : Int64) (x5 &&& (9223372036854775807 : Int64)))), .second, .val (.ref b3), .val (.long (F5 (x1 &&& (9223372036854775807 : Int64)) ((x3 &&& (2147483647 : Int32)) % (F1 (1 : Int32) (x2 &&& (2147483647 : Int32)))) ((F1 (1 : Int32) (x2 &&& (2147483647 : Int32)))))), .second]) rfl ?_
    show Steps p.tables e below (T13.setTop (mkF m 76 #[.val (.long x1), .second, .val (.int x2), .val (.int x3), .val (.long x4), .second, .val (.long x5), .second, .val (.long x6), .second, .val (.int (F1 (1 : Int32) (x2 &&& (2147483647 : Int32)))), .val (.int ((x3 &&& (2147483647 : Int32)) % (F1 (1 : Int32) (x2 &&& (2147483647 : Int32))))), .val (.long (x1 &&& (9223372036854775807 : Int64))), .second, .val (.long ((x4 &&& (4294967295 : Int64)) + (1 : Int64))), .second, .val (.long (F2 (1 : Int64) (x5 &&& (9223372036854775807 : Int64)))), .second, .val (.ref b3), .val (.long (F5 (x1 &&& (9223372036854775807 : Int64)) ((x3 &&& (2147483647 : Int32)) % (F1 (1 : Int32) (x2 &&& (2147483647 : Int32)))) ((F1 (1 : Int32) (x2 &&& (2147483647 : Int32)))))), .second] [])) _
    refine XS.lload X13.here hx rfl (hb hby at_76) rfl ?_
    show Steps p.tables e below (T13.setTop (mkF m 78 #[.val (.long x1), .second, .val (.int x2), .val (.int x3), .val (.long x4), .second, .val (.long x5), .second, .val (.long x6), .second, .val (.int (F1 (1 : Int32) (x2 &&& (2147483647 : Int32)))), .val (.int ((x3 &&& (2147483647 : Int32)) % (F1 (1 : Int32) (x2 &&& (2147483647 : Int32))))), .val (.long (x1 &&& (9223372036854775807 : Int64))), .second, .val (.long ((x4 &&& (4294967295 : Int64)) + (1 : Int64))), .second, .val (.long (F2 (1 : Int64) (x5 &&& (9223372036854775807 : Int64)))), .second, .val (.ref b3), .val (.long (F5 (x1 &&& (9223372036854775807 : Int64)) ((x3 &&& (2147483647 : Int32)) % (F1 (1 : Int32) (x2 &&& (2147483647 : Int32)))) ((F1 (1 : Int32) (x2 &&& (2147483647 : Int32)))))), .second] [(.long (F5 (x1 &&& (9223372036854775807 : Int64)) ((x3 &&& (2147483647 : Int32)) % (F1 (1 : Int32) (x2 &&& (2147483647 : Int32)))) ((F1 (1 : Int32) (x2 &&& (2147483647 : Int32))))))])) _
    refine XS.lload X13.here hx rfl (hb hby at_78) rfl ?_
    show Steps p.tables e below (T13.setTop (mkF m 80 #[.val (.long x1), .second, .val (.int x2), .val (.int x3), .val (.long x4), .second, .val (.long x5), .second, .val (.long x6), .second, .val (.int (F1 (1 : Int32) (x2 &&& (2147483647 : Int32)))), .val (.int ((x3 &&& (2147483647 : Int32)) % (F1 (1 : Int32) (x2 &&& (2147483647 : Int32))))), .val (.long (x1 &&& (9223372036854775807 : Int64))), .second, .val (.long ((x4 &&& (4294967295 : Int64)) + (1 : Int64))), .second, .val (.long (F2 (1 : Int64) (x5 &&& (9223372036854775807 : Int64)))), .second, .val (.ref b3), .val (.long (F5 (x1 &&& (9223372036854775807 : Int64)) ((x3 &&& (2147483647 : Int32)) % (F1 (1 : Int32) (x2 &&& (2147483647 : Int32)))) ((F1 (1 : Int32) (x2 &&& (2147483647 : Int32)))))), .second] [(.long (x1 &&& (9223372036854775807 : Int64))), (.long (F5 (x1 &&& (9223372036854775807 : Int64)) ((x3 &&& (2147483647 : Int32)) % (F1 (1 : Int32) (x2 &&& (2147483647 : Int32)))) ((F1 (1 : Int32) (x2 &&& (2147483647 : Int32))))))])) _
    refine XS.iload X13.here hx rfl (hb hby at_80) rfl ?_
    show Steps p.tables e below (T13.setTop (mkF m 82 #[.val (.long x1), .second, .val (.int x2), .val (.int x3), .val (.long x4), .second, .val (.long x5), .second, .val (.long x6), .second, .val (.int (F1 (1 : Int32) (x2 &&& (2147483647 : Int32)))), .val (.int ((x3 &&& (2147483647 : Int32)) % (F1 (1 : Int32) (x2 &&& (2147483647 : Int32))))), .val (.long (x1 &&& (9223372036854775807 : Int64))), .second, .val (.long ((x4 &&& (4294967295 : Int64)) + (1 : Int64))), .second, .val (.long (F2 (1 : Int64) (x5 &&& (9223372036854775807 : Int64)))), .second, .val (.ref b3), .val (.long (F5 (x1 &&& (9223372036854775807 : Int64)) ((x3 &&& (2147483647 : Int32)) % (F1 (1 : Int32) (x2 &&& (2147483647 : Int32)))) ((F1 (1 : Int32) (x2 &&& (2147483647 : Int32)))))), .second] [(.int (F1 (1 : Int32) (x2 &&& (2147483647 : Int32)))), (.long (x1 &&& (9223372036854775807 : Int64))), (.long (F5 (x1 &&& (9223372036854775807 : Int64)) ((x3 &&& (2147483647 : Int32)) % (F1 (1 : Int32) (x2 &&& (2147483647 : Int32)))) ((F1 (1 : Int32) (x2 &&& (2147483647 : Int32))))))])) _
    refine XS.iload X13.here hx rfl (hb hby at_82) rfl ?_
    show Steps p.tables e below (T13.setTop (mkF m 84 #[.val (.long x1), .second, .val (.int x2), .val (.int x3), .val (.long x4), .second, .val (.long x5), .second, .val (.long x6), .second, .val (.int (F1 (1 : Int32) (x2 &&& (2147483647 : Int32)))), .val (.int ((x3 &&& (2147483647 : Int32)) % (F1 (1 : Int32) (x2 &&& (2147483647 : Int32))))), .val (.long (x1 &&& (9223372036854775807 : Int64))), .second, .val (.long ((x4 &&& (4294967295 : Int64)) + (1 : Int64))), .second, .val (.long (F2 (1 : Int64) (x5 &&& (9223372036854775807 : Int64)))), .second, .val (.ref b3), .val (.long (F5 (x1 &&& (9223372036854775807 : Int64)) ((x3 &&& (2147483647 : Int32)) % (F1 (1 : Int32) (x2 &&& (2147483647 : Int32)))) ((F1 (1 : Int32) (x2 &&& (2147483647 : Int32)))))), .second] [(.int ((x3 &&& (2147483647 : Int32)) % (F1 (1 : Int32) (x2 &&& (2147483647 : Int32))))), (.int (F1 (1 : Int32) (x2 &&& (2147483647 : Int32)))), (.long (x1 &&& (9223372036854775807 : Int64))), (.long (F5 (x1 &&& (9223372036854775807 : Int64)) ((x3 &&& (2147483647 : Int32)) % (F1 (1 : Int32) (x2 &&& (2147483647 : Int32)))) ((F1 (1 : Int32) (x2 &&& (2147483647 : Int32))))))])) _
    refine st14 _ ?_
    show Steps p.tables e below (T14.setTop (mkF m 87 #[.val (.long x1), .second, .val (.int x2), .val (.int x3), .val (.long x4), .second, .val (.long x5), .second, .val (.long x6), .second, .val (.int (F1 (1 : Int32) (x2 &&& (2147483647 : Int32)))), .val (.int ((x3 &&& (2147483647 : Int32)) % (F1 (1 : Int32) (x2 &&& (2147483647 : Int32))))), .val (.long (x1 &&& (9223372036854775807 : Int64))), .second, .val (.long ((x4 &&& (4294967295 : Int64)) + (1 : Int64))), .second, .val (.long (F2 (1 : Int64) (x5 &&& (9223372036854775807 : Int64)))), .second, .val (.ref b3), .val (.long (F5 (x1 &&& (9223372036854775807 : Int64)) ((x3 &&& (2147483647 : Int32)) % (F1 (1 : Int32) (x2 &&& (2147483647 : Int32)))) ((F1 (1 : Int32) (x2 &&& (2147483647 : Int32)))))), .second] [(.long (F6 (x1 &&& (9223372036854775807 : Int64)) (F1 (1 : Int32) (x2 &&& (2147483647 : Int32))) ((x3 &&& (2147483647 : Int32)) % (F1 (1 : Int32) (x2 &&& (2147483647 : Int32)))))), (.long (F5 (x1 &&& (9223372036854775807 : Int64)) ((x3 &&& (2147483647 : Int32)) % (F1 (1 : Int32) (x2 &&& (2147483647 : Int32)))) ((F1 (1 : Int32) (x2 &&& (2147483647 : Int32))))))])) _
    refine XS.lcmp X14.here hx rfl (hb hby at_87) rfl ?_
    show Steps p.tables e below (T14.setTop (mkF m 88 #[.val (.long x1), .second, .val (.int x2), .val (.int x3), .val (.long x4), .second, .val (.long x5), .second, .val (.long x6), .second, .val (.int (F1 (1 : Int32) (x2 &&& (2147483647 : Int32)))), .val (.int ((x3 &&& (2147483647 : Int32)) % (F1 (1 : Int32) (x2 &&& (2147483647 : Int32))))), .val (.long (x1 &&& (9223372036854775807 : Int64))), .second, .val (.long ((x4 &&& (4294967295 : Int64)) + (1 : Int64))), .second, .val (.long (F2 (1 : Int64) (x5 &&& (9223372036854775807 : Int64)))), .second, .val (.ref b3), .val (.long (F5 (x1 &&& (9223372036854775807 : Int64)) ((x3 &&& (2147483647 : Int32)) % (F1 (1 : Int32) (x2 &&& (2147483647 : Int32)))) ((F1 (1 : Int32) (x2 &&& (2147483647 : Int32)))))), .second] [(.int (lcmpW (F5 (x1 &&& (9223372036854775807 : Int64)) ((x3 &&& (2147483647 : Int32)) % (F1 (1 : Int32) (x2 &&& (2147483647 : Int32)))) ((F1 (1 : Int32) (x2 &&& (2147483647 : Int32))))) (F6 (x1 &&& (9223372036854775807 : Int64)) (F1 (1 : Int32) (x2 &&& (2147483647 : Int32))) ((x3 &&& (2147483647 : Int32)) % (F1 (1 : Int32) (x2 &&& (2147483647 : Int32)))))))])) _
    refine own_dia (u := ((1 : Int32) : Int32)) (v := (0 : Int32)) ((F5 (x1 &&& (9223372036854775807 : Int64)) ((x3 &&& (2147483647 : Int32)) % (F1 (1 : Int32) (x2 &&& (2147483647 : Int32)))) ((F1 (1 : Int32) (x2 &&& (2147483647 : Int32))))) = (F6 (x1 &&& (9223372036854775807 : Int64)) (F1 (1 : Int32) (x2 &&& (2147483647 : Int32))) ((x3 &&& (2147483647 : Int32)) % (F1 (1 : Int32) (x2 &&& (2147483647 : Int32)))))) (fun z15 => (mkF m 96 #[.val (.long x1), .second, .val (.int x2), .val (.int x3), .val (.long x4), .second, .val (.long x5), .second, .val (.long x6), .second, .val (.int (F1 (1 : Int32) (x2 &&& (2147483647 : Int32)))), .val (.int ((x3 &&& (2147483647 : Int32)) % (F1 (1 : Int32) (x2 &&& (2147483647 : Int32))))), .val (.long (x1 &&& (9223372036854775807 : Int64))), .second, .val (.long ((x4 &&& (4294967295 : Int64)) + (1 : Int64))), .second, .val (.long (F2 (1 : Int64) (x5 &&& (9223372036854775807 : Int64)))), .second, .val (.ref b3), .val (.long (F5 (x1 &&& (9223372036854775807 : Int64)) ((x3 &&& (2147483647 : Int32)) % (F1 (1 : Int32) (x2 &&& (2147483647 : Int32)))) ((F1 (1 : Int32) (x2 &&& (2147483647 : Int32)))))), .second] [(.int z15)])) (fun hc15 k15 => ?_) (fun hc15 k15 => ?_) ?_
    · refine XS.ifNo X14.here hx rfl (hb hby at_88) rfl (own_leq hc15).2 ?_
      show Steps p.tables e below (T14.setTop (mkF m 91 #[.val (.long x1), .second, .val (.int x2), .val (.int x3), .val (.long x4), .second, .val (.long x5), .second, .val (.long x6), .second, .val (.int (F1 (1 : Int32) (x2 &&& (2147483647 : Int32)))), .val (.int ((x3 &&& (2147483647 : Int32)) % (F1 (1 : Int32) (x2 &&& (2147483647 : Int32))))), .val (.long (x1 &&& (9223372036854775807 : Int64))), .second, .val (.long ((x4 &&& (4294967295 : Int64)) + (1 : Int64))), .second, .val (.long (F2 (1 : Int64) (x5 &&& (9223372036854775807 : Int64)))), .second, .val (.ref b3), .val (.long (F5 (x1 &&& (9223372036854775807 : Int64)) ((x3 &&& (2147483647 : Int32)) % (F1 (1 : Int32) (x2 &&& (2147483647 : Int32)))) ((F1 (1 : Int32) (x2 &&& (2147483647 : Int32)))))), .second] [])) _
      refine XS.iconst X14.here hx rfl (hb hby at_91) ?_
      show Steps p.tables e below (T14.setTop (mkF m 92 #[.val (.long x1), .second, .val (.int x2), .val (.int x3), .val (.long x4), .second, .val (.long x5), .second, .val (.long x6), .second, .val (.int (F1 (1 : Int32) (x2 &&& (2147483647 : Int32)))), .val (.int ((x3 &&& (2147483647 : Int32)) % (F1 (1 : Int32) (x2 &&& (2147483647 : Int32))))), .val (.long (x1 &&& (9223372036854775807 : Int64))), .second, .val (.long ((x4 &&& (4294967295 : Int64)) + (1 : Int64))), .second, .val (.long (F2 (1 : Int64) (x5 &&& (9223372036854775807 : Int64)))), .second, .val (.ref b3), .val (.long (F5 (x1 &&& (9223372036854775807 : Int64)) ((x3 &&& (2147483647 : Int32)) % (F1 (1 : Int32) (x2 &&& (2147483647 : Int32)))) ((F1 (1 : Int32) (x2 &&& (2147483647 : Int32)))))), .second] [(.int (1 : Int32))])) _
      refine XS.goto X14.here hx rfl (pc0 := 92) (pc' := 96) rfl (hb hby at_92) (by decide) (by decide) ?_
      exact k15
    · refine XS.ifYes X14.here hx rfl (pc0 := 88) (pc' := 95) rfl (hb hby at_88) rfl (own_lne hc15).2 (by decide) (by decide) ?_
      show Steps p.tables e below (T14.setTop (mkF m 95 #[.val (.long x1), .second, .val (.int x2), .val (.int x3), .val (.long x4), .second, .val (.long x5), .second, .val (.long x6), .second, .val (.int (F1 (1 : Int32) (x2 &&& (2147483647 : Int32)))), .val (.int ((x3 &&& (2147483647 : Int32)) % (F1 (1 : Int32) (x2 &&& (2147483647 : Int32))))), .val (.long (x1 &&& (9223372036854775807 : Int64))), .second, .val (.long ((x4 &&& (4294967295 : Int64)) + (1 : Int64))), .second, .val (.long (F2 (1 : Int64) (x5 &&& (9223372036854775807 : Int64)))), .second, .val (.ref b3), .val (.long (F5 (x1 &&& (9223372036854775807 : Int64)) ((x3 &&& (2147483647 : Int32)) % (F1 (1 : Int32) (x2 &&& (2147483647 : Int32)))) ((F1 (1 : Int32) (x2 &&& (2147483647 : Int32)))))), .second] [])) _
      refine XS.iconst X14.here hx rfl (hb hby at_95) ?_
      exact k15
    -- meets at 96
    show Steps p.tables e below (T14.setTop (mkF m 96 #[.val (.long x1), .second, .val (.int x2), .val (.int x3), .val (.long x4), .second, .val (.long x5), .second, .val (.long x6), .second, .val (.int (F1 (1 : Int32) (x2 &&& (2147483647 : Int32)))), .val (.int ((x3 &&& (2147483647 : Int32)) % (F1 (1 : Int32) (x2 &&& (2147483647 : Int32))))), .val (.long (x1 &&& (9223372036854775807 : Int64))), .second, .val (.long ((x4 &&& (4294967295 : Int64)) + (1 : Int64))), .second, .val (.long (F2 (1 : Int64) (x5 &&& (9223372036854775807 : Int64)))), .second, .val (.ref b3), .val (.long (F5 (x1 &&& (9223372036854775807 : Int64)) ((x3 &&& (2147483647 : Int32)) % (F1 (1 : Int32) (x2 &&& (2147483647 : Int32)))) ((F1 (1 : Int32) (x2 &&& (2147483647 : Int32)))))), .second] [(.int (if (F5 (x1 &&& (9223372036854775807 : Int64)) ((x3 &&& (2147483647 : Int32)) % (F1 (1 : Int32) (x2 &&& (2147483647 : Int32)))) ((F1 (1 : Int32) (x2 &&& (2147483647 : Int32))))) = (F6 (x1 &&& (9223372036854775807 : Int64)) (F1 (1 : Int32) (x2 &&& (2147483647 : Int32))) ((x3 &&& (2147483647 : Int32)) % (F1 (1 : Int32) (x2 &&& (2147483647 : Int32))))) then (1 : Int32) else (0 : Int32)))])) _
    exact retN X14 hx (t := .boolean) Bd.returns (by simp) (hb hby at_96) (by rw [own_nb (own_b01 (Or.inr rfl) (Or.inl rfl))]; exact hr)
  · show Q0 Z x1 x2 x3 x4 x5 x6 h0 n0 _ T14.heap _
    rw [e14]
    exact ⟨rfl, N14⟩

theorem own_div {a t k r : Int} (ht : 0 < t) (h : a = r + t * k) (h0 : 0 ≤ r) (h1 : r < t) : a / t = k := by
  rw [h, Int.add_mul_ediv_left _ _ (by omega), Int.ediv_eq_zero_of_lt h0 h1]; omega
theorem own_share {c t d : Int} (hc : 0 ≤ c) (ht : 1 ≤ t) (hd : 0 ≤ d) (hdt : d < t) : c / t + (if d < c % t then 1 else 0) = if d < c then (c - d - 1) / t + 1 else 0 := by
  have e : c = c % t + t * (c / t) := (Int.emod_add_mul_ediv c t).symm
  have r0 : 0 ≤ c % t := Int.emod_nonneg _ (by omega)
  have r1 : c % t < t := Int.emod_lt_of_pos _ (by omega)
  generalize c % t = r at e r0 r1 ⊢
  generalize c / t = q at e ⊢
  by_cases h1 : d < c
  · rw [if_pos h1]
    by_cases h2 : d < r
    · rw [if_pos h2, own_div (k := q) (r := r - d - 1) (by omega) (by omega) (by omega) (by omega)]
    · rw [if_neg h2, own_div (k := q - 1) (r := t + r - d - 1) (by omega) (by rw [Int.mul_sub]; omega) (by omega) (by omega)]
      omega
  · rw [if_neg h1]
    have hq : q = 0 := by
      have h3 : c / t = q := by rw [e]; exact own_div (by omega) rfl r0 r1
      rw [← h3]; exact Int.ediv_eq_zero_of_lt hc (by omega)
    rw [hq] at e ⊢
    rw [if_neg (by omega)]; rfl
theorem own_plain (x1 : Int64) (x2 x3 : Int32) (x4 x5 x6 : Int64) : F0 x1 x2 x3 x4 x5 x6 = 1 := by
  have ec : (x1 &&& (9223372036854775807 : Int64)).toInt = x1.toInt % 2 ^ 63 := Jvm.Kit.i64_mask x1 9223372036854775807 (by decide) (by decide)
  have e3 : (x3 &&& (2147483647 : Int32)).toInt = x3.toInt % 2 ^ 31 := Jvm.Kit.i32_mask x3 2147483647 (by decide) (by decide)
  have ht := own_th x2
  have ed : ((x3 &&& (2147483647 : Int32)) % (F1 (1 : Int32) (x2 &&& (2147483647 : Int32)))).toInt = (x3 &&& (2147483647 : Int32)).toInt % (F1 (1 : Int32) (x2 &&& (2147483647 : Int32))).toInt := Jvm.Kit.i32_rem_nonneg (by omega)
  unfold F0
  refine if_pos ?_
  generalize (F1 (1 : Int32) (x2 &&& (2147483647 : Int32))) = t at ht ed ⊢
  have hd0 : 0 ≤ ((x3 &&& (2147483647 : Int32)) % t).toInt := by rw [ed]; exact Int.emod_nonneg _ (by omega)
  have hd1 : ((x3 &&& (2147483647 : Int32)) % t).toInt < t.toInt := by rw [ed]; exact Int.emod_lt_of_pos _ (by omega)
  generalize ((x3 &&& (2147483647 : Int32)) % t) = d at hd0 hd1 ⊢
  have hc0 : 0 ≤ (x1 &&& (9223372036854775807 : Int64)).toInt := by omega
  generalize (x1 &&& (9223372036854775807 : Int64)) = c at hc0 ⊢
  clear ec e3 ed
  have hcl := c.toInt_lt
  have k1 : (1 : Int64).toInt = 1 := rfl
  have k0 : (0 : Int64).toInt = 0 := rfl
  have eq1 : (c / t.toInt64).toInt = c.toInt / t.toInt := by
    rw [Jvm.Kit.i64_div (by omega), Int.tdiv_eq_ediv_of_nonneg hc0, Int32.toInt_toInt64]
  have er : (c - (c / t.toInt64) * t.toInt64).toInt = c.toInt % t.toInt := by
    rw [Jvm.Kit.i64_rem_nonneg hc0, Int32.toInt_toInt64]
  have hs := own_share hc0 ht hd0 hd1
  have hq0 : 0 ≤ c.toInt / t.toInt := Int.ediv_nonneg hc0 (by omega)
  have hq1 : c.toInt / t.toInt ≤ c.toInt := Int.ediv_le_self _ hc0
  have ei : ((if (d.toInt64) < (c - (c / (t.toInt64)) * (t.toInt64)) then (1 : Int32) else (0 : Int32)).toInt64).toInt = if d.toInt < c.toInt % t.toInt then 1 else 0 := by
    rw [Int32.toInt_toInt64]
    have : ((d.toInt64) < (c - (c / (t.toInt64)) * (t.toInt64))) ↔ d.toInt < c.toInt % t.toInt := by rw [Int64.lt_iff_toInt_lt, er, Int32.toInt_toInt64]
    simp only [this]
    split <;> rfl
  have hsum : (if d.toInt < c.toInt % t.toInt then (1 : Int) else 0) = 0 ∨ c.toInt / t.toInt + (if d.toInt < c.toInt % t.toInt then (1 : Int) else 0) ≤ c.toInt := by
    by_cases h : d.toInt < c.toInt % t.toInt
    · right; rw [if_pos h]
      have e := Int.emod_add_mul_ediv c.toInt t.toInt
      have hm : 1 * (c.toInt / t.toInt) ≤ t.toInt * (c.toInt / t.toInt) := Int.mul_le_mul_of_nonneg_right ht hq0
      omega
    · left; rw [if_neg h]
  unfold F5 F6
  apply Int64.toInt_inj.mp
  rw [Jvm.Kit.i64_add (by rw [eq1, ei]; split <;> omega) (by rw [eq1, ei]; omega), eq1, ei, hs]
  have hdc : (d.toInt64 < c) ↔ d.toInt < c.toInt := by rw [Int64.lt_iff_toInt_lt, Int32.toInt_toInt64]
  by_cases h : d.toInt < c.toInt
  · rw [if_pos h, if_pos (hdc.mpr h)]
    have s1 := Jvm.Kit.i64_sub (x := c) (y := d.toInt64) (by rw [Int32.toInt_toInt64]; omega) (by rw [Int32.toInt_toInt64]; omega)
    rw [Int32.toInt_toInt64] at s1
    have s2 := Jvm.Kit.i64_sub (x := c - d.toInt64) (y := (1 : Int64)) (by rw [k1]; omega) (by rw [k1]; omega)
    rw [k1, s1] at s2
    have s3 : ((c - d.toInt64 - (1 : Int64)) / t.toInt64).toInt = (c.toInt - d.toInt - 1) / t.toInt := by
      rw [Jvm.Kit.i64_div (by omega), Int.tdiv_eq_ediv_of_nonneg (by omega), Int32.toInt_toInt64, s2]
    have s4 : (c.toInt - d.toInt - 1) / t.toInt ≤ c.toInt - d.toInt - 1 := Int.ediv_le_self _ (by omega)
    have s5 : 0 ≤ (c.toInt - d.toInt - 1) / t.toInt := Int.ediv_nonneg (by omega) (by omega)
    rw [Jvm.Kit.i64_add (by rw [s3, k1]; omega) (by rw [s3, k1]; omega), s3, k1]
  · rw [if_neg h, if_neg (fun q => h (hdc.mp q)), k0]

set_option maxRecDepth 65536 in
set_option maxHeartbeats 40000000 in
theorem comes_1 {Post : Tables → Env → Array Value → State → Outcome → State → Prop} (hpost : ∀ tb e args s v u, (limb_1_1.after args s (.returned v) u = true ∧ limb_1_2.after args s (.returned v) u = true ∧ True) → FrameEnd s (.returned v) u (Jvm.fieldLocs frame_1_writes args s ++ Jvm.arrayLocs frame_1_arrays args s ++ Jvm.staticLocs frame_1_statics s) 16 128 → Post tb e args s (.returned v) u) :
    ArmFor flags0 classFile x code maxLocals ret World_1 tables_1 room_1 Calls_1 rest_1 Pre_1 Post := by
  intro l hfl _ _ p e ha hc hk s m args below hf hA hF happ hP
  obtain ⟨hcalls, hrest, hpre⟩ := hP
  obtain ⟨-, -, -, hnamed, -, -, -, hat⟩ := (Spec.applies_iff hf).mp happ
  obtain ⟨hg, hn⟩ := and_e (Cond.before_iff.mp (show (Jvm.Cond.and given_1 narrow_1).before args s = true from hpre))
  obtain ⟨hcount, t0⟩ := and_e hg
  obtain ⟨k0, t1⟩ := and_e t0
  obtain ⟨k1, t2⟩ := and_e t1
  obtain ⟨k2, t3⟩ := and_e t2
  obtain ⟨k3, t4⟩ := and_e t3
  obtain ⟨k4, t5⟩ := and_e t4
  have k5 := t5
  obtain ⟨w0, w1, w2, w3, w4, w5, rfl⟩ : ∃ w0 w1 w2 w3 w4 w5 : Value, args = #[w0, w1, w2, w3, w4, w5] := by
    have hs : args.size = 6 := by simpa [Cond.value, given_1] using hcount
    obtain ⟨L⟩ := args
    match L, hs with
    | [w0, w1, w2, w3, w4, w5], _ => exact ⟨w0, w1, w2, w3, w4, w5, rfl⟩
  have hw := fun d (hd : d ∈ tables_1) => atoms_spec (ws := Jvm.Cond.code x code maxLocals ret :: tables_1) hat d (List.mem_cons_of_mem _ hd)
  obtain ⟨i0, ei0⟩ := isL_v k0
  obtain rfl : w0 = (.long i0) := Option.some.inj ei0
  obtain ⟨i1, ei1⟩ := is_v k1
  obtain rfl : w1 = (.int i1) := Option.some.inj ei1
  obtain ⟨i2, ei2⟩ := is_v k2
  obtain rfl : w2 = (.int i2) := Option.some.inj ei2
  obtain ⟨i3, ei3⟩ := isL_v k3
  obtain rfl : w3 = (.long i3) := Option.some.inj ei3
  obtain ⟨i4, ei4⟩ := isL_v k4
  obtain rfl : w4 = (.long i4) := Option.some.inj ei4
  obtain ⟨i5, ei5⟩ := isL_v k5
  obtain rfl : w5 = (.long i5) := Option.some.inj ei5
  obtain ⟨n, o, h1, h2, h3, _, L, rfl, ⟨hv, N⟩, hq⟩ := rm0 l s _ hw tables_1 i0 i1 i2 i3 i4 i5 s.heap s.heap.size (Nat.le_refl _) p e ha hc hk s m _ below hf ((Spec.applies_iff_loose hf).mp happ).1 ⟨rfl, State.Warmed39.refl s, rfl⟩ trivial
  rw [own_plain i0 i1 i2 i3 i4 i5] at hv
  subst hv
  refine ⟨n, _, h1, h2, h3, hpost _ _ _ _ _ _ ⟨Cond.after_iff.mpr rfl, Cond.after_iff.mpr (eq_i res_at (Term.int_eval (1)) rfl), trivial⟩ ⟨hq.1, hq.2.1, (hq.2.2.sift fun y hy => Or.inr (N y hy)).mono (by decide) (by decide)⟩⟩
theorem main_1_1 : Claimed_1_1 := comes_1 fun _ _ _ _ _ _ h hF => ⟨h.1, hF⟩
theorem main_1_2 : Claimed_1_2 := comes_1 fun _ _ _ _ _ _ h hF => ⟨h.2.1, hF⟩
end Jvm.Pilot.@@N@@
namespace Jvm.Pilot.@@N@@
open Jvm Jvm.ClassFile Sem Op Lib Jvm.Free Jvm.Stand Jvm.Pilot.@@N@@.Jvm.D
/-! MADE BY PROGRAM (witnessworld.py) out of the Statement's table words and the real class files: 10 classes; the members and pool entries that the words name. The judged class is class 1, her method 2. -/
namespace start1
open Jvm.ClassFile
def u (s : String) : CpInfo := .utf8 (stringToUtf16 s)
/-- a pool by its gaps: so many unusable entries, then the entry; so many at the end -/
def gap : Nat → List CpInfo → List CpInfo
  | 0, r => r
  | n + 1, r => .unusable :: gap n r
def poolList (es : List (Nat × CpInfo)) (last : Nat) : List CpInfo := es.foldr (fun e r => gap e.1 (e.2 :: r)) (gap last [])
def pool (es : List (Nat × CpInfo)) (last : Nat) : Array CpInfo := ⟨poolList es last⟩
def fileOf (pool : Array CpInfo) (this : Nat) (attrs : Array Attribute := #[]) (ms : Array MethodInfo := #[]) (fl : Nat := 33) (sup : Nat := 0) (ifs : Array Nat := #[]) (fds : Array FieldInfo := #[]) : ClassFile where
  minorVersion := 0
  majorVersion := 65
  constantPool := pool
  accessFlags := fl
  thisClass := this
  superClass := sup
  interfaces := ifs
  fields := fds
  methods := ms
  attributes := attrs
def plain (name : String) (sup : Option ClassId) : Class where
  name := name
  kind := .ordinary
  loader := none
  accessFlags := 33
  super := sup
  interfaces := #[]
  cf := none
  fields := #[]
  methods := #[]
  instanceTypes := #[]
  staticTypes := #[]
  resolved := #[]
  callSites := []
  init := .initialized
  statics := none
  mirror := none

def pool0 : Array CpInfo := pool [(5, u "<init>"), (0, u "()V"), (1, .class_ 10), (1, u "java/lang/Object")] 113

def k0c0 : Code := { maxStack := 0, maxLocals := 1, code := object_method_1_code, exceptionTable := #[], attributes := #[] }
def k0m0 : Method := { name := "<init>", desc := "()V", sig := { parameters := [], returnType := none }, accessFlags := 1, code := some k0c0 }
/-- java/lang/Object -/
def k0 : Class := { plain "java/lang/Object" none with
  accessFlags := 33
  interfaces := #[]
  cf := some (fileOf pool0 8 #[] #[{ accessFlags := 1, nameIndex := 5, descriptorIndex := 6, attributes := #[] }] 33 0 #[] #[])
  fields := #[]
  methods := #[k0m0]
  instanceTypes := #[]
  staticTypes := #[]
  resolved := Array.replicate 124 none
  statics := none }

def pool1 : Array CpInfo := pool [(2, .class_ 4), (1, u "java/lang/Object"), (0, u "<init>"), (0, u "()V"), (0, .integer 2147483647), (0, .methodref 9 10), (0, .class_ 11), (0, .nameAndType 12 13), (0, u "java/lang/Math"), (0, u "max"), (0, u "(II)I"), (2, .long 9223372036854775807), (1, .long 4294967295), (1, .methodref 9 21), (0, .nameAndType 12 22), (0, u "(JJ)J"), (0, .class_ 24), (0, u "com/example/inchworm/inchworm/Workload"), (0, .methodref 23 26), (0, .nameAndType 5 27), (0, u "(JJIJ)V"), (0, .methodref 23 29), (0, .nameAndType 30 31), (0, u "share"), (0, u "(JI)J"), (0, .methodref 33 34), (0, .class_ 35), (0, .nameAndType 36 37), (0, u "com/example/inchworm/inchworm/WorkloadSharePinLaw"), (0, u "reference"), (0, u "(JII)J"), (3, u "law"), (0, u "(JIIJJJ)Z")] 2

def k1m0 : Method := { name := "<init>", desc := "()V", sig := { parameters := [], returnType := none }, accessFlags := 2, code := none }
def k1c1 : Code := { maxStack := 4, maxLocals := 4, code := method_2_code, exceptionTable := #[], attributes := #[] }
def k1m1 : Method := { name := "reference", desc := "(JII)J", sig := { parameters := [.long, .int, .int], returnType := some .long }, accessFlags := 10, code := some k1c1 }
def k1c2 : Code := { maxStack := 9, maxLocals := 21, code := code, exceptionTable := #[], attributes := #[] }
def k1m2 : Method := { name := "law", desc := "(JIIJJJ)Z", sig := { parameters := [.long, .int, .int, .long, .long, .long], returnType := some .boolean }, accessFlags := 9, code := some k1c2 }
/-- com/example/inchworm/inchworm/WorkloadSharePinLaw -/
def k1 : Class := { plain "com/example/inchworm/inchworm/WorkloadSharePinLaw" (some 0) with
  accessFlags := 49
  interfaces := #[]
  cf := some (fileOf pool1 33 #[] #[{ accessFlags := 2, nameIndex := 5, descriptorIndex := 6, attributes := #[] }, { accessFlags := 10, nameIndex := 36, descriptorIndex := 37, attributes := #[] }, { accessFlags := 9, nameIndex := 41, descriptorIndex := 42, attributes := #[] }] 49 2 #[] #[])
  fields := #[]
  methods := #[k1m0, k1m1, k1m2]
  instanceTypes := #[]
  staticTypes := #[]
  resolved := Array.replicate 45 none
  statics := none }

def pool2 : Array CpInfo := pool [(1, .class_ 2), (0, u "java/lang/Math"), (1, .class_ 6), (1, u "java/lang/Object"), (0, u "<init>"), (0, u "()V"), (89, .class_ 100), (1, u "java/lang/Math$RandomNumberGeneratorHolder"), (20, u "(JJ)J"), (50, u "negativeZeroFloatBits"), (0, u "J"), (2, u "negativeZeroDoubleBits"), (21, u "max"), (46, u "$assertionsDisabled"), (0, u "Z"), (88, u "(II)I"), (2, u "twoToTheDoubleScaleDown"), (0, u "D"), (4, u "twoToTheDoubleScaleUp"), (9, u "E"), (3, u "PI"), (2, u "TAU"), (2, u "DEGREES_TO_RADIANS"), (0, u "RADIANS_TO_DEGREES")] 94

def k2m0 : Method := { name := "<init>", desc := "()V", sig := { parameters := [], returnType := none }, accessFlags := 2, code := none }
def k2c1 : Code := { maxStack := 2, maxLocals := 2, code := jdk_29_method_65_code, exceptionTable := #[], attributes := #[] }
def k2m1 : Method := { name := "max", desc := "(II)I", sig := { parameters := [.int, .int], returnType := some .int }, accessFlags := 9, code := some k2c1 }
def k2c2 : Code := { maxStack := 4, maxLocals := 4, code := jdk_29_method_66_code, exceptionTable := #[], attributes := #[] }
def k2m2 : Method := { name := "max", desc := "(JJ)J", sig := { parameters := [.long, .long], returnType := some .long }, accessFlags := 9, code := some k2c2 }
/-- java/lang/Math -/
def k2 : Class := { plain "java/lang/Math" (some 0) with
  accessFlags := 49
  interfaces := #[]
  cf := some (fileOf pool2 1 #[.nestMembers #[98]] #[{ accessFlags := 2, nameIndex := 7, descriptorIndex := 8, attributes := #[] }, { accessFlags := 9, nameIndex := 198, descriptorIndex := 335, attributes := #[] }, { accessFlags := 9, nameIndex := 198, descriptorIndex := 121, attributes := #[] }] 49 4 #[] #[{ accessFlags := 25, nameIndex := 354, descriptorIndex := 339, attributes := #[] }, { accessFlags := 25, nameIndex := 358, descriptorIndex := 339, attributes := #[] }, { accessFlags := 25, nameIndex := 361, descriptorIndex := 339, attributes := #[] }, { accessFlags := 26, nameIndex := 364, descriptorIndex := 339, attributes := #[] }, { accessFlags := 26, nameIndex := 365, descriptorIndex := 339, attributes := #[] }, { accessFlags := 26, nameIndex := 172, descriptorIndex := 173, attributes := #[] }, { accessFlags := 26, nameIndex := 176, descriptorIndex := 173, attributes := #[] }, { accessFlags := 8, nameIndex := 344, descriptorIndex := 339, attributes := #[] }, { accessFlags := 8, nameIndex := 338, descriptorIndex := 339, attributes := #[] }, { accessFlags := 4120, nameIndex := 245, descriptorIndex := 246, attributes := #[] }])
  fields := #[{ name := "E", type := .double, accessFlags := 25, slot := 0, constantValue := 0 }, { name := "PI", type := .double, accessFlags := 25, slot := 1, constantValue := 0 }, { name := "TAU", type := .double, accessFlags := 25, slot := 2, constantValue := 0 }, { name := "DEGREES_TO_RADIANS", type := .double, accessFlags := 26, slot := 3, constantValue := 0 }, { name := "RADIANS_TO_DEGREES", type := .double, accessFlags := 26, slot := 4, constantValue := 0 }, { name := "negativeZeroFloatBits", type := .long, accessFlags := 26, slot := 5, constantValue := 0 }, { name := "negativeZeroDoubleBits", type := .long, accessFlags := 26, slot := 6, constantValue := 0 }, { name := "twoToTheDoubleScaleUp", type := .double, accessFlags := 8, slot := 7, constantValue := 0 }, { name := "twoToTheDoubleScaleDown", type := .double, accessFlags := 8, slot := 8, constantValue := 0 }, { name := "$assertionsDisabled", type := .boolean, accessFlags := 4120, slot := 9, constantValue := 0 }]
  methods := #[k2m0, k2m1, k2m2]
  instanceTypes := #[]
  staticTypes := #[.double, .double, .double, .double, .double, .long, .long, .double, .double, .boolean]
  resolved := Array.replicate 460 none
  statics := none }

def pool3 : Array CpInfo := pool [(3, .class_ 4), (0, u "com/example/inchworm/inchworm/Workload"), (0, .methodref 6 7), (0, .class_ 8), (0, .nameAndType 9 10), (0, u "java/lang/Object"), (0, u "<init>"), (0, u "()V"), (0, .fieldref 3 12), (0, .nameAndType 13 14), (0, u "keys"), (0, u "J"), (0, .fieldref 3 16), (0, .nameAndType 17 14), (0, u "events"), (0, .fieldref 3 19), (0, .nameAndType 20 21), (0, u "threads"), (0, u "I"), (0, .fieldref 3 23), (0, .nameAndType 24 14), (0, u "seed"), (0, .long 4294967296), (1, .fieldref 3 28), (0, .nameAndType 29 14), (0, u "rejectBelow"), (33, u "share"), (0, u "(JI)J"), (10, u "MAX_KEYS"), (1, u "LOW_HALF"), (0, u "(JJIJ)V")] 16

def k3c0 : Code := { maxStack := 5, maxLocals := 8, code := prog_49_method_1_code, exceptionTable := #[], attributes := #[] }
def k3m0 : Method := { name := "<init>", desc := "(JJIJ)V", sig := { parameters := [.long, .long, .int, .long], returnType := none }, accessFlags := 0, code := some k3c0 }
def k3c1 : Code := { maxStack := 8, maxLocals := 4, code := prog_49_method_7_code, exceptionTable := #[], attributes := #[] }
def k3m1 : Method := { name := "share", desc := "(JI)J", sig := { parameters := [.long, .int], returnType := some .long }, accessFlags := 0, code := some k3c1 }
/-- com/example/inchworm/inchworm/Workload -/
def k3 : Class := { plain "com/example/inchworm/inchworm/Workload" (some 0) with
  accessFlags := 48
  interfaces := #[]
  cf := some (fileOf pool3 3 #[] #[{ accessFlags := 0, nameIndex := 9, descriptorIndex := 78, attributes := #[] }, { accessFlags := 0, nameIndex := 63, descriptorIndex := 64, attributes := #[] }] 48 6 #[] #[{ accessFlags := 24, nameIndex := 75, descriptorIndex := 14, attributes := #[] }, { accessFlags := 26, nameIndex := 77, descriptorIndex := 14, attributes := #[] }, { accessFlags := 18, nameIndex := 13, descriptorIndex := 14, attributes := #[] }, { accessFlags := 18, nameIndex := 17, descriptorIndex := 14, attributes := #[] }, { accessFlags := 18, nameIndex := 20, descriptorIndex := 21, attributes := #[] }, { accessFlags := 18, nameIndex := 24, descriptorIndex := 14, attributes := #[] }, { accessFlags := 18, nameIndex := 29, descriptorIndex := 14, attributes := #[] }])
  fields := #[{ name := "MAX_KEYS", type := .long, accessFlags := 24, slot := 0, constantValue := 0 }, { name := "LOW_HALF", type := .long, accessFlags := 26, slot := 1, constantValue := 0 }, { name := "keys", type := .long, accessFlags := 18, slot := 0, constantValue := 0 }, { name := "events", type := .long, accessFlags := 18, slot := 1, constantValue := 0 }, { name := "threads", type := .int, accessFlags := 18, slot := 2, constantValue := 0 }, { name := "seed", type := .long, accessFlags := 18, slot := 3, constantValue := 0 }, { name := "rejectBelow", type := .long, accessFlags := 18, slot := 4, constantValue := 0 }]
  methods := #[k3m0, k3m1]
  instanceTypes := #[.long, .long, .int, .long, .long]
  staticTypes := #[.long, .long]
  resolved := Array.replicate 95 none
  statics := none }

def pool4 : Array CpInfo := pool [(1, u "java/lang/Cloneable"), (0, .class_ 1), (0, u "java/lang/Object"), (0, .class_ 3)] 3

/-- java/lang/Cloneable -/
def k4 : Class := { plain "java/lang/Cloneable" (some 0) with
  accessFlags := 1537
  interfaces := #[]
  cf := some (fileOf pool4 2 #[] #[] 1537 4 #[] #[])
  fields := #[]
  methods := #[]
  instanceTypes := #[]
  staticTypes := #[]
  resolved := Array.replicate 8 none
  statics := none }

def pool5 : Array CpInfo := pool [(1, u "java/io/Serializable"), (0, .class_ 1), (0, u "java/lang/Object"), (0, .class_ 3)] 3

/-- java/io/Serializable -/
def k5 : Class := { plain "java/io/Serializable" (some 0) with
  accessFlags := 1537
  interfaces := #[]
  cf := some (fileOf pool5 2 #[] #[] 1537 4 #[] #[])
  fields := #[]
  methods := #[]
  instanceTypes := #[]
  staticTypes := #[]
  resolved := Array.replicate 8 none
  statics := none }

/-- the primitive byte -/
def k6 : Class := { plain "byte" none with kind := .primitive 'B', accessFlags := 0x411 }
/-- [B -/
def k7 : Class := { plain "[B" (some 0) with kind := .array 6 .byte, interfaces := #[4, 5], accessFlags := 1041 }

/-- the primitive int -/
def k8 : Class := { plain "int" none with kind := .primitive 'I', accessFlags := 0x411 }
/-- [I -/
def k9 : Class := { plain "[I" (some 0) with kind := .array 8 .int, interfaces := #[4, 5], accessFlags := 1041 }

def heap : Heap := #[]
def classes : Array Class := #[k0, k1, k2, k3, k4, k5, k6, k7, k8, k9]
def interned : List (Array UInt16 × Addr) := []
def slotsUsed : Nat := 0
def theMethod : MethodId := ⟨1, 2⟩
def args0 : Array Value := #[.long 7, .int 5, .int 5, .long 7, .long 7, .long 7]
def aboutOver (below : List Frame) : State where
  vm := { classes := classes, interned := interned.toArray }
  heap := heap
  slotsUsed := slotsUsed
  threads := #[{ frames := .invoking theMethod args0 :: below }]
def below0 : List Frame := [.native { method := ⟨0, 0⟩, args := #[] }]
def about1 : State := aboutOver below0
def p0 : Program := .bare "" "" ""
def e0 : Env := launch0.env 0 0 0
theorem w_frames : about1.frames = Frame.invoking theMethod args0 :: below0 := rfl
set_option maxRecDepth 65536 in
theorem w_args : argsFit about1.vm theMethod args0 = true := by decide +kernel
set_option maxRecDepth 65536 in
theorem w_heap : heapFits about1 = true := by decide +kernel
set_option maxRecDepth 65536 in
theorem w_runnable : about1.curStatus? = some .runnable := by decide +kernel
set_option maxRecDepth 65536 in
theorem w_alone : about1.alone = true := by decide +kernel
set_option maxRecDepth 65536 in
theorem w_named : about1.methodNamed? x = some theMethod := by decide +kernel
set_option maxRecDepth 65536 in
theorem w_hears : about1.hears theMethod below0 = true := by decide +kernel
set_option maxRecDepth 65536 in
theorem w_ripe : about1.ripe theMethod args0 below0 = true := by decide +kernel
theorem w_running : about1.status = .running := rfl
set_option maxRecDepth 65536 in
theorem w_room : about1.hasRoom e0.platform room_1 = true :=
  launch0.hasRoom_least _ room_1 (by decide +kernel) (by decide +kernel) (by decide +kernel) (by decide +kernel) (by decide +kernel) (by decide +kernel)
theorem allAtoms_all (ts : List Jvm.Cond) (a : Array Jvm.Value) (st : Jvm.State) : (allAtoms ts).before a st = ts.all (fun c => c.before a st) := by
  induction ts with
  | nil => rfl
  | cons c t ih =>
    show (Jvm.Cond.and c (allAtoms t)).before a st = _
    rw [Jvm.Cond.before_and, ih, List.all_cons]
def words1 : List Jvm.Cond := Jvm.Cond.code x code maxLocals ret :: tables_1
/-- a 'code' word, met by the world's own term for the bytes: nothing is compared byte by byte -/
theorem code_word {y : MethodName} {bytes : ByteArray} {mx : Nat} {rt : Option FieldType} {a : Array Value} {s : State} {m : MethodId} {meth : Method} {c : Code} (h1 : s.methodNamed? y = some m) (h2 : s.vm.method? m = some meth) (h3 : meth.code = some c) (h4 : c.code = bytes)
    (h5 : (c.maxLocals == mx && c.exceptionTable.isEmpty && decide (c.maxStack ≤ mostOperands) && decide (meth.sig.returnType = rt) && !meth.locks && decide (parseMethodDescriptor y.desc = some meth.sig)) = true) : (Jvm.Cond.code y bytes mx rt).before a s = true := by
  simp only [Bool.and_eq_true, beq_iff_eq, Bool.not_eq_true', decide_eq_true_eq] at h5
  obtain ⟨⟨⟨⟨⟨g1, g2⟩, g3⟩, g4⟩, g5⟩, g6⟩ := h5
  simp [Cond.before, Cond.holds, Cond.value, h1, h2, h3, h4, g1, g2, g3, g4, g5, g6]
def isCode : Jvm.Cond → Bool
  | .code _ _ _ _ => true
  | _ => false
theorem all_split {L : List Jvm.Cond} {P : Jvm.Cond → Bool} (h1 : L.all (fun c => isCode c || P c) = true) (h2 : ∀ c ∈ L.filter isCode, P c = true) : L.all P = true := by
  refine List.all_eq_true.mpr fun c hc => ?_
  have h := List.all_eq_true.mp h1 c hc
  rcases Bool.eq_false_or_eq_true (isCode c) with hi | hi
  · exact h2 c (List.mem_filter.mpr ⟨hc, hi⟩)
  · simpa [hi] using h
set_option maxRecDepth 65536 in
theorem w_c0 : (Jvm.Cond.code x code maxLocals ret).before args0 about1 = true := code_word (m := ⟨1, 2⟩) (meth := k1m2) (c := k1c2) (by decide +kernel) rfl rfl rfl (by decide +kernel)
set_option maxRecDepth 65536 in
theorem w_c1 : (Jvm.Cond.code ({ cls := "java/lang/Math", name := "max", desc := "(II)I" } : Jvm.MethodName) jdk_29_method_65_code (2 : Nat) (Option.some Jvm.ClassFile.FieldType.int)).before args0 about1 = true := code_word (m := ⟨2, 1⟩) (meth := k2m1) (c := k2c1) (by decide +kernel) rfl rfl rfl (by decide +kernel)
set_option maxRecDepth 65536 in
theorem w_c2 : (Jvm.Cond.code ({ cls := "java/lang/Math", name := "max", desc := "(JJ)J" } : Jvm.MethodName) jdk_29_method_66_code (4 : Nat) (Option.some Jvm.ClassFile.FieldType.long)).before args0 about1 = true := code_word (m := ⟨2, 2⟩) (meth := k2m2) (c := k2c2) (by decide +kernel) rfl rfl rfl (by decide +kernel)
set_option maxRecDepth 65536 in
theorem w_c3 : (Jvm.Cond.code ({ cls := "com/example/inchworm/inchworm/Workload", name := "<init>", desc := "(JJIJ)V" } : Jvm.MethodName) prog_49_method_1_code (8 : Nat) (Option.none : Option Jvm.ClassFile.FieldType)).before args0 about1 = true := code_word (m := ⟨3, 0⟩) (meth := k3m0) (c := k3c0) (by decide +kernel) rfl rfl rfl (by decide +kernel)
set_option maxRecDepth 65536 in
theorem w_c4 : (Jvm.Cond.code ({ cls := "java/lang/Object", name := "<init>", desc := "()V" } : Jvm.MethodName) object_method_1_code (1 : Nat) (Option.none : Option Jvm.ClassFile.FieldType)).before args0 about1 = true := code_word (m := ⟨0, 0⟩) (meth := k0m0) (c := k0c0) (by decide +kernel) rfl rfl rfl (by decide +kernel)
set_option maxRecDepth 65536 in
theorem w_c5 : (Jvm.Cond.code ({ cls := "com/example/inchworm/inchworm/Workload", name := "share", desc := "(JI)J" } : Jvm.MethodName) prog_49_method_7_code (4 : Nat) (Option.some Jvm.ClassFile.FieldType.long)).before args0 about1 = true := code_word (m := ⟨3, 1⟩) (meth := k3m1) (c := k3c1) (by decide +kernel) rfl rfl rfl (by decide +kernel)
set_option maxRecDepth 65536 in
theorem w_c6 : (Jvm.Cond.code ({ cls := "com/example/inchworm/inchworm/WorkloadSharePinLaw", name := "reference", desc := "(JII)J" } : Jvm.MethodName) method_2_code (4 : Nat) (Option.some Jvm.ClassFile.FieldType.long)).before args0 about1 = true := code_word (m := ⟨1, 1⟩) (meth := k1m1) (c := k1c1) (by decide +kernel) rfl rfl rfl (by decide +kernel)
def codes1 : List Jvm.Cond := [Jvm.Cond.code x code maxLocals ret, Jvm.Cond.code ({ cls := "java/lang/Math", name := "max", desc := "(II)I" } : Jvm.MethodName) jdk_29_method_65_code (2 : Nat) (Option.some Jvm.ClassFile.FieldType.int), Jvm.Cond.code ({ cls := "java/lang/Math", name := "max", desc := "(JJ)J" } : Jvm.MethodName) jdk_29_method_66_code (4 : Nat) (Option.some Jvm.ClassFile.FieldType.long), Jvm.Cond.code ({ cls := "com/example/inchworm/inchworm/Workload", name := "<init>", desc := "(JJIJ)V" } : Jvm.MethodName) prog_49_method_1_code (8 : Nat) (Option.none : Option Jvm.ClassFile.FieldType), Jvm.Cond.code ({ cls := "java/lang/Object", name := "<init>", desc := "()V" } : Jvm.MethodName) object_method_1_code (1 : Nat) (Option.none : Option Jvm.ClassFile.FieldType), Jvm.Cond.code ({ cls := "com/example/inchworm/inchworm/Workload", name := "share", desc := "(JI)J" } : Jvm.MethodName) prog_49_method_7_code (4 : Nat) (Option.some Jvm.ClassFile.FieldType.long), Jvm.Cond.code ({ cls := "com/example/inchworm/inchworm/WorkloadSharePinLaw", name := "reference", desc := "(JII)J" } : Jvm.MethodName) method_2_code (4 : Nat) (Option.some Jvm.ClassFile.FieldType.long)]
set_option maxRecDepth 65536 in
theorem codes_eq : words1.filter isCode = codes1 := rfl
theorem w_codes : ∀ c ∈ words1.filter isCode, c.before args0 about1 = true := by
  rw [codes_eq]
  intro c hc
  simp only [codes1, List.mem_cons, List.not_mem_nil, or_false] at hc
  rcases hc with rfl | rfl | rfl | rfl | rfl | rfl | rfl
  · exact w_c0
  · exact w_c1
  · exact w_c2
  · exact w_c3
  · exact w_c4
  · exact w_c5
  · exact w_c6
set_option maxRecDepth 65536 in
theorem w_t1 : (words1.take 24).all (fun c => isCode c || c.before args0 about1) = true := by decide +kernel
set_option maxRecDepth 65536 in
theorem w_t2 : (words1.drop 24).all (fun c => isCode c || c.before args0 about1) = true := by decide +kernel
theorem w_tables : (allAtoms (Jvm.Cond.code x code maxLocals ret :: tables_1)).before args0 about1 = true := by
  rw [allAtoms_all]
  show words1.all (fun c => c.before args0 about1) = true
  refine all_split ?_ w_codes
  rw [← List.take_append_drop 24 words1, List.all_append, w_t1, w_t2]
  rfl
set_option maxRecDepth 65536 in
theorem w_case : (Jvm.Cond.and given_1 narrow_1).before args0 about1 = true := by decide +kernel
theorem w_applies : (headSpec (Jvm.Cond.code x code maxLocals ret :: tables_1) room_1).applies x e0.platform about1 = true :=
  (Spec.applies_iff w_frames).mpr ⟨w_running, w_runnable, w_alone, w_named, w_hears, w_ripe, w_room, w_tables⟩
theorem atStart : AtStart classFile x code maxLocals ret World_1 tables_1 room_1 Calls_1 rest_1 Pre_1 launch0 p0 e0 about1 theMethod args0 below0 :=
  ⟨lists_1, trivial, launch0.admits_env _ _ _, launch0.least_env, fairChoices_fair.cas, fairChoices_fair.clock, w_frames, w_args, w_heap, w_applies, trivial, trivial, w_case⟩
end start1
theorem witness_1 : WitnessClaimed_1 := ⟨start1.p0, start1.e0, start1.about1, start1.theMethod, start1.args0, start1.below0, start1.atStart⟩
end Jvm.Pilot.@@N@@
