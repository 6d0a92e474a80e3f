import JvmDerived
import JvmDerived.Pilot.@@N@@Statement
import JvmDerived.Pilot.@@N@@Code
set_option linter.unusedVariables false
set_option linter.unusedSimpArgs false
@@BLOCK:NumsL.lean.txt@@
namespace Jvm.RoadKit
open Sem ClassFile Op Lib Jvm.Stand Jvm.Free Jvm.LawKit
section New
variable {p : Program} {l : Launch} {e : Env} {R : Room} {s : State} {m : MethodId} {args : Array Value} {below : List Frame} {meth : Method} {c : Code} {T : State} {locs : List Loc} {cells slots : Nat}
theorem retI (X : Stand p l e R s m args below meth c T locs cells slots) (hx : p.tables.exec = Jvm.exec) {pc : Nat} {Ls : Array Slot} {z : Int32} {rest : List Value} (hret : meth.sig.returnType = some .int) (hd : decode c.code pc = .ok (.ireturn, 1)) {fs : List Frame}
    (hl : ∀ (f : JFrame) (acts : List Action), f.method = m → f.locked = none → f.entered = [] → (doReturn e (T.setTop f) acts (some (.int z))).1 = T.setFrames fs) : Steps p.tables e below (T.setTop (mkF m pc Ls (.int z :: rest))) (T.setFrames fs) := by
  have hm' : T.vm.method? m = some meth := X.method'
  have hn : narrow .int (.int z) = .int z := rfl
  show Steps p.tables e below (T.setTop { method := m, pc := pc, locals := Ls, stack := _ :: rest, locked := none }) _
  jvm_step X.here [X.here.top, hx, hd, hm', hret, hn]
  first | (intro acts; rw [hl _ acts rfl rfl rfl]) | rw [hl _ _ rfl rfl rfl]
  exact Steps.refl _
end New
theorem own_dia {tb : Tables} {e : Env} {below : List Frame} {T tgt : State} {g : JFrame} {A : Type} {u v : A} (q : Prop) [Decidable q] (f : A → JFrame)
    (h1 : q → Steps tb e below (T.setTop (f u)) tgt → Steps tb e below (T.setTop g) tgt) (h0 : ¬ q → Steps tb e below (T.setTop (f v)) tgt → Steps tb e below (T.setTop g) tgt)
    (k : Steps tb e below (T.setTop (f (if q then u else v))) tgt) : Steps tb e below (T.setTop g) tgt := by
  by_cases hq : q
  · rw [if_pos hq] at k; exact h1 hq k
  · rw [if_neg hq] at k; exact h0 hq k
theorem own_cast {tb : Tables} {e : Env} {below : List Frame} {T tgt : State} {A : Type} {u v : A} (f : A → JFrame) (h : u = v) (k : Steps tb e below (T.setTop (f v)) tgt) : Steps tb e below (T.setTop (f u)) tgt := h ▸ k
theorem own_llt {x y : Int64} (h : x < y) : ifCond.holds .lt (lcmpW x y) = true ∧ ifCond.holds .ge (lcmpW x y) = false := by
  rw [if0, if0]; exact ⟨(tlt ((lw_lt x y).mpr h)).1, (tlt ((lw_lt x y).mpr h)).2.1⟩
theorem own_lge {x y : Int64} (h : ¬ x < y) : ifCond.holds .lt (lcmpW x y) = false ∧ ifCond.holds .ge (lcmpW x y) = true := by
  rw [if0, if0]; exact ⟨(flt fun q => h ((lw_lt x y).mp q)).1, (flt fun q => h ((lw_lt x y).mp q)).2.1⟩
theorem own_lgt {x y : Int64} (h : y < x) : ifCond.holds .gt (lcmpW x y) = true ∧ ifCond.holds .le (lcmpW x y) = false := by
  rw [if0, if0]; exact ⟨(tlt ((lw_gt x y).mpr h)).2.2.1, (tlt ((lw_gt x y).mpr h)).2.2.2⟩
theorem own_lle {x y : Int64} (h : ¬ y < x) : ifCond.holds .gt (lcmpW x y) = false ∧ ifCond.holds .le (lcmpW x y) = true := by
  rw [if0, if0]; exact ⟨(flt fun q => h ((lw_gt x y).mp q)).2.2.1, (flt fun q => h ((lw_gt x y).mp q)).2.2.2⟩
theorem own_leq {x y : Int64} (h : x = y) : ifCond.holds .eq (lcmpW x y) = true ∧ ifCond.holds .ne (lcmpW x y) = false := by
  rw [if0, if0]; exact ⟨(teq ((lw_eq x y).mpr h)).1, (teq ((lw_eq x y).mpr h)).2⟩
theorem own_lne {x y : Int64} (h : ¬ x = y) : ifCond.holds .eq (lcmpW x y) = false ∧ ifCond.holds .ne (lcmpW x y) = true := by
  rw [if0, if0]; exact ⟨(feq fun q => h ((lw_eq x y).mp q)).1, (feq fun q => h ((lw_eq x y).mp q)).2⟩
theorem own_bt {q : Prop} [Decidable q] (h : q) : ifCond.holds .ne (if q then (1 : Int32) else (0 : Int32)) = true ∧ ifCond.holds .eq (if q then (1 : Int32) else (0 : Int32)) = false := by
  rw [if_pos h]; exact ⟨rfl, rfl⟩
theorem own_bf {q : Prop} [Decidable q] (h : ¬ q) : ifCond.holds .ne (if q then (1 : Int32) else (0 : Int32)) = false ∧ ifCond.holds .eq (if q then (1 : Int32) else (0 : Int32)) = true := by
  rw [if_neg h]; exact ⟨rfl, rfl⟩
theorem own_ct {q : Prop} [Decidable q] (h : q) : ifCond.holds .ne (if q then (0 : Int32) else (1 : Int32)) = false ∧ ifCond.holds .eq (if q then (0 : Int32) else (1 : Int32)) = true := by
  rw [if_pos h]; exact ⟨rfl, rfl⟩
theorem own_cf {q : Prop} [Decidable q] (h : ¬ q) : ifCond.holds .ne (if q then (0 : Int32) else (1 : Int32)) = true ∧ ifCond.holds .eq (if q then (0 : Int32) else (1 : Int32)) = false := by
  rw [if_neg h]; exact ⟨rfl, rfl⟩
theorem own_b01 {q : Prop} [Decidable q] {x y : Int32} (hx : x = 0 ∨ x = 1) (hy : y = 0 ∨ y = 1) : (if q then x else y) = 0 ∨ (if q then x else y) = 1 := by
  split <;> assumption
def Arf (Z : State) (h : Heap) (a : Addr) (ty : FieldType) (n : Int32) (f : Nat → Value) : Prop :=
  ∃ c : Cell, Arr Z h a c ty ∧ c.slots.size = n.toNatClampNeg ∧ ¬ n < 0 ∧ ∀ i, i < n.toNatClampNeg → c.slots[i]? = some (f i)
theorem Arf.lt {Z : State} {h : Heap} {a : Addr} {ty : FieldType} {n : Int32} {f : Nat → Value} (F : Arf Z h a ty n f) : a < h.size := by
  obtain ⟨c, A, -⟩ := F; exact A.lt
theorem Arf.ext {Z : State} {h h' : Heap} {a : Addr} {ty : FieldType} {n : Int32} {f : Nat → Value} (F : Arf Z h a ty n f) (E : Ext h h') : Arf Z h' a ty n f := by
  obtain ⟨c, A, r⟩ := F; exact ⟨c, A.ext E, r⟩
theorem Arf.other {Z : State} {h h' : Heap} {a b : Addr} {sl : Nat} {v : Value} {ty : FieldType} {n : Int32} {f : Nat → Value} (F : Arf Z h b ty n f) (W : Wr h h' a sl v) (q : b ≠ a) : Arf Z h' b ty n f := by
  obtain ⟨c, A, r⟩ := F; exact ⟨c, A.other W q, r⟩
theorem Arf.keep {Z : State} {h h' : Heap} {a : Addr} {ws : List Addr} {ty : FieldType} {n : Int32} {f : Nat → Value} (F : Arf Z h a ty n f) (K : Keep h h' ws) (q : a ∉ ws) : Arf Z h' a ty n f := by
  obtain ⟨c, A, r⟩ := F; exact ⟨c, ⟨K.2.1 a c A.1 q, A.2⟩, r⟩
theorem own_arf_new {Z : State} {h : Heap} {a : Addr} {k : ClassId} {ty : FieldType} {z : Int32} (A : Arr Z h a (newA k ty z) ty) (q : ¬ z < 0) : Arf Z h a ty z (fun _ => defaultValue ty) :=
  ⟨_, A, sz_new _ _ _, q, fun i hi => by simp [newA, hi]⟩
theorem own_arf_set {Z : State} {h h' : Heap} {a : Addr} {ty : FieldType} {n : Int32} {f : Nat → Value} {j : Nat} {v : Value} (F : Arf Z h a ty n f) (W : Wr h h' a j v) : Arf Z h' a ty n (fun i => if i = j then v else f i) := by
  obtain ⟨c, A, S, M, H⟩ := F
  refine ⟨_, A.same W, by rw [sz_set]; exact S, M, fun i hi => ?_⟩
  show _ = some (if i = j then v else f i)
  by_cases u : i = j
  · subst u; rw [if_pos rfl]; rw [← S] at hi; simp [Cell.setSlot, hi]
  · rw [if_neg u]; have := H i hi; simp only [Cell.setSlot]; rw [Array.getElem?_setIfInBounds_ne (Ne.symm u)]; exact this
theorem own_arf_fn {Z : State} {h : Heap} {a : Addr} {ty : FieldType} {n : Int32} {f g : Nat → Value} (F : Arf Z h a ty n f) (q : ∀ i, i < n.toNatClampNeg → f i = g i) : Arf Z h a ty n g := by
  obtain ⟨c, A, S, M, H⟩ := F
  exact ⟨c, A, S, M, fun i hi => by rw [← q i hi]; exact H i hi⟩
theorem own_arf_setI {Z : State} {h h' : Heap} {a : Addr} {ty : FieldType} {n : Int32} {f : Nat → Int32} {j : Nat} {v : Int32} (F : Arf Z h a ty n (fun i => Value.int (f i))) (W : Wr h h' a j (.int v)) : Arf Z h' a ty n (fun i => Value.int (if i = j then v else f i)) :=
  own_arf_fn (own_arf_set F W) fun i _ => by by_cases u : i = j <;> simp [u]
theorem own_arf_setL {Z : State} {h h' : Heap} {a : Addr} {ty : FieldType} {n : Int32} {f : Nat → Int64} {j : Nat} {v : Int64} (F : Arf Z h a ty n (fun i => Value.long (f i))) (W : Wr h h' a j (.long v)) : Arf Z h' a ty n (fun i => Value.long (if i = j then v else f i)) :=
  own_arf_fn (own_arf_set F W) fun i _ => by by_cases u : i = j <;> simp [u]
theorem own_arf_at {c : Cell} {n j : Int32} {f : Nat → Value} (H : ∀ i, i < n.toNatClampNeg → c.slots[i]? = some (f i)) (S : c.slots.size = n.toNatClampNeg) (q : ¬ (j < 0 ∨ c.slots.size ≤ j.toNatClampNeg)) : c.slots[j.toNatClampNeg]? = some (f j.toNatClampNeg) :=
  H _ (by rw [← S]; exact Nat.lt_of_not_le fun y => q (Or.inr y))
theorem own_nb {x : Int32} (h : x = 0 ∨ x = 1) : nar .boolean x = x := by
  rcases h with rfl | rfl <;> rfl
end Jvm.RoadKit
namespace Jvm.Pilot.@@N@@
open Jvm Jvm.ClassFile Sem Op Lib Jvm.Free Jvm.Stand Jvm.LawKit Jvm.RoadKit Bundle Jvm.Pilot.@@N@@.Jvm.D

theorem own_pos (x1 : Int32) : ¬ (x1 &&& (2147483647 : Int32)) < (0 : Int32) := by
  have e1 : (x1 &&& (2147483647 : Int32)).toInt = x1.toInt % 2 ^ 31 := Jvm.Kit.i32_mask x1 2147483647 (by decide) (by decide)
  have e3 : (0 : Int32).toInt = 0 := rfl
  rw [Int32.lt_iff_toInt_lt, e1, e3]; omega

theorem d1_0 : decode prog_11_method_14_code 0 = .ok (.iload_n 0, 1) := by decide +kernel
theorem d1_1 : decode prog_11_method_14_code 1 = .ok (.iconst 1, 1) := by decide +kernel
theorem d1_2 : decode prog_11_method_14_code 2 = .ok (.iand, 1) := by decide +kernel
theorem d1_3 : decode prog_11_method_14_code 3 = .ok (.iconst 1, 1) := by decide +kernel
theorem d1_4 : decode prog_11_method_14_code 4 = .ok (.if_icmp .ne 7, 3) := by decide +kernel
theorem d1_7 : decode prog_11_method_14_code 7 = .ok (.iconst 1, 1) := by decide +kernel
theorem d1_8 : decode prog_11_method_14_code 8 = .ok (.goto 4, 3) := by decide +kernel
theorem d1_11 : decode prog_11_method_14_code 11 = .ok (.iconst 0, 1) := by decide +kernel
theorem d1_12 : decode prog_11_method_14_code 12 = .ok (.ireturn, 1) := by decide +kernel
theorem pn_1 : plainName "com/example/concept_reasoner/conceptreasoner/tableau/ConceptFactory" = true := by first | (simp [plainName, overriddenIn]; done) | decide +kernel
theorem ef_1 (m : MethodId) (vr : Int32) : entryFrame m #[(.int vr)] 1 = mkF m 0 #[.val (.int vr)] [] := by first | (simp [entryFrame, mkF, argsToLocals, Value.category]; done) | rfl
def F1 (vr : Int32) : Int32 := (if (vr &&& (1 : Int32)) = (1 : Int32) then (1 : Int32) else (0 : Int32))
def Q1 (Z : State) (vr : Int32) (h0 : Heap) (n0 : Nat) (v : Option Value) (h : Heap) (L : List Loc) : Prop := v = some (.int (F1 vr)) ∧ Fr n0 L ∧ h = h0
set_option maxRecDepth 65536 in
set_option maxHeartbeats 40000000 in
theorem rm1 (l : Launch) (Z : State) (a0 : Array Value) (hw : ∀ d ∈ tables_1, d.before a0 Z = true) (ws : List Jvm.Cond) (vr : Int32) (h0 : Heap) (n0 : Nat) (Z0 : n0 ≤ h0.size)  :
    MetFree l (⟨"com/example/concept_reasoner/conceptreasoner/tableau/ConceptFactory", "isInverse", "(I)Z"⟩ : MethodName) (head1 (Jvm.Cond.code (⟨"com/example/concept_reasoner/conceptreasoner/tableau/ConceptFactory", "isInverse", "(I)Z"⟩ : MethodName) prog_11_method_14_code 1 (some .boolean) :: ws) ({ frames := 0, cells := 0, slots := 0, locals := 0 } : Room)) (fun a U => a = #[(.int vr)] ∧ Z.Warmed39 U.vm ∧ U.heap = h0) (fun _ _ _ _ _ => True) (fun _ U o U' => ∃ v L, o = .returned v ∧ Q1 Z vr h0 n0 v U'.heap L ∧ FrameEnd U o U' L ({ frames := 0, cells := 0, slots := 0, locals := 0 } : Room).cells ({ frames := 0, cells := 0, slots := 0, locals := 0 } : Room).slots) := by
  refine MetFree.of_bodySF (plainFor_of_name pn_1) hisR ?_
  intro p e s m args below meth c s₁ Bd hml0 hP hK
  obtain ⟨rfl, hZ, hh⟩ := hP
  have hx := Bd.exec
  have hby := Bd.bytes
  have hml : c.maxLocals = 1 := hml0
  have hown : s.vm.findClass "com/example/concept_reasoner/conceptreasoner/tableau/ConceptFactory" = some m.cls := findClass_of_methodNamed Bd.named
  have hnm := (name_of_methodNamed Bd.named Bd.method).1
  have X0 : Stand p l e ({ frames := 0, cells := 0, slots := 0, locals := 0 } : Room) s m #[(.int vr)] below meth c s₁ [] 0 0 := Stand.of_body Bd
  have e0 : s₁.heap = h0 := by rw [← hh, Bd.state]; rfl
  have N0 := Fr.nil n0
  have pre0 : ∀ t, Steps p.tables e below (s₁.setTop (mkF m 0 #[.val (.int vr)] [])) t → Steps p.tables e below (s₁.setTop (entryFrame m #[(.int vr)] 1)) t := fun t k => castTop (ef_1 m vr) k
  obtain ⟨fs, hr, hrun, hended, hW, hsame⟩ := X0.leave (v := some (.int (if (vr &&& (1 : Int32)) = (1 : Int32) then (1 : Int32) else (0 : Int32)))) (fun h => by rw [Bd.returns] at h; cases h)
  refine ⟨_, _, pre0 _ ?_, hrun, hended, _, _, rfl, ?_, ⟨_, rfl⟩, hW, hsame.mono (by decide) (by decide)⟩
  · show Steps p.tables e below (s₁.setTop (mkF m 0 #[.val (.int vr)] [])) _
    refine XS.iloadN X0.here hx rfl (hb hby d1_0) rfl ?_
    show Steps p.tables e below (s₁.setTop (mkF m 1 #[.val (.int vr)] [(.int vr)])) _
    refine XS.iconst X0.here hx rfl (hb hby d1_1) ?_
    show Steps p.tables e below (s₁.setTop (mkF m 2 #[.val (.int vr)] [(.int (1 : Int32)), (.int vr)])) _
    refine XS.iand X0.here hx rfl (hb hby d1_2) rfl ?_
    show Steps p.tables e below (s₁.setTop (mkF m 3 #[.val (.int vr)] [(.int (vr &&& (1 : Int32)))])) _
    refine XS.iconst X0.here hx rfl (hb hby d1_3) ?_
    show Steps p.tables e below (s₁.setTop (mkF m 4 #[.val (.int vr)] [(.int (1 : Int32)), (.int (vr &&& (1 : Int32)))])) _
    refine own_dia (u := ((1 : Int32) : Int32)) (v := (0 : Int32)) ((vr &&& (1 : Int32)) = (1 : Int32)) (fun z1 => (mkF m 12 #[.val (.int vr)] [(.int z1)])) (fun hc1 k1 => ?_) (fun hc1 k1 => ?_) ?_
    · refine XS.icmpNo X0.here hx rfl (hb hby d1_4) rfl (teq hc1).2 ?_
      show Steps p.tables e below (s₁.setTop (mkF m 7 #[.val (.int vr)] [])) _
      refine XS.iconst X0.here hx rfl (hb hby d1_7) ?_
      show Steps p.tables e below (s₁.setTop (mkF m 8 #[.val (.int vr)] [(.int (1 : Int32))])) _
      refine XS.goto X0.here hx rfl (pc0 := 8) (pc' := 12) rfl (hb hby d1_8) (by decide) (by decide) ?_
      exact k1
    · refine XS.icmpYes X0.here hx rfl (pc0 := 4) (pc' := 11) rfl (hb hby d1_4) rfl (feq hc1).2 (by decide) (by decide) ?_
      show Steps p.tables e below (s₁.setTop (mkF m 11 #[.val (.int vr)] [])) _
      refine XS.iconst X0.here hx rfl (hb hby d1_11) ?_
      exact k1
    -- meets at 12
    show Steps p.tables e below (s₁.setTop (mkF m 12 #[.val (.int vr)] [(.int (if (vr &&& (1 : Int32)) = (1 : Int32) then (1 : Int32) else (0 : Int32)))])) _
    exact retN X0 hx (t := .boolean) Bd.returns (by simp) (hb hby d1_12) (by rw [own_nb (own_b01 (Or.inr rfl) (Or.inl rfl))]; exact hr)
  · show Q1 Z vr h0 n0 _ s₁.heap _
    rw [e0]
    exact ⟨rfl, N0, rfl⟩
theorem d3_0 : decode prog_11_method_15_code 0 = .ok (.iload_n 0, 1) := by decide +kernel
theorem d3_1 : decode prog_11_method_15_code 1 = .ok (.ifCond .ge 17, 3) := by decide +kernel
theorem d3_18 : decode prog_11_method_15_code 18 = .ok (.return_, 1) := by decide +kernel
theorem pn_3 : plainName "com/example/concept_reasoner/conceptreasoner/tableau/ConceptFactory" = true := by first | (simp [plainName, overriddenIn]; done) | decide +kernel
theorem ef_3 (m : MethodId) (vr : Int32) : entryFrame m #[(.int vr)] 1 = mkF m 0 #[.val (.int vr)] [] := by first | (simp [entryFrame, mkF, argsToLocals, Value.category]; done) | rfl
def Q3 (Z : State) (vr : Int32) (h0 : Heap) (n0 : Nat) (v : Option Value) (h : Heap) (L : List Loc) : Prop := v = none ∧ Fr n0 L ∧ h = h0
set_option maxRecDepth 65536 in
set_option maxHeartbeats 40000000 in
theorem rm3 (l : Launch) (Z : State) (a0 : Array Value) (hw : ∀ d ∈ tables_1, d.before a0 Z = true) (ws : List Jvm.Cond) (vr : Int32) (h0 : Heap) (n0 : Nat) (Z0 : n0 ≤ h0.size) (hr1 : ¬ vr < (0 : Int32)) :
    MetFree l (⟨"com/example/concept_reasoner/conceptreasoner/tableau/ConceptFactory", "checkRole", "(I)V"⟩ : MethodName) (head1 (Jvm.Cond.code (⟨"com/example/concept_reasoner/conceptreasoner/tableau/ConceptFactory", "checkRole", "(I)V"⟩ : MethodName) prog_11_method_15_code 1 none :: ws) ({ frames := 0, cells := 0, slots := 0, locals := 0 } : Room)) (fun a U => a = #[(.int vr)] ∧ Z.Warmed39 U.vm ∧ U.heap = h0) (fun _ _ _ _ _ => True) (fun _ U o U' => ∃ v L, o = .returned v ∧ Q3 Z vr h0 n0 v U'.heap L ∧ FrameEnd U o U' L ({ frames := 0, cells := 0, slots := 0, locals := 0 } : Room).cells ({ frames := 0, cells := 0, slots := 0, locals := 0 } : Room).slots) := by
  refine MetFree.of_bodySF (plainFor_of_name pn_3) hisR ?_
  intro p e s m args below meth c s₁ Bd hml0 hP hK
  obtain ⟨rfl, hZ, hh⟩ := hP
  have hx := Bd.exec
  have hby := Bd.bytes
  have hml : c.maxLocals = 1 := hml0
  have hown : s.vm.findClass "com/example/concept_reasoner/conceptreasoner/tableau/ConceptFactory" = some m.cls := findClass_of_methodNamed Bd.named
  have hnm := (name_of_methodNamed Bd.named Bd.method).1
  have X0 : Stand p l e ({ frames := 0, cells := 0, slots := 0, locals := 0 } : Room) s m #[(.int vr)] below meth c s₁ [] 0 0 := Stand.of_body Bd
  have e0 : s₁.heap = h0 := by rw [← hh, Bd.state]; rfl
  have N0 := Fr.nil n0
  have pre0 : ∀ t, Steps p.tables e below (s₁.setTop (mkF m 0 #[.val (.int vr)] [])) t → Steps p.tables e below (s₁.setTop (entryFrame m #[(.int vr)] 1)) t := fun t k => castTop (ef_3 m vr) k
  obtain ⟨fs, hr, hrun, hended, hW, hsame⟩ := X0.leave (v := none) (fun _ => rfl)
  refine ⟨_, _, pre0 _ ?_, hrun, hended, _, _, rfl, ?_, ⟨_, rfl⟩, hW, hsame.mono (by decide) (by decide)⟩
  · show Steps p.tables e below (s₁.setTop (mkF m 0 #[.val (.int vr)] [])) _
    refine XS.iloadN X0.here hx rfl (hb hby d3_0) rfl ?_
    show Steps p.tables e below (s₁.setTop (mkF m 1 #[.val (.int vr)] [(.int vr)])) _
    refine XS.ifYes X0.here hx rfl (pc0 := 1) (pc' := 18) rfl (hb hby d3_1) rfl ((if0 _ _).trans (flt (hr1 : ¬ (vr < (0 : Int32)))).2.1) (by decide) (by decide) ?_
    show Steps p.tables e below (s₁.setTop (mkF m 18 #[.val (.int vr)] [])) _
    exact X0.returnOut hx Bd.returns (hb hby d3_18) hr
  · show Q3 Z vr h0 n0 _ s₁.heap _
    rw [e0]
    exact ⟨rfl, N0, rfl⟩
theorem pd_0 : parseMethodDescriptor "(I)V" = some ⟨[.int], none⟩ := by decide +kernel
theorem d2_0 : decode prog_11_method_13_code 0 = .ok (.iload_n 0, 1) := by decide +kernel
theorem d2_1 : decode prog_11_method_13_code 1 = .ok (.invokestatic 118, 3) := by decide +kernel
theorem d2_4 : decode prog_11_method_13_code 4 = .ok (.iload_n 0, 1) := by decide +kernel
theorem d2_5 : decode prog_11_method_13_code 5 = .ok (.iconst 1, 1) := by decide +kernel
theorem d2_6 : decode prog_11_method_13_code 6 = .ok (.ixor, 1) := by decide +kernel
theorem d2_7 : decode prog_11_method_13_code 7 = .ok (.ireturn, 1) := by decide +kernel
theorem pn_2 : plainName "com/example/concept_reasoner/conceptreasoner/tableau/ConceptFactory" = true := by first | (simp [plainName, overriddenIn]; done) | decide +kernel
theorem ef_2 (m : MethodId) (vr : Int32) : entryFrame m #[(.int vr)] 1 = mkF m 0 #[.val (.int vr)] [] := by first | (simp [entryFrame, mkF, argsToLocals, Value.category]; done) | rfl
def F2 (vr : Int32) : Int32 := (vr ^^^ (1 : Int32))
def Q2 (Z : State) (vr : Int32) (h0 : Heap) (n0 : Nat) (v : Option Value) (h : Heap) (L : List Loc) : Prop := v = some (.int (F2 vr)) ∧ Fr n0 L ∧ h = h0
set_option maxRecDepth 65536 in
set_option maxHeartbeats 40000000 in
theorem rm2 (l : Launch) (Z : State) (a0 : Array Value) (hw : ∀ d ∈ tables_1, d.before a0 Z = true) (ws : List Jvm.Cond) (vr : Int32) (h0 : Heap) (n0 : Nat) (Z0 : n0 ≤ h0.size) (hr1 : ¬ vr < (0 : Int32)) :
    MetFree l (⟨"com/example/concept_reasoner/conceptreasoner/tableau/ConceptFactory", "inverse", "(I)I"⟩ : MethodName) (head1 (Jvm.Cond.code (⟨"com/example/concept_reasoner/conceptreasoner/tableau/ConceptFactory", "inverse", "(I)I"⟩ : MethodName) prog_11_method_13_code 1 (some .int) :: ws) ({ frames := 1, cells := 0, slots := 0, locals := 12 } : Room)) (fun a U => a = #[(.int vr)] ∧ Z.Warmed39 U.vm ∧ U.heap = h0) (fun _ _ _ _ _ => True) (fun _ U o U' => ∃ v L, o = .returned v ∧ Q2 Z vr h0 n0 v U'.heap L ∧ FrameEnd U o U' L ({ frames := 1, cells := 0, slots := 0, locals := 12 } : Room).cells ({ frames := 1, cells := 0, slots := 0, locals := 12 } : Room).slots) := by
  refine MetFree.of_bodySF (plainFor_of_name pn_2) hisR ?_
  intro p e s m args below meth c s₁ Bd hml0 hP hK
  obtain ⟨rfl, hZ, hh⟩ := hP
  have hx := Bd.exec
  have hby := Bd.bytes
  have hml : c.maxLocals = 1 := hml0
  have hown : s.vm.findClass "com/example/concept_reasoner/conceptreasoner/tableau/ConceptFactory" = some m.cls := findClass_of_methodNamed Bd.named
  have hnm := (name_of_methodNamed Bd.named Bd.method).1
  have X0 : Stand p l e ({ frames := 1, cells := 0, slots := 0, locals := 12 } : Room) s m #[(.int vr)] below meth c s₁ [] 0 0 := Stand.of_body Bd
  have e0 : s₁.heap = h0 := by rw [← hh, Bd.state]; rfl
  have N0 := Fr.nil n0
  have pre0 : ∀ t, Steps p.tables e below (s₁.setTop (mkF m 0 #[.val (.int vr)] [])) t → Steps p.tables e below (s₁.setTop (entryFrame m #[(.int vr)] 1)) t := fun t k => castTop (ef_2 m vr) k
  obtain ⟨_, _, ⟨T1, L1, k1, n1⟩, -, X1, ⟨Lc1, hQ1, l1, y1, z1⟩, st1⟩ := Jvm.LawKit.callS X0 hx (y := (⟨"com/example/concept_reasoner/conceptreasoner/tableau/ConceptFactory", "checkRole", "(I)V"⟩ : MethodName)) hown (mvT hZ (hw _ (List.mem_of_getElem? (i := 8) rfl))) (mvT hZ (hw _ (List.mem_of_getElem? (i := 9) rfl))) (mvT hZ (hw _ (List.mem_of_getElem? (i := 3) rfl))) (mvT hZ (hw _ (List.mem_of_getElem? (i := 10) rfl))) (by decide) (backOf (W := 0) (rm3 l Z a0 hw [] vr  h0 n0 Z0 (hr1)) hZ (hw _ (List.mem_of_getElem? (i := 10) rfl)) (hw _ (List.mem_of_getElem? (i := 3) rfl)) (by decide) (by decide)) (g := (mkF m 1 #[.val (.int vr)] [(.int vr)])) rfl (by rw [hml]; rfl) (argsL := [(.int vr)]) (rest := []) (lenOf pd_0 rfl) rfl (by show 2 * 0 + _ ≤ _; exact Nat.le_of_eq rfl) (hb hby d2_1) (fun _ _ => ⟨rfl, e0, (by decide : 0 + 0 ≤ _), (by decide : 0 + 0 ≤ _)⟩)
  dsimp only [Pt.U, Pt.locs, Pt.cells, Pt.slots] at X1 l1 y1 z1 st1 hQ1
  subst l1 y1 z1
  obtain ⟨rfl, N1q, e1⟩ := hQ1
  have N1 := Fr.app N0 N1q
  obtain ⟨fs, hr, hrun, hended, hW, hsame⟩ := X1.leave (v := some (.int (vr ^^^ (1 : Int32)))) (fun h => by rw [Bd.returns] at h; cases h)
  refine ⟨_, _, pre0 _ ?_, hrun, hended, _, _, rfl, ?_, ⟨_, rfl⟩, hW, hsame.mono (by decide) (by decide)⟩
  · show Steps p.tables e below (s₁.setTop (mkF m 0 #[.val (.int vr)] [])) _
    refine XS.iloadN X0.here hx rfl (hb hby d2_0) rfl ?_
    show Steps p.tables e below (s₁.setTop (mkF m 1 #[.val (.int vr)] [(.int vr)])) _
    refine st1 _ ?_
    show Steps p.tables e below (T1.setTop (mkF m 4 #[.val (.int vr)] [])) _
    refine XS.iloadN X1.here hx rfl (hb hby d2_4) rfl ?_
    show Steps p.tables e below (T1.setTop (mkF m 5 #[.val (.int vr)] [(.int vr)])) _
    refine XS.iconst X1.here hx rfl (hb hby d2_5) ?_
    show Steps p.tables e below (T1.setTop (mkF m 6 #[.val (.int vr)] [(.int (1 : Int32)), (.int vr)])) _
    refine XS.ixor X1.here hx rfl (hb hby d2_6) rfl ?_
    show Steps p.tables e below (T1.setTop (mkF m 7 #[.val (.int vr)] [(.int (vr ^^^ (1 : Int32)))])) _
    exact retI X1 hx Bd.returns (hb hby d2_7) hr
  · show Q2 Z vr h0 n0 _ T1.heap _
    rw [e1]
    exact ⟨rfl, N1, rfl⟩
theorem pd_1 : parseMethodDescriptor "(I)Z" = some ⟨[.int], some .boolean⟩ := by decide +kernel
theorem pd_2 : parseMethodDescriptor "(I)I" = some ⟨[.int], some .int⟩ := by decide +kernel
theorem pn_0 : plainName "com/example/concept_reasoner/conceptreasoner/tableau/ConceptFactoryIsInversePinLaw" = true := by first | (simp [plainName, overriddenIn]; done) | decide +kernel
theorem ef_0 (m : MethodId) (x1 : Int32) : entryFrame m #[(.int x1)] maxLocals = mkF m 0 #[.val (.int x1), .unset, .unset, .unset, .unset, .unset] [] := by first | (simp [entryFrame, mkF, argsToLocals, Value.category, maxLocals]; done) | rfl
def F0 (x1 : Int32) : Int32 := (if (F1 (x1 &&& (2147483647 : Int32))) = (if (((x1 &&& (2147483647 : Int32)) / (2 : Int32)) * (2 : Int32)) = (x1 &&& (2147483647 : Int32)) then (0 : Int32) else (1 : Int32)) then (if (F1 (x1 &&& (2147483647 : Int32))) = (if (F2 (x1 &&& (2147483647 : Int32))) < (x1 &&& (2147483647 : Int32)) then (1 : Int32) else (0 : Int32)) then (if (F1 (F2 (x1 &&& (2147483647 : Int32)))) = (if (F1 (x1 &&& (2147483647 : Int32))) = (0 : Int32) then (1 : Int32) else (0 : Int32)) then (1 : Int32) else (0 : Int32)) else (0 : Int32)) else (0 : Int32))
def Q0 (Z : State) (x1 : Int32) (h0 : Heap) (n0 : Nat) (v : Option Value) (h : Heap) (L : List Loc) : Prop := v = some (.int (F0 x1)) ∧ Fr n0 L
set_option maxRecDepth 65536 in
set_option maxHeartbeats 40000000 in
theorem rm0 (l : Launch) (Z : State) (a0 : Array Value) (hw : ∀ d ∈ tables_1, d.before a0 Z = true) (ws : List Jvm.Cond) (x1 : Int32) (h0 : Heap) (n0 : Nat) (Z0 : n0 ≤ h0.size)  :
    MetFree l x (head1 (Jvm.Cond.code x code maxLocals ret :: ws) room_1) (fun a U => a = #[(.int x1)] ∧ Z.Warmed39 U.vm ∧ U.heap = h0) (fun _ _ _ _ _ => True) (fun _ U o U' => ∃ v L, o = .returned v ∧ Q0 Z x1 h0 n0 v U'.heap L ∧ FrameEnd U o U' L room_1.cells room_1.slots) := by
  refine MetFree.of_bodySF (plainFor_of_name pn_0) hisR ?_
  intro p e s m args below meth c s₁ Bd hml0 hP hK
  obtain ⟨rfl, hZ, hh⟩ := hP
  have hx := Bd.exec
  have hby := Bd.bytes
  have hml : c.maxLocals = 6 := hml0
  have hown : s.vm.findClass "com/example/concept_reasoner/conceptreasoner/tableau/ConceptFactoryIsInversePinLaw" = some m.cls := findClass_of_methodNamed Bd.named
  have hnm := (name_of_methodNamed Bd.named Bd.method).1
  have X0 : Stand p l e room_1 s m #[(.int x1)] below meth c s₁ [] 0 0 := Stand.of_body Bd
  have e0 : s₁.heap = h0 := by rw [← hh, Bd.state]; rfl
  have N0 := Fr.nil n0
  have pre0 : ∀ t, Steps p.tables e below (s₁.setTop (mkF m 0 #[.val (.int x1), .unset, .unset, .unset, .unset, .unset] [])) t → Steps p.tables e below (s₁.setTop (entryFrame m #[(.int x1)] maxLocals)) t := fun t k => castTop (ef_0 m x1) k
  obtain ⟨_, _, ⟨T1, L1, k1, n1⟩, -, X1, ⟨Lc1, hQ1, l1, y1, z1⟩, st1⟩ := Jvm.LawKit.callS X0 hx (y := (⟨"com/example/concept_reasoner/conceptreasoner/tableau/ConceptFactory", "isInverse", "(I)Z"⟩ : MethodName)) hown (mvT hZ (hw _ (List.mem_of_getElem? (i := 1) rfl))) (mvT hZ (hw _ (List.mem_of_getElem? (i := 2) rfl))) (mvT hZ (hw _ (List.mem_of_getElem? (i := 3) rfl))) (mvT hZ (hw _ (List.mem_of_getElem? (i := 4) rfl))) (by decide) (backOf (W := 0) (rm1 l Z a0 hw [] (x1 &&& (2147483647 : Int32))  h0 n0 Z0 ) hZ (hw _ (List.mem_of_getElem? (i := 4) rfl)) (hw _ (List.mem_of_getElem? (i := 3) rfl)) (by decide) (by decide)) (g := (mkF m 6 #[.val (.int x1), .val (.int (x1 &&& (2147483647 : Int32))), .unset, .unset, .unset, .unset] [(.int (x1 &&& (2147483647 : Int32)))])) rfl (by rw [hml]; rfl) (argsL := [(.int (x1 &&& (2147483647 : Int32)))]) (rest := []) (lenOf pd_1 rfl) rfl (by show 2 * 0 + _ ≤ _; exact Nat.le_of_eq rfl) (hb hby at_6) (fun _ _ => ⟨rfl, e0, (by decide : 0 + 0 ≤ _), (by decide : 0 + 0 ≤ _)⟩)
  dsimp only [Pt.U, Pt.locs, Pt.cells, Pt.slots] at X1 l1 y1 z1 st1 hQ1
  subst l1 y1 z1
  obtain ⟨rfl, N1q, e1⟩ := hQ1
  have N1 := Fr.app N0 N1q
  obtain ⟨_, _, ⟨T3, L3, k3, n3⟩, -, X3, ⟨Lc3, hQ3, l3, y3, z3⟩, st3⟩ := Jvm.LawKit.callS X1 hx (y := (⟨"com/example/concept_reasoner/conceptreasoner/tableau/ConceptFactory", "inverse", "(I)I"⟩ : MethodName)) hown (mvT hZ (hw _ (List.mem_of_getElem? (i := 5) rfl))) (mvT hZ (hw _ (List.mem_of_getElem? (i := 6) rfl))) (mvT hZ (hw _ (List.mem_of_getElem? (i := 3) rfl))) (mvT hZ (hw _ (List.mem_of_getElem? (i := 7) rfl))) (by decide) (backOf (W := 0) (rm2 l Z a0 hw [] (x1 &&& (2147483647 : Int32))  h0 n0 Z0 (own_pos x1)) hZ (hw _ (List.mem_of_getElem? (i := 7) rfl)) (hw _ (List.mem_of_getElem? (i := 3) rfl)) (by decide) (by decide)) (g := (mkF m 26 #[.val (.int x1), .val (.int (x1 &&& (2147483647 : Int32))), .val (.int (F1 (x1 &&& (2147483647 : Int32)))), .val (.int (if (((x1 &&& (2147483647 : Int32)) / (2 : Int32)) * (2 : Int32)) = (x1 &&& (2147483647 : Int32)) then (0 : Int32) else (1 : Int32))), .unset, .unset] [(.int (x1 &&& (2147483647 : Int32)))])) rfl (by rw [hml]; rfl) (argsL := [(.int (x1 &&& (2147483647 : Int32)))]) (rest := []) (lenOf pd_2 rfl) rfl (by show 2 * 0 + _ ≤ _; exact Nat.le_of_eq rfl) (hb hby at_26) (fun _ _ => ⟨rfl, e1, (by decide : 0 + 0 ≤ _), (by decide : 0 + 0 ≤ _)⟩)
  dsimp only [Pt.U, Pt.locs, Pt.cells, Pt.slots] at X3 l3 y3 z3 st3 hQ3
  subst l3 y3 z3
  obtain ⟨rfl, N3q, e3⟩ := hQ3
  have N3 := Fr.app N1 N3q
  obtain ⟨_, _, ⟨T4, L4, k4, n4⟩, -, X4, ⟨Lc4, hQ4, l4, y4, z4⟩, st4⟩ := Jvm.LawKit.callS X3 hx (y := (⟨"com/example/concept_reasoner/conceptreasoner/tableau/ConceptFactory", "isInverse", "(I)Z"⟩ : MethodName)) hown (mvT hZ (hw _ (List.mem_of_getElem? (i := 1) rfl))) (mvT hZ (hw _ (List.mem_of_getElem? (i := 2) rfl))) (mvT hZ (hw _ (List.mem_of_getElem? (i := 3) rfl))) (mvT hZ (hw _ (List.mem_of_getElem? (i := 4) rfl))) (by decide) (backOf (W := 0) (rm1 l Z a0 hw [] (F2 (x1 &&& (2147483647 : Int32)))  h0 n0 Z0 ) hZ (hw _ (List.mem_of_getElem? (i := 4) rfl)) (hw _ (List.mem_of_getElem? (i := 3) rfl)) (by decide) (by decide)) (g := (mkF m 33 #[.val (.int x1), .val (.int (x1 &&& (2147483647 : Int32))), .val (.int (F1 (x1 &&& (2147483647 : Int32)))), .val (.int (if (((x1 &&& (2147483647 : Int32)) / (2 : Int32)) * (2 : Int32)) = (x1 &&& (2147483647 : Int32)) then (0 : Int32) else (1 : Int32))), .val (.int (F2 (x1 &&& (2147483647 : Int32)))), .unset] [(.int (F2 (x1 &&& (2147483647 : Int32))))])) rfl (by rw [hml]; rfl) (argsL := [(.int (F2 (x1 &&& (2147483647 : Int32))))]) (rest := []) (lenOf pd_1 rfl) rfl (by show 2 * 0 + _ ≤ _; exact Nat.le_of_eq rfl) (hb hby at_33) (fun _ _ => ⟨rfl, e3, (by decide : 0 + 0 ≤ _), (by decide : 0 + 0 ≤ _)⟩)
  dsimp only [Pt.U, Pt.locs, Pt.cells, Pt.slots] at X4 l4 y4 z4 st4 hQ4
  subst l4 y4 z4
  obtain ⟨rfl, N4q, e4⟩ := hQ4
  have N4 := Fr.app N3 N4q
  obtain ⟨fs, hr, hrun, hended, hW, hsame⟩ := X4.leave (v := some (.int (if (F1 (x1 &&& (2147483647 : Int32))) = (if (((x1 &&& (2147483647 : Int32)) / (2 : Int32)) * (2 : Int32)) = (x1 &&& (2147483647 : Int32)) then (0 : Int32) else (1 : Int32)) then (if (F1 (x1 &&& (2147483647 : Int32))) = (if (F2 (x1 &&& (2147483647 : Int32))) < (x1 &&& (2147483647 : Int32)) then (1 : Int32) else (0 : Int32)) then (if (F1 (F2 (x1 &&& (2147483647 : Int32)))) = (if (F1 (x1 &&& (2147483647 : Int32))) = (0 : Int32) then (1 : Int32) else (0 : Int32)) then (1 : Int32) else (0 : Int32)) else (0 : Int32)) else (0 : Int32)))) (fun h => by rw [Bd.returns] at h; cases h)
  refine ⟨_, _, pre0 _ ?_, hrun, hended, _, _, rfl, ?_, ⟨_, rfl⟩, hW, hsame.mono (by decide) (by decide)⟩
  · show Steps p.tables e below (s₁.setTop (mkF m 0 #[.val (.int x1), .unset, .unset, .unset, .unset, .unset] [])) _
    refine XS.iloadN X0.here hx rfl (hb hby at_0) rfl ?_
    show Steps p.tables e below (s₁.setTop (mkF m 1 #[.val (.int x1), .unset, .unset, .unset, .unset, .unset] [(.int x1)])) _
    refine X0.ldcInt hx hown (mvT hZ (hw _ (List.mem_of_getElem? (i := 0) rfl))) (g := (mkF m 1 #[.val (.int x1), .unset, .unset, .unset, .unset, .unset] [(.int x1)])) rfl (hb hby at_1) _ ?_
    show Steps p.tables e below (s₁.setTop (mkF m 3 #[.val (.int x1), .unset, .unset, .unset, .unset, .unset] [(.int (2147483647 : Int32)), (.int x1)])) _
    refine XS.iand X0.here hx rfl (hb hby at_3) rfl ?_
    show Steps p.tables e below (s₁.setTop (mkF m 4 #[.val (.int x1), .unset, .unset, .unset, .unset, .unset] [(.int (x1 &&& (2147483647 : Int32)))])) _
    refine XS.istoreN X0.here hx rfl (hb hby at_4) rfl (l' := #[.val (.int x1), .val (.int (x1 &&& (2147483647 : Int32))), .unset, .unset, .unset, .unset]) rfl ?_
    show Steps p.tables e below (s₁.setTop (mkF m 5 #[.val (.int x1), .val (.int (x1 &&& (2147483647 : Int32))), .unset, .unset, .unset, .unset] [])) _
    refine XS.iloadN X0.here hx rfl (hb hby at_5) rfl ?_
    show Steps p.tables e below (s₁.setTop (mkF m 6 #[.val (.int x1), .val (.int (x1 &&& (2147483647 : Int32))), .unset, .unset, .unset, .unset] [(.int (x1 &&& (2147483647 : Int32)))])) _
    refine st1 _ ?_
    show Steps p.tables e below (T1.setTop (mkF m 9 #[.val (.int x1), .val (.int (x1 &&& (2147483647 : Int32))), .unset, .unset, .unset, .unset] [(.int (F1 (x1 &&& (2147483647 : Int32))))])) _
    refine XS.istoreN X1.here hx rfl (hb hby at_9) rfl (l' := #[.val (.int x1), .val (.int (x1 &&& (2147483647 : Int32))), .val (.int (F1 (x1 &&& (2147483647 : Int32)))), .unset, .unset, .unset]) rfl ?_
    show Steps p.tables e below (T1.setTop (mkF m 10 #[.val (.int x1), .val (.int (x1 &&& (2147483647 : Int32))), .val (.int (F1 (x1 &&& (2147483647 : Int32)))), .unset, .unset, .unset] [])) _
    refine XS.iloadN X1.here hx rfl (hb hby at_10) rfl ?_
    show Steps p.tables e below (T1.setTop (mkF m 11 #[.val (.int x1), .val (.int (x1 &&& (2147483647 : Int32))), .val (.int (F1 (x1 &&& (2147483647 : Int32)))), .unset, .unset, .unset] [(.int (x1 &&& (2147483647 : Int32)))])) _
    refine XS.iconst X1.here hx rfl (hb hby at_11) ?_
    show Steps p.tables e below (T1.setTop (mkF m 12 #[.val (.int x1), .val (.int (x1 &&& (2147483647 : Int32))), .val (.int (F1 (x1 &&& (2147483647 : Int32)))), .unset, .unset, .unset] [(.int (2 : Int32)), (.int (x1 &&& (2147483647 : Int32)))])) _
    refine XS.idiv X1.here hx rfl (hb hby at_12) rfl (by decide) ?_
    show Steps p.tables e below (T1.setTop (mkF m 13 #[.val (.int x1), .val (.int (x1 &&& (2147483647 : Int32))), .val (.int (F1 (x1 &&& (2147483647 : Int32)))), .unset, .unset, .unset] [(.int ((x1 &&& (2147483647 : Int32)) / (2 : Int32)))])) _
    refine XS.iconst X1.here hx rfl (hb hby at_13) ?_
    show Steps p.tables e below (T1.setTop (mkF m 14 #[.val (.int x1), .val (.int (x1 &&& (2147483647 : Int32))), .val (.int (F1 (x1 &&& (2147483647 : Int32)))), .unset, .unset, .unset] [(.int (2 : Int32)), (.int ((x1 &&& (2147483647 : Int32)) / (2 : Int32)))])) _
    refine XS.imul X1.here hx rfl (hb hby at_14) rfl ?_
    show Steps p.tables e below (T1.setTop (mkF m 15 #[.val (.int x1), .val (.int (x1 &&& (2147483647 : Int32))), .val (.int (F1 (x1 &&& (2147483647 : Int32)))), .unset, .unset, .unset] [(.int (((x1 &&& (2147483647 : Int32)) / (2 : Int32)) * (2 : Int32)))])) _
    refine XS.iloadN X1.here hx rfl (hb hby at_15) rfl ?_
    show Steps p.tables e below (T1.setTop (mkF m 16 #[.val (.int x1), .val (.int (x1 &&& (2147483647 : Int32))), .val (.int (F1 (x1 &&& (2147483647 : Int32)))), .unset, .unset, .unset] [(.int (x1 &&& (2147483647 : Int32))), (.int (((x1 &&& (2147483647 : Int32)) / (2 : Int32)) * (2 : Int32)))])) _
    refine own_dia (u := ((0 : Int32) : Int32)) (v := (1 : Int32)) ((((x1 &&& (2147483647 : Int32)) / (2 : Int32)) * (2 : Int32)) = (x1 &&& (2147483647 : Int32))) (fun z2 => (mkF m 24 #[.val (.int x1), .val (.int (x1 &&& (2147483647 : Int32))), .val (.int (F1 (x1 &&& (2147483647 : Int32)))), .unset, .unset, .unset] [(.int z2)])) (fun hc2 k2 => ?_) (fun hc2 k2 => ?_) ?_
    · refine XS.icmpYes X1.here hx rfl (pc0 := 16) (pc' := 23) rfl (hb hby at_16) rfl (teq hc2).1 (by decide) (by decide) ?_
      show Steps p.tables e below (T1.setTop (mkF m 23 #[.val (.int x1), .val (.int (x1 &&& (2147483647 : Int32))), .val (.int (F1 (x1 &&& (2147483647 : Int32)))), .unset, .unset, .unset] [])) _
      refine XS.iconst X1.here hx rfl (hb hby at_23) ?_
      exact k2
    · refine XS.icmpNo X1.here hx rfl (hb hby at_16) rfl (feq hc2).1 ?_
      show Steps p.tables e below (T1.setTop (mkF m 19 #[.val (.int x1), .val (.int (x1 &&& (2147483647 : Int32))), .val (.int (F1 (x1 &&& (2147483647 : Int32)))), .unset, .unset, .unset] [])) _
      refine XS.iconst X1.here hx rfl (hb hby at_19) ?_
      show Steps p.tables e below (T1.setTop (mkF m 20 #[.val (.int x1), .val (.int (x1 &&& (2147483647 : Int32))), .val (.int (F1 (x1 &&& (2147483647 : Int32)))), .unset, .unset, .unset] [(.int (1 : Int32))])) _
      refine XS.goto X1.here hx rfl (pc0 := 20) (pc' := 24) rfl (hb hby at_20) (by decide) (by decide) ?_
      exact k2
    -- meets at 24
    show Steps p.tables e below (T1.setTop (mkF m 24 #[.val (.int x1), .val (.int (x1 &&& (2147483647 : Int32))), .val (.int (F1 (x1 &&& (2147483647 : Int32)))), .unset, .unset, .unset] [(.int (if (((x1 &&& (2147483647 : Int32)) / (2 : Int32)) * (2 : Int32)) = (x1 &&& (2147483647 : Int32)) then (0 : Int32) else (1 : Int32)))])) _
    refine XS.istoreN X1.here hx rfl (hb hby at_24) rfl (l' := #[.val (.int x1), .val (.int (x1 &&& (2147483647 : Int32))), .val (.int (F1 (x1 &&& (2147483647 : Int32)))), .val (.int (if (((x1 &&& (2147483647 : Int32)) / (2 : Int32)) * (2 : Int32)) = (x1 &&& (2147483647 : Int32)) then (0 : Int32) else (1 : Int32))), .unset, .unset]) rfl ?_
    show Steps p.tables e below (T1.setTop (mkF m 25 #[.val (.int x1), .val (.int (x1 &&& (2147483647 : Int32))), .val (.int (F1 (x1 &&& (2147483647 : Int32)))), .val (.int (if (((x1 &&& (2147483647 : Int32)) / (2 : Int32)) * (2 : Int32)) = (x1 &&& (2147483647 : Int32)) then (0 : Int32) else (1 : Int32))), .unset, .unset] [])) _
    refine XS.iloadN X1.here hx rfl (hb hby at_25) rfl ?_
    show Steps p.tables e below (T1.setTop (mkF m 26 #[.val (.int x1), .val (.int (x1 &&& (2147483647 : Int32))), .val (.int (F1 (x1 &&& (2147483647 : Int32)))), .val (.int (if (((x1 &&& (2147483647 : Int32)) / (2 : Int32)) * (2 : Int32)) = (x1 &&& (2147483647 : Int32)) then (0 : Int32) else (1 : Int32))), .unset, .unset] [(.int (x1 &&& (2147483647 : Int32)))])) _
    refine st3 _ ?_
    show Steps p.tables e below (T3.setTop (mkF m 29 #[.val (.int x1), .val (.int (x1 &&& (2147483647 : Int32))), .val (.int (F1 (x1 &&& (2147483647 : Int32)))), .val (.int (if (((x1 &&& (2147483647 : Int32)) / (2 : Int32)) * (2 : Int32)) = (x1 &&& (2147483647 : Int32)) then (0 : Int32) else (1 : Int32))), .unset, .unset] [(.int (F2 (x1 &&& (2147483647 : Int32))))])) _
    refine XS.istore X3.here hx rfl (hb hby at_29) rfl (l' := #[.val (.int x1), .val (.int (x1 &&& (2147483647 : Int32))), .val (.int (F1 (x1 &&& (2147483647 : Int32)))), .val (.int (if (((x1 &&& (2147483647 : Int32)) / (2 : Int32)) * (2 : Int32)) = (x1 &&& (2147483647 : Int32)) then (0 : Int32) else (1 : Int32))), .val (.int (F2 (x1 &&& (2147483647 : Int32)))), .unset]) rfl ?_
    show Steps p.tables e below (T3.setTop (mkF m 31 #[.val (.int x1), .val (.int (x1 &&& (2147483647 : Int32))), .val (.int (F1 (x1 &&& (2147483647 : Int32)))), .val (.int (if (((x1 &&& (2147483647 : Int32)) / (2 : Int32)) * (2 : Int32)) = (x1 &&& (2147483647 : Int32)) then (0 : Int32) else (1 : Int32))), .val (.int (F2 (x1 &&& (2147483647 : Int32)))), .unset] [])) _
    refine XS.iload X3.here hx rfl (hb hby at_31) rfl ?_
    show Steps p.tables e below (T3.setTop (mkF m 33 #[.val (.int x1), .val (.int (x1 &&& (2147483647 : Int32))), .val (.int (F1 (x1 &&& (2147483647 : Int32)))), .val (.int (if (((x1 &&& (2147483647 : Int32)) / (2 : Int32)) * (2 : Int32)) = (x1 &&& (2147483647 : Int32)) then (0 : Int32) else (1 : Int32))), .val (.int (F2 (x1 &&& (2147483647 : Int32)))), .unset] [(.int (F2 (x1 &&& (2147483647 : Int32))))])) _
    refine st4 _ ?_
    show Steps p.tables e below (T4.setTop (mkF m 36 #[.val (.int x1), .val (.int (x1 &&& (2147483647 : Int32))), .val (.int (F1 (x1 &&& (2147483647 : Int32)))), .val (.int (if (((x1 &&& (2147483647 : Int32)) / (2 : Int32)) * (2 : Int32)) = (x1 &&& (2147483647 : Int32)) then (0 : Int32) else (1 : Int32))), .val (.int (F2 (x1 &&& (2147483647 : Int32)))), .unset] [(.int (F1 (F2 (x1 &&& (2147483647 : Int32)))))])) _
    refine XS.istore X4.here hx rfl (hb hby at_36) rfl (l' := #[.val (.int x1), .val (.int (x1 &&& (2147483647 : Int32))), .val (.int (F1 (x1 &&& (2147483647 : Int32)))), .val (.int (if (((x1 &&& (2147483647 : Int32)) / (2 : Int32)) * (2 : Int32)) = (x1 &&& (2147483647 : Int32)) then (0 : Int32) else (1 : Int32))), .val (.int (F2 (x1 &&& (2147483647 : Int32)))), .val (.int (F1 (F2 (x1 &&& (2147483647 : Int32)))))]) rfl ?_
    show Steps p.tables e below (T4.setTop (mkF m 38 #[.val (.int x1), .val (.int (x1 &&& (2147483647 : Int32))), .val (.int (F1 (x1 &&& (2147483647 : Int32)))), .val (.int (if (((x1 &&& (2147483647 : Int32)) / (2 : Int32)) * (2 : Int32)) = (x1 &&& (2147483647 : Int32)) then (0 : Int32) else (1 : Int32))), .val (.int (F2 (x1 &&& (2147483647 : Int32)))), .val (.int (F1 (F2 (x1 &&& (2147483647 : Int32)))))] [])) _
    refine XS.iloadN X4.here hx rfl (hb hby at_38) rfl ?_
    show Steps p.tables e below (T4.setTop (mkF m 39 #[.val (.int x1), .val (.int (x1 &&& (2147483647 : Int32))), .val (.int (F1 (x1 &&& (2147483647 : Int32)))), .val (.int (if (((x1 &&& (2147483647 : Int32)) / (2 : Int32)) * (2 : Int32)) = (x1 &&& (2147483647 : Int32)) then (0 : Int32) else (1 : Int32))), .val (.int (F2 (x1 &&& (2147483647 : Int32)))), .val (.int (F1 (F2 (x1 &&& (2147483647 : Int32)))))] [(.int (F1 (x1 &&& (2147483647 : Int32))))])) _
    refine XS.iloadN X4.here hx rfl (hb hby at_39) rfl ?_
    show Steps p.tables e below (T4.setTop (mkF m 40 #[.val (.int x1), .val (.int (x1 &&& (2147483647 : Int32))), .val (.int (F1 (x1 &&& (2147483647 : Int32)))), .val (.int (if (((x1 &&& (2147483647 : Int32)) / (2 : Int32)) * (2 : Int32)) = (x1 &&& (2147483647 : Int32)) then (0 : Int32) else (1 : Int32))), .val (.int (F2 (x1 &&& (2147483647 : Int32)))), .val (.int (F1 (F2 (x1 &&& (2147483647 : Int32)))))] [(.int (if (((x1 &&& (2147483647 : Int32)) / (2 : Int32)) * (2 : Int32)) = (x1 &&& (2147483647 : Int32)) then (0 : Int32) else (1 : Int32))), (.int (F1 (x1 &&& (2147483647 : Int32))))])) _
    refine own_dia (u := ((if (F1 (x1 &&& (2147483647 : Int32))) = (if (F2 (x1 &&& (2147483647 : Int32))) < (x1 &&& (2147483647 : Int32)) then (1 : Int32) else (0 : Int32)) then (if (F1 (F2 (x1 &&& (2147483647 : Int32)))) = (if (F1 (x1 &&& (2147483647 : Int32))) = (0 : Int32) then (1 : Int32) else (0 : Int32)) then (1 : Int32) else (0 : Int32)) else (0 : Int32)) : Int32)) (v := (0 : Int32)) ((F1 (x1 &&& (2147483647 : Int32))) = (if (((x1 &&& (2147483647 : Int32)) / (2 : Int32)) * (2 : Int32)) = (x1 &&& (2147483647 : Int32)) then (0 : Int32) else (1 : Int32))) (fun z5 => (mkF m 77 #[.val (.int x1), .val (.int (x1 &&& (2147483647 : Int32))), .val (.int (F1 (x1 &&& (2147483647 : Int32)))), .val (.int (if (((x1 &&& (2147483647 : Int32)) / (2 : Int32)) * (2 : Int32)) = (x1 &&& (2147483647 : Int32)) then (0 : Int32) else (1 : Int32))), .val (.int (F2 (x1 &&& (2147483647 : Int32)))), .val (.int (F1 (F2 (x1 &&& (2147483647 : Int32)))))] [(.int z5)])) (fun hc5 k5 => ?_) (fun hc5 k5 => ?_) ?_
    · refine XS.icmpNo X4.here hx rfl (hb hby at_40) rfl (teq hc5).2 ?_
      show Steps p.tables e below (T4.setTop (mkF m 43 #[.val (.int x1), .val (.int (x1 &&& (2147483647 : Int32))), .val (.int (F1 (x1 &&& (2147483647 : Int32)))), .val (.int (if (((x1 &&& (2147483647 : Int32)) / (2 : Int32)) * (2 : Int32)) = (x1 &&& (2147483647 : Int32)) then (0 : Int32) else (1 : Int32))), .val (.int (F2 (x1 &&& (2147483647 : Int32)))), .val (.int (F1 (F2 (x1 &&& (2147483647 : Int32)))))] [])) _
      refine XS.iloadN X4.here hx rfl (hb hby at_43) rfl ?_
      show Steps p.tables e below (T4.setTop (mkF m 44 #[.val (.int x1), .val (.int (x1 &&& (2147483647 : Int32))), .val (.int (F1 (x1 &&& (2147483647 : Int32)))), .val (.int (if (((x1 &&& (2147483647 : Int32)) / (2 : Int32)) * (2 : Int32)) = (x1 &&& (2147483647 : Int32)) then (0 : Int32) else (1 : Int32))), .val (.int (F2 (x1 &&& (2147483647 : Int32)))), .val (.int (F1 (F2 (x1 &&& (2147483647 : Int32)))))] [(.int (F1 (x1 &&& (2147483647 : Int32))))])) _
      refine XS.iload X4.here hx rfl (hb hby at_44) rfl ?_
      show Steps p.tables e below (T4.setTop (mkF m 46 #[.val (.int x1), .val (.int (x1 &&& (2147483647 : Int32))), .val (.int (F1 (x1 &&& (2147483647 : Int32)))), .val (.int (if (((x1 &&& (2147483647 : Int32)) / (2 : Int32)) * (2 : Int32)) = (x1 &&& (2147483647 : Int32)) then (0 : Int32) else (1 : Int32))), .val (.int (F2 (x1 &&& (2147483647 : Int32)))), .val (.int (F1 (F2 (x1 &&& (2147483647 : Int32)))))] [(.int (F2 (x1 &&& (2147483647 : Int32)))), (.int (F1 (x1 &&& (2147483647 : Int32))))])) _
      refine XS.iloadN X4.here hx rfl (hb hby at_46) rfl ?_
      show Steps p.tables e below (T4.setTop (mkF m 47 #[.val (.int x1), .val (.int (x1 &&& (2147483647 : Int32))), .val (.int (F1 (x1 &&& (2147483647 : Int32)))), .val (.int (if (((x1 &&& (2147483647 : Int32)) / (2 : Int32)) * (2 : Int32)) = (x1 &&& (2147483647 : Int32)) then (0 : Int32) else (1 : Int32))), .val (.int (F2 (x1 &&& (2147483647 : Int32)))), .val (.int (F1 (F2 (x1 &&& (2147483647 : Int32)))))] [(.int (x1 &&& (2147483647 : Int32))), (.int (F2 (x1 &&& (2147483647 : Int32)))), (.int (F1 (x1 &&& (2147483647 : Int32))))])) _
      refine own_dia (u := ((1 : Int32) : Int32)) (v := (0 : Int32)) ((F2 (x1 &&& (2147483647 : Int32))) < (x1 &&& (2147483647 : Int32))) (fun z6 => (mkF m 55 #[.val (.int x1), .val (.int (x1 &&& (2147483647 : Int32))), .val (.int (F1 (x1 &&& (2147483647 : Int32)))), .val (.int (if (((x1 &&& (2147483647 : Int32)) / (2 : Int32)) * (2 : Int32)) = (x1 &&& (2147483647 : Int32)) then (0 : Int32) else (1 : Int32))), .val (.int (F2 (x1 &&& (2147483647 : Int32)))), .val (.int (F1 (F2 (x1 &&& (2147483647 : Int32)))))] [(.int z6), (.int (F1 (x1 &&& (2147483647 : Int32))))])) (fun hc6 k6 => ?_) (fun hc6 k6 => ?_) ?_
      · refine XS.icmpNo X4.here hx rfl (hb hby at_47) rfl (tlt hc6).2.1 ?_
        show Steps p.tables e below (T4.setTop (mkF m 50 #[.val (.int x1), .val (.int (x1 &&& (2147483647 : Int32))), .val (.int (F1 (x1 &&& (2147483647 : Int32)))), .val (.int (if (((x1 &&& (2147483647 : Int32)) / (2 : Int32)) * (2 : Int32)) = (x1 &&& (2147483647 : Int32)) then (0 : Int32) else (1 : Int32))), .val (.int (F2 (x1 &&& (2147483647 : Int32)))), .val (.int (F1 (F2 (x1 &&& (2147483647 : Int32)))))] [(.int (F1 (x1 &&& (2147483647 : Int32))))])) _
        refine XS.iconst X4.here hx rfl (hb hby at_50) ?_
        show Steps p.tables e below (T4.setTop (mkF m 51 #[.val (.int x1), .val (.int (x1 &&& (2147483647 : Int32))), .val (.int (F1 (x1 &&& (2147483647 : Int32)))), .val (.int (if (((x1 &&& (2147483647 : Int32)) / (2 : Int32)) * (2 : Int32)) = (x1 &&& (2147483647 : Int32)) then (0 : Int32) else (1 : Int32))), .val (.int (F2 (x1 &&& (2147483647 : Int32)))), .val (.int (F1 (F2 (x1 &&& (2147483647 : Int32)))))] [(.int (1 : Int32)), (.int (F1 (x1 &&& (2147483647 : Int32))))])) _
        refine XS.goto X4.here hx rfl (pc0 := 51) (pc' := 55) rfl (hb hby at_51) (by decide) (by decide) ?_
        exact k6
      · refine XS.icmpYes X4.here hx rfl (pc0 := 47) (pc' := 54) rfl (hb hby at_47) rfl (flt hc6).2.1 (by decide) (by decide) ?_
        show Steps p.tables e below (T4.setTop (mkF m 54 #[.val (.int x1), .val (.int (x1 &&& (2147483647 : Int32))), .val (.int (F1 (x1 &&& (2147483647 : Int32)))), .val (.int (if (((x1 &&& (2147483647 : Int32)) / (2 : Int32)) * (2 : Int32)) = (x1 &&& (2147483647 : Int32)) then (0 : Int32) else (1 : Int32))), .val (.int (F2 (x1 &&& (2147483647 : Int32)))), .val (.int (F1 (F2 (x1 &&& (2147483647 : Int32)))))] [(.int (F1 (x1 &&& (2147483647 : Int32))))])) _
        refine XS.iconst X4.here hx rfl (hb hby at_54) ?_
        exact k6
      -- meets at 55
      show Steps p.tables e below (T4.setTop (mkF m 55 #[.val (.int x1), .val (.int (x1 &&& (2147483647 : Int32))), .val (.int (F1 (x1 &&& (2147483647 : Int32)))), .val (.int (if (((x1 &&& (2147483647 : Int32)) / (2 : Int32)) * (2 : Int32)) = (x1 &&& (2147483647 : Int32)) then (0 : Int32) else (1 : Int32))), .val (.int (F2 (x1 &&& (2147483647 : Int32)))), .val (.int (F1 (F2 (x1 &&& (2147483647 : Int32)))))] [(.int (if (F2 (x1 &&& (2147483647 : Int32))) < (x1 &&& (2147483647 : Int32)) then (1 : Int32) else (0 : Int32))), (.int (F1 (x1 &&& (2147483647 : Int32))))])) _
      refine own_dia (u := ((if (F1 (F2 (x1 &&& (2147483647 : Int32)))) = (if (F1 (x1 &&& (2147483647 : Int32))) = (0 : Int32) then (1 : Int32) else (0 : Int32)) then (1 : Int32) else (0 : Int32)) : Int32)) (v := (0 : Int32)) ((F1 (x1 &&& (2147483647 : Int32))) = (if (F2 (x1 &&& (2147483647 : Int32))) < (x1 &&& (2147483647 : Int32)) then (1 : Int32) else (0 : Int32))) (fun z7 => (mkF m 77 #[.val (.int x1), .val (.int (x1 &&& (2147483647 : Int32))), .val (.int (F1 (x1 &&& (2147483647 : Int32)))), .val (.int (if (((x1 &&& (2147483647 : Int32)) / (2 : Int32)) * (2 : Int32)) = (x1 &&& (2147483647 : Int32)) then (0 : Int32) else (1 : Int32))), .val (.int (F2 (x1 &&& (2147483647 : Int32)))), .val (.int (F1 (F2 (x1 &&& (2147483647 : Int32)))))] [(.int z7)])) (fun hc7 k7 => ?_) (fun hc7 k7 => ?_) ?_
      · refine XS.icmpNo X4.here hx rfl (hb hby at_55) rfl (teq hc7).2 ?_
        show Steps p.tables e below (T4.setTop (mkF m 58 #[.val (.int x1), .val (.int (x1 &&& (2147483647 : Int32))), .val (.int (F1 (x1 &&& (2147483647 : Int32)))), .val (.int (if (((x1 &&& (2147483647 : Int32)) / (2 : Int32)) * (2 : Int32)) = (x1 &&& (2147483647 : Int32)) then (0 : Int32) else (1 : Int32))), .val (.int (F2 (x1 &&& (2147483647 : Int32)))), .val (.int (F1 (F2 (x1 &&& (2147483647 : Int32)))))] [])) _
        refine XS.iload X4.here hx rfl (hb hby at_58) rfl ?_
        show Steps p.tables e below (T4.setTop (mkF m 60 #[.val (.int x1), .val (.int (x1 &&& (2147483647 : Int32))), .val (.int (F1 (x1 &&& (2147483647 : Int32)))), .val (.int (if (((x1 &&& (2147483647 : Int32)) / (2 : Int32)) * (2 : Int32)) = (x1 &&& (2147483647 : Int32)) then (0 : Int32) else (1 : Int32))), .val (.int (F2 (x1 &&& (2147483647 : Int32)))), .val (.int (F1 (F2 (x1 &&& (2147483647 : Int32)))))] [(.int (F1 (F2 (x1 &&& (2147483647 : Int32)))))])) _
        refine XS.iloadN X4.here hx rfl (hb hby at_60) rfl ?_
        show Steps p.tables e below (T4.setTop (mkF m 61 #[.val (.int x1), .val (.int (x1 &&& (2147483647 : Int32))), .val (.int (F1 (x1 &&& (2147483647 : Int32)))), .val (.int (if (((x1 &&& (2147483647 : Int32)) / (2 : Int32)) * (2 : Int32)) = (x1 &&& (2147483647 : Int32)) then (0 : Int32) else (1 : Int32))), .val (.int (F2 (x1 &&& (2147483647 : Int32)))), .val (.int (F1 (F2 (x1 &&& (2147483647 : Int32)))))] [(.int (F1 (x1 &&& (2147483647 : Int32)))), (.int (F1 (F2 (x1 &&& (2147483647 : Int32)))))])) _
        refine own_dia (u := ((1 : Int32) : Int32)) (v := (0 : Int32)) ((F1 (x1 &&& (2147483647 : Int32))) = (0 : Int32)) (fun z8 => (mkF m 69 #[.val (.int x1), .val (.int (x1 &&& (2147483647 : Int32))), .val (.int (F1 (x1 &&& (2147483647 : Int32)))), .val (.int (if (((x1 &&& (2147483647 : Int32)) / (2 : Int32)) * (2 : Int32)) = (x1 &&& (2147483647 : Int32)) then (0 : Int32) else (1 : Int32))), .val (.int (F2 (x1 &&& (2147483647 : Int32)))), .val (.int (F1 (F2 (x1 &&& (2147483647 : Int32)))))] [(.int z8), (.int (F1 (F2 (x1 &&& (2147483647 : Int32)))))])) (fun hc8 k8 => ?_) (fun hc8 k8 => ?_) ?_
        · refine XS.ifNo X4.here hx rfl (hb hby at_61) rfl ((if0 _ _).trans (teq hc8).2) ?_
          show Steps p.tables e below (T4.setTop (mkF m 64 #[.val (.int x1), .val (.int (x1 &&& (2147483647 : Int32))), .val (.int (F1 (x1 &&& (2147483647 : Int32)))), .val (.int (if (((x1 &&& (2147483647 : Int32)) / (2 : Int32)) * (2 : Int32)) = (x1 &&& (2147483647 : Int32)) then (0 : Int32) else (1 : Int32))), .val (.int (F2 (x1 &&& (2147483647 : Int32)))), .val (.int (F1 (F2 (x1 &&& (2147483647 : Int32)))))] [(.int (F1 (F2 (x1 &&& (2147483647 : Int32)))))])) _
          refine XS.iconst X4.here hx rfl (hb hby at_64) ?_
          show Steps p.tables e below (T4.setTop (mkF m 65 #[.val (.int x1), .val (.int (x1 &&& (2147483647 : Int32))), .val (.int (F1 (x1 &&& (2147483647 : Int32)))), .val (.int (if (((x1 &&& (2147483647 : Int32)) / (2 : Int32)) * (2 : Int32)) = (x1 &&& (2147483647 : Int32)) then (0 : Int32) else (1 : Int32))), .val (.int (F2 (x1 &&& (2147483647 : Int32)))), .val (.int (F1 (F2 (x1 &&& (2147483647 : Int32)))))] [(.int (1 : Int32)), (.int (F1 (F2 (x1 &&& (2147483647 : Int32)))))])) _
          refine XS.goto X4.here hx rfl (pc0 := 65) (pc' := 69) rfl (hb hby at_65) (by decide) (by decide) ?_
          exact k8
        · refine XS.ifYes X4.here hx rfl (pc0 := 61) (pc' := 68) rfl (hb hby at_61) rfl ((if0 _ _).trans (feq hc8).2) (by decide) (by decide) ?_
          show Steps p.tables e below (T4.setTop (mkF m 68 #[.val (.int x1), .val (.int (x1 &&& (2147483647 : Int32))), .val (.int (F1 (x1 &&& (2147483647 : Int32)))), .val (.int (if (((x1 &&& (2147483647 : Int32)) / (2 : Int32)) * (2 : Int32)) = (x1 &&& (2147483647 : Int32)) then (0 : Int32) else (1 : Int32))), .val (.int (F2 (x1 &&& (2147483647 : Int32)))), .val (.int (F1 (F2 (x1 &&& (2147483647 : Int32)))))] [(.int (F1 (F2 (x1 &&& (2147483647 : Int32)))))])) _
          refine XS.iconst X4.here hx rfl (hb hby at_68) ?_
          exact k8
        -- meets at 69
        show Steps p.tables e below (T4.setTop (mkF m 69 #[.val (.int x1), .val (.int (x1 &&& (2147483647 : Int32))), .val (.int (F1 (x1 &&& (2147483647 : Int32)))), .val (.int (if (((x1 &&& (2147483647 : Int32)) / (2 : Int32)) * (2 : Int32)) = (x1 &&& (2147483647 : Int32)) then (0 : Int32) else (1 : Int32))), .val (.int (F2 (x1 &&& (2147483647 : Int32)))), .val (.int (F1 (F2 (x1 &&& (2147483647 : Int32)))))] [(.int (if (F1 (x1 &&& (2147483647 : Int32))) = (0 : Int32) then (1 : Int32) else (0 : Int32))), (.int (F1 (F2 (x1 &&& (2147483647 : Int32)))))])) _
        refine own_dia (u := ((1 : Int32) : Int32)) (v := (0 : Int32)) ((F1 (F2 (x1 &&& (2147483647 : Int32)))) = (if (F1 (x1 &&& (2147483647 : Int32))) = (0 : Int32) then (1 : Int32) else (0 : Int32))) (fun z9 => (mkF m 77 #[.val (.int x1), .val (.int (x1 &&& (2147483647 : Int32))), .val (.int (F1 (x1 &&& (2147483647 : Int32)))), .val (.int (if (((x1 &&& (2147483647 : Int32)) / (2 : Int32)) * (2 : Int32)) = (x1 &&& (2147483647 : Int32)) then (0 : Int32) else (1 : Int32))), .val (.int (F2 (x1 &&& (2147483647 : Int32)))), .val (.int (F1 (F2 (x1 &&& (2147483647 : Int32)))))] [(.int z9)])) (fun hc9 k9 => ?_) (fun hc9 k9 => ?_) ?_
        · refine XS.icmpNo X4.here hx rfl (hb hby at_69) rfl (teq hc9).2 ?_
          show Steps p.tables e below (T4.setTop (mkF m 72 #[.val (.int x1), .val (.int (x1 &&& (2147483647 : Int32))), .val (.int (F1 (x1 &&& (2147483647 : Int32)))), .val (.int (if (((x1 &&& (2147483647 : Int32)) / (2 : Int32)) * (2 : Int32)) = (x1 &&& (2147483647 : Int32)) then (0 : Int32) else (1 : Int32))), .val (.int (F2 (x1 &&& (2147483647 : Int32)))), .val (.int (F1 (F2 (x1 &&& (2147483647 : Int32)))))] [])) _
          refine XS.iconst X4.here hx rfl (hb hby at_72) ?_
          show Steps p.tables e below (T4.setTop (mkF m 73 #[.val (.int x1), .val (.int (x1 &&& (2147483647 : Int32))), .val (.int (F1 (x1 &&& (2147483647 : Int32)))), .val (.int (if (((x1 &&& (2147483647 : Int32)) / (2 : Int32)) * (2 : Int32)) = (x1 &&& (2147483647 : Int32)) then (0 : Int32) else (1 : Int32))), .val (.int (F2 (x1 &&& (2147483647 : Int32)))), .val (.int (F1 (F2 (x1 &&& (2147483647 : Int32)))))] [(.int (1 : Int32))])) _
          refine XS.goto X4.here hx rfl (pc0 := 73) (pc' := 77) rfl (hb hby at_73) (by decide) (by decide) ?_
          exact k9
        · refine XS.icmpYes X4.here hx rfl (pc0 := 69) (pc' := 76) rfl (hb hby at_69) rfl (feq hc9).2 (by decide) (by decide) ?_
          show Steps p.tables e below (T4.setTop (mkF m 76 #[.val (.int x1), .val (.int (x1 &&& (2147483647 : Int32))), .val (.int (F1 (x1 &&& (2147483647 : Int32)))), .val (.int (if (((x1 &&& (2147483647 : Int32)) / (2 : Int32)) * (2 : Int32)) = (x1 &&& (2147483647 : Int32)) then (0 : Int32) else (1 : Int32))), .val (.int (F2 (x1 &&& (2147483647 : Int32)))), .val (.int (F1 (F2 (x1 &&& (2147483647 : Int32)))))] [])) _
          refine XS.iconst X4.here hx rfl (hb hby at_76) ?_
          exact k9
        -- meets at 77
        exact k7
      · refine XS.icmpYes X4.here hx rfl (pc0 := 55) (pc' := 76) rfl (hb hby at_55) rfl (feq hc7).2 (by decide) (by decide) ?_
        show Steps p.tables e below (T4.setTop (mkF m 76 #[.val (.int x1), .val (.int (x1 &&& (2147483647 : Int32))), .val (.int (F1 (x1 &&& (2147483647 : Int32)))), .val (.int (if (((x1 &&& (2147483647 : Int32)) / (2 : Int32)) * (2 : Int32)) = (x1 &&& (2147483647 : Int32)) then (0 : Int32) else (1 : Int32))), .val (.int (F2 (x1 &&& (2147483647 : Int32)))), .val (.int (F1 (F2 (x1 &&& (2147483647 : Int32)))))] [])) _
        refine XS.iconst X4.here hx rfl (hb hby at_76) ?_
        exact k7
      -- meets at 77
      exact k5
    · refine XS.icmpYes X4.here hx rfl (pc0 := 40) (pc' := 76) rfl (hb hby at_40) rfl (feq hc5).2 (by decide) (by decide) ?_
      show Steps p.tables e below (T4.setTop (mkF m 76 #[.val (.int x1), .val (.int (x1 &&& (2147483647 : Int32))), .val (.int (F1 (x1 &&& (2147483647 : Int32)))), .val (.int (if (((x1 &&& (2147483647 : Int32)) / (2 : Int32)) * (2 : Int32)) = (x1 &&& (2147483647 : Int32)) then (0 : Int32) else (1 : Int32))), .val (.int (F2 (x1 &&& (2147483647 : Int32)))), .val (.int (F1 (F2 (x1 &&& (2147483647 : Int32)))))] [])) _
      refine XS.iconst X4.here hx rfl (hb hby at_76) ?_
      exact k5
    -- meets at 77
    show Steps p.tables e below (T4.setTop (mkF m 77 #[.val (.int x1), .val (.int (x1 &&& (2147483647 : Int32))), .val (.int (F1 (x1 &&& (2147483647 : Int32)))), .val (.int (if (((x1 &&& (2147483647 : Int32)) / (2 : Int32)) * (2 : Int32)) = (x1 &&& (2147483647 : Int32)) then (0 : Int32) else (1 : Int32))), .val (.int (F2 (x1 &&& (2147483647 : Int32)))), .val (.int (F1 (F2 (x1 &&& (2147483647 : Int32)))))] [(.int (if (F1 (x1 &&& (2147483647 : Int32))) = (if (((x1 &&& (2147483647 : Int32)) / (2 : Int32)) * (2 : Int32)) = (x1 &&& (2147483647 : Int32)) then (0 : Int32) else (1 : Int32)) then (if (F1 (x1 &&& (2147483647 : Int32))) = (if (F2 (x1 &&& (2147483647 : Int32))) < (x1 &&& (2147483647 : Int32)) then (1 : Int32) else (0 : Int32)) then (if (F1 (F2 (x1 &&& (2147483647 : Int32)))) = (if (F1 (x1 &&& (2147483647 : Int32))) = (0 : Int32) then (1 : Int32) else (0 : Int32)) then (1 : Int32) else (0 : Int32)) else (0 : Int32)) else (0 : Int32)))])) _
    exact retN X4 hx (t := .boolean) Bd.returns (by simp) (hb hby at_77) (by rw [own_nb (own_b01 (own_b01 (own_b01 (Or.inr rfl) (Or.inl rfl)) (Or.inl rfl)) (Or.inl rfl))]; exact hr)
  · show Q0 Z x1 h0 n0 _ T4.heap _
    rw [e4]
    exact ⟨rfl, N4⟩

theorem own_nat {v : Int32} (h : 0 ≤ v.toInt) : v.toInt = (v.toBitVec.toNat : Int) := by
  have hb := v.toBitVec.isLt
  have e : v.toInt = v.toBitVec.toInt := rfl
  rw [e, BitVec.toInt_eq_toNat_cond] at h ⊢
  by_cases hc : 2 * v.toBitVec.toNat < 2 ^ 32
  · rw [if_pos hc]
  · rw [if_neg hc] at h; omega
theorem own_ofnat {v : Int32} {n : Nat} (h : v.toBitVec.toNat = n) (hn : n < 2 ^ 31) : v.toInt = (n : Int) := by
  have e : v.toInt = v.toBitVec.toInt := rfl
  rw [e, BitVec.toInt_eq_toNat_cond, h, if_pos (by omega)]

theorem own_xm (n : Nat) : (n ^^^ 1) % 2 = (n + 1) % 2 := by
  have h : (n ^^^ 1) % 2 ^ 1 = n % 2 ^ 1 ^^^ 1 % 2 ^ 1 := Nat.xor_mod_two_pow
  have h2 : (n ^^^ 1) % 2 = (n % 2) ^^^ 1 := h
  rcases Nat.mod_two_eq_zero_or_one n with q | q
  · rw [h2, q]; show 1 = _; omega
  · rw [h2, q]; show 0 = _; omega
theorem own_xor1 {v : Int32} (h0 : 0 ≤ v.toInt) : (v ^^^ (1 : Int32)).toInt = v.toInt + 1 - 2 * (v.toInt % 2) := by
  have e := own_nat h0
  have hl := v.toInt_lt
  have e1 : (v ^^^ (1 : Int32)).toBitVec.toNat = v.toBitVec.toNat ^^^ 1 := by
    show (v.toBitVec ^^^ 1#32).toNat = _
    rw [BitVec.toNat_xor]; rfl
  have e2 : (v.toBitVec.toNat ^^^ 1) / 2 = v.toBitVec.toNat / 2 := by
    rw [Nat.xor_div_two]; simp
  have e3 : (v.toBitVec.toNat ^^^ 1) % 2 = (v.toBitVec.toNat + 1) % 2 := own_xm _
  rw [own_ofnat rfl (by rw [e1]; omega), e1]; omega
theorem own_and1 (v : Int32) : (v &&& (1 : Int32)).toInt = v.toInt % 2 := Jvm.Kit.i32_mask v 1 (k := 1) (by decide) (by decide)
theorem own_core {v : Int32} (h0 : 0 ≤ v.toInt) : F1 v = (if ((v / (2 : Int32)) * (2 : Int32)) = v then (0 : Int32) else (1 : Int32)) ∧ F1 v = (if F2 v < v then (1 : Int32) else (0 : Int32)) ∧ F1 (F2 v) = (if F1 v = (0 : Int32) then (1 : Int32) else (0 : Int32)) := by
  have hl := v.toInt_lt
  have e1 := own_and1 v
  have e2 := own_xor1 h0
  have e3 := own_and1 (v ^^^ (1 : Int32))
  have l1 : (1 : Int32).toInt = 1 := rfl
  have l2 : (2 : Int32).toInt = 2 := rfl
  have l0 : (0 : Int32).toInt = 0 := rfl
  have e4 : (v / (2 : Int32)).toInt = v.toInt / 2 := by
    rw [Jvm.Kit.i32_div (by omega), Int.tdiv_eq_ediv_of_nonneg h0, l2]
  have e5 : ((v / (2 : Int32)) * (2 : Int32)).toInt = (v / (2 : Int32)).toInt * (2 : Int32).toInt := Jvm.Kit.i32_mul (by rw [l2]; omega) (by rw [l2]; omega)
  rw [e4, l2] at e5
  rw [e2] at e3
  unfold F1 F2
  refine ⟨?_, ?_, ?_⟩
  · simp only [← Int32.toInt_inj, e1, e5, l1]
    (repeat' split) <;> first | rfl | (exfalso; omega)
  · simp only [← Int32.toInt_inj, Int32.lt_iff_toInt_lt, e1, e2, l1]
    (repeat' split) <;> first | rfl | (exfalso; omega)
  · by_cases q : (v &&& (1 : Int32)) = 1
    · rw [if_pos q, if_neg, if_neg (by decide)]
      rw [← Int32.toInt_inj, l1] at q ⊢; omega
    · rw [if_neg q, if_pos, if_pos rfl]
      rw [← Int32.toInt_inj, l1] at q ⊢; omega
theorem own_plain (x1 : Int32) : F0 x1 = 1 := by
  have e1 : (x1 &&& (2147483647 : Int32)).toInt = x1.toInt % 2 ^ 31 := Jvm.Kit.i32_mask x1 2147483647 (by decide) (by decide)
  obtain ⟨a, b, c⟩ := own_core (v := (x1 &&& (2147483647 : Int32))) (by omega)
  unfold F0
  rw [if_pos a, if_pos b, if_pos c]

set_option maxRecDepth 65536 in
set_option maxHeartbeats 40000000 in
theorem comes_1 {Post : Tables → Env → Array Value → State → Outcome → State → Prop} (hpost : ∀ tb e args s v u, (limb_1_1.after args s (.returned v) u = true ∧ limb_1_2.after args s (.returned v) u = true ∧ True) → FrameEnd s (.returned v) u (Jvm.fieldLocs frame_1_writes args s ++ Jvm.arrayLocs frame_1_arrays args s ++ Jvm.staticLocs frame_1_statics s) 0 0 → Post tb e args s (.returned v) u) :
    ArmFor flags0 classFile x code maxLocals ret World_1 tables_1 room_1 Calls_1 rest_1 Pre_1 Post := by
  intro l hfl _ _ p e ha hc hk s m args below hf hA hF happ hP
  obtain ⟨hcalls, hrest, hpre⟩ := hP
  obtain ⟨-, -, -, hnamed, -, -, -, hat⟩ := (Spec.applies_iff hf).mp happ
  obtain ⟨hg, hn⟩ := and_e (Cond.before_iff.mp (show (Jvm.Cond.and given_1 narrow_1).before args s = true from hpre))
  obtain ⟨hcount, t0⟩ := and_e hg
  have k0 := t0
  obtain ⟨w0, rfl⟩ : ∃ w0 : Value, args = #[w0] := by
    have hs : args.size = 1 := by simpa [Cond.value, given_1] using hcount
    obtain ⟨L⟩ := args
    match L, hs with
    | [w0], _ => exact ⟨w0, rfl⟩
  have hw := fun d (hd : d ∈ tables_1) => atoms_spec (ws := Jvm.Cond.code x code maxLocals ret :: tables_1) hat d (List.mem_cons_of_mem _ hd)
  obtain ⟨i0, ei0⟩ := is_v k0
  obtain rfl : w0 = (.int i0) := Option.some.inj ei0
  obtain ⟨n, o, h1, h2, h3, _, L, rfl, ⟨hv, N⟩, hq⟩ := rm0 l s _ hw tables_1 i0 s.heap s.heap.size (Nat.le_refl _) p e ha hc hk s m _ below hf ((Spec.applies_iff_loose hf).mp happ).1 ⟨rfl, State.Warmed39.refl s, rfl⟩ trivial
  rw [own_plain i0] at hv
  subst hv
  refine ⟨n, _, h1, h2, h3, hpost _ _ _ _ _ _ ⟨Cond.after_iff.mpr rfl, Cond.after_iff.mpr (eq_i res_at (Term.int_eval (1)) rfl), trivial⟩ ⟨hq.1, hq.2.1, (hq.2.2.sift fun y hy => Or.inr (N y hy)).mono (by decide) (by decide)⟩⟩
theorem main_1_1 : Claimed_1_1 := comes_1 fun _ _ _ _ _ _ h hF => ⟨h.1, hF⟩
theorem main_1_2 : Claimed_1_2 := comes_1 fun _ _ _ _ _ _ h hF => ⟨h.2.1, hF⟩
end Jvm.Pilot.@@N@@
namespace Jvm.Pilot.@@N@@
open Jvm Jvm.ClassFile Sem Op Lib Jvm.Free Jvm.Stand Jvm.Pilot.@@N@@.Jvm.D
/-! MADE BY PROGRAM (witnessworld.py) out of the Statement's table words and the real class files: 9 classes; the members and pool entries that the words name. The judged class is class 1, her method 1. -/
namespace start1
open Jvm.ClassFile
def u (s : String) : CpInfo := .utf8 (stringToUtf16 s)
/-- a pool by its gaps: so many unusable entries, then the entry; so many at the end -/
def gap : Nat → List CpInfo → List CpInfo
  | 0, r => r
  | n + 1, r => .unusable :: gap n r
def poolList (es : List (Nat × CpInfo)) (last : Nat) : List CpInfo := es.foldr (fun e r => gap e.1 (e.2 :: r)) (gap last [])
def pool (es : List (Nat × CpInfo)) (last : Nat) : Array CpInfo := ⟨poolList es last⟩
def fileOf (pool : Array CpInfo) (this : Nat) (attrs : Array Attribute := #[]) (ms : Array MethodInfo := #[]) (fl : Nat := 33) (sup : Nat := 0) (ifs : Array Nat := #[]) (fds : Array FieldInfo := #[]) : ClassFile where
  minorVersion := 0
  majorVersion := 65
  constantPool := pool
  accessFlags := fl
  thisClass := this
  superClass := sup
  interfaces := ifs
  fields := fds
  methods := ms
  attributes := attrs
def plain (name : String) (sup : Option ClassId) : Class where
  name := name
  kind := .ordinary
  loader := none
  accessFlags := 33
  super := sup
  interfaces := #[]
  cf := none
  fields := #[]
  methods := #[]
  instanceTypes := #[]
  staticTypes := #[]
  resolved := #[]
  callSites := []
  init := .initialized
  statics := none
  mirror := none

def pool0 : Array CpInfo := pool [(5, u "<init>"), (0, u "()V"), (1, .class_ 10), (1, u "java/lang/Object")] 113

def k0m0 : Method := { name := "<init>", desc := "()V", sig := { parameters := [], returnType := none }, accessFlags := 1, code := none }
/-- java/lang/Object -/
def k0 : Class := { plain "java/lang/Object" none with
  accessFlags := 33
  interfaces := #[]
  cf := some (fileOf pool0 8 #[] #[{ accessFlags := 1, nameIndex := 5, descriptorIndex := 6, attributes := #[] }] 33 0 #[] #[])
  fields := #[]
  methods := #[k0m0]
  instanceTypes := #[]
  staticTypes := #[]
  resolved := Array.replicate 124 none
  statics := none }

def pool1 : Array CpInfo := pool [(2, .class_ 4), (1, u "java/lang/Object"), (0, u "<init>"), (0, u "()V"), (0, .integer 2147483647), (0, .methodref 9 10), (0, .class_ 11), (0, .nameAndType 12 13), (0, u "com/example/concept_reasoner/conceptreasoner/tableau/ConceptFactory"), (0, u "isInverse"), (0, u "(I)Z"), (0, .methodref 9 15), (0, .nameAndType 16 17), (0, u "inverse"), (0, u "(I)I"), (0, .class_ 19), (0, u "com/example/concept_reasoner/conceptreasoner/tableau/ConceptFactoryIsInversePinLaw"), (2, u "law")] 3

def k1m0 : Method := { name := "<init>", desc := "()V", sig := { parameters := [], returnType := none }, accessFlags := 1, code := none }
def k1c1 : Code := { maxStack := 3, maxLocals := 6, code := code, exceptionTable := #[], attributes := #[] }
def k1m1 : Method := { name := "law", desc := "(I)Z", sig := { parameters := [.int], returnType := some .boolean }, accessFlags := 9, code := some k1c1 }
/-- com/example/concept_reasoner/conceptreasoner/tableau/ConceptFactoryIsInversePinLaw -/
def k1 : Class := { plain "com/example/concept_reasoner/conceptreasoner/tableau/ConceptFactoryIsInversePinLaw" (some 0) with
  accessFlags := 49
  interfaces := #[]
  cf := some (fileOf pool1 18 #[] #[{ accessFlags := 1, nameIndex := 5, descriptorIndex := 6, attributes := #[] }, { accessFlags := 9, nameIndex := 22, descriptorIndex := 13, attributes := #[] }] 49 2 #[] #[])
  fields := #[]
  methods := #[k1m0, k1m1]
  instanceTypes := #[]
  staticTypes := #[]
  resolved := Array.replicate 26 none
  statics := none }

def pool2 : Array CpInfo := pool [(2, .class_ 4), (1, u "java/lang/Object"), (0, u "<init>"), (0, u "()V"), (4, .class_ 13), (1, u "com/example/concept_reasoner/conceptreasoner/tableau/ConceptFactory"), (0, u "concepts"), (0, u "Ljava/util/Map;"), (18, u "top"), (0, u "Lcom/example/concept_reasoner/conceptreasoner/tableau/Concept;"), (17, u "names"), (0, u "I"), (63, .methodref 11 119), (0, .nameAndType 120 121), (0, u "checkRole"), (0, u "(I)V"), (53, u "BY_ID"), (0, u "Ljava/util/Comparator;"), (4, .class_ 182), (0, u "com/example/concept_reasoner/conceptreasoner/tableau/ConceptFactory$Key"), (17, u "nextId"), (42, u "inverse"), (0, u "(I)I"), (0, u "isInverse"), (0, u "(I)Z")] 42

def k2m0 : Method := { name := "<init>", desc := "()V", sig := { parameters := [], returnType := none }, accessFlags := 1, code := none }
def k2c1 : Code := { maxStack := 2, maxLocals := 1, code := prog_11_method_13_code, exceptionTable := #[], attributes := #[] }
def k2m1 : Method := { name := "inverse", desc := "(I)I", sig := { parameters := [.int], returnType := some .int }, accessFlags := 9, code := some k2c1 }
def k2c2 : Code := { maxStack := 2, maxLocals := 1, code := prog_11_method_14_code, exceptionTable := #[], attributes := #[] }
def k2m2 : Method := { name := "isInverse", desc := "(I)Z", sig := { parameters := [.int], returnType := some .boolean }, accessFlags := 8, code := some k2c2 }
def k2c3 : Code := { maxStack := 3, maxLocals := 1, code := prog_11_method_15_code, exceptionTable := #[], attributes := #[] }
def k2m3 : Method := { name := "checkRole", desc := "(I)V", sig := { parameters := [.int], returnType := none }, accessFlags := 8, code := some k2c3 }
/-- com/example/concept_reasoner/conceptreasoner/tableau/ConceptFactory -/
def k2 : Class := { plain "com/example/concept_reasoner/conceptreasoner/tableau/ConceptFactory" (some 0) with
  accessFlags := 49
  interfaces := #[]
  cf := some (fileOf pool2 11 #[.nestMembers #[181]] #[{ accessFlags := 1, nameIndex := 5, descriptorIndex := 6, attributes := #[] }, { accessFlags := 9, nameIndex := 243, descriptorIndex := 244, attributes := #[] }, { accessFlags := 8, nameIndex := 245, descriptorIndex := 246, attributes := #[] }, { accessFlags := 8, nameIndex := 120, descriptorIndex := 121, attributes := #[] }] 49 2 #[] #[{ accessFlags := 26, nameIndex := 175, descriptorIndex := 176, attributes := #[] }, { accessFlags := 18, nameIndex := 14, descriptorIndex := 15, attributes := #[] }, { accessFlags := 18, nameIndex := 34, descriptorIndex := 35, attributes := #[] }, { accessFlags := 2, nameIndex := 200, descriptorIndex := 54, attributes := #[] }, { accessFlags := 2, nameIndex := 53, descriptorIndex := 54, attributes := #[] }])
  fields := #[{ name := "BY_ID", type := (.object "java/util/Comparator"), accessFlags := 26, slot := 0, constantValue := 0 }, { name := "concepts", type := (.object "java/util/Map"), accessFlags := 18, slot := 0, constantValue := 0 }, { name := "top", type := (.object "com/example/concept_reasoner/conceptreasoner/tableau/Concept"), accessFlags := 18, slot := 1, constantValue := 0 }, { name := "nextId", type := .int, accessFlags := 2, slot := 2, constantValue := 0 }, { name := "names", type := .int, accessFlags := 2, slot := 3, constantValue := 0 }]
  methods := #[k2m0, k2m1, k2m2, k2m3]
  instanceTypes := #[(.object "java/util/Map"), (.object "com/example/concept_reasoner/conceptreasoner/tableau/Concept"), .int, .int]
  staticTypes := #[(.object "java/util/Comparator")]
  resolved := Array.replicate 289 none
  statics := none }

def pool3 : Array CpInfo := pool [(1, u "java/lang/Cloneable"), (0, .class_ 1), (0, u "java/lang/Object"), (0, .class_ 3)] 3

/-- java/lang/Cloneable -/
def k3 : Class := { plain "java/lang/Cloneable" (some 0) with
  accessFlags := 1537
  interfaces := #[]
  cf := some (fileOf pool3 2 #[] #[] 1537 4 #[] #[])
  fields := #[]
  methods := #[]
  instanceTypes := #[]
  staticTypes := #[]
  resolved := Array.replicate 8 none
  statics := none }

def pool4 : Array CpInfo := pool [(1, u "java/io/Serializable"), (0, .class_ 1), (0, u "java/lang/Object"), (0, .class_ 3)] 3

/-- java/io/Serializable -/
def k4 : Class := { plain "java/io/Serializable" (some 0) with
  accessFlags := 1537
  interfaces := #[]
  cf := some (fileOf pool4 2 #[] #[] 1537 4 #[] #[])
  fields := #[]
  methods := #[]
  instanceTypes := #[]
  staticTypes := #[]
  resolved := Array.replicate 8 none
  statics := none }

/-- the primitive byte -/
def k5 : Class := { plain "byte" none with kind := .primitive 'B', accessFlags := 0x411 }
/-- [B -/
def k6 : Class := { plain "[B" (some 0) with kind := .array 5 .byte, interfaces := #[3, 4], accessFlags := 1041 }

/-- the primitive int -/
def k7 : Class := { plain "int" none with kind := .primitive 'I', accessFlags := 0x411 }
/-- [I -/
def k8 : Class := { plain "[I" (some 0) with kind := .array 7 .int, interfaces := #[3, 4], accessFlags := 1041 }

def heap : Heap := #[]
def classes : Array Class := #[k0, k1, k2, k3, k4, k5, k6, k7, k8]
def interned : List (Array UInt16 × Addr) := []
def slotsUsed : Nat := 0
def theMethod : MethodId := ⟨1, 1⟩
def args0 : Array Value := #[.int 5]
def aboutOver (below : List Frame) : State where
  vm := { classes := classes, interned := interned.toArray }
  heap := heap
  slotsUsed := slotsUsed
  threads := #[{ frames := .invoking theMethod args0 :: below }]
def below0 : List Frame := [.native { method := ⟨0, 0⟩, args := #[] }]
def about1 : State := aboutOver below0
def p0 : Program := .bare "" "" ""
def e0 : Env := launch0.env 0 0 0
theorem w_frames : about1.frames = Frame.invoking theMethod args0 :: below0 := rfl
set_option maxRecDepth 65536 in
theorem w_args : argsFit about1.vm theMethod args0 = true := by decide +kernel
set_option maxRecDepth 65536 in
theorem w_heap : heapFits about1 = true := by decide +kernel
set_option maxRecDepth 65536 in
theorem w_runnable : about1.curStatus? = some .runnable := by decide +kernel
set_option maxRecDepth 65536 in
theorem w_alone : about1.alone = true := by decide +kernel
set_option maxRecDepth 65536 in
theorem w_named : about1.methodNamed? x = some theMethod := by decide +kernel
set_option maxRecDepth 65536 in
theorem w_hears : about1.hears theMethod below0 = true := by decide +kernel
set_option maxRecDepth 65536 in
theorem w_ripe : about1.ripe theMethod args0 below0 = true := by decide +kernel
theorem w_running : about1.status = .running := rfl
set_option maxRecDepth 65536 in
theorem w_room : about1.hasRoom e0.platform room_1 = true :=
  launch0.hasRoom_least _ room_1 (by decide +kernel) (by decide +kernel) (by decide +kernel) (by decide +kernel) (by decide +kernel) (by decide +kernel)
theorem allAtoms_all (ts : List Jvm.Cond) (a : Array Jvm.Value) (st : Jvm.State) : (allAtoms ts).before a st = ts.all (fun c => c.before a st) := by
  induction ts with
  | nil => rfl
  | cons c t ih =>
    show (Jvm.Cond.and c (allAtoms t)).before a st = _
    rw [Jvm.Cond.before_and, ih, List.all_cons]
def words1 : List Jvm.Cond := Jvm.Cond.code x code maxLocals ret :: tables_1
/-- a 'code' word, met by the world's own term for the bytes: nothing is compared byte by byte -/
theorem code_word {y : MethodName} {bytes : ByteArray} {mx : Nat} {rt : Option FieldType} {a : Array Value} {s : State} {m : MethodId} {meth : Method} {c : Code} (h1 : s.methodNamed? y = some m) (h2 : s.vm.method? m = some meth) (h3 : meth.code = some c) (h4 : c.code = bytes)
    (h5 : (c.maxLocals == mx && c.exceptionTable.isEmpty && decide (c.maxStack ≤ mostOperands) && decide (meth.sig.returnType = rt) && !meth.locks && decide (parseMethodDescriptor y.desc = some meth.sig)) = true) : (Jvm.Cond.code y bytes mx rt).before a s = true := by
  simp only [Bool.and_eq_true, beq_iff_eq, Bool.not_eq_true', decide_eq_true_eq] at h5
  obtain ⟨⟨⟨⟨⟨g1, g2⟩, g3⟩, g4⟩, g5⟩, g6⟩ := h5
  simp [Cond.before, Cond.holds, Cond.value, h1, h2, h3, h4, g1, g2, g3, g4, g5, g6]
def isCode : Jvm.Cond → Bool
  | .code _ _ _ _ => true
  | _ => false
theorem all_split {L : List Jvm.Cond} {P : Jvm.Cond → Bool} (h1 : L.all (fun c => isCode c || P c) = true) (h2 : ∀ c ∈ L.filter isCode, P c = true) : L.all P = true := by
  refine List.all_eq_true.mpr fun c hc => ?_
  have h := List.all_eq_true.mp h1 c hc
  rcases Bool.eq_false_or_eq_true (isCode c) with hi | hi
  · exact h2 c (List.mem_filter.mpr ⟨hc, hi⟩)
  · simpa [hi] using h
set_option maxRecDepth 65536 in
theorem w_c0 : (Jvm.Cond.code x code maxLocals ret).before args0 about1 = true := code_word (m := ⟨1, 1⟩) (meth := k1m1) (c := k1c1) (by decide +kernel) rfl rfl rfl (by decide +kernel)
set_option maxRecDepth 65536 in
theorem w_c1 : (Jvm.Cond.code ({ cls := "com/example/concept_reasoner/conceptreasoner/tableau/ConceptFactory", name := "isInverse", desc := "(I)Z" } : Jvm.MethodName) prog_11_method_14_code (1 : Nat) (Option.some Jvm.ClassFile.FieldType.boolean)).before args0 about1 = true := code_word (m := ⟨2, 2⟩) (meth := k2m2) (c := k2c2) (by decide +kernel) rfl rfl rfl (by decide +kernel)
set_option maxRecDepth 65536 in
theorem w_c2 : (Jvm.Cond.code ({ cls := "com/example/concept_reasoner/conceptreasoner/tableau/ConceptFactory", name := "inverse", desc := "(I)I" } : Jvm.MethodName) prog_11_method_13_code (1 : Nat) (Option.some Jvm.ClassFile.FieldType.int)).before args0 about1 = true := code_word (m := ⟨2, 1⟩) (meth := k2m1) (c := k2c1) (by decide +kernel) rfl rfl rfl (by decide +kernel)
set_option maxRecDepth 65536 in
theorem w_c3 : (Jvm.Cond.code ({ cls := "com/example/concept_reasoner/conceptreasoner/tableau/ConceptFactory", name := "checkRole", desc := "(I)V" } : Jvm.MethodName) prog_11_method_15_code (1 : Nat) (Option.none : Option Jvm.ClassFile.FieldType)).before args0 about1 = true := code_word (m := ⟨2, 3⟩) (meth := k2m3) (c := k2c3) (by decide +kernel) rfl rfl rfl (by decide +kernel)
def codes1 : List Jvm.Cond := [Jvm.Cond.code x code maxLocals ret, Jvm.Cond.code ({ cls := "com/example/concept_reasoner/conceptreasoner/tableau/ConceptFactory", name := "isInverse", desc := "(I)Z" } : Jvm.MethodName) prog_11_method_14_code (1 : Nat) (Option.some Jvm.ClassFile.FieldType.boolean), Jvm.Cond.code ({ cls := "com/example/concept_reasoner/conceptreasoner/tableau/ConceptFactory", name := "inverse", desc := "(I)I" } : Jvm.MethodName) prog_11_method_13_code (1 : Nat) (Option.some Jvm.ClassFile.FieldType.int), Jvm.Cond.code ({ cls := "com/example/concept_reasoner/conceptreasoner/tableau/ConceptFactory", name := "checkRole", desc := "(I)V" } : Jvm.MethodName) prog_11_method_15_code (1 : Nat) (Option.none : Option Jvm.ClassFile.FieldType)]
set_option maxRecDepth 65536 in
theorem codes_eq : words1.filter isCode = codes1 := rfl
theorem w_codes : ∀ c ∈ words1.filter isCode, c.before args0 about1 = true := by
  rw [codes_eq]
  intro c hc
  simp only [codes1, List.mem_cons, List.not_mem_nil, or_false] at hc
  rcases hc with rfl | rfl | rfl | rfl
  · exact w_c0
  · exact w_c1
  · exact w_c2
  · exact w_c3
set_option maxRecDepth 65536 in
theorem w_t1 : words1.all (fun c => isCode c || c.before args0 about1) = true := by decide +kernel
theorem w_tables : (allAtoms (Jvm.Cond.code x code maxLocals ret :: tables_1)).before args0 about1 = true := by
  rw [allAtoms_all]
  show words1.all (fun c => c.before args0 about1) = true
  refine all_split ?_ w_codes
  rw [w_t1]
set_option maxRecDepth 65536 in
theorem w_case : (Jvm.Cond.and given_1 narrow_1).before args0 about1 = true := by decide +kernel
theorem w_applies : (headSpec (Jvm.Cond.code x code maxLocals ret :: tables_1) room_1).applies x e0.platform about1 = true :=
  (Spec.applies_iff w_frames).mpr ⟨w_running, w_runnable, w_alone, w_named, w_hears, w_ripe, w_room, w_tables⟩
theorem atStart : AtStart classFile x code maxLocals ret World_1 tables_1 room_1 Calls_1 rest_1 Pre_1 launch0 p0 e0 about1 theMethod args0 below0 :=
  ⟨lists_1, trivial, launch0.admits_env _ _ _, launch0.least_env, fairChoices_fair.cas, fairChoices_fair.clock, w_frames, w_args, w_heap, w_applies, trivial, trivial, w_case⟩
end start1
theorem witness_1 : WitnessClaimed_1 := ⟨start1.p0, start1.e0, start1.about1, start1.theMethod, start1.args0, start1.below0, start1.atStart⟩
end Jvm.Pilot.@@N@@
