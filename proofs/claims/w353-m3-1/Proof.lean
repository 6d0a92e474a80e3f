import JvmDerived
import JvmDerived.Pilot.@@N@@Statement
import JvmDerived.Pilot.@@N@@Code
set_option linter.unusedVariables false
set_option linter.unusedSimpArgs false
@@BLOCK:NumsL.lean.txt@@
namespace Jvm.RoadKit
open Sem ClassFile Op Lib Jvm.Stand Jvm.Free Jvm.LawKit
section New
variable {p : Program} {l : Launch} {e : Env} {R : Room} {s : State} {m : MethodId} {args : Array Value} {below : List Frame} {meth : Method} {c : Code} {T : State} {locs : List Loc} {cells slots : Nat}
theorem retI (X : Stand p l e R s m args below meth c T locs cells slots) (hx : p.tables.exec = Jvm.exec) {pc : Nat} {Ls : Array Slot} {z : Int32} {rest : List Value} (hret : meth.sig.returnType = some .int) (hd : decode c.code pc = .ok (.ireturn, 1)) {fs : List Frame}
    (hl : ∀ (f : JFrame) (acts : List Action), f.method = m → f.locked = none → f.entered = [] → (doReturn e (T.setTop f) acts (some (.int z))).1 = T.setFrames fs) : Steps p.tables e below (T.setTop (mkF m pc Ls (.int z :: rest))) (T.setFrames fs) := by
  have hm' : T.vm.method? m = some meth := X.method'
  have hn : narrow .int (.int z) = .int z := rfl
  show Steps p.tables e below (T.setTop { method := m, pc := pc, locals := Ls, stack := _ :: rest, locked := none }) _
  jvm_step X.here [X.here.top, hx, hd, hm', hret, hn]
  first | (intro acts; rw [hl _ acts rfl rfl rfl]) | rw [hl _ _ rfl rfl rfl]
  exact Steps.refl _
end New
theorem own_dia {tb : Tables} {e : Env} {below : List Frame} {T tgt : State} {g : JFrame} {A : Type} {u v : A} (q : Prop) [Decidable q] (f : A → JFrame)
    (h1 : q → Steps tb e below (T.setTop (f u)) tgt → Steps tb e below (T.setTop g) tgt) (h0 : ¬ q → Steps tb e below (T.setTop (f v)) tgt → Steps tb e below (T.setTop g) tgt)
    (k : Steps tb e below (T.setTop (f (if q then u else v))) tgt) : Steps tb e below (T.setTop g) tgt := by
  by_cases hq : q
  · rw [if_pos hq] at k; exact h1 hq k
  · rw [if_neg hq] at k; exact h0 hq k
theorem own_cast {tb : Tables} {e : Env} {below : List Frame} {T tgt : State} {A : Type} {u v : A} (f : A → JFrame) (h : u = v) (k : Steps tb e below (T.setTop (f v)) tgt) : Steps tb e below (T.setTop (f u)) tgt := h ▸ k
theorem own_llt {x y : Int64} (h : x < y) : ifCond.holds .lt (lcmpW x y) = true ∧ ifCond.holds .ge (lcmpW x y) = false := by
  rw [if0, if0]; exact ⟨(tlt ((lw_lt x y).mpr h)).1, (tlt ((lw_lt x y).mpr h)).2.1⟩
theorem own_lge {x y : Int64} (h : ¬ x < y) : ifCond.holds .lt (lcmpW x y) = false ∧ ifCond.holds .ge (lcmpW x y) = true := by
  rw [if0, if0]; exact ⟨(flt fun q => h ((lw_lt x y).mp q)).1, (flt fun q => h ((lw_lt x y).mp q)).2.1⟩
theorem own_lgt {x y : Int64} (h : y < x) : ifCond.holds .gt (lcmpW x y) = true ∧ ifCond.holds .le (lcmpW x y) = false := by
  rw [if0, if0]; exact ⟨(tlt ((lw_gt x y).mpr h)).2.2.1, (tlt ((lw_gt x y).mpr h)).2.2.2⟩
theorem own_lle {x y : Int64} (h : ¬ y < x) : ifCond.holds .gt (lcmpW x y) = false ∧ ifCond.holds .le (lcmpW x y) = true := by
  rw [if0, if0]; exact ⟨(flt fun q => h ((lw_gt x y).mp q)).2.2.1, (flt fun q => h ((lw_gt x y).mp q)).2.2.2⟩
theorem own_leq {x y : Int64} (h : x = y) : ifCond.holds .eq (lcmpW x y) = true ∧ ifCond.holds .ne (lcmpW x y) = false := by
  rw [if0, if0]; exact ⟨(teq ((lw_eq x y).mpr h)).1, (teq ((lw_eq x y).mpr h)).2⟩
theorem own_lne {x y : Int64} (h : ¬ x = y) : ifCond.holds .eq (lcmpW x y) = false ∧ ifCond.holds .ne (lcmpW x y) = true := by
  rw [if0, if0]; exact ⟨(feq fun q => h ((lw_eq x y).mp q)).1, (feq fun q => h ((lw_eq x y).mp q)).2⟩
theorem own_bt {q : Prop} [Decidable q] (h : q) : ifCond.holds .ne (if q then (1 : Int32) else (0 : Int32)) = true ∧ ifCond.holds .eq (if q then (1 : Int32) else (0 : Int32)) = false := by
  rw [if_pos h]; exact ⟨rfl, rfl⟩
theorem own_bf {q : Prop} [Decidable q] (h : ¬ q) : ifCond.holds .ne (if q then (1 : Int32) else (0 : Int32)) = false ∧ ifCond.holds .eq (if q then (1 : Int32) else (0 : Int32)) = true := by
  rw [if_neg h]; exact ⟨rfl, rfl⟩
theorem own_ct {q : Prop} [Decidable q] (h : q) : ifCond.holds .ne (if q then (0 : Int32) else (1 : Int32)) = false ∧ ifCond.holds .eq (if q then (0 : Int32) else (1 : Int32)) = true := by
  rw [if_pos h]; exact ⟨rfl, rfl⟩
theorem own_cf {q : Prop} [Decidable q] (h : ¬ q) : ifCond.holds .ne (if q then (0 : Int32) else (1 : Int32)) = true ∧ ifCond.holds .eq (if q then (0 : Int32) else (1 : Int32)) = false := by
  rw [if_neg h]; exact ⟨rfl, rfl⟩
theorem own_b01 {q : Prop} [Decidable q] {x y : Int32} (hx : x = 0 ∨ x = 1) (hy : y = 0 ∨ y = 1) : (if q then x else y) = 0 ∨ (if q then x else y) = 1 := by
  split <;> assumption
def Arf (Z : State) (h : Heap) (a : Addr) (ty : FieldType) (n : Int32) (f : Nat → Value) : Prop :=
  ∃ c : Cell, Arr Z h a c ty ∧ c.slots.size = n.toNatClampNeg ∧ ¬ n < 0 ∧ ∀ i, i < n.toNatClampNeg → c.slots[i]? = some (f i)
theorem Arf.lt {Z : State} {h : Heap} {a : Addr} {ty : FieldType} {n : Int32} {f : Nat → Value} (F : Arf Z h a ty n f) : a < h.size := by
  obtain ⟨c, A, -⟩ := F; exact A.lt
theorem Arf.ext {Z : State} {h h' : Heap} {a : Addr} {ty : FieldType} {n : Int32} {f : Nat → Value} (F : Arf Z h a ty n f) (E : Ext h h') : Arf Z h' a ty n f := by
  obtain ⟨c, A, r⟩ := F; exact ⟨c, A.ext E, r⟩
theorem Arf.other {Z : State} {h h' : Heap} {a b : Addr} {sl : Nat} {v : Value} {ty : FieldType} {n : Int32} {f : Nat → Value} (F : Arf Z h b ty n f) (W : Wr h h' a sl v) (q : b ≠ a) : Arf Z h' b ty n f := by
  obtain ⟨c, A, r⟩ := F; exact ⟨c, A.other W q, r⟩
theorem Arf.keep {Z : State} {h h' : Heap} {a : Addr} {ws : List Addr} {ty : FieldType} {n : Int32} {f : Nat → Value} (F : Arf Z h a ty n f) (K : Keep h h' ws) (q : a ∉ ws) : Arf Z h' a ty n f := by
  obtain ⟨c, A, r⟩ := F; exact ⟨c, ⟨K.2.1 a c A.1 q, A.2⟩, r⟩
theorem own_arf_new {Z : State} {h : Heap} {a : Addr} {k : ClassId} {ty : FieldType} {z : Int32} (A : Arr Z h a (newA k ty z) ty) (q : ¬ z < 0) : Arf Z h a ty z (fun _ => defaultValue ty) :=
  ⟨_, A, sz_new _ _ _, q, fun i hi => by simp [newA, hi]⟩
theorem own_arf_set {Z : State} {h h' : Heap} {a : Addr} {ty : FieldType} {n : Int32} {f : Nat → Value} {j : Nat} {v : Value} (F : Arf Z h a ty n f) (W : Wr h h' a j v) : Arf Z h' a ty n (fun i => if i = j then v else f i) := by
  obtain ⟨c, A, S, M, H⟩ := F
  refine ⟨_, A.same W, by rw [sz_set]; exact S, M, fun i hi => ?_⟩
  show _ = some (if i = j then v else f i)
  by_cases u : i = j
  · subst u; rw [if_pos rfl]; rw [← S] at hi; simp [Cell.setSlot, hi]
  · rw [if_neg u]; have := H i hi; simp only [Cell.setSlot]; rw [Array.getElem?_setIfInBounds_ne (Ne.symm u)]; exact this
theorem own_arf_fn {Z : State} {h : Heap} {a : Addr} {ty : FieldType} {n : Int32} {f g : Nat → Value} (F : Arf Z h a ty n f) (q : ∀ i, i < n.toNatClampNeg → f i = g i) : Arf Z h a ty n g := by
  obtain ⟨c, A, S, M, H⟩ := F
  exact ⟨c, A, S, M, fun i hi => by rw [← q i hi]; exact H i hi⟩
theorem own_arf_setI {Z : State} {h h' : Heap} {a : Addr} {ty : FieldType} {n : Int32} {f : Nat → Int32} {j : Nat} {v : Int32} (F : Arf Z h a ty n (fun i => Value.int (f i))) (W : Wr h h' a j (.int v)) : Arf Z h' a ty n (fun i => Value.int (if i = j then v else f i)) :=
  own_arf_fn (own_arf_set F W) fun i _ => by by_cases u : i = j <;> simp [u]
theorem own_arf_setL {Z : State} {h h' : Heap} {a : Addr} {ty : FieldType} {n : Int32} {f : Nat → Int64} {j : Nat} {v : Int64} (F : Arf Z h a ty n (fun i => Value.long (f i))) (W : Wr h h' a j (.long v)) : Arf Z h' a ty n (fun i => Value.long (if i = j then v else f i)) :=
  own_arf_fn (own_arf_set F W) fun i _ => by by_cases u : i = j <;> simp [u]
theorem own_arf_at {c : Cell} {n j : Int32} {f : Nat → Value} (H : ∀ i, i < n.toNatClampNeg → c.slots[i]? = some (f i)) (S : c.slots.size = n.toNatClampNeg) (q : ¬ (j < 0 ∨ c.slots.size ≤ j.toNatClampNeg)) : c.slots[j.toNatClampNeg]? = some (f j.toNatClampNeg) :=
  H _ (by rw [← S]; exact Nat.lt_of_not_le fun y => q (Or.inr y))
theorem own_nb {x : Int32} (h : x = 0 ∨ x = 1) : nar .boolean x = x := by
  rcases h with rfl | rfl <;> rfl
end Jvm.RoadKit
namespace Jvm.Pilot.@@N@@
open Jvm Jvm.ClassFile Sem Op Lib Jvm.Free Jvm.Stand Jvm.LawKit Jvm.RoadKit Bundle Jvm.Pilot.@@N@@.Jvm.D
theorem d1_0 : decode prog_38_method_23_code 0 = .ok (.iload_n 0, 1) := by decide +kernel
theorem d1_1 : decode prog_38_method_23_code 1 = .ok (.bipush 48, 2) := by decide +kernel
theorem d1_3 : decode prog_38_method_23_code 3 = .ok (.if_icmp .lt 13, 3) := by decide +kernel
theorem d1_6 : decode prog_38_method_23_code 6 = .ok (.iload_n 0, 1) := by decide +kernel
theorem d1_7 : decode prog_38_method_23_code 7 = .ok (.bipush 57, 2) := by decide +kernel
theorem d1_9 : decode prog_38_method_23_code 9 = .ok (.if_icmp .gt 7, 3) := by decide +kernel
theorem d1_12 : decode prog_38_method_23_code 12 = .ok (.iconst 1, 1) := by decide +kernel
theorem d1_13 : decode prog_38_method_23_code 13 = .ok (.goto 4, 3) := by decide +kernel
theorem d1_16 : decode prog_38_method_23_code 16 = .ok (.iconst 0, 1) := by decide +kernel
theorem d1_17 : decode prog_38_method_23_code 17 = .ok (.ireturn, 1) := by decide +kernel
theorem pn_1 : plainName "com/example/trunkline/trunkline/message/Syntax" = true := by first | (simp [plainName, overriddenIn]; done) | decide +kernel
theorem ef_1 (m : MethodId) (vc : Int32) : entryFrame m #[(.int vc)] 1 = mkF m 0 #[.val (.int vc)] [] := by first | (simp [entryFrame, mkF, argsToLocals, Value.category]; done) | rfl
def F1 (vc : Int32) : Int32 := (if vc < (48 : Int32) then (0 : Int32) else (if (57 : Int32) < vc then (0 : Int32) else (1 : Int32)))
def Q1 (Z : State) (vc : Int32) (h0 : Heap) (n0 : Nat) (v : Option Value) (h : Heap) (L : List Loc) : Prop := v = some (.int (F1 vc)) ∧ Fr n0 L ∧ h = h0
set_option maxRecDepth 65536 in
set_option maxHeartbeats 40000000 in
theorem rm1 (l : Launch) (Z : State) (a0 : Array Value) (hw : ∀ d ∈ tables_1, d.before a0 Z = true) (ws : List Jvm.Cond) (vc : Int32) (h0 : Heap) (n0 : Nat) (Z0 : n0 ≤ h0.size)  :
    MetFree l (⟨"com/example/trunkline/trunkline/message/Syntax", "isDigit", "(C)Z"⟩ : MethodName) (head1 (Jvm.Cond.code (⟨"com/example/trunkline/trunkline/message/Syntax", "isDigit", "(C)Z"⟩ : MethodName) prog_38_method_23_code 1 (some .boolean) :: ws) ({ frames := 0, cells := 0, slots := 0, locals := 0 } : Room)) (fun a U => a = #[(.int vc)] ∧ Z.Warmed39 U.vm ∧ U.heap = h0) (fun _ _ _ _ _ => True) (fun _ U o U' => ∃ v L, o = .returned v ∧ Q1 Z vc h0 n0 v U'.heap L ∧ FrameEnd U o U' L ({ frames := 0, cells := 0, slots := 0, locals := 0 } : Room).cells ({ frames := 0, cells := 0, slots := 0, locals := 0 } : Room).slots) := by
  refine MetFree.of_bodySF (plainFor_of_name pn_1) hisR ?_
  intro p e s m args below meth c s₁ Bd hml0 hP hK
  obtain ⟨rfl, hZ, hh⟩ := hP
  have hx := Bd.exec
  have hby := Bd.bytes
  have hml : c.maxLocals = 1 := hml0
  have hown : s.vm.findClass "com/example/trunkline/trunkline/message/Syntax" = some m.cls := findClass_of_methodNamed Bd.named
  have hnm := (name_of_methodNamed Bd.named Bd.method).1
  have X0 : Stand p l e ({ frames := 0, cells := 0, slots := 0, locals := 0 } : Room) s m #[(.int vc)] below meth c s₁ [] 0 0 := Stand.of_body Bd
  have e0 : s₁.heap = h0 := by rw [← hh, Bd.state]; rfl
  have N0 := Fr.nil n0
  have pre0 : ∀ t, Steps p.tables e below (s₁.setTop (mkF m 0 #[.val (.int vc)] [])) t → Steps p.tables e below (s₁.setTop (entryFrame m #[(.int vc)] 1)) t := fun t k => castTop (ef_1 m vc) k
  obtain ⟨fs, hr, hrun, hended, hW, hsame⟩ := X0.leave (v := some (.int (if vc < (48 : Int32) then (0 : Int32) else (if (57 : Int32) < vc then (0 : Int32) else (1 : Int32))))) (fun h => by rw [Bd.returns] at h; cases h)
  refine ⟨_, _, pre0 _ ?_, hrun, hended, _, _, rfl, ?_, ⟨_, rfl⟩, hW, hsame.mono (by decide) (by decide)⟩
  · show Steps p.tables e below (s₁.setTop (mkF m 0 #[.val (.int vc)] [])) _
    refine XS.iloadN X0.here hx rfl (hb hby d1_0) rfl ?_
    show Steps p.tables e below (s₁.setTop (mkF m 1 #[.val (.int vc)] [(.int vc)])) _
    refine XS.bipush X0.here hx rfl (hb hby d1_1) ?_
    show Steps p.tables e below (s₁.setTop (mkF m 3 #[.val (.int vc)] [(.int (48 : Int32)), (.int vc)])) _
    refine own_dia (u := ((0 : Int32) : Int32)) (v := (if (57 : Int32) < vc then (0 : Int32) else (1 : Int32))) (vc < (48 : Int32)) (fun z1 => (mkF m 17 #[.val (.int vc)] [(.int z1)])) (fun hc1 k1 => ?_) (fun hc1 k1 => ?_) ?_
    · refine XS.icmpYes X0.here hx rfl (pc0 := 3) (pc' := 16) rfl (hb hby d1_3) rfl (tlt hc1).1 (by decide) (by decide) ?_
      show Steps p.tables e below (s₁.setTop (mkF m 16 #[.val (.int vc)] [])) _
      refine XS.iconst X0.here hx rfl (hb hby d1_16) ?_
      exact k1
    · refine XS.icmpNo X0.here hx rfl (hb hby d1_3) rfl (flt hc1).1 ?_
      show Steps p.tables e below (s₁.setTop (mkF m 6 #[.val (.int vc)] [])) _
      refine XS.iloadN X0.here hx rfl (hb hby d1_6) rfl ?_
      show Steps p.tables e below (s₁.setTop (mkF m 7 #[.val (.int vc)] [(.int vc)])) _
      refine XS.bipush X0.here hx rfl (hb hby d1_7) ?_
      show Steps p.tables e below (s₁.setTop (mkF m 9 #[.val (.int vc)] [(.int (57 : Int32)), (.int vc)])) _
      refine own_dia (u := ((0 : Int32) : Int32)) (v := (1 : Int32)) ((57 : Int32) < vc) (fun z2 => (mkF m 17 #[.val (.int vc)] [(.int z2)])) (fun hc2 k2 => ?_) (fun hc2 k2 => ?_) ?_
      · refine XS.icmpYes X0.here hx rfl (pc0 := 9) (pc' := 16) rfl (hb hby d1_9) rfl (tlt hc2).2.2.1 (by decide) (by decide) ?_
        show Steps p.tables e below (s₁.setTop (mkF m 16 #[.val (.int vc)] [])) _
        refine XS.iconst X0.here hx rfl (hb hby d1_16) ?_
        exact k2
      · refine XS.icmpNo X0.here hx rfl (hb hby d1_9) rfl (flt hc2).2.2.1 ?_
        show Steps p.tables e below (s₁.setTop (mkF m 12 #[.val (.int vc)] [])) _
        refine XS.iconst X0.here hx rfl (hb hby d1_12) ?_
        show Steps p.tables e below (s₁.setTop (mkF m 13 #[.val (.int vc)] [(.int (1 : Int32))])) _
        refine XS.goto X0.here hx rfl (pc0 := 13) (pc' := 17) rfl (hb hby d1_13) (by decide) (by decide) ?_
        exact k2
      -- meets at 17
      exact k1
    -- meets at 17
    show Steps p.tables e below (s₁.setTop (mkF m 17 #[.val (.int vc)] [(.int (if vc < (48 : Int32) then (0 : Int32) else (if (57 : Int32) < vc then (0 : Int32) else (1 : Int32))))])) _
    exact retN X0 hx (t := .boolean) Bd.returns (by simp) (hb hby d1_17) (by rw [own_nb (own_b01 (Or.inl rfl) (own_b01 (Or.inl rfl) (Or.inr rfl)))]; exact hr)
  · show Q1 Z vc h0 n0 _ s₁.heap _
    rw [e0]
    exact ⟨rfl, N0, rfl⟩
theorem pd_0 : parseMethodDescriptor "(C)Z" = some ⟨[.char], some .boolean⟩ := by decide +kernel
theorem pn_0 : plainName "com/example/trunkline/trunkline/message/SyntaxIsDigitPinLaw" = true := by first | (simp [plainName, overriddenIn]; done) | decide +kernel
theorem ef_0 (m : MethodId) (x1 : Int32) (x2 : Int32) : entryFrame m #[(.int x1), (.int x2)] maxLocals = mkF m 0 #[.val (.int x1), .val (.int x2), .unset, .unset, .unset, .unset, .unset, .unset, .unset, .unset] [] := by first | (simp [entryFrame, mkF, argsToLocals, Value.category, maxLocals]; done) | rfl
def F0 (x1 : Int32) (x2 : Int32) : Int32 := (if (F1 ((x1 &&& (65535 : Int32)).toUInt32.toUInt16.toUInt32.toInt32)) = (if ((x1 &&& (65535 : Int32)) &&& (65520 : Int32)) = (48 : Int32) then (if (9 : Int32) < ((x1 &&& (65535 : Int32)) &&& (15 : Int32)) then (0 : Int32) else (1 : Int32)) else (0 : Int32)) then (if (F1 (((48 : Int32) + ((x2 &&& (2147483647 : Int32)) % (10 : Int32))).toUInt32.toUInt16.toUInt32.toInt32)) = (0 : Int32) then (0 : Int32) else (if (F1 (47 : Int32)) = (0 : Int32) then (if (F1 (58 : Int32)) = (0 : Int32) then (1 : Int32) else (0 : Int32)) else (0 : Int32))) else (0 : Int32))
def Q0 (Z : State) (x1 : Int32) (x2 : Int32) (h0 : Heap) (n0 : Nat) (v : Option Value) (h : Heap) (L : List Loc) : Prop := v = some (.int (F0 x1 x2)) ∧ Fr n0 L
set_option maxRecDepth 65536 in
set_option maxHeartbeats 40000000 in
theorem rm0 (l : Launch) (Z : State) (a0 : Array Value) (hw : ∀ d ∈ tables_1, d.before a0 Z = true) (ws : List Jvm.Cond) (x1 : Int32) (x2 : Int32) (h0 : Heap) (n0 : Nat) (Z0 : n0 ≤ h0.size)  :
    MetFree l x (head1 (Jvm.Cond.code x code maxLocals ret :: ws) room_1) (fun a U => a = #[(.int x1), (.int x2)] ∧ Z.Warmed39 U.vm ∧ U.heap = h0) (fun _ _ _ _ _ => True) (fun _ U o U' => ∃ v L, o = .returned v ∧ Q0 Z x1 x2 h0 n0 v U'.heap L ∧ FrameEnd U o U' L room_1.cells room_1.slots) := by
  refine MetFree.of_bodySF (plainFor_of_name pn_0) hisR ?_
  intro p e s m args below meth c s₁ Bd hml0 hP hK
  obtain ⟨rfl, hZ, hh⟩ := hP
  have hx := Bd.exec
  have hby := Bd.bytes
  have hml : c.maxLocals = 10 := hml0
  have hown : s.vm.findClass "com/example/trunkline/trunkline/message/SyntaxIsDigitPinLaw" = some m.cls := findClass_of_methodNamed Bd.named
  have hnm := (name_of_methodNamed Bd.named Bd.method).1
  have X0 : Stand p l e room_1 s m #[(.int x1), (.int x2)] below meth c s₁ [] 0 0 := Stand.of_body Bd
  have e0 : s₁.heap = h0 := by rw [← hh, Bd.state]; rfl
  have N0 := Fr.nil n0
  have pre0 : ∀ t, Steps p.tables e below (s₁.setTop (mkF m 0 #[.val (.int x1), .val (.int x2), .unset, .unset, .unset, .unset, .unset, .unset, .unset, .unset] [])) t → Steps p.tables e below (s₁.setTop (entryFrame m #[(.int x1), (.int x2)] maxLocals)) t := fun t k => castTop (ef_0 m x1 x2) k
  obtain ⟨_, _, ⟨T3, L3, k3, n3⟩, -, X3, ⟨Lc3, hQ3, l3, y3, z3⟩, st3⟩ := Jvm.LawKit.callS X0 hx (y := (⟨"com/example/trunkline/trunkline/message/Syntax", "isDigit", "(C)Z"⟩ : MethodName)) hown (mvT hZ (hw _ (List.mem_of_getElem? (i := 2) rfl))) (mvT hZ (hw _ (List.mem_of_getElem? (i := 3) rfl))) (mvT hZ (hw _ (List.mem_of_getElem? (i := 4) rfl))) (mvT hZ (hw _ (List.mem_of_getElem? (i := 5) rfl))) (by decide) (backOf (W := 0) (rm1 l Z a0 hw [] ((x1 &&& (65535 : Int32)).toUInt32.toUInt16.toUInt32.toInt32)  h0 n0 Z0 ) hZ (hw _ (List.mem_of_getElem? (i := 5) rfl)) (hw _ (List.mem_of_getElem? (i := 4) rfl)) (by decide) (by decide)) (g := (mkF m 34 #[.val (.int x1), .val (.int x2), .val (.int (x1 &&& (65535 : Int32))), .val (.int ((x1 &&& (65535 : Int32)).toUInt32.toUInt16.toUInt32.toInt32)), .val (.int (if ((x1 &&& (65535 : Int32)) &&& (65520 : Int32)) = (48 : Int32) then (if (9 : Int32) < ((x1 &&& (65535 : Int32)) &&& (15 : Int32)) then (0 : Int32) else (1 : Int32)) else (0 : Int32))), .unset, .unset, .unset, .unset, .unset] [(.int ((x1 &&& (65535 : Int32)).toUInt32.toUInt16.toUInt32.toInt32))])) rfl (by rw [hml]; rfl) (argsL := [(.int ((x1 &&& (65535 : Int32)).toUInt32.toUInt16.toUInt32.toInt32))]) (rest := []) (lenOf pd_0 rfl) rfl (by show 2 * 0 + _ ≤ _; exact Nat.le_of_eq rfl) (hb hby at_34) (fun _ _ => ⟨rfl, e0, (by decide : 0 + 0 ≤ _), (by decide : 0 + 0 ≤ _)⟩)
  dsimp only [Pt.U, Pt.locs, Pt.cells, Pt.slots] at X3 l3 y3 z3 st3 hQ3
  subst l3 y3 z3
  obtain ⟨rfl, N3q, e3⟩ := hQ3
  have N3 := Fr.app N0 N3q
  obtain ⟨_, _, ⟨T4, L4, k4, n4⟩, -, X4, ⟨Lc4, hQ4, l4, y4, z4⟩, st4⟩ := Jvm.LawKit.callS X3 hx (y := (⟨"com/example/trunkline/trunkline/message/Syntax", "isDigit", "(C)Z"⟩ : MethodName)) hown (mvT hZ (hw _ (List.mem_of_getElem? (i := 2) rfl))) (mvT hZ (hw _ (List.mem_of_getElem? (i := 3) rfl))) (mvT hZ (hw _ (List.mem_of_getElem? (i := 4) rfl))) (mvT hZ (hw _ (List.mem_of_getElem? (i := 5) rfl))) (by decide) (backOf (W := 0) (rm1 l Z a0 hw [] (((48 : Int32) + ((x2 &&& (2147483647 : Int32)) % (10 : Int32))).toUInt32.toUInt16.toUInt32.toInt32)  h0 n0 Z0 ) hZ (hw _ (List.mem_of_getElem? (i := 5) rfl)) (hw _ (List.mem_of_getElem? (i := 4) rfl)) (by decide) (by decide)) (g := (mkF m 54 #[.val (.int x1), .val (.int x2), .val (.int (x1 &&& (65535 : Int32))), .val (.int ((x1 &&& (65535 : Int32)).toUInt32.toUInt16.toUInt32.toInt32)), .val (.int (if ((x1 &&& (65535 : Int32)) &&& (65520 : Int32)) = (48 : Int32) then (if (9 : Int32) < ((x1 &&& (65535 : Int32)) &&& (15 : Int32)) then (0 : Int32) else (1 : Int32)) else (0 : Int32))), .val (.int (F1 ((x1 &&& (65535 : Int32)).toUInt32.toUInt16.toUInt32.toInt32))), .val (.int ((x2 &&& (2147483647 : Int32)) % (10 : Int32))), .unset, .unset, .unset] [(.int (((48 : Int32) + ((x2 &&& (2147483647 : Int32)) % (10 : Int32))).toUInt32.toUInt16.toUInt32.toInt32))])) rfl (by rw [hml]; rfl) (argsL := [(.int (((48 : Int32) + ((x2 &&& (2147483647 : Int32)) % (10 : Int32))).toUInt32.toUInt16.toUInt32.toInt32))]) (rest := []) (lenOf pd_0 rfl) rfl (by show 2 * 0 + _ ≤ _; exact Nat.le_of_eq rfl) (hb hby at_54) (fun _ _ => ⟨rfl, e3, (by decide : 0 + 0 ≤ _), (by decide : 0 + 0 ≤ _)⟩)
  dsimp only [Pt.U, Pt.locs, Pt.cells, Pt.slots] at X4 l4 y4 z4 st4 hQ4
  subst l4 y4 z4
  obtain ⟨rfl, N4q, e4⟩ := hQ4
  have N4 := Fr.app N3 N4q
  obtain ⟨_, _, ⟨T5, L5, k5, n5⟩, -, X5, ⟨Lc5, hQ5, l5, y5, z5⟩, st5⟩ := Jvm.LawKit.callS X4 hx (y := (⟨"com/example/trunkline/trunkline/message/Syntax", "isDigit", "(C)Z"⟩ : MethodName)) hown (mvT hZ (hw _ (List.mem_of_getElem? (i := 2) rfl))) (mvT hZ (hw _ (List.mem_of_getElem? (i := 3) rfl))) (mvT hZ (hw _ (List.mem_of_getElem? (i := 4) rfl))) (mvT hZ (hw _ (List.mem_of_getElem? (i := 5) rfl))) (by decide) (backOf (W := 0) (rm1 l Z a0 hw [] (47 : Int32)  h0 n0 Z0 ) hZ (hw _ (List.mem_of_getElem? (i := 5) rfl)) (hw _ (List.mem_of_getElem? (i := 4) rfl)) (by decide) (by decide)) (g := (mkF m 61 #[.val (.int x1), .val (.int x2), .val (.int (x1 &&& (65535 : Int32))), .val (.int ((x1 &&& (65535 : Int32)).toUInt32.toUInt16.toUInt32.toInt32)), .val (.int (if ((x1 &&& (65535 : Int32)) &&& (65520 : Int32)) = (48 : Int32) then (if (9 : Int32) < ((x1 &&& (65535 : Int32)) &&& (15 : Int32)) then (0 : Int32) else (1 : Int32)) else (0 : Int32))), .val (.int (F1 ((x1 &&& (65535 : Int32)).toUInt32.toUInt16.toUInt32.toInt32))), .val (.int ((x2 &&& (2147483647 : Int32)) % (10 : Int32))), .val (.int (F1 (((48 : Int32) + ((x2 &&& (2147483647 : Int32)) % (10 : Int32))).toUInt32.toUInt16.toUInt32.toInt32))), .unset, .unset] [(.int (47 : Int32))])) rfl (by rw [hml]; rfl) (argsL := [(.int (47 : Int32))]) (rest := []) (lenOf pd_0 rfl) rfl (by show 2 * 0 + _ ≤ _; exact Nat.le_of_eq rfl) (hb hby at_61) (fun _ _ => ⟨rfl, e4, (by decide : 0 + 0 ≤ _), (by decide : 0 + 0 ≤ _)⟩)
  dsimp only [Pt.U, Pt.locs, Pt.cells, Pt.slots] at X5 l5 y5 z5 st5 hQ5
  subst l5 y5 z5
  obtain ⟨rfl, N5q, e5⟩ := hQ5
  have N5 := Fr.app N4 N5q
  obtain ⟨_, _, ⟨T6, L6, k6, n6⟩, -, X6, ⟨Lc6, hQ6, l6, y6, z6⟩, st6⟩ := Jvm.LawKit.callS X5 hx (y := (⟨"com/example/trunkline/trunkline/message/Syntax", "isDigit", "(C)Z"⟩ : MethodName)) hown (mvT hZ (hw _ (List.mem_of_getElem? (i := 2) rfl))) (mvT hZ (hw _ (List.mem_of_getElem? (i := 3) rfl))) (mvT hZ (hw _ (List.mem_of_getElem? (i := 4) rfl))) (mvT hZ (hw _ (List.mem_of_getElem? (i := 5) rfl))) (by decide) (backOf (W := 0) (rm1 l Z a0 hw [] (58 : Int32)  h0 n0 Z0 ) hZ (hw _ (List.mem_of_getElem? (i := 5) rfl)) (hw _ (List.mem_of_getElem? (i := 4) rfl)) (by decide) (by decide)) (g := (mkF m 68 #[.val (.int x1), .val (.int x2), .val (.int (x1 &&& (65535 : Int32))), .val (.int ((x1 &&& (65535 : Int32)).toUInt32.toUInt16.toUInt32.toInt32)), .val (.int (if ((x1 &&& (65535 : Int32)) &&& (65520 : Int32)) = (48 : Int32) then (if (9 : Int32) < ((x1 &&& (65535 : Int32)) &&& (15 : Int32)) then (0 : Int32) else (1 : Int32)) else (0 : Int32))), .val (.int (F1 ((x1 &&& (65535 : Int32)).toUInt32.toUInt16.toUInt32.toInt32))), .val (.int ((x2 &&& (2147483647 : Int32)) % (10 : Int32))), .val (.int (F1 (((48 : Int32) + ((x2 &&& (2147483647 : Int32)) % (10 : Int32))).toUInt32.toUInt16.toUInt32.toInt32))), .val (.int (F1 (47 : Int32))), .unset] [(.int (58 : Int32))])) rfl (by rw [hml]; rfl) (argsL := [(.int (58 : Int32))]) (rest := []) (lenOf pd_0 rfl) rfl (by show 2 * 0 + _ ≤ _; exact Nat.le_of_eq rfl) (hb hby at_68) (fun _ _ => ⟨rfl, e5, (by decide : 0 + 0 ≤ _), (by decide : 0 + 0 ≤ _)⟩)
  dsimp only [Pt.U, Pt.locs, Pt.cells, Pt.slots] at X6 l6 y6 z6 st6 hQ6
  subst l6 y6 z6
  obtain ⟨rfl, N6q, e6⟩ := hQ6
  have N6 := Fr.app N5 N6q
  obtain ⟨fs, hr, hrun, hended, hW, hsame⟩ := X6.leave (v := some (.int (if (F1 ((x1 &&& (65535 : Int32)).toUInt32.toUInt16.toUInt32.toInt32)) = (if ((x1 &&& (65535 : Int32)) &&& (65520 : Int32)) = (48 : Int32) then (if (9 : Int32) < ((x1 &&& (65535 : Int32)) &&& (15 : Int32)) then (0 : Int32) else (1 : Int32)) else (0 : Int32)) then (if (F1 (((48 : Int32) + ((x2 &&& (2147483647 : Int32)) % (10 : Int32))).toUInt32.toUInt16.toUInt32.toInt32)) = (0 : Int32) then (0 : Int32) else (if (F1 (47 : Int32)) = (0 : Int32) then (if (F1 (58 : Int32)) = (0 : Int32) then (1 : Int32) else (0 : Int32)) else (0 : Int32))) else (0 : Int32)))) (fun h => by rw [Bd.returns] at h; cases h)
  refine ⟨_, _, pre0 _ ?_, hrun, hended, _, _, rfl, ?_, ⟨_, rfl⟩, hW, hsame.mono (by decide) (by decide)⟩
  · show Steps p.tables e below (s₁.setTop (mkF m 0 #[.val (.int x1), .val (.int x2), .unset, .unset, .unset, .unset, .unset, .unset, .unset, .unset] [])) _
    refine XS.iloadN X0.here hx rfl (hb hby at_0) rfl ?_
    show Steps p.tables e below (s₁.setTop (mkF m 1 #[.val (.int x1), .val (.int x2), .unset, .unset, .unset, .unset, .unset, .unset, .unset, .unset] [(.int x1)])) _
    refine X0.ldcInt hx hown (mvT hZ (hw _ (List.mem_of_getElem? (i := 0) rfl))) (g := (mkF m 1 #[.val (.int x1), .val (.int x2), .unset, .unset, .unset, .unset, .unset, .unset, .unset, .unset] [(.int x1)])) rfl (hb hby at_1) _ ?_
    show Steps p.tables e below (s₁.setTop (mkF m 3 #[.val (.int x1), .val (.int x2), .unset, .unset, .unset, .unset, .unset, .unset, .unset, .unset] [(.int (65535 : Int32)), (.int x1)])) _
    refine XS.iand X0.here hx rfl (hb hby at_3) rfl ?_
    show Steps p.tables e below (s₁.setTop (mkF m 4 #[.val (.int x1), .val (.int x2), .unset, .unset, .unset, .unset, .unset, .unset, .unset, .unset] [(.int (x1 &&& (65535 : Int32)))])) _
    refine XS.istoreN X0.here hx rfl (hb hby at_4) rfl (l' := #[.val (.int x1), .val (.int x2), .val (.int (x1 &&& (65535 : Int32))), .unset, .unset, .unset, .unset, .unset, .unset, .unset]) rfl ?_
    show Steps p.tables e below (s₁.setTop (mkF m 5 #[.val (.int x1), .val (.int x2), .val (.int (x1 &&& (65535 : Int32))), .unset, .unset, .unset, .unset, .unset, .unset, .unset] [])) _
    refine XS.iloadN X0.here hx rfl (hb hby at_5) rfl ?_
    show Steps p.tables e below (s₁.setTop (mkF m 6 #[.val (.int x1), .val (.int x2), .val (.int (x1 &&& (65535 : Int32))), .unset, .unset, .unset, .unset, .unset, .unset, .unset] [(.int (x1 &&& (65535 : Int32)))])) _
    refine XS.i2c X0.here hx rfl (hb hby at_6) rfl ?_
    show Steps p.tables e below (s₁.setTop (mkF m 7 #[.val (.int x1), .val (.int x2), .val (.int (x1 &&& (65535 : Int32))), .unset, .unset, .unset, .unset, .unset, .unset, .unset] [(.int ((x1 &&& (65535 : Int32)).toUInt32.toUInt16.toUInt32.toInt32))])) _
    refine XS.istoreN X0.here hx rfl (hb hby at_7) rfl (l' := #[.val (.int x1), .val (.int x2), .val (.int (x1 &&& (65535 : Int32))), .val (.int ((x1 &&& (65535 : Int32)).toUInt32.toUInt16.toUInt32.toInt32)), .unset, .unset, .unset, .unset, .unset, .unset]) rfl ?_
    show Steps p.tables e below (s₁.setTop (mkF m 8 #[.val (.int x1), .val (.int x2), .val (.int (x1 &&& (65535 : Int32))), .val (.int ((x1 &&& (65535 : Int32)).toUInt32.toUInt16.toUInt32.toInt32)), .unset, .unset, .unset, .unset, .unset, .unset] [])) _
    refine XS.iloadN X0.here hx rfl (hb hby at_8) rfl ?_
    show Steps p.tables e below (s₁.setTop (mkF m 9 #[.val (.int x1), .val (.int x2), .val (.int (x1 &&& (65535 : Int32))), .val (.int ((x1 &&& (65535 : Int32)).toUInt32.toUInt16.toUInt32.toInt32)), .unset, .unset, .unset, .unset, .unset, .unset] [(.int (x1 &&& (65535 : Int32)))])) _
    refine X0.ldcInt hx hown (mvT hZ (hw _ (List.mem_of_getElem? (i := 1) rfl))) (g := (mkF m 9 #[.val (.int x1), .val (.int x2), .val (.int (x1 &&& (65535 : Int32))), .val (.int ((x1 &&& (65535 : Int32)).toUInt32.toUInt16.toUInt32.toInt32)), .unset, .unset, .unset, .unset, .unset, .unset] [(.int (x1 &&& (65535 : Int32)))])) rfl (hb hby at_9) _ ?_
    show Steps p.tables e below (s₁.setTop (mkF m 11 #[.val (.int x1), .val (.int x2), .val (.int (x1 &&& (65535 : Int32))), .val (.int ((x1 &&& (65535 : Int32)).toUInt32.toUInt16.toUInt32.toInt32)), .unset, .unset, .unset, .unset, .unset, .unset] [(.int (65520 : Int32)), (.int (x1 &&& (65535 : Int32)))])) _
    refine XS.iand X0.here hx rfl (hb hby at_11) rfl ?_
    show Steps p.tables e below (s₁.setTop (mkF m 12 #[.val (.int x1), .val (.int x2), .val (.int (x1 &&& (65535 : Int32))), .val (.int ((x1 &&& (65535 : Int32)).toUInt32.toUInt16.toUInt32.toInt32)), .unset, .unset, .unset, .unset, .unset, .unset] [(.int ((x1 &&& (65535 : Int32)) &&& (65520 : Int32)))])) _
    refine XS.bipush X0.here hx rfl (hb hby at_12) ?_
    show Steps p.tables e below (s₁.setTop (mkF m 14 #[.val (.int x1), .val (.int x2), .val (.int (x1 &&& (65535 : Int32))), .val (.int ((x1 &&& (65535 : Int32)).toUInt32.toUInt16.toUInt32.toInt32)), .unset, .unset, .unset, .unset, .unset, .unset] [(.int (48 : Int32)), (.int ((x1 &&& (65535 : Int32)) &&& (65520 : Int32)))])) _
    refine own_dia (u := ((if (9 : Int32) < ((x1 &&& (65535 : Int32)) &&& (15 : Int32)) then (0 : Int32) else (1 : Int32)) : Int32)) (v := (0 : Int32)) (((x1 &&& (65535 : Int32)) &&& (65520 : Int32)) = (48 : Int32)) (fun z1 => (mkF m 31 #[.val (.int x1), .val (.int x2), .val (.int (x1 &&& (65535 : Int32))), .val (.int ((x1 &&& (65535 : Int32)).toUInt32.toUInt16.toUInt32.toInt32)), .unset, .unset, .unset, .unset, .unset, .unset] [(.int z1)])) (fun hc1 k1 => ?_) (fun hc1 k1 => ?_) ?_
    · refine XS.icmpNo X0.here hx rfl (hb hby at_14) rfl (teq hc1).2 ?_
      show Steps p.tables e below (s₁.setTop (mkF m 17 #[.val (.int x1), .val (.int x2), .val (.int (x1 &&& (65535 : Int32))), .val (.int ((x1 &&& (65535 : Int32)).toUInt32.toUInt16.toUInt32.toInt32)), .unset, .unset, .unset, .unset, .unset, .unset] [])) _
      refine XS.iloadN X0.here hx rfl (hb hby at_17) rfl ?_
      show Steps p.tables e below (s₁.setTop (mkF m 18 #[.val (.int x1), .val (.int x2), .val (.int (x1 &&& (65535 : Int32))), .val (.int ((x1 &&& (65535 : Int32)).toUInt32.toUInt16.toUInt32.toInt32)), .unset, .unset, .unset, .unset, .unset, .unset] [(.int (x1 &&& (65535 : Int32)))])) _
      refine XS.bipush X0.here hx rfl (hb hby at_18) ?_
      show Steps p.tables e below (s₁.setTop (mkF m 20 #[.val (.int x1), .val (.int x2), .val (.int (x1 &&& (65535 : Int32))), .val (.int ((x1 &&& (65535 : Int32)).toUInt32.toUInt16.toUInt32.toInt32)), .unset, .unset, .unset, .unset, .unset, .unset] [(.int (15 : Int32)), (.int (x1 &&& (65535 : Int32)))])) _
      refine XS.iand X0.here hx rfl (hb hby at_20) rfl ?_
      show Steps p.tables e below (s₁.setTop (mkF m 21 #[.val (.int x1), .val (.int x2), .val (.int (x1 &&& (65535 : Int32))), .val (.int ((x1 &&& (65535 : Int32)).toUInt32.toUInt16.toUInt32.toInt32)), .unset, .unset, .unset, .unset, .unset, .unset] [(.int ((x1 &&& (65535 : Int32)) &&& (15 : Int32)))])) _
      refine XS.bipush X0.here hx rfl (hb hby at_21) ?_
      show Steps p.tables e below (s₁.setTop (mkF m 23 #[.val (.int x1), .val (.int x2), .val (.int (x1 &&& (65535 : Int32))), .val (.int ((x1 &&& (65535 : Int32)).toUInt32.toUInt16.toUInt32.toInt32)), .unset, .unset, .unset, .unset, .unset, .unset] [(.int (9 : Int32)), (.int ((x1 &&& (65535 : Int32)) &&& (15 : Int32)))])) _
      refine own_dia (u := ((0 : Int32) : Int32)) (v := (1 : Int32)) ((9 : Int32) < ((x1 &&& (65535 : Int32)) &&& (15 : Int32))) (fun z2 => (mkF m 31 #[.val (.int x1), .val (.int x2), .val (.int (x1 &&& (65535 : Int32))), .val (.int ((x1 &&& (65535 : Int32)).toUInt32.toUInt16.toUInt32.toInt32)), .unset, .unset, .unset, .unset, .unset, .unset] [(.int z2)])) (fun hc2 k2 => ?_) (fun hc2 k2 => ?_) ?_
      · refine XS.icmpYes X0.here hx rfl (pc0 := 23) (pc' := 30) rfl (hb hby at_23) rfl (tlt hc2).2.2.1 (by decide) (by decide) ?_
        show Steps p.tables e below (s₁.setTop (mkF m 30 #[.val (.int x1), .val (.int x2), .val (.int (x1 &&& (65535 : Int32))), .val (.int ((x1 &&& (65535 : Int32)).toUInt32.toUInt16.toUInt32.toInt32)), .unset, .unset, .unset, .unset, .unset, .unset] [])) _
        refine XS.iconst X0.here hx rfl (hb hby at_30) ?_
        exact k2
      · refine XS.icmpNo X0.here hx rfl (hb hby at_23) rfl (flt hc2).2.2.1 ?_
        show Steps p.tables e below (s₁.setTop (mkF m 26 #[.val (.int x1), .val (.int x2), .val (.int (x1 &&& (65535 : Int32))), .val (.int ((x1 &&& (65535 : Int32)).toUInt32.toUInt16.toUInt32.toInt32)), .unset, .unset, .unset, .unset, .unset, .unset] [])) _
        refine XS.iconst X0.here hx rfl (hb hby at_26) ?_
        show Steps p.tables e below (s₁.setTop (mkF m 27 #[.val (.int x1), .val (.int x2), .val (.int (x1 &&& (65535 : Int32))), .val (.int ((x1 &&& (65535 : Int32)).toUInt32.toUInt16.toUInt32.toInt32)), .unset, .unset, .unset, .unset, .unset, .unset] [(.int (1 : Int32))])) _
        refine XS.goto X0.here hx rfl (pc0 := 27) (pc' := 31) rfl (hb hby at_27) (by decide) (by decide) ?_
        exact k2
      -- meets at 31
      exact k1
    · refine XS.icmpYes X0.here hx rfl (pc0 := 14) (pc' := 30) rfl (hb hby at_14) rfl (feq hc1).2 (by decide) (by decide) ?_
      show Steps p.tables e below (s₁.setTop (mkF m 30 #[.val (.int x1), .val (.int x2), .val (.int (x1 &&& (65535 : Int32))), .val (.int ((x1 &&& (65535 : Int32)).toUInt32.toUInt16.toUInt32.toInt32)), .unset, .unset, .unset, .unset, .unset, .unset] [])) _
      refine XS.iconst X0.here hx rfl (hb hby at_30) ?_
      exact k1
    -- meets at 31
    show Steps p.tables e below (s₁.setTop (mkF m 31 #[.val (.int x1), .val (.int x2), .val (.int (x1 &&& (65535 : Int32))), .val (.int ((x1 &&& (65535 : Int32)).toUInt32.toUInt16.toUInt32.toInt32)), .unset, .unset, .unset, .unset, .unset, .unset] [(.int (if ((x1 &&& (65535 : Int32)) &&& (65520 : Int32)) = (48 : Int32) then (if (9 : Int32) < ((x1 &&& (65535 : Int32)) &&& (15 : Int32)) then (0 : Int32) else (1 : Int32)) else (0 : Int32)))])) _
    refine XS.istore X0.here hx rfl (hb hby at_31) rfl (l' := #[.val (.int x1), .val (.int x2), .val (.int (x1 &&& (65535 : Int32))), .val (.int ((x1 &&& (65535 : Int32)).toUInt32.toUInt16.toUInt32.toInt32)), .val (.int (if ((x1 &&& (65535 : Int32)) &&& (65520 : Int32)) = (48 : Int32) then (if (9 : Int32) < ((x1 &&& (65535 : Int32)) &&& (15 : Int32)) then (0 : Int32) else (1 : Int32)) else (0 : Int32))), .unset, .unset, .unset, .unset, .unset]) rfl ?_
    show Steps p.tables e below (s₁.setTop (mkF m 33 #[.val (.int x1), .val (.int x2), .val (.int (x1 &&& (65535 : Int32))), .val (.int ((x1 &&& (65535 : Int32)).toUInt32.toUInt16.toUInt32.toInt32)), .val (.int (if ((x1 &&& (65535 : Int32)) &&& (65520 : Int32)) = (48 : Int32) then (if (9 : Int32) < ((x1 &&& (65535 : Int32)) &&& (15 : Int32)) then (0 : Int32) else (1 : Int32)) else (0 : Int32))), .unset, .unset, .unset, .unset, .unset] [])) _
    refine XS.iloadN X0.here hx rfl (hb hby at_33) rfl ?_
    show Steps p.tables e below (s₁.setTop (mkF m 34 #[.val (.int x1), .val (.int x2), .val (.int (x1 &&& (65535 : Int32))), .val (.int ((x1 &&& (65535 : Int32)).toUInt32.toUInt16.toUInt32.toInt32)), .val (.int (if ((x1 &&& (65535 : Int32)) &&& (65520 : Int32)) = (48 : Int32) then (if (9 : Int32) < ((x1 &&& (65535 : Int32)) &&& (15 : Int32)) then (0 : Int32) else (1 : Int32)) else (0 : Int32))), .unset, .unset, .unset, .unset, .unset] [(.int ((x1 &&& (65535 : Int32)).toUInt32.toUInt16.toUInt32.toInt32))])) _
    refine st3 _ ?_
    show Steps p.tables e below (T3.setTop (mkF m 37 #[.val (.int x1), .val (.int x2), .val (.int (x1 &&& (65535 : Int32))), .val (.int ((x1 &&& (65535 : Int32)).toUInt32.toUInt16.toUInt32.toInt32)), .val (.int (if ((x1 &&& (65535 : Int32)) &&& (65520 : Int32)) = (48 : Int32) then (if (9 : Int32) < ((x1 &&& (65535 : Int32)) &&& (15 : Int32)) then (0 : Int32) else (1 : Int32)) else (0 : Int32))), .unset, .unset, .unset, .unset, .unset] [(.int (F1 ((x1 &&& (65535 : Int32)).toUInt32.toUInt16.toUInt32.toInt32)))])) _
    refine XS.istore X3.here hx rfl (hb hby at_37) rfl (l' := #[.val (.int x1), .val (.int x2), .val (.int (x1 &&& (65535 : Int32))), .val (.int ((x1 &&& (65535 : Int32)).toUInt32.toUInt16.toUInt32.toInt32)), .val (.int (if ((x1 &&& (65535 : Int32)) &&& (65520 : Int32)) = (48 : Int32) then (if (9 : Int32) < ((x1 &&& (65535 : Int32)) &&& (15 : Int32)) then (0 : Int32) else (1 : Int32)) else (0 : Int32))), .val (.int (F1 ((x1 &&& (65535 : Int32)).toUInt32.toUInt16.toUInt32.toInt32))), .unset, .unset, .unset, .unset]) rfl ?_
    show Steps p.tables e below (T3.setTop (mkF m 39 #[.val (.int x1), .val (.int x2), .val (.int (x1 &&& (65535 : Int32))), .val (.int ((x1 &&& (65535 : Int32)).toUInt32.toUInt16.toUInt32.toInt32)), .val (.int (if ((x1 &&& (65535 : Int32)) &&& (65520 : Int32)) = (48 : Int32) then (if (9 : Int32) < ((x1 &&& (65535 : Int32)) &&& (15 : Int32)) then (0 : Int32) else (1 : Int32)) else (0 : Int32))), .val (.int (F1 ((x1 &&& (65535 : Int32)).toUInt32.toUInt16.toUInt32.toInt32))), .unset, .unset, .unset, .unset] [])) _
    refine XS.iloadN X3.here hx rfl (hb hby at_39) rfl ?_
    show Steps p.tables e below (T3.setTop (mkF m 40 #[.val (.int x1), .val (.int x2), .val (.int (x1 &&& (65535 : Int32))), .val (.int ((x1 &&& (65535 : Int32)).toUInt32.toUInt16.toUInt32.toInt32)), .val (.int (if ((x1 &&& (65535 : Int32)) &&& (65520 : Int32)) = (48 : Int32) then (if (9 : Int32) < ((x1 &&& (65535 : Int32)) &&& (15 : Int32)) then (0 : Int32) else (1 : Int32)) else (0 : Int32))), .val (.int (F1 ((x1 &&& (65535 : Int32)).toUInt32.toUInt16.toUInt32.toInt32))), .unset, .unset, .unset, .unset] [(.int x2)])) _
    refine X3.ldcInt hx hown (mvT hZ (hw _ (List.mem_of_getElem? (i := 6) rfl))) (g := (mkF m 40 #[.val (.int x1), .val (.int x2), .val (.int (x1 &&& (65535 : Int32))), .val (.int ((x1 &&& (65535 : Int32)).toUInt32.toUInt16.toUInt32.toInt32)), .val (.int (if ((x1 &&& (65535 : Int32)) &&& (65520 : Int32)) = (48 : Int32) then (if (9 : Int32) < ((x1 &&& (65535 : Int32)) &&& (15 : Int32)) then (0 : Int32) else (1 : Int32)) else (0 : Int32))), .val (.int (F1 ((x1 &&& (65535 : Int32)).toUInt32.toUInt16.toUInt32.toInt32))), .unset, .unset, .unset, .unset] [(.int x2)])) rfl (hb hby at_40) _ ?_
    show Steps p.tables e below (T3.setTop (mkF m 42 #[.val (.int x1), .val (.int x2), .val (.int (x1 &&& (65535 : Int32))), .val (.int ((x1 &&& (65535 : Int32)).toUInt32.toUInt16.toUInt32.toInt32)), .val (.int (if ((x1 &&& (65535 : Int32)) &&& (65520 : Int32)) = (48 : Int32) then (if (9 : Int32) < ((x1 &&& (65535 : Int32)) &&& (15 : Int32)) then (0 : Int32) else (1 : Int32)) else (0 : Int32))), .val (.int (F1 ((x1 &&& (65535 : Int32)).toUInt32.toUInt16.toUInt32.toInt32))), .unset, .unset, .unset, .unset] [(.int (2147483647 : Int32)), (.int x2)])) _
    refine XS.iand X3.here hx rfl (hb hby at_42) rfl ?_
    show Steps p.tables e below (T3.setTop (mkF m 43 #[.val (.int x1), .val (.int x2), .val (.int (x1 &&& (65535 : Int32))), .val (.int ((x1 &&& (65535 : Int32)).toUInt32.toUInt16.toUInt32.toInt32)), .val (.int (if ((x1 &&& (65535 : Int32)) &&& (65520 : Int32)) = (48 : Int32) then (if (9 : Int32) < ((x1 &&& (65535 : Int32)) &&& (15 : Int32)) then (0 : Int32) else (1 : Int32)) else (0 : Int32))), .val (.int (F1 ((x1 &&& (65535 : Int32)).toUInt32.toUInt16.toUInt32.toInt32))), .unset, .unset, .unset, .unset] [(.int (x2 &&& (2147483647 : Int32)))])) _
    refine XS.bipush X3.here hx rfl (hb hby at_43) ?_
    show Steps p.tables e below (T3.setTop (mkF m 45 #[.val (.int x1), .val (.int x2), .val (.int (x1 &&& (65535 : Int32))), .val (.int ((x1 &&& (65535 : Int32)).toUInt32.toUInt16.toUInt32.toInt32)), .val (.int (if ((x1 &&& (65535 : Int32)) &&& (65520 : Int32)) = (48 : Int32) then (if (9 : Int32) < ((x1 &&& (65535 : Int32)) &&& (15 : Int32)) then (0 : Int32) else (1 : Int32)) else (0 : Int32))), .val (.int (F1 ((x1 &&& (65535 : Int32)).toUInt32.toUInt16.toUInt32.toInt32))), .unset, .unset, .unset, .unset] [(.int (10 : Int32)), (.int (x2 &&& (2147483647 : Int32)))])) _
    refine iremM X3 hx rfl (hb hby at_45) rfl (by decide) ?_
    show Steps p.tables e below (T3.setTop (mkF m 46 #[.val (.int x1), .val (.int x2), .val (.int (x1 &&& (65535 : Int32))), .val (.int ((x1 &&& (65535 : Int32)).toUInt32.toUInt16.toUInt32.toInt32)), .val (.int (if ((x1 &&& (65535 : Int32)) &&& (65520 : Int32)) = (48 : Int32) then (if (9 : Int32) < ((x1 &&& (65535 : Int32)) &&& (15 : Int32)) then (0 : Int32) else (1 : Int32)) else (0 : Int32))), .val (.int (F1 ((x1 &&& (65535 : Int32)).toUInt32.toUInt16.toUInt32.toInt32))), .unset, .unset, .unset, .unset] [(.int ((x2 &&& (2147483647 : Int32)) % (10 : Int32)))])) _
    refine XS.istore X3.here hx rfl (hb hby at_46) rfl (l' := #[.val (.int x1), .val (.int x2), .val (.int (x1 &&& (65535 : Int32))), .val (.int ((x1 &&& (65535 : Int32)).toUInt32.toUInt16.toUInt32.toInt32)), .val (.int (if ((x1 &&& (65535 : Int32)) &&& (65520 : Int32)) = (48 : Int32) then (if (9 : Int32) < ((x1 &&& (65535 : Int32)) &&& (15 : Int32)) then (0 : Int32) else (1 : Int32)) else (0 : Int32))), .val (.int (F1 ((x1 &&& (65535 : Int32)).toUInt32.toUInt16.toUInt32.toInt32))), .val (.int ((x2 &&& (2147483647 : Int32)) % (10 : Int32))), .unset, .unset, .unset]) rfl ?_
    show Steps p.tables e below (T3.setTop (mkF m 48 #[.val (.int x1), .val (.int x2), .val (.int (x1 &&& (65535 : Int32))), .val (.int ((x1 &&& (65535 : Int32)).toUInt32.toUInt16.toUInt32.toInt32)), .val (.int (if ((x1 &&& (65535 : Int32)) &&& (65520 : Int32)) = (48 : Int32) then (if (9 : Int32) < ((x1 &&& (65535 : Int32)) &&& (15 : Int32)) then (0 : Int32) else (1 : Int32)) else (0 : Int32))), .val (.int (F1 ((x1 &&& (65535 : Int32)).toUInt32.toUInt16.toUInt32.toInt32))), .val (.int ((x2 &&& (2147483647 : Int32)) % (10 : Int32))), .unset, .unset, .unset] [])) _
    refine XS.bipush X3.here hx rfl (hb hby at_48) ?_
    show Steps p.tables e below (T3.setTop (mkF m 50 #[.val (.int x1), .val (.int x2), .val (.int (x1 &&& (65535 : Int32))), .val (.int ((x1 &&& (65535 : Int32)).toUInt32.toUInt16.toUInt32.toInt32)), .val (.int (if ((x1 &&& (65535 : Int32)) &&& (65520 : Int32)) = (48 : Int32) then (if (9 : Int32) < ((x1 &&& (65535 : Int32)) &&& (15 : Int32)) then (0 : Int32) else (1 : Int32)) else (0 : Int32))), .val (.int (F1 ((x1 &&& (65535 : Int32)).toUInt32.toUInt16.toUInt32.toInt32))), .val (.int ((x2 &&& (2147483647 : Int32)) % (10 : Int32))), .unset, .unset, .unset] [(.int (48 : Int32))])) _
    refine XS.iload X3.here hx rfl (hb hby at_50) rfl ?_
    show Steps p.tables e below (T3.setTop (mkF m 52 #[.val (.int x1), .val (.int x2), .val (.int (x1 &&& (65535 : Int32))), .val (.int ((x1 &&& (65535 : Int32)).toUInt32.toUInt16.toUInt32.toInt32)), .val (.int (if ((x1 &&& (65535 : Int32)) &&& (65520 : Int32)) = (48 : Int32) then (if (9 : Int32) < ((x1 &&& (65535 : Int32)) &&& (15 : Int32)) then (0 : Int32) else (1 : Int32)) else (0 : Int32))), .val (.int (F1 ((x1 &&& (65535 : Int32)).toUInt32.toUInt16.toUInt32.toInt32))), .val (.int ((x2 &&& (2147483647 : Int32)) % (10 : Int32))), .unset, .unset, .unset] [(.int ((x2 &&& (2147483647 : Int32)) % (10 : Int32))), (.int (48 : Int32))])) _
    refine XS.iadd X3.here hx rfl (hb hby at_52) rfl ?_
    show Steps p.tables e below (T3.setTop (mkF m 53 #[.val (.int x1), .val (.int x2), .val (.int (x1 &&& (65535 : Int32))), .val (.int ((x1 &&& (65535 : Int32)).toUInt32.toUInt16.toUInt32.toInt32)), .val (.int (if ((x1 &&& (65535 : Int32)) &&& (65520 : Int32)) = (48 : Int32) then (if (9 : Int32) < ((x1 &&& (65535 : Int32)) &&& (15 : Int32)) then (0 : Int32) else (1 : Int32)) else (0 : Int32))), .val (.int (F1 ((x1 &&& (65535 : Int32)).toUInt32.toUInt16.toUInt32.toInt32))), .val (.int ((x2 &&& (2147483647 : Int32)) % (10 : Int32))), .unset, .unset, .unset] [(.int ((48 : Int32) + ((x2 &&& (2147483647 : Int32)) % (10 : Int32))))])) _
    refine XS.i2c X3.here hx rfl (hb hby at_53) rfl ?_
    show Steps p.tables e below (T3.setTop (mkF m 54 #[.val (.int x1), .val (.int x2), .val (.int (x1 &&& (65535 : Int32))), .val (.int ((x1 &&& (65535 : Int32)).toUInt32.toUInt16.toUInt32.toInt32)), .val (.int (if ((x1 &&& (65535 : Int32)) &&& (65520 : Int32)) = (48 : Int32) then (if (9 : Int32) < ((x1 &&& (65535 : Int32)) &&& (15 : Int32)) then (0 : Int32) else (1 : Int32)) else (0 : Int32))), .val (.int (F1 ((x1 &&& (65535 : Int32)).toUInt32.toUInt16.toUInt32.toInt32))), .val (.int ((x2 &&& (2147483647 : Int32)) % (10 : Int32))), .unset, .unset, .unset] [(.int (((48 : Int32) + ((x2 &&& (2147483647 : Int32)) % (10 : Int32))).toUInt32.toUInt16.toUInt32.toInt32))])) _
    refine st4 _ ?_
    show Steps p.tables e below (T4.setTop (mkF m 57 #[.val (.int x1), .val (.int x2), .val (.int (x1 &&& (65535 : Int32))), .val (.int ((x1 &&& (65535 : Int32)).toUInt32.toUInt16.toUInt32.toInt32)), .val (.int (if ((x1 &&& (65535 : Int32)) &&& (65520 : Int32)) = (48 : Int32) then (if (9 : Int32) < ((x1 &&& (65535 : Int32)) &&& (15 : Int32)) then (0 : Int32) else (1 : Int32)) else (0 : Int32))), .val (.int (F1 ((x1 &&& (65535 : Int32)).toUInt32.toUInt16.toUInt32.toInt32))), .val (.int ((x2 &&& (2147483647 : Int32)) % (10 : Int32))), .unset, .unset, .unset] [(.int (F1 (((48 : Int32) + ((x2 &&& (2147483647 : Int32)) % (10 : Int32))).toUInt32.toUInt16.toUInt32.toInt32)))])) _
    refine XS.istore X4.here hx rfl (hb hby at_57) rfl (l' := #[.val (.int x1), .val (.int x2), .val (.int (x1 &&& (65535 : Int32))), .val (.int ((x1 &&& (65535 : Int32)).toUInt32.toUInt16.toUInt32.toInt32)), .val (.int (if ((x1 &&& (65535 : Int32)) &&& (65520 : Int32)) = (48 : Int32) then (if (9 : Int32) < ((x1 &&& (65535 : Int32)) &&& (15 : Int32)) then (0 : Int32) else (1 : Int32)) else (0 : Int32))), .val (.int (F1 ((x1 &&& (65535 : Int32)).toUInt32.toUInt16.toUInt32.toInt32))), .val (.int ((x2 &&& (2147483647 : Int32)) % (10 : Int32))), .val (.int (F1 (((48 : Int32) + ((x2 &&& (2147483647 : Int32)) % (10 : Int32))).toUInt32.toUInt16.toUInt32.toInt32))), .unset, .unset]) rfl ?_
    show Steps p.tables e below (T4.setTop (mkF m 59 #[.val (.int x1), .val (.int x2), .val (.int (x1 &&& (65535 : Int32))), .val (.int ((x1 &&& (65535 : Int32)).toUInt32.toUInt16.toUInt32.toInt32)), .val (.int (if ((x1 &&& (65535 : Int32)) &&& (65520 : Int32)) = (48 : Int32) then (if (9 : Int32) < ((x1 &&& (65535 : Int32)) &&& (15 : Int32)) then (0 : Int32) else (1 : Int32)) else (0 : Int32))), .val (.int (F1 ((x1 &&& (65535 : Int32)).toUInt32.toUInt16.toUInt32.toInt32))), .val (.int ((x2 &&& (2147483647 : Int32)) % (10 : Int32))), .val (.int (F1 (((48 : Int32) + ((x2 &&& (2147483647 : Int32)) % (10 : Int32))).toUInt32.toUInt16.toUInt32.toInt32))), .unset, .unset] [])) _
    refine XS.bipush X4.here hx rfl (hb hby at_59) ?_
    show Steps p.tables e below (T4.setTop (mkF m 61 #[.val (.int x1), .val (.int x2), .val (.int (x1 &&& (65535 : Int32))), .val (.int ((x1 &&& (65535 : Int32)).toUInt32.toUInt16.toUInt32.toInt32)), .val (.int (if ((x1 &&& (65535 : Int32)) &&& (65520 : Int32)) = (48 : Int32) then (if (9 : Int32) < ((x1 &&& (65535 : Int32)) &&& (15 : Int32)) then (0 : Int32) else (1 : Int32)) else (0 : Int32))), .val (.int (F1 ((x1 &&& (65535 : Int32)).toUInt32.toUInt16.toUInt32.toInt32))), .val (.int ((x2 &&& (2147483647 : Int32)) % (10 : Int32))), .val (.int (F1 (((48 : Int32) + ((x2 &&& (2147483647 : Int32)) % (10 : Int32))).toUInt32.toUInt16.toUInt32.toInt32))), .unset, .unset] [(.int (47 : Int32))])) _
    refine st5 _ ?_
    show Steps p.tables e below (T5.setTop (mkF m 64 #[.val (.int x1), .val (.int x2), .val (.int (x1 &&& (65535 : Int32))), .val (.int ((x1 &&& (65535 : Int32)).toUInt32.toUInt16.toUInt32.toInt32)), .val (.int (if ((x1 &&& (65535 : Int32)) &&& (65520 : Int32)) = (48 : Int32) then (if (9 : Int32) < ((x1 &&& (65535 : Int32)) &&& (15 : Int32)) then (0 : Int32) else (1 : Int32)) else (0 : Int32))), .val (.int (F1 ((x1 &&& (65535 : Int32)).toUInt32.toUInt16.toUInt32.toInt32))), .val (.int ((x2 &&& (2147483647 : Int32)) % (10 : Int32))), .val (.int (F1 (((48 : Int32) + ((x2 &&& (2147483647 : Int32)) % (10 : Int32))).toUInt32.toUInt16.toUInt32.toInt32))), .unset, .unset] [(.int (F1 (47 : Int32)))])) _
    refine XS.istore X5.here hx rfl (hb hby at_64) rfl (l' := #[.val (.int x1), .val (.int x2), .val (.int (x1 &&& (65535 : Int32))), .val (.int ((x1 &&& (65535 : Int32)).toUInt32.toUInt16.toUInt32.toInt32)), .val (.int (if ((x1 &&& (65535 : Int32)) &&& (65520 : Int32)) = (48 : Int32) then (if (9 : Int32) < ((x1 &&& (65535 : Int32)) &&& (15 : Int32)) then (0 : Int32) else (1 : Int32)) else (0 : Int32))), .val (.int (F1 ((x1 &&& (65535 : Int32)).toUInt32.toUInt16.toUInt32.toInt32))), .val (.int ((x2 &&& (2147483647 : Int32)) % (10 : Int32))), .val (.int (F1 (((48 : Int32) + ((x2 &&& (2147483647 : Int32)) % (10 : Int32))).toUInt32.toUInt16.toUInt32.toInt32))), .val (.int (F1 (47 : Int32))), .unset]) rfl ?_
    show Steps p.tables e below (T5.setTop (mkF m 66 #[.val (.int x1), .val (.int x2), .val (.int (x1 &&& (65535 : Int32))), .val (.int ((x1 &&& (65535 : Int32)).toUInt32.toUInt16.toUInt32.toInt32)), .val (.int (if ((x1 &&& (65535 : Int32)) &&& (65520 : Int32)) = (48 : Int32) then (if (9 : Int32) < ((x1 &&& (65535 : Int32)) &&& (15 : Int32)) then (0 : Int32) else (1 : Int32)) else (0 : Int32))), .val (.int (F1 ((x1 &&& (65535 : Int32)).toUInt32.toUInt16.toUInt32.toInt32))), .val (.int ((x2 &&& (2147483647 : Int32)) % (10 : Int32))), .val (.int (F1 (((48 : Int32) + ((x2 &&& (2147483647 : Int32)) % (10 : Int32))).toUInt32.toUInt16.toUInt32.toInt32))), .val (.int (F1 (47 : Int32))), .unset] [])) _
    refine XS.bipush X5.here hx rfl (hb hby at_66) ?_
    show Steps p.tables e below (T5.setTop (mkF m 68 #[.val (.int x1), .val (.int x2), .val (.int (x1 &&& (65535 : Int32))), .val (.int ((x1 &&& (65535 : Int32)).toUInt32.toUInt16.toUInt32.toInt32)), .val (.int (if ((x1 &&& (65535 : Int32)) &&& (65520 : Int32)) = (48 : Int32) then (if (9 : Int32) < ((x1 &&& (65535 : Int32)) &&& (15 : Int32)) then (0 : Int32) else (1 : Int32)) else (0 : Int32))), .val (.int (F1 ((x1 &&& (65535 : Int32)).toUInt32.toUInt16.toUInt32.toInt32))), .val (.int ((x2 &&& (2147483647 : Int32)) % (10 : Int32))), .val (.int (F1 (((48 : Int32) + ((x2 &&& (2147483647 : Int32)) % (10 : Int32))).toUInt32.toUInt16.toUInt32.toInt32))), .val (.int (F1 (47 : Int32))), .unset] [(.int (58 : Int32))])) _
    refine st6 _ ?_
    show Steps p.tables e below (T6.setTop (mkF m 71 #[.val (.int x1), .val (.int x2), .val (.int (x1 &&& (65535 : Int32))), .val (.int ((x1 &&& (65535 : Int32)).toUInt32.toUInt16.toUInt32.toInt32)), .val (.int (if ((x1 &&& (65535 : Int32)) &&& (65520 : Int32)) = (48 : Int32) then (if (9 : Int32) < ((x1 &&& (65535 : Int32)) &&& (15 : Int32)) then (0 : Int32) else (1 : Int32)) else (0 : Int32))), .val (.int (F1 ((x1 &&& (65535 : Int32)).toUInt32.toUInt16.toUInt32.toInt32))), .val (.int ((x2 &&& (2147483647 : Int32)) % (10 : Int32))), .val (.int (F1 (((48 : Int32) + ((x2 &&& (2147483647 : Int32)) % (10 : Int32))).toUInt32.toUInt16.toUInt32.toInt32))), .val (.int (F1 (47 : Int32))), .unset] [(.int (F1 (58 : Int32)))])) _
    refine XS.istore X6.here hx rfl (hb hby at_71) rfl (l' := #[.val (.int x1), .val (.int x2), .val (.int (x1 &&& (65535 : Int32))), .val (.int ((x1 &&& (65535 : Int32)).toUInt32.toUInt16.toUInt32.toInt32)), .val (.int (if ((x1 &&& (65535 : Int32)) &&& (65520 : Int32)) = (48 : Int32) then (if (9 : Int32) < ((x1 &&& (65535 : Int32)) &&& (15 : Int32)) then (0 : Int32) else (1 : Int32)) else (0 : Int32))), .val (.int (F1 ((x1 &&& (65535 : Int32)).toUInt32.toUInt16.toUInt32.toInt32))), .val (.int ((x2 &&& (2147483647 : Int32)) % (10 : Int32))), .val (.int (F1 (((48 : Int32) + ((x2 &&& (2147483647 : Int32)) % (10 : Int32))).toUInt32.toUInt16.toUInt32.toInt32))), .val (.int (F1 (47 : Int32))), .val (.int (F1 (58 : Int32)))]) rfl ?_
    show Steps p.tables e below (T6.setTop (mkF m 73 #[.val (.int x1), .val (.int x2), .val (.int (x1 &&& (65535 : Int32))), .val (.int ((x1 &&& (65535 : Int32)).toUInt32.toUInt16.toUInt32.toInt32)), .val (.int (if ((x1 &&& (65535 : Int32)) &&& (65520 : Int32)) = (48 : Int32) then (if (9 : Int32) < ((x1 &&& (65535 : Int32)) &&& (15 : Int32)) then (0 : Int32) else (1 : Int32)) else (0 : Int32))), .val (.int (F1 ((x1 &&& (65535 : Int32)).toUInt32.toUInt16.toUInt32.toInt32))), .val (.int ((x2 &&& (2147483647 : Int32)) % (10 : Int32))), .val (.int (F1 (((48 : Int32) + ((x2 &&& (2147483647 : Int32)) % (10 : Int32))).toUInt32.toUInt16.toUInt32.toInt32))), .val (.int (F1 (47 : Int32))), .val (.int (F1 (58 : Int32)))] [])) _
    refine XS.iload X6.here hx rfl (hb hby at_73) rfl ?_
    show Steps p.tables e below (T6.setTop (mkF m 75 #[.val (.int x1), .val (.int x2), .val (.int (x1 &&& (65535 : Int32))), .val (.int ((x1 &&& (65535 : Int32)).toUInt32.toUInt16.toUInt32.toInt32)), .val (.int (if ((x1 &&& (65535 : Int32)) &&& (65520 : Int32)) = (48 : Int32) then (if (9 : Int32) < ((x1 &&& (65535 : Int32)) &&& (15 : Int32)) then (0 : Int32) else (1 : Int32)) else (0 : Int32))), .val (.int (F1 ((x1 &&& (65535 : Int32)).toUInt32.toUInt16.toUInt32.toInt32))), .val (.int ((x2 &&& (2147483647 : Int32)) % (10 : Int32))), .val (.int (F1 (((48 : Int32) + ((x2 &&& (2147483647 : Int32)) % (10 : Int32))).toUInt32.toUInt16.toUInt32.toInt32))), .val (.int (F1 (47 : Int32))), .val (.int (F1 (58 : Int32)))] [(.int (F1 ((x1 &&& (65535 : Int32)).toUInt32.toUInt16.toUInt32.toInt32)))])) _
    refine XS.iload X6.here hx rfl (hb hby at_75) rfl ?_
    show Steps p.tables e below (T6.setTop (mkF m 77 #[.val (.int x1), .val (.int x2), .val (.int (x1 &&& (65535 : Int32))), .val (.int ((x1 &&& (65535 : Int32)).toUInt32.toUInt16.toUInt32.toInt32)), .val (.int (if ((x1 &&& (65535 : Int32)) &&& (65520 : Int32)) = (48 : Int32) then (if (9 : Int32) < ((x1 &&& (65535 : Int32)) &&& (15 : Int32)) then (0 : Int32) else (1 : Int32)) else (0 : Int32))), .val (.int (F1 ((x1 &&& (65535 : Int32)).toUInt32.toUInt16.toUInt32.toInt32))), .val (.int ((x2 &&& (2147483647 : Int32)) % (10 : Int32))), .val (.int (F1 (((48 : Int32) + ((x2 &&& (2147483647 : Int32)) % (10 : Int32))).toUInt32.toUInt16.toUInt32.toInt32))), .val (.int (F1 (47 : Int32))), .val (.int (F1 (58 : Int32)))] [(.int (if ((x1 &&& (65535 : Int32)) &&& (65520 : Int32)) = (48 : Int32) then (if (9 : Int32) < ((x1 &&& (65535 : Int32)) &&& (15 : Int32)) then (0 : Int32) else (1 : Int32)) else (0 : Int32))), (.int (F1 ((x1 &&& (65535 : Int32)).toUInt32.toUInt16.toUInt32.toInt32)))])) _
    refine own_dia (u := ((if (F1 (((48 : Int32) + ((x2 &&& (2147483647 : Int32)) % (10 : Int32))).toUInt32.toUInt16.toUInt32.toInt32)) = (0 : Int32) then (0 : Int32) else (if (F1 (47 : Int32)) = (0 : Int32) then (if (F1 (58 : Int32)) = (0 : Int32) then (1 : Int32) else (0 : Int32)) else (0 : Int32))) : Int32)) (v := (0 : Int32)) ((F1 ((x1 &&& (65535 : Int32)).toUInt32.toUInt16.toUInt32.toInt32)) = (if ((x1 &&& (65535 : Int32)) &&& (65520 : Int32)) = (48 : Int32) then (if (9 : Int32) < ((x1 &&& (65535 : Int32)) &&& (15 : Int32)) then (0 : Int32) else (1 : Int32)) else (0 : Int32))) (fun z7 => (mkF m 100 #[.val (.int x1), .val (.int x2), .val (.int (x1 &&& (65535 : Int32))), .val (.int ((x1 &&& (65535 : Int32)).toUInt32.toUInt16.toUInt32.toInt32)), .val (.int (if ((x1 &&& (65535 : Int32)) &&& (65520 : Int32)) = (48 : Int32) then (if (9 : Int32) < ((x1 &&& (65535 : Int32)) &&& (15 : Int32)) then (0 : Int32) else (1 : Int32)) else (0 : Int32))), .val (.int (F1 ((x1 &&& (65535 : Int32)).toUInt32.toUInt16.toUInt32.toInt32))), .val (.int ((x2 &&& (2147483647 : Int32)) % (10 : Int32))), .val (.int (F1 (((48 : Int32) + ((x2 &&& (2147483647 : Int32)) % (10 : Int32))).toUInt32.toUInt16.toUInt32.toInt32))), .val (.int (F1 (47 : Int32))), .val (.int (F1 (58 : Int32)))] [(.int z7)])) (fun hc7 k7 => ?_) (fun hc7 k7 => ?_) ?_
    · refine XS.icmpNo X6.here hx rfl (hb hby at_77) rfl (teq hc7).2 ?_
      show Steps p.tables e below (T6.setTop (mkF m 80 #[.val (.int x1), .val (.int x2), .val (.int (x1 &&& (65535 : Int32))), .val (.int ((x1 &&& (65535 : Int32)).toUInt32.toUInt16.toUInt32.toInt32)), .val (.int (if ((x1 &&& (65535 : Int32)) &&& (65520 : Int32)) = (48 : Int32) then (if (9 : Int32) < ((x1 &&& (65535 : Int32)) &&& (15 : Int32)) then (0 : Int32) else (1 : Int32)) else (0 : Int32))), .val (.int (F1 ((x1 &&& (65535 : Int32)).toUInt32.toUInt16.toUInt32.toInt32))), .val (.int ((x2 &&& (2147483647 : Int32)) % (10 : Int32))), .val (.int (F1 (((48 : Int32) + ((x2 &&& (2147483647 : Int32)) % (10 : Int32))).toUInt32.toUInt16.toUInt32.toInt32))), .val (.int (F1 (47 : Int32))), .val (.int (F1 (58 : Int32)))] [])) _
      refine XS.iload X6.here hx rfl (hb hby at_80) rfl ?_
      show Steps p.tables e below (T6.setTop (mkF m 82 #[.val (.int x1), .val (.int x2), .val (.int (x1 &&& (65535 : Int32))), .val (.int ((x1 &&& (65535 : Int32)).toUInt32.toUInt16.toUInt32.toInt32)), .val (.int (if ((x1 &&& (65535 : Int32)) &&& (65520 : Int32)) = (48 : Int32) then (if (9 : Int32) < ((x1 &&& (65535 : Int32)) &&& (15 : Int32)) then (0 : Int32) else (1 : Int32)) else (0 : Int32))), .val (.int (F1 ((x1 &&& (65535 : Int32)).toUInt32.toUInt16.toUInt32.toInt32))), .val (.int ((x2 &&& (2147483647 : Int32)) % (10 : Int32))), .val (.int (F1 (((48 : Int32) + ((x2 &&& (2147483647 : Int32)) % (10 : Int32))).toUInt32.toUInt16.toUInt32.toInt32))), .val (.int (F1 (47 : Int32))), .val (.int (F1 (58 : Int32)))] [(.int (F1 (((48 : Int32) + ((x2 &&& (2147483647 : Int32)) % (10 : Int32))).toUInt32.toUInt16.toUInt32.toInt32)))])) _
      refine own_dia (u := ((0 : Int32) : Int32)) (v := (if (F1 (47 : Int32)) = (0 : Int32) then (if (F1 (58 : Int32)) = (0 : Int32) then (1 : Int32) else (0 : Int32)) else (0 : Int32))) ((F1 (((48 : Int32) + ((x2 &&& (2147483647 : Int32)) % (10 : Int32))).toUInt32.toUInt16.toUInt32.toInt32)) = (0 : Int32)) (fun z8 => (mkF m 100 #[.val (.int x1), .val (.int x2), .val (.int (x1 &&& (65535 : Int32))), .val (.int ((x1 &&& (65535 : Int32)).toUInt32.toUInt16.toUInt32.toInt32)), .val (.int (if ((x1 &&& (65535 : Int32)) &&& (65520 : Int32)) = (48 : Int32) then (if (9 : Int32) < ((x1 &&& (65535 : Int32)) &&& (15 : Int32)) then (0 : Int32) else (1 : Int32)) else (0 : Int32))), .val (.int (F1 ((x1 &&& (65535 : Int32)).toUInt32.toUInt16.toUInt32.toInt32))), .val (.int ((x2 &&& (2147483647 : Int32)) % (10 : Int32))), .val (.int (F1 (((48 : Int32) + ((x2 &&& (2147483647 : Int32)) % (10 : Int32))).toUInt32.toUInt16.toUInt32.toInt32))), .val (.int (F1 (47 : Int32))), .val (.int (F1 (58 : Int32)))] [(.int z8)])) (fun hc8 k8 => ?_) (fun hc8 k8 => ?_) ?_
      · refine XS.ifYes X6.here hx rfl (pc0 := 82) (pc' := 99) rfl (hb hby at_82) rfl ((if0 _ _).trans (teq hc8).1) (by decide) (by decide) ?_
        show Steps p.tables e below (T6.setTop (mkF m 99 #[.val (.int x1), .val (.int x2), .val (.int (x1 &&& (65535 : Int32))), .val (.int ((x1 &&& (65535 : Int32)).toUInt32.toUInt16.toUInt32.toInt32)), .val (.int (if ((x1 &&& (65535 : Int32)) &&& (65520 : Int32)) = (48 : Int32) then (if (9 : Int32) < ((x1 &&& (65535 : Int32)) &&& (15 : Int32)) then (0 : Int32) else (1 : Int32)) else (0 : Int32))), .val (.int (F1 ((x1 &&& (65535 : Int32)).toUInt32.toUInt16.toUInt32.toInt32))), .val (.int ((x2 &&& (2147483647 : Int32)) % (10 : Int32))), .val (.int (F1 (((48 : Int32) + ((x2 &&& (2147483647 : Int32)) % (10 : Int32))).toUInt32.toUInt16.toUInt32.toInt32))), .val (.int (F1 (47 : Int32))), .val (.int (F1 (58 : Int32)))] [])) _
        refine XS.iconst X6.here hx rfl (hb hby at_99) ?_
        exact k8
      · refine XS.ifNo X6.here hx rfl (hb hby at_82) rfl ((if0 _ _).trans (feq hc8).1) ?_
        show Steps p.tables e below (T6.setTop (mkF m 85 #[.val (.int x1), .val (.int x2), .val (.int (x1 &&& (65535 : Int32))), .val (.int ((x1 &&& (65535 : Int32)).toUInt32.toUInt16.toUInt32.toInt32)), .val (.int (if ((x1 &&& (65535 : Int32)) &&& (65520 : Int32)) = (48 : Int32) then (if (9 : Int32) < ((x1 &&& (65535 : Int32)) &&& (15 : Int32)) then (0 : Int32) else (1 : Int32)) else (0 : Int32))), .val (.int (F1 ((x1 &&& (65535 : Int32)).toUInt32.toUInt16.toUInt32.toInt32))), .val (.int ((x2 &&& (2147483647 : Int32)) % (10 : Int32))), .val (.int (F1 (((48 : Int32) + ((x2 &&& (2147483647 : Int32)) % (10 : Int32))).toUInt32.toUInt16.toUInt32.toInt32))), .val (.int (F1 (47 : Int32))), .val (.int (F1 (58 : Int32)))] [])) _
        refine XS.iload X6.here hx rfl (hb hby at_85) rfl ?_
        show Steps p.tables e below (T6.setTop (mkF m 87 #[.val (.int x1), .val (.int x2), .val (.int (x1 &&& (65535 : Int32))), .val (.int ((x1 &&& (65535 : Int32)).toUInt32.toUInt16.toUInt32.toInt32)), .val (.int (if ((x1 &&& (65535 : Int32)) &&& (65520 : Int32)) = (48 : Int32) then (if (9 : Int32) < ((x1 &&& (65535 : Int32)) &&& (15 : Int32)) then (0 : Int32) else (1 : Int32)) else (0 : Int32))), .val (.int (F1 ((x1 &&& (65535 : Int32)).toUInt32.toUInt16.toUInt32.toInt32))), .val (.int ((x2 &&& (2147483647 : Int32)) % (10 : Int32))), .val (.int (F1 (((48 : Int32) + ((x2 &&& (2147483647 : Int32)) % (10 : Int32))).toUInt32.toUInt16.toUInt32.toInt32))), .val (.int (F1 (47 : Int32))), .val (.int (F1 (58 : Int32)))] [(.int (F1 (47 : Int32)))])) _
        refine own_dia (u := ((if (F1 (58 : Int32)) = (0 : Int32) then (1 : Int32) else (0 : Int32)) : Int32)) (v := (0 : Int32)) ((F1 (47 : Int32)) = (0 : Int32)) (fun z9 => (mkF m 100 #[.val (.int x1), .val (.int x2), .val (.int (x1 &&& (65535 : Int32))), .val (.int ((x1 &&& (65535 : Int32)).toUInt32.toUInt16.toUInt32.toInt32)), .val (.int (if ((x1 &&& (65535 : Int32)) &&& (65520 : Int32)) = (48 : Int32) then (if (9 : Int32) < ((x1 &&& (65535 : Int32)) &&& (15 : Int32)) then (0 : Int32) else (1 : Int32)) else (0 : Int32))), .val (.int (F1 ((x1 &&& (65535 : Int32)).toUInt32.toUInt16.toUInt32.toInt32))), .val (.int ((x2 &&& (2147483647 : Int32)) % (10 : Int32))), .val (.int (F1 (((48 : Int32) + ((x2 &&& (2147483647 : Int32)) % (10 : Int32))).toUInt32.toUInt16.toUInt32.toInt32))), .val (.int (F1 (47 : Int32))), .val (.int (F1 (58 : Int32)))] [(.int z9)])) (fun hc9 k9 => ?_) (fun hc9 k9 => ?_) ?_
        · refine XS.ifNo X6.here hx rfl (hb hby at_87) rfl ((if0 _ _).trans (teq hc9).2) ?_
          show Steps p.tables e below (T6.setTop (mkF m 90 #[.val (.int x1), .val (.int x2), .val (.int (x1 &&& (65535 : Int32))), .val (.int ((x1 &&& (65535 : Int32)).toUInt32.toUInt16.toUInt32.toInt32)), .val (.int (if ((x1 &&& (65535 : Int32)) &&& (65520 : Int32)) = (48 : Int32) then (if (9 : Int32) < ((x1 &&& (65535 : Int32)) &&& (15 : Int32)) then (0 : Int32) else (1 : Int32)) else (0 : Int32))), .val (.int (F1 ((x1 &&& (65535 : Int32)).toUInt32.toUInt16.toUInt32.toInt32))), .val (.int ((x2 &&& (2147483647 : Int32)) % (10 : Int32))), .val (.int (F1 (((48 : Int32) + ((x2 &&& (2147483647 : Int32)) % (10 : Int32))).toUInt32.toUInt16.toUInt32.toInt32))), .val (.int (F1 (47 : Int32))), .val (.int (F1 (58 : Int32)))] [])) _
          refine XS.iload X6.here hx rfl (hb hby at_90) rfl ?_
          show Steps p.tables e below (T6.setTop (mkF m 92 #[.val (.int x1), .val (.int x2), .val (.int (x1 &&& (65535 : Int32))), .val (.int ((x1 &&& (65535 : Int32)).toUInt32.toUInt16.toUInt32.toInt32)), .val (.int (if ((x1 &&& (65535 : Int32)) &&& (65520 : Int32)) = (48 : Int32) then (if (9 : Int32) < ((x1 &&& (65535 : Int32)) &&& (15 : Int32)) then (0 : Int32) else (1 : Int32)) else (0 : Int32))), .val (.int (F1 ((x1 &&& (65535 : Int32)).toUInt32.toUInt16.toUInt32.toInt32))), .val (.int ((x2 &&& (2147483647 : Int32)) % (10 : Int32))), .val (.int (F1 (((48 : Int32) + ((x2 &&& (2147483647 : Int32)) % (10 : Int32))).toUInt32.toUInt16.toUInt32.toInt32))), .val (.int (F1 (47 : Int32))), .val (.int (F1 (58 : Int32)))] [(.int (F1 (58 : Int32)))])) _
          refine own_dia (u := ((1 : Int32) : Int32)) (v := (0 : Int32)) ((F1 (58 : Int32)) = (0 : Int32)) (fun z10 => (mkF m 100 #[.val (.int x1), .val (.int x2), .val (.int (x1 &&& (65535 : Int32))), .val (.int ((x1 &&& (65535 : Int32)).toUInt32.toUInt16.toUInt32.toInt32)), .val (.int (if ((x1 &&& (65535 : Int32)) &&& (65520 : Int32)) = (48 : Int32) then (if (9 : Int32) < ((x1 &&& (65535 : Int32)) &&& (15 : Int32)) then (0 : Int32) else (1 : Int32)) else (0 : Int32))), .val (.int (F1 ((x1 &&& (65535 : Int32)).toUInt32.toUInt16.toUInt32.toInt32))), .val (.int ((x2 &&& (2147483647 : Int32)) % (10 : Int32))), .val (.int (F1 (((48 : Int32) + ((x2 &&& (2147483647 : Int32)) % (10 : Int32))).toUInt32.toUInt16.toUInt32.toInt32))), .val (.int (F1 (47 : Int32))), .val (.int (F1 (58 : Int32)))] [(.int z10)])) (fun hc10 k10 => ?_) (fun hc10 k10 => ?_) ?_
          · refine XS.ifNo X6.here hx rfl (hb hby at_92) rfl ((if0 _ _).trans (teq hc10).2) ?_
            show Steps p.tables e below (T6.setTop (mkF m 95 #[.val (.int x1), .val (.int x2), .val (.int (x1 &&& (65535 : Int32))), .val (.int ((x1 &&& (65535 : Int32)).toUInt32.toUInt16.toUInt32.toInt32)), .val (.int (if ((x1 &&& (65535 : Int32)) &&& (65520 : Int32)) = (48 : Int32) then (if (9 : Int32) < ((x1 &&& (65535 : Int32)) &&& (15 : Int32)) then (0 : Int32) else (1 : Int32)) else (0 : Int32))), .val (.int (F1 ((x1 &&& (65535 : Int32)).toUInt32.toUInt16.toUInt32.toInt32))), .val (.int ((x2 &&& (2147483647 : Int32)) % (10 : Int32))), .val (.int (F1 (((48 : Int32) + ((x2 &&& (2147483647 : Int32)) % (10 : Int32))).toUInt32.toUInt16.toUInt32.toInt32))), .val (.int (F1 (47 : Int32))), .val (.int (F1 (58 : Int32)))] [])) _
            refine XS.iconst X6.here hx rfl (hb hby at_95) ?_
            show Steps p.tables e below (T6.setTop (mkF m 96 #[.val (.int x1), .val (.int x2), .val (.int (x1 &&& (65535 : Int32))), .val (.int ((x1 &&& (65535 : Int32)).toUInt32.toUInt16.toUInt32.toInt32)), .val (.int (if ((x1 &&& (65535 : Int32)) &&& (65520 : Int32)) = (48 : Int32) then (if (9 : Int32) < ((x1 &&& (65535 : Int32)) &&& (15 : Int32)) then (0 : Int32) else (1 : Int32)) else (0 : Int32))), .val (.int (F1 ((x1 &&& (65535 : Int32)).toUInt32.toUInt16.toUInt32.toInt32))), .val (.int ((x2 &&& (2147483647 : Int32)) % (10 : Int32))), .val (.int (F1 (((48 : Int32) + ((x2 &&& (2147483647 : Int32)) % (10 : Int32))).toUInt32.toUInt16.toUInt32.toInt32))), .val (.int (F1 (47 : Int32))), .val (.int (F1 (58 : Int32)))] [(.int (1 : Int32))])) _
            refine XS.goto X6.here hx rfl (pc0 := 96) (pc' := 100) rfl (hb hby at_96) (by decide) (by decide) ?_
            exact k10
          · refine XS.ifYes X6.here hx rfl (pc0 := 92) (pc' := 99) rfl (hb hby at_92) rfl ((if0 _ _).trans (feq hc10).2) (by decide) (by decide) ?_
            show Steps p.tables e below (T6.setTop (mkF m 99 #[.val (.int x1), .val (.int x2), .val (.int (x1 &&& (65535 : Int32))), .val (.int ((x1 &&& (65535 : Int32)).toUInt32.toUInt16.toUInt32.toInt32)), .val (.int (if ((x1 &&& (65535 : Int32)) &&& (65520 : Int32)) = (48 : Int32) then (if (9 : Int32) < ((x1 &&& (65535 : Int32)) &&& (15 : Int32)) then (0 : Int32) else (1 : Int32)) else (0 : Int32))), .val (.int (F1 ((x1 &&& (65535 : Int32)).toUInt32.toUInt16.toUInt32.toInt32))), .val (.int ((x2 &&& (2147483647 : Int32)) % (10 : Int32))), .val (.int (F1 (((48 : Int32) + ((x2 &&& (2147483647 : Int32)) % (10 : Int32))).toUInt32.toUInt16.toUInt32.toInt32))), .val (.int (F1 (47 : Int32))), .val (.int (F1 (58 : Int32)))] [])) _
            refine XS.iconst X6.here hx rfl (hb hby at_99) ?_
            exact k10
          -- meets at 100
          exact k9
        · refine XS.ifYes X6.here hx rfl (pc0 := 87) (pc' := 99) rfl (hb hby at_87) rfl ((if0 _ _).trans (feq hc9).2) (by decide) (by decide) ?_
          show Steps p.tables e below (T6.setTop (mkF m 99 #[.val (.int x1), .val (.int x2), .val (.int (x1 &&& (65535 : Int32))), .val (.int ((x1 &&& (65535 : Int32)).toUInt32.toUInt16.toUInt32.toInt32)), .val (.int (if ((x1 &&& (65535 : Int32)) &&& (65520 : Int32)) = (48 : Int32) then (if (9 : Int32) < ((x1 &&& (65535 : Int32)) &&& (15 : Int32)) then (0 : Int32) else (1 : Int32)) else (0 : Int32))), .val (.int (F1 ((x1 &&& (65535 : Int32)).toUInt32.toUInt16.toUInt32.toInt32))), .val (.int ((x2 &&& (2147483647 : Int32)) % (10 : Int32))), .val (.int (F1 (((48 : Int32) + ((x2 &&& (2147483647 : Int32)) % (10 : Int32))).toUInt32.toUInt16.toUInt32.toInt32))), .val (.int (F1 (47 : Int32))), .val (.int (F1 (58 : Int32)))] [])) _
          refine XS.iconst X6.here hx rfl (hb hby at_99) ?_
          exact k9
        -- meets at 100
        exact k8
      -- meets at 100
      exact k7
    · refine XS.icmpYes X6.here hx rfl (pc0 := 77) (pc' := 99) rfl (hb hby at_77) rfl (feq hc7).2 (by decide) (by decide) ?_
      show Steps p.tables e below (T6.setTop (mkF m 99 #[.val (.int x1), .val (.int x2), .val (.int (x1 &&& (65535 : Int32))), .val (.int ((x1 &&& (65535 : Int32)).toUInt32.toUInt16.toUInt32.toInt32)), .val (.int (if ((x1 &&& (65535 : Int32)) &&& (65520 : Int32)) = (48 : Int32) then (if (9 : Int32) < ((x1 &&& (65535 : Int32)) &&& (15 : Int32)) then (0 : Int32) else (1 : Int32)) else (0 : Int32))), .val (.int (F1 ((x1 &&& (65535 : Int32)).toUInt32.toUInt16.toUInt32.toInt32))), .val (.int ((x2 &&& (2147483647 : Int32)) % (10 : Int32))), .val (.int (F1 (((48 : Int32) + ((x2 &&& (2147483647 : Int32)) % (10 : Int32))).toUInt32.toUInt16.toUInt32.toInt32))), .val (.int (F1 (47 : Int32))), .val (.int (F1 (58 : Int32)))] [])) _
      refine XS.iconst X6.here hx rfl (hb hby at_99) ?_
      exact k7
    -- meets at 100
    show Steps p.tables e below (T6.setTop (mkF m 100 #[.val (.int x1), .val (.int x2), .val (.int (x1 &&& (65535 : Int32))), .val (.int ((x1 &&& (65535 : Int32)).toUInt32.toUInt16.toUInt32.toInt32)), .val (.int (if ((x1 &&& (65535 : Int32)) &&& (65520 : Int32)) = (48 : Int32) then (if (9 : Int32) < ((x1 &&& (65535 : Int32)) &&& (15 : Int32)) then (0 : Int32) else (1 : Int32)) else (0 : Int32))), .val (.int (F1 ((x1 &&& (65535 : Int32)).toUInt32.toUInt16.toUInt32.toInt32))), .val (.int ((x2 &&& (2147483647 : Int32)) % (10 : Int32))), .val (.int (F1 (((48 : Int32) + ((x2 &&& (2147483647 : Int32)) % (10 : Int32))).toUInt32.toUInt16.toUInt32.toInt32))), .val (.int (F1 (47 : Int32))), .val (.int (F1 (58 : Int32)))] [(.int (if (F1 ((x1 &&& (65535 : Int32)).toUInt32.toUInt16.toUInt32.toInt32)) = (if ((x1 &&& (65535 : Int32)) &&& (65520 : Int32)) = (48 : Int32) then (if (9 : Int32) < ((x1 &&& (65535 : Int32)) &&& (15 : Int32)) then (0 : Int32) else (1 : Int32)) else (0 : Int32)) then (if (F1 (((48 : Int32) + ((x2 &&& (2147483647 : Int32)) % (10 : Int32))).toUInt32.toUInt16.toUInt32.toInt32)) = (0 : Int32) then (0 : Int32) else (if (F1 (47 : Int32)) = (0 : Int32) then (if (F1 (58 : Int32)) = (0 : Int32) then (1 : Int32) else (0 : Int32)) else (0 : Int32))) else (0 : Int32)))])) _
    exact retN X6 hx (t := .boolean) Bd.returns (by simp) (hb hby at_100) (by rw [own_nb (own_b01 (own_b01 (Or.inl rfl) (own_b01 (own_b01 (Or.inr rfl) (Or.inl rfl)) (Or.inl rfl))) (Or.inl rfl))]; exact hr)
  · show Q0 Z x1 x2 h0 n0 _ T6.heap _
    rw [e6]
    exact ⟨rfl, N6⟩

theorem own_nat {v : Int32} (h : 0 ≤ v.toInt) : v.toInt = (v.toBitVec.toNat : Int) := by
  have hb := v.toBitVec.isLt
  have e : v.toInt = v.toBitVec.toInt := rfl
  rw [e, BitVec.toInt_eq_toNat_cond] at h ⊢
  by_cases hc : 2 * v.toBitVec.toNat < 2 ^ 32
  · rw [if_pos hc]
  · rw [if_neg hc] at h; omega
theorem own_ofnat {v : Int32} {n : Nat} (h : v.toBitVec.toNat = n) (hn : n < 2 ^ 31) : v.toInt = (n : Int) := by
  have e : v.toInt = v.toBitVec.toInt := rfl
  rw [e, BitVec.toInt_eq_toNat_cond, h, if_pos (by omega)]

theorem own_i2c {v : Int32} (h0 : 0 ≤ v.toInt) (h1 : v.toInt < 65536) : v.toUInt32.toUInt16.toUInt32.toInt32 = v := by
  have e := own_nat h0
  apply Int32.toBitVec_inj.mp
  apply BitVec.eq_of_toNat_eq
  have e1 : (v.toUInt32.toUInt16.toUInt32.toInt32).toBitVec.toNat = (v.toUInt32.toUInt16.toUInt32).toNat := rfl
  rw [e1, UInt16.toNat_toUInt32, UInt32.toNat_toUInt16]
  show v.toBitVec.toNat % 2 ^ 16 = _
  omega

theorem own_nat_and (n : Nat) (h : n < 65536) : n &&& 65520 = n - n % 16 := by
  have h1 : n = 2 ^ 4 * (n / 16) + n % 16 := by omega
  have h2 : 2 ^ 4 * (n / 16) + n % 16 = 2 ^ 4 * (n / 16) ||| n % 16 := Nat.two_pow_add_eq_or_of_lt (by omega) _
  have h3 : ∀ r, r < 16 → r &&& 65520 = 0 := by decide
  have h4 : 2 ^ 4 * (n / 16) &&& 65520 = 2 ^ 4 * (n / 16) := by
    have e1 : 2 ^ 4 * (n / 16) = (n / 16) <<< 4 := by rw [Nat.shiftLeft_eq, Nat.mul_comm]
    have e2 : 65520 = (2 ^ 12 - 1) <<< 4 := by decide
    rw [e1, e2, ← Nat.shiftLeft_and_distrib, Nat.and_two_pow_sub_one_eq_mod, Nat.mod_eq_of_lt (by omega)]
  have h5 : n &&& 65520 = 2 ^ 4 * (n / 16) := by
    calc n &&& 65520 = (2 ^ 4 * (n / 16) ||| n % 16) &&& 65520 := by rw [← h2, ← h1]
      _ = (2 ^ 4 * (n / 16) &&& 65520) ||| (n % 16 &&& 65520) := Nat.and_or_distrib_right ..
      _ = 2 ^ 4 * (n / 16) := by rw [h4, h3 _ (by omega), Nat.or_zero]
  omega
theorem own_and {v : Int32} (h0 : 0 ≤ v.toInt) (h1 : v.toInt < 65536) : (v &&& (65520 : Int32)).toInt = v.toInt - v.toInt % 16 := by
  have e := own_nat h0
  have e1 : (v &&& (65520 : Int32)).toBitVec.toNat = v.toBitVec.toNat &&& 65520 := by
    show (v.toBitVec &&& 65520#32).toNat = _
    rw [BitVec.toNat_and]; rfl
  rw [own_nat_and _ (by omega)] at e1
  rw [own_ofnat e1 (by omega), e]; omega
theorem own_a (x1 : Int32) : F1 ((x1 &&& (65535 : Int32)).toUInt32.toUInt16.toUInt32.toInt32) = (if ((x1 &&& (65535 : Int32)) &&& (65520 : Int32)) = (48 : Int32) then (if (9 : Int32) < ((x1 &&& (65535 : Int32)) &&& (15 : Int32)) then (0 : Int32) else (1 : Int32)) else (0 : Int32)) := by
  have e1 : (x1 &&& (65535 : Int32)).toInt = x1.toInt % 2 ^ 16 := Jvm.Kit.i32_mask x1 65535 (by decide) (by decide)
  have h0 : 0 ≤ (x1 &&& (65535 : Int32)).toInt := by omega
  have h1 : (x1 &&& (65535 : Int32)).toInt < 65536 := by omega
  rw [own_i2c h0 h1]
  clear e1
  generalize (x1 &&& (65535 : Int32)) = v at h0 h1 ⊢
  have e2 := own_and h0 h1
  have e3 : (v &&& (15 : Int32)).toInt = v.toInt % 2 ^ 4 := Jvm.Kit.i32_mask v 15 (by decide) (by decide)
  have l48 : (48 : Int32).toInt = 48 := rfl
  have l57 : (57 : Int32).toInt = 57 := rfl
  have l9 : (9 : Int32).toInt = 9 := rfl
  unfold F1
  simp only [Int32.lt_iff_toInt_lt, ← Int32.toInt_inj, e2, e3, l48, l57, l9]
  (repeat' split) <;> first | rfl | (exfalso; omega)
theorem own_b (x2 : Int32) : ¬ F1 (((48 : Int32) + ((x2 &&& (2147483647 : Int32)) % (10 : Int32))).toUInt32.toUInt16.toUInt32.toInt32) = (0 : Int32) := by
  have e1 : (x2 &&& (2147483647 : Int32)).toInt = x2.toInt % 2 ^ 31 := Jvm.Kit.i32_mask x2 2147483647 (by decide) (by decide)
  have e2 : ((x2 &&& (2147483647 : Int32)) % (10 : Int32)).toInt = (x2 &&& (2147483647 : Int32)).toInt % (10 : Int32).toInt := Jvm.Kit.i32_rem_nonneg (by rw [e1]; omega)
  have l10 : (10 : Int32).toInt = 10 := rfl
  have l48 : (48 : Int32).toInt = 48 := rfl
  have l57 : (57 : Int32).toInt = 57 := rfl
  rw [l10] at e2
  have e3 : ((48 : Int32) + ((x2 &&& (2147483647 : Int32)) % (10 : Int32))).toInt = (48 : Int32).toInt + ((x2 &&& (2147483647 : Int32)) % (10 : Int32)).toInt := Jvm.Kit.i32_add (by rw [l48]; omega) (by rw [l48]; omega)
  rw [l48] at e3
  rw [own_i2c (by omega) (by omega)]
  unfold F1
  rw [if_neg (by rw [Int32.lt_iff_toInt_lt, e3, l48]; omega), if_neg (by rw [Int32.lt_iff_toInt_lt, e3, l57]; omega)]
  decide
theorem own_plain (x1 x2 : Int32) : F0 x1 x2 = 1 := by
  unfold F0
  rw [if_pos (own_a x1), if_neg (own_b x2), if_pos (by decide), if_pos (by decide)]

set_option maxRecDepth 65536 in
set_option maxHeartbeats 40000000 in
theorem comes_1 {Post : Tables → Env → Array Value → State → Outcome → State → Prop} (hpost : ∀ tb e args s v u, (limb_1_1.after args s (.returned v) u = true ∧ limb_1_2.after args s (.returned v) u = true ∧ True) → FrameEnd s (.returned v) u (Jvm.fieldLocs frame_1_writes args s ++ Jvm.arrayLocs frame_1_arrays args s ++ Jvm.staticLocs frame_1_statics s) 0 0 → Post tb e args s (.returned v) u) :
    ArmFor flags0 classFile x code maxLocals ret World_1 tables_1 room_1 Calls_1 rest_1 Pre_1 Post := by
  intro l hfl _ _ p e ha hc hk s m args below hf hA hF happ hP
  obtain ⟨hcalls, hrest, hpre⟩ := hP
  obtain ⟨-, -, -, hnamed, -, -, -, hat⟩ := (Spec.applies_iff hf).mp happ
  obtain ⟨hg, hn⟩ := and_e (Cond.before_iff.mp (show (Jvm.Cond.and given_1 narrow_1).before args s = true from hpre))
  obtain ⟨hcount, t0⟩ := and_e hg
  obtain ⟨k0, t1⟩ := and_e t0
  have k1 := t1
  obtain ⟨w0, w1, rfl⟩ : ∃ w0 w1 : Value, args = #[w0, w1] := by
    have hs : args.size = 2 := by simpa [Cond.value, given_1] using hcount
    obtain ⟨L⟩ := args
    match L, hs with
    | [w0, w1], _ => exact ⟨w0, w1, rfl⟩
  have hw := fun d (hd : d ∈ tables_1) => atoms_spec (ws := Jvm.Cond.code x code maxLocals ret :: tables_1) hat d (List.mem_cons_of_mem _ hd)
  obtain ⟨i0, ei0⟩ := is_v k0
  obtain rfl : w0 = (.int i0) := Option.some.inj ei0
  obtain ⟨i1, ei1⟩ := is_v k1
  obtain rfl : w1 = (.int i1) := Option.some.inj ei1
  obtain ⟨n, o, h1, h2, h3, _, L, rfl, ⟨hv, N⟩, hq⟩ := rm0 l s _ hw tables_1 i0 i1 s.heap s.heap.size (Nat.le_refl _) p e ha hc hk s m _ below hf ((Spec.applies_iff_loose hf).mp happ).1 ⟨rfl, State.Warmed39.refl s, rfl⟩ trivial
  rw [own_plain i0 i1] at hv
  subst hv
  refine ⟨n, _, h1, h2, h3, hpost _ _ _ _ _ _ ⟨Cond.after_iff.mpr rfl, Cond.after_iff.mpr (eq_i res_at (Term.int_eval (1)) rfl), trivial⟩ ⟨hq.1, hq.2.1, (hq.2.2.sift fun y hy => Or.inr (N y hy)).mono (by decide) (by decide)⟩⟩
theorem main_1_1 : Claimed_1_1 := comes_1 fun _ _ _ _ _ _ h hF => ⟨h.1, hF⟩
theorem main_1_2 : Claimed_1_2 := comes_1 fun _ _ _ _ _ _ h hF => ⟨h.2.1, hF⟩
end Jvm.Pilot.@@N@@
namespace Jvm.Pilot.@@N@@
open Jvm Jvm.ClassFile Sem Op Lib Jvm.Free Jvm.Stand Jvm.Pilot.@@N@@.Jvm.D
/-! MADE BY PROGRAM (witnessworld.py) out of the Statement's table words and the real class files: 9 classes; the members and pool entries that the words name. The judged class is class 1, her method 1. -/
namespace start1
open Jvm.ClassFile
def u (s : String) : CpInfo := .utf8 (stringToUtf16 s)
/-- a pool by its gaps: so many unusable entries, then the entry; so many at the end -/
def gap : Nat → List CpInfo → List CpInfo
  | 0, r => r
  | n + 1, r => .unusable :: gap n r
def poolList (es : List (Nat × CpInfo)) (last : Nat) : List CpInfo := es.foldr (fun e r => gap e.1 (e.2 :: r)) (gap last [])
def pool (es : List (Nat × CpInfo)) (last : Nat) : Array CpInfo := ⟨poolList es last⟩
def fileOf (pool : Array CpInfo) (this : Nat) (attrs : Array Attribute := #[]) (ms : Array MethodInfo := #[]) (fl : Nat := 33) (sup : Nat := 0) (ifs : Array Nat := #[]) (fds : Array FieldInfo := #[]) : ClassFile where
  minorVersion := 0
  majorVersion := 65
  constantPool := pool
  accessFlags := fl
  thisClass := this
  superClass := sup
  interfaces := ifs
  fields := fds
  methods := ms
  attributes := attrs
def plain (name : String) (sup : Option ClassId) : Class where
  name := name
  kind := .ordinary
  loader := none
  accessFlags := 33
  super := sup
  interfaces := #[]
  cf := none
  fields := #[]
  methods := #[]
  instanceTypes := #[]
  staticTypes := #[]
  resolved := #[]
  callSites := []
  init := .initialized
  statics := none
  mirror := none

def pool0 : Array CpInfo := pool [(5, u "<init>"), (0, u "()V"), (1, .class_ 10), (1, u "java/lang/Object")] 113

def k0m0 : Method := { name := "<init>", desc := "()V", sig := { parameters := [], returnType := none }, accessFlags := 1, code := none }
/-- java/lang/Object -/
def k0 : Class := { plain "java/lang/Object" none with
  accessFlags := 33
  interfaces := #[]
  cf := some (fileOf pool0 8 #[] #[{ accessFlags := 1, nameIndex := 5, descriptorIndex := 6, attributes := #[] }] 33 0 #[] #[])
  fields := #[]
  methods := #[k0m0]
  instanceTypes := #[]
  staticTypes := #[]
  resolved := Array.replicate 124 none
  statics := none }

def pool1 : Array CpInfo := pool [(2, .class_ 4), (1, u "java/lang/Object"), (0, u "<init>"), (0, u "()V"), (0, .integer 65535), (0, .integer 65520), (0, .methodref 10 11), (0, .class_ 12), (0, .nameAndType 13 14), (0, u "com/example/trunkline/trunkline/message/Syntax"), (0, u "isDigit"), (0, u "(C)Z"), (0, .integer 2147483647), (0, .class_ 17), (0, u "com/example/trunkline/trunkline/message/SyntaxIsDigitPinLaw"), (2, u "law"), (0, u "(II)Z")] 3

def k1m0 : Method := { name := "<init>", desc := "()V", sig := { parameters := [], returnType := none }, accessFlags := 1, code := none }
def k1c1 : Code := { maxStack := 2, maxLocals := 10, code := code, exceptionTable := #[], attributes := #[] }
def k1m1 : Method := { name := "law", desc := "(II)Z", sig := { parameters := [.int, .int], returnType := some .boolean }, accessFlags := 9, code := some k1c1 }
/-- com/example/trunkline/trunkline/message/SyntaxIsDigitPinLaw -/
def k1 : Class := { plain "com/example/trunkline/trunkline/message/SyntaxIsDigitPinLaw" (some 0) with
  accessFlags := 49
  interfaces := #[]
  cf := some (fileOf pool1 16 #[] #[{ accessFlags := 1, nameIndex := 5, descriptorIndex := 6, attributes := #[] }, { accessFlags := 9, nameIndex := 20, descriptorIndex := 21, attributes := #[] }] 49 2 #[] #[])
  fields := #[]
  methods := #[k1m0, k1m1]
  instanceTypes := #[]
  staticTypes := #[]
  resolved := Array.replicate 25 none
  statics := none }

def pool2 : Array CpInfo := pool [(2, .class_ 4), (1, u "java/lang/Object"), (0, u "<init>"), (0, u "()V"), (7, .class_ 16), (1, u "com/example/trunkline/trunkline/message/Syntax"), (9, u "(C)Z"), (43, u "isDigit"), (103, u "TOKEN_SYMBOLS"), (0, u "Ljava/lang/String;"), (1, u "MARKS"), (0, u "PORT_DIGITS"), (0, u "I"), (1, u "LONG_DIGITS")] 37

def k2m0 : Method := { name := "<init>", desc := "()V", sig := { parameters := [], returnType := none }, accessFlags := 2, code := none }
def k2c1 : Code := { maxStack := 2, maxLocals := 1, code := prog_38_method_23_code, exceptionTable := #[], attributes := #[] }
def k2m1 : Method := { name := "isDigit", desc := "(C)Z", sig := { parameters := [.char], returnType := some .boolean }, accessFlags := 8, code := some k2c1 }
/-- com/example/trunkline/trunkline/message/Syntax -/
def k2 : Class := { plain "com/example/trunkline/trunkline/message/Syntax" (some 0) with
  accessFlags := 32
  interfaces := #[]
  cf := some (fileOf pool2 14 #[] #[{ accessFlags := 2, nameIndex := 5, descriptorIndex := 6, attributes := #[] }, { accessFlags := 8, nameIndex := 70, descriptorIndex := 26, attributes := #[] }] 32 2 #[] #[{ accessFlags := 26, nameIndex := 174, descriptorIndex := 175, attributes := #[] }, { accessFlags := 26, nameIndex := 177, descriptorIndex := 175, attributes := #[] }, { accessFlags := 26, nameIndex := 178, descriptorIndex := 179, attributes := #[] }, { accessFlags := 26, nameIndex := 181, descriptorIndex := 179, attributes := #[] }])
  fields := #[{ name := "TOKEN_SYMBOLS", type := (.object "java/lang/String"), accessFlags := 26, slot := 0, constantValue := 0 }, { name := "MARKS", type := (.object "java/lang/String"), accessFlags := 26, slot := 1, constantValue := 0 }, { name := "PORT_DIGITS", type := .int, accessFlags := 26, slot := 2, constantValue := 0 }, { name := "LONG_DIGITS", type := .int, accessFlags := 26, slot := 3, constantValue := 0 }]
  methods := #[k2m0, k2m1]
  instanceTypes := #[]
  staticTypes := #[(.object "java/lang/String"), (.object "java/lang/String"), .int, .int]
  resolved := Array.replicate 219 none
  statics := none }

def pool3 : Array CpInfo := pool [(1, u "java/lang/Cloneable"), (0, .class_ 1), (0, u "java/lang/Object"), (0, .class_ 3)] 3

/-- java/lang/Cloneable -/
def k3 : Class := { plain "java/lang/Cloneable" (some 0) with
  accessFlags := 1537
  interfaces := #[]
  cf := some (fileOf pool3 2 #[] #[] 1537 4 #[] #[])
  fields := #[]
  methods := #[]
  instanceTypes := #[]
  staticTypes := #[]
  resolved := Array.replicate 8 none
  statics := none }

def pool4 : Array CpInfo := pool [(1, u "java/io/Serializable"), (0, .class_ 1), (0, u "java/lang/Object"), (0, .class_ 3)] 3

/-- java/io/Serializable -/
def k4 : Class := { plain "java/io/Serializable" (some 0) with
  accessFlags := 1537
  interfaces := #[]
  cf := some (fileOf pool4 2 #[] #[] 1537 4 #[] #[])
  fields := #[]
  methods := #[]
  instanceTypes := #[]
  staticTypes := #[]
  resolved := Array.replicate 8 none
  statics := none }

/-- the primitive byte -/
def k5 : Class := { plain "byte" none with kind := .primitive 'B', accessFlags := 0x411 }
/-- [B -/
def k6 : Class := { plain "[B" (some 0) with kind := .array 5 .byte, interfaces := #[3, 4], accessFlags := 1041 }

/-- the primitive int -/
def k7 : Class := { plain "int" none with kind := .primitive 'I', accessFlags := 0x411 }
/-- [I -/
def k8 : Class := { plain "[I" (some 0) with kind := .array 7 .int, interfaces := #[3, 4], accessFlags := 1041 }

def heap : Heap := #[]
def classes : Array Class := #[k0, k1, k2, k3, k4, k5, k6, k7, k8]
def interned : List (Array UInt16 × Addr) := []
def slotsUsed : Nat := 0
def theMethod : MethodId := ⟨1, 1⟩
def args0 : Array Value := #[.int 5, .int 5]
def aboutOver (below : List Frame) : State where
  vm := { classes := classes, interned := interned.toArray }
  heap := heap
  slotsUsed := slotsUsed
  threads := #[{ frames := .invoking theMethod args0 :: below }]
def below0 : List Frame := [.native { method := ⟨0, 0⟩, args := #[] }]
def about1 : State := aboutOver below0
def p0 : Program := .bare "" "" ""
def e0 : Env := launch0.env 0 0 0
theorem w_frames : about1.frames = Frame.invoking theMethod args0 :: below0 := rfl
set_option maxRecDepth 65536 in
theorem w_args : argsFit about1.vm theMethod args0 = true := by decide +kernel
set_option maxRecDepth 65536 in
theorem w_heap : heapFits about1 = true := by decide +kernel
set_option maxRecDepth 65536 in
theorem w_runnable : about1.curStatus? = some .runnable := by decide +kernel
set_option maxRecDepth 65536 in
theorem w_alone : about1.alone = true := by decide +kernel
set_option maxRecDepth 65536 in
theorem w_named : about1.methodNamed? x = some theMethod := by decide +kernel
set_option maxRecDepth 65536 in
theorem w_hears : about1.hears theMethod below0 = true := by decide +kernel
set_option maxRecDepth 65536 in
theorem w_ripe : about1.ripe theMethod args0 below0 = true := by decide +kernel
theorem w_running : about1.status = .running := rfl
set_option maxRecDepth 65536 in
theorem w_room : about1.hasRoom e0.platform room_1 = true :=
  launch0.hasRoom_least _ room_1 (by decide +kernel) (by decide +kernel) (by decide +kernel) (by decide +kernel) (by decide +kernel) (by decide +kernel)
theorem allAtoms_all (ts : List Jvm.Cond) (a : Array Jvm.Value) (st : Jvm.State) : (allAtoms ts).before a st = ts.all (fun c => c.before a st) := by
  induction ts with
  | nil => rfl
  | cons c t ih =>
    show (Jvm.Cond.and c (allAtoms t)).before a st = _
    rw [Jvm.Cond.before_and, ih, List.all_cons]
def words1 : List Jvm.Cond := Jvm.Cond.code x code maxLocals ret :: tables_1
/-- a 'code' word, met by the world's own term for the bytes: nothing is compared byte by byte -/
theorem code_word {y : MethodName} {bytes : ByteArray} {mx : Nat} {rt : Option FieldType} {a : Array Value} {s : State} {m : MethodId} {meth : Method} {c : Code} (h1 : s.methodNamed? y = some m) (h2 : s.vm.method? m = some meth) (h3 : meth.code = some c) (h4 : c.code = bytes)
    (h5 : (c.maxLocals == mx && c.exceptionTable.isEmpty && decide (c.maxStack ≤ mostOperands) && decide (meth.sig.returnType = rt) && !meth.locks && decide (parseMethodDescriptor y.desc = some meth.sig)) = true) : (Jvm.Cond.code y bytes mx rt).before a s = true := by
  simp only [Bool.and_eq_true, beq_iff_eq, Bool.not_eq_true', decide_eq_true_eq] at h5
  obtain ⟨⟨⟨⟨⟨g1, g2⟩, g3⟩, g4⟩, g5⟩, g6⟩ := h5
  simp [Cond.before, Cond.holds, Cond.value, h1, h2, h3, h4, g1, g2, g3, g4, g5, g6]
def isCode : Jvm.Cond → Bool
  | .code _ _ _ _ => true
  | _ => false
theorem all_split {L : List Jvm.Cond} {P : Jvm.Cond → Bool} (h1 : L.all (fun c => isCode c || P c) = true) (h2 : ∀ c ∈ L.filter isCode, P c = true) : L.all P = true := by
  refine List.all_eq_true.mpr fun c hc => ?_
  have h := List.all_eq_true.mp h1 c hc
  rcases Bool.eq_false_or_eq_true (isCode c) with hi | hi
  · exact h2 c (List.mem_filter.mpr ⟨hc, hi⟩)
  · simpa [hi] using h
set_option maxRecDepth 65536 in
theorem w_c0 : (Jvm.Cond.code x code maxLocals ret).before args0 about1 = true := code_word (m := ⟨1, 1⟩) (meth := k1m1) (c := k1c1) (by decide +kernel) rfl rfl rfl (by decide +kernel)
set_option maxRecDepth 65536 in
theorem w_c1 : (Jvm.Cond.code ({ cls := "com/example/trunkline/trunkline/message/Syntax", name := "isDigit", desc := "(C)Z" } : Jvm.MethodName) prog_38_method_23_code (1 : Nat) (Option.some Jvm.ClassFile.FieldType.boolean)).before args0 about1 = true := code_word (m := ⟨2, 1⟩) (meth := k2m1) (c := k2c1) (by decide +kernel) rfl rfl rfl (by decide +kernel)
def codes1 : List Jvm.Cond := [Jvm.Cond.code x code maxLocals ret, Jvm.Cond.code ({ cls := "com/example/trunkline/trunkline/message/Syntax", name := "isDigit", desc := "(C)Z" } : Jvm.MethodName) prog_38_method_23_code (1 : Nat) (Option.some Jvm.ClassFile.FieldType.boolean)]
set_option maxRecDepth 65536 in
theorem codes_eq : words1.filter isCode = codes1 := rfl
theorem w_codes : ∀ c ∈ words1.filter isCode, c.before args0 about1 = true := by
  rw [codes_eq]
  intro c hc
  simp only [codes1, List.mem_cons, List.not_mem_nil, or_false] at hc
  rcases hc with rfl | rfl
  · exact w_c0
  · exact w_c1
set_option maxRecDepth 65536 in
theorem w_t1 : words1.all (fun c => isCode c || c.before args0 about1) = true := by decide +kernel
theorem w_tables : (allAtoms (Jvm.Cond.code x code maxLocals ret :: tables_1)).before args0 about1 = true := by
  rw [allAtoms_all]
  show words1.all (fun c => c.before args0 about1) = true
  refine all_split ?_ w_codes
  rw [w_t1]
set_option maxRecDepth 65536 in
theorem w_case : (Jvm.Cond.and given_1 narrow_1).before args0 about1 = true := by decide +kernel
theorem w_applies : (headSpec (Jvm.Cond.code x code maxLocals ret :: tables_1) room_1).applies x e0.platform about1 = true :=
  (Spec.applies_iff w_frames).mpr ⟨w_running, w_runnable, w_alone, w_named, w_hears, w_ripe, w_room, w_tables⟩
theorem atStart : AtStart classFile x code maxLocals ret World_1 tables_1 room_1 Calls_1 rest_1 Pre_1 launch0 p0 e0 about1 theMethod args0 below0 :=
  ⟨lists_1, trivial, launch0.admits_env _ _ _, launch0.least_env, fairChoices_fair.cas, fairChoices_fair.clock, w_frames, w_args, w_heap, w_applies, trivial, trivial, w_case⟩
end start1
theorem witness_1 : WitnessClaimed_1 := ⟨start1.p0, start1.e0, start1.about1, start1.theMethod, start1.args0, start1.below0, start1.atStart⟩
end Jvm.Pilot.@@N@@
