import JvmDerived
import JvmDerived.Pilot.@@N@@Statement
import JvmDerived.Pilot.@@N@@Code
set_option linter.unusedVariables false
set_option linter.unusedSimpArgs false
@@BLOCK:NumsL.lean.txt@@
namespace Jvm.RoadKit
open Sem ClassFile Op Lib Jvm.Stand Jvm.Free Jvm.LawKit
section New
variable {p : Program} {l : Launch} {e : Env} {R : Room} {s : State} {m : MethodId} {args : Array Value} {below : List Frame} {meth : Method} {c : Code} {T : State} {locs : List Loc} {cells slots : Nat}
theorem retI (X : Stand p l e R s m args below meth c T locs cells slots) (hx : p.tables.exec = Jvm.exec) {pc : Nat} {Ls : Array Slot} {z : Int32} {rest : List Value} (hret : meth.sig.returnType = some .int) (hd : decode c.code pc = .ok (.ireturn, 1)) {fs : List Frame}
    (hl : ∀ (f : JFrame) (acts : List Action), f.method = m → f.locked = none → f.entered = [] → (doReturn e (T.setTop f) acts (some (.int z))).1 = T.setFrames fs) : Steps p.tables e below (T.setTop (mkF m pc Ls (.int z :: rest))) (T.setFrames fs) := by
  have hm' : T.vm.method? m = some meth := X.method'
  have hn : narrow .int (.int z) = .int z := rfl
  show Steps p.tables e below (T.setTop { method := m, pc := pc, locals := Ls, stack := _ :: rest, locked := none }) _
  jvm_step X.here [X.here.top, hx, hd, hm', hret, hn]
  first | (intro acts; rw [hl _ acts rfl rfl rfl]) | rw [hl _ _ rfl rfl rfl]
  exact Steps.refl _
end New
theorem own_dia {tb : Tables} {e : Env} {below : List Frame} {T tgt : State} {g : JFrame} {A : Type} {u v : A} (q : Prop) [Decidable q] (f : A → JFrame)
    (h1 : q → Steps tb e below (T.setTop (f u)) tgt → Steps tb e below (T.setTop g) tgt) (h0 : ¬ q → Steps tb e below (T.setTop (f v)) tgt → Steps tb e below (T.setTop g) tgt)
    (k : Steps tb e below (T.setTop (f (if q then u else v))) tgt) : Steps tb e below (T.setTop g) tgt := by
  by_cases hq : q
  · rw [if_pos hq] at k; exact h1 hq k
  · rw [if_neg hq] at k; exact h0 hq k
theorem own_cast {tb : Tables} {e : Env} {below : List Frame} {T tgt : State} {A : Type} {u v : A} (f : A → JFrame) (h : u = v) (k : Steps tb e below (T.setTop (f v)) tgt) : Steps tb e below (T.setTop (f u)) tgt := h ▸ k
theorem own_llt {x y : Int64} (h : x < y) : ifCond.holds .lt (lcmpW x y) = true ∧ ifCond.holds .ge (lcmpW x y) = false := by
  rw [if0, if0]; exact ⟨(tlt ((lw_lt x y).mpr h)).1, (tlt ((lw_lt x y).mpr h)).2.1⟩
theorem own_lge {x y : Int64} (h : ¬ x < y) : ifCond.holds .lt (lcmpW x y) = false ∧ ifCond.holds .ge (lcmpW x y) = true := by
  rw [if0, if0]; exact ⟨(flt fun q => h ((lw_lt x y).mp q)).1, (flt fun q => h ((lw_lt x y).mp q)).2.1⟩
theorem own_lgt {x y : Int64} (h : y < x) : ifCond.holds .gt (lcmpW x y) = true ∧ ifCond.holds .le (lcmpW x y) = false := by
  rw [if0, if0]; exact ⟨(tlt ((lw_gt x y).mpr h)).2.2.1, (tlt ((lw_gt x y).mpr h)).2.2.2⟩
theorem own_lle {x y : Int64} (h : ¬ y < x) : ifCond.holds .gt (lcmpW x y) = false ∧ ifCond.holds .le (lcmpW x y) = true := by
  rw [if0, if0]; exact ⟨(flt fun q => h ((lw_gt x y).mp q)).2.2.1, (flt fun q => h ((lw_gt x y).mp q)).2.2.2⟩
theorem own_leq {x y : Int64} (h : x = y) : ifCond.holds .eq (lcmpW x y) = true ∧ ifCond.holds .ne (lcmpW x y) = false := by
  rw [if0, if0]; exact ⟨(teq ((lw_eq x y).mpr h)).1, (teq ((lw_eq x y).mpr h)).2⟩
theorem own_lne {x y : Int64} (h : ¬ x = y) : ifCond.holds .eq (lcmpW x y) = false ∧ ifCond.holds .ne (lcmpW x y) = true := by
  rw [if0, if0]; exact ⟨(feq fun q => h ((lw_eq x y).mp q)).1, (feq fun q => h ((lw_eq x y).mp q)).2⟩
theorem own_bt {q : Prop} [Decidable q] (h : q) : ifCond.holds .ne (if q then (1 : Int32) else (0 : Int32)) = true ∧ ifCond.holds .eq (if q then (1 : Int32) else (0 : Int32)) = false := by
  rw [if_pos h]; exact ⟨rfl, rfl⟩
theorem own_bf {q : Prop} [Decidable q] (h : ¬ q) : ifCond.holds .ne (if q then (1 : Int32) else (0 : Int32)) = false ∧ ifCond.holds .eq (if q then (1 : Int32) else (0 : Int32)) = true := by
  rw [if_neg h]; exact ⟨rfl, rfl⟩
theorem own_ct {q : Prop} [Decidable q] (h : q) : ifCond.holds .ne (if q then (0 : Int32) else (1 : Int32)) = false ∧ ifCond.holds .eq (if q then (0 : Int32) else (1 : Int32)) = true := by
  rw [if_pos h]; exact ⟨rfl, rfl⟩
theorem own_cf {q : Prop} [Decidable q] (h : ¬ q) : ifCond.holds .ne (if q then (0 : Int32) else (1 : Int32)) = true ∧ ifCond.holds .eq (if q then (0 : Int32) else (1 : Int32)) = false := by
  rw [if_neg h]; exact ⟨rfl, rfl⟩
theorem own_b01 {q : Prop} [Decidable q] {x y : Int32} (hx : x = 0 ∨ x = 1) (hy : y = 0 ∨ y = 1) : (if q then x else y) = 0 ∨ (if q then x else y) = 1 := by
  split <;> assumption
def Arf (Z : State) (h : Heap) (a : Addr) (ty : FieldType) (n : Int32) (f : Nat → Value) : Prop :=
  ∃ c : Cell, Arr Z h a c ty ∧ c.slots.size = n.toNatClampNeg ∧ ¬ n < 0 ∧ ∀ i, i < n.toNatClampNeg → c.slots[i]? = some (f i)
theorem Arf.lt {Z : State} {h : Heap} {a : Addr} {ty : FieldType} {n : Int32} {f : Nat → Value} (F : Arf Z h a ty n f) : a < h.size := by
  obtain ⟨c, A, -⟩ := F; exact A.lt
theorem Arf.ext {Z : State} {h h' : Heap} {a : Addr} {ty : FieldType} {n : Int32} {f : Nat → Value} (F : Arf Z h a ty n f) (E : Ext h h') : Arf Z h' a ty n f := by
  obtain ⟨c, A, r⟩ := F; exact ⟨c, A.ext E, r⟩
theorem Arf.other {Z : State} {h h' : Heap} {a b : Addr} {sl : Nat} {v : Value} {ty : FieldType} {n : Int32} {f : Nat → Value} (F : Arf Z h b ty n f) (W : Wr h h' a sl v) (q : b ≠ a) : Arf Z h' b ty n f := by
  obtain ⟨c, A, r⟩ := F; exact ⟨c, A.other W q, r⟩
theorem Arf.keep {Z : State} {h h' : Heap} {a : Addr} {ws : List Addr} {ty : FieldType} {n : Int32} {f : Nat → Value} (F : Arf Z h a ty n f) (K : Keep h h' ws) (q : a ∉ ws) : Arf Z h' a ty n f := by
  obtain ⟨c, A, r⟩ := F; exact ⟨c, ⟨K.2.1 a c A.1 q, A.2⟩, r⟩
theorem own_arf_new {Z : State} {h : Heap} {a : Addr} {k : ClassId} {ty : FieldType} {z : Int32} (A : Arr Z h a (newA k ty z) ty) (q : ¬ z < 0) : Arf Z h a ty z (fun _ => defaultValue ty) :=
  ⟨_, A, sz_new _ _ _, q, fun i hi => by simp [newA, hi]⟩
theorem own_arf_set {Z : State} {h h' : Heap} {a : Addr} {ty : FieldType} {n : Int32} {f : Nat → Value} {j : Nat} {v : Value} (F : Arf Z h a ty n f) (W : Wr h h' a j v) : Arf Z h' a ty n (fun i => if i = j then v else f i) := by
  obtain ⟨c, A, S, M, H⟩ := F
  refine ⟨_, A.same W, by rw [sz_set]; exact S, M, fun i hi => ?_⟩
  show _ = some (if i = j then v else f i)
  by_cases u : i = j
  · subst u; rw [if_pos rfl]; rw [← S] at hi; simp [Cell.setSlot, hi]
  · rw [if_neg u]; have := H i hi; simp only [Cell.setSlot]; rw [Array.getElem?_setIfInBounds_ne (Ne.symm u)]; exact this
theorem own_arf_fn {Z : State} {h : Heap} {a : Addr} {ty : FieldType} {n : Int32} {f g : Nat → Value} (F : Arf Z h a ty n f) (q : ∀ i, i < n.toNatClampNeg → f i = g i) : Arf Z h a ty n g := by
  obtain ⟨c, A, S, M, H⟩ := F
  exact ⟨c, A, S, M, fun i hi => by rw [← q i hi]; exact H i hi⟩
theorem own_arf_setI {Z : State} {h h' : Heap} {a : Addr} {ty : FieldType} {n : Int32} {f : Nat → Int32} {j : Nat} {v : Int32} (F : Arf Z h a ty n (fun i => Value.int (f i))) (W : Wr h h' a j (.int v)) : Arf Z h' a ty n (fun i => Value.int (if i = j then v else f i)) :=
  own_arf_fn (own_arf_set F W) fun i _ => by by_cases u : i = j <;> simp [u]
theorem own_arf_setL {Z : State} {h h' : Heap} {a : Addr} {ty : FieldType} {n : Int32} {f : Nat → Int64} {j : Nat} {v : Int64} (F : Arf Z h a ty n (fun i => Value.long (f i))) (W : Wr h h' a j (.long v)) : Arf Z h' a ty n (fun i => Value.long (if i = j then v else f i)) :=
  own_arf_fn (own_arf_set F W) fun i _ => by by_cases u : i = j <;> simp [u]
theorem own_arf_at {c : Cell} {n j : Int32} {f : Nat → Value} (H : ∀ i, i < n.toNatClampNeg → c.slots[i]? = some (f i)) (S : c.slots.size = n.toNatClampNeg) (q : ¬ (j < 0 ∨ c.slots.size ≤ j.toNatClampNeg)) : c.slots[j.toNatClampNeg]? = some (f j.toNatClampNeg) :=
  H _ (by rw [← S]; exact Nat.lt_of_not_le fun y => q (Or.inr y))
theorem own_nb {x : Int32} (h : x = 0 ∨ x = 1) : nar .boolean x = x := by
  rcases h with rfl | rfl <;> rfl
end Jvm.RoadKit
namespace Jvm.Pilot.@@N@@
open Jvm Jvm.ClassFile Sem Op Lib Jvm.Free Jvm.Stand Jvm.LawKit Jvm.RoadKit Bundle Jvm.Pilot.@@N@@.Jvm.D
theorem d3_0 : decode jdk_89_method_89_code 0 = .ok (.iload_n 0, 1) := by decide +kernel
theorem d3_1 : decode jdk_89_method_89_code 1 = .ok (.sipush 159, 3) := by decide +kernel
theorem d3_4 : decode jdk_89_method_89_code 4 = .ok (.if_icmp .gt 19, 3) := by decide +kernel
theorem d3_7 : decode jdk_89_method_89_code 7 = .ok (.iload_n 0, 1) := by decide +kernel
theorem d3_8 : decode jdk_89_method_89_code 8 = .ok (.bipush 127, 2) := by decide +kernel
theorem d3_10 : decode jdk_89_method_89_code 10 = .ok (.if_icmp .ge 9, 3) := by decide +kernel
theorem d3_13 : decode jdk_89_method_89_code 13 = .ok (.iload_n 0, 1) := by decide +kernel
theorem d3_14 : decode jdk_89_method_89_code 14 = .ok (.iconst 5, 1) := by decide +kernel
theorem d3_15 : decode jdk_89_method_89_code 15 = .ok (.iushr, 1) := by decide +kernel
theorem d3_16 : decode jdk_89_method_89_code 16 = .ok (.ifCond .ne 7, 3) := by decide +kernel
theorem d3_19 : decode jdk_89_method_89_code 19 = .ok (.iconst 1, 1) := by decide +kernel
theorem d3_20 : decode jdk_89_method_89_code 20 = .ok (.goto 4, 3) := by decide +kernel
theorem d3_23 : decode jdk_89_method_89_code 23 = .ok (.iconst 0, 1) := by decide +kernel
theorem d3_24 : decode jdk_89_method_89_code 24 = .ok (.ireturn, 1) := by decide +kernel
theorem pn_3 : plainName "java/lang/Character" = true := by first | (simp [plainName, overriddenIn]; done) | decide +kernel
theorem ef_3 (m : MethodId) (vc : Int32) : entryFrame m #[(.int vc)] 1 = mkF m 0 #[.val (.int vc)] [] := by first | (simp [entryFrame, mkF, argsToLocals, Value.category]; done) | rfl
def F3 (vc : Int32) : Int32 := (if (159 : Int32) < vc then (0 : Int32) else (if vc < (127 : Int32) then (if ((vc.toUInt32 >>> ((5 : Int32) &&& 31).toUInt32).toInt32) = (0 : Int32) then (1 : Int32) else (0 : Int32)) else (1 : Int32)))
def Q3 (Z : State) (vc : Int32) (h0 : Heap) (n0 : Nat) (v : Option Value) (h : Heap) (L : List Loc) : Prop := v = some (.int (F3 vc)) ∧ Fr n0 L ∧ h = h0
set_option maxRecDepth 65536 in
set_option maxHeartbeats 40000000 in
theorem rm3 (l : Launch) (Z : State) (a0 : Array Value) (hw : ∀ d ∈ tables_1, d.before a0 Z = true) (ws : List Jvm.Cond) (vc : Int32) (h0 : Heap) (n0 : Nat) (Z0 : n0 ≤ h0.size)  :
    MetFree l (⟨"java/lang/Character", "isISOControl", "(I)Z"⟩ : MethodName) (head1 (Jvm.Cond.code (⟨"java/lang/Character", "isISOControl", "(I)Z"⟩ : MethodName) jdk_89_method_89_code 1 (some .boolean) :: ws) ({ frames := 0, cells := 0, slots := 0, locals := 0 } : Room)) (fun a U => a = #[(.int vc)] ∧ Z.Warmed39 U.vm ∧ U.heap = h0) (fun _ _ _ _ _ => True) (fun _ U o U' => ∃ v L, o = .returned v ∧ Q3 Z vc h0 n0 v U'.heap L ∧ FrameEnd U o U' L ({ frames := 0, cells := 0, slots := 0, locals := 0 } : Room).cells ({ frames := 0, cells := 0, slots := 0, locals := 0 } : Room).slots) := by
  refine MetFree.of_bodySF (plainFor_of_name pn_3) hisR ?_
  intro p e s m args below meth c s₁ Bd hml0 hP hK
  obtain ⟨rfl, hZ, hh⟩ := hP
  have hx := Bd.exec
  have hby := Bd.bytes
  have hml : c.maxLocals = 1 := hml0
  have hown : s.vm.findClass "java/lang/Character" = some m.cls := findClass_of_methodNamed Bd.named
  have hnm := (name_of_methodNamed Bd.named Bd.method).1
  have X0 : Stand p l e ({ frames := 0, cells := 0, slots := 0, locals := 0 } : Room) s m #[(.int vc)] below meth c s₁ [] 0 0 := Stand.of_body Bd
  have e0 : s₁.heap = h0 := by rw [← hh, Bd.state]; rfl
  have N0 := Fr.nil n0
  have pre0 : ∀ t, Steps p.tables e below (s₁.setTop (mkF m 0 #[.val (.int vc)] [])) t → Steps p.tables e below (s₁.setTop (entryFrame m #[(.int vc)] 1)) t := fun t k => castTop (ef_3 m vc) k
  obtain ⟨fs, hr, hrun, hended, hW, hsame⟩ := X0.leave (v := some (.int (if (159 : Int32) < vc then (0 : Int32) else (if vc < (127 : Int32) then (if ((vc.toUInt32 >>> ((5 : Int32) &&& 31).toUInt32).toInt32) = (0 : Int32) then (1 : Int32) else (0 : Int32)) else (1 : Int32))))) (fun h => by rw [Bd.returns] at h; cases h)
  refine ⟨_, _, pre0 _ ?_, hrun, hended, _, _, rfl, ?_, ⟨_, rfl⟩, hW, hsame.mono (by decide) (by decide)⟩
  · show Steps p.tables e below (s₁.setTop (mkF m 0 #[.val (.int vc)] [])) _
    refine XS.iloadN X0.here hx rfl (hb hby d3_0) rfl ?_
    show Steps p.tables e below (s₁.setTop (mkF m 1 #[.val (.int vc)] [(.int vc)])) _
    refine XS.sipush X0.here hx rfl (hb hby d3_1) ?_
    show Steps p.tables e below (s₁.setTop (mkF m 4 #[.val (.int vc)] [(.int (159 : Int32)), (.int vc)])) _
    refine own_dia (u := ((0 : Int32) : Int32)) (v := (if vc < (127 : Int32) then (if ((vc.toUInt32 >>> ((5 : Int32) &&& 31).toUInt32).toInt32) = (0 : Int32) then (1 : Int32) else (0 : Int32)) else (1 : Int32))) ((159 : Int32) < vc) (fun z1 => (mkF m 24 #[.val (.int vc)] [(.int z1)])) (fun hc1 k1 => ?_) (fun hc1 k1 => ?_) ?_
    · refine XS.icmpYes X0.here hx rfl (pc0 := 4) (pc' := 23) rfl (hb hby d3_4) rfl (tlt hc1).2.2.1 (by decide) (by decide) ?_
      show Steps p.tables e below (s₁.setTop (mkF m 23 #[.val (.int vc)] [])) _
      refine XS.iconst X0.here hx rfl (hb hby d3_23) ?_
      exact k1
    · refine XS.icmpNo X0.here hx rfl (hb hby d3_4) rfl (flt hc1).2.2.1 ?_
      show Steps p.tables e below (s₁.setTop (mkF m 7 #[.val (.int vc)] [])) _
      refine XS.iloadN X0.here hx rfl (hb hby d3_7) rfl ?_
      show Steps p.tables e below (s₁.setTop (mkF m 8 #[.val (.int vc)] [(.int vc)])) _
      refine XS.bipush X0.here hx rfl (hb hby d3_8) ?_
      show Steps p.tables e below (s₁.setTop (mkF m 10 #[.val (.int vc)] [(.int (127 : Int32)), (.int vc)])) _
      refine own_dia (u := ((if ((vc.toUInt32 >>> ((5 : Int32) &&& 31).toUInt32).toInt32) = (0 : Int32) then (1 : Int32) else (0 : Int32)) : Int32)) (v := (1 : Int32)) (vc < (127 : Int32)) (fun z2 => (mkF m 24 #[.val (.int vc)] [(.int z2)])) (fun hc2 k2 => ?_) (fun hc2 k2 => ?_) ?_
      · refine XS.icmpNo X0.here hx rfl (hb hby d3_10) rfl (tlt hc2).2.1 ?_
        show Steps p.tables e below (s₁.setTop (mkF m 13 #[.val (.int vc)] [])) _
        refine XS.iloadN X0.here hx rfl (hb hby d3_13) rfl ?_
        show Steps p.tables e below (s₁.setTop (mkF m 14 #[.val (.int vc)] [(.int vc)])) _
        refine XS.iconst X0.here hx rfl (hb hby d3_14) ?_
        show Steps p.tables e below (s₁.setTop (mkF m 15 #[.val (.int vc)] [(.int (5 : Int32)), (.int vc)])) _
        refine XS.iushr X0.here hx rfl (hb hby d3_15) rfl ?_
        show Steps p.tables e below (s₁.setTop (mkF m 16 #[.val (.int vc)] [(.int ((vc.toUInt32 >>> ((5 : Int32) &&& 31).toUInt32).toInt32))])) _
        refine own_dia (u := ((1 : Int32) : Int32)) (v := (0 : Int32)) (((vc.toUInt32 >>> ((5 : Int32) &&& 31).toUInt32).toInt32) = (0 : Int32)) (fun z3 => (mkF m 24 #[.val (.int vc)] [(.int z3)])) (fun hc3 k3 => ?_) (fun hc3 k3 => ?_) ?_
        · refine XS.ifNo X0.here hx rfl (hb hby d3_16) rfl ((if0 _ _).trans (teq hc3).2) ?_
          show Steps p.tables e below (s₁.setTop (mkF m 19 #[.val (.int vc)] [])) _
          refine XS.iconst X0.here hx rfl (hb hby d3_19) ?_
          show Steps p.tables e below (s₁.setTop (mkF m 20 #[.val (.int vc)] [(.int (1 : Int32))])) _
          refine XS.goto X0.here hx rfl (pc0 := 20) (pc' := 24) rfl (hb hby d3_20) (by decide) (by decide) ?_
          exact k3
        · refine XS.ifYes X0.here hx rfl (pc0 := 16) (pc' := 23) rfl (hb hby d3_16) rfl ((if0 _ _).trans (feq hc3).2) (by decide) (by decide) ?_
          show Steps p.tables e below (s₁.setTop (mkF m 23 #[.val (.int vc)] [])) _
          refine XS.iconst X0.here hx rfl (hb hby d3_23) ?_
          exact k3
        -- meets at 24
        exact k2
      · refine XS.icmpYes X0.here hx rfl (pc0 := 10) (pc' := 19) rfl (hb hby d3_10) rfl (flt hc2).2.1 (by decide) (by decide) ?_
        show Steps p.tables e below (s₁.setTop (mkF m 19 #[.val (.int vc)] [])) _
        refine XS.iconst X0.here hx rfl (hb hby d3_19) ?_
        show Steps p.tables e below (s₁.setTop (mkF m 20 #[.val (.int vc)] [(.int (1 : Int32))])) _
        refine XS.goto X0.here hx rfl (pc0 := 20) (pc' := 24) rfl (hb hby d3_20) (by decide) (by decide) ?_
        exact k2
      -- meets at 24
      exact k1
    -- meets at 24
    show Steps p.tables e below (s₁.setTop (mkF m 24 #[.val (.int vc)] [(.int (if (159 : Int32) < vc then (0 : Int32) else (if vc < (127 : Int32) then (if ((vc.toUInt32 >>> ((5 : Int32) &&& 31).toUInt32).toInt32) = (0 : Int32) then (1 : Int32) else (0 : Int32)) else (1 : Int32))))])) _
    exact retN X0 hx (t := .boolean) Bd.returns (by simp) (hb hby d3_24) (by rw [own_nb (own_b01 (Or.inl rfl) (own_b01 (own_b01 (Or.inr rfl) (Or.inl rfl)) (Or.inr rfl)))]; exact hr)
  · show Q3 Z vc h0 n0 _ s₁.heap _
    rw [e0]
    exact ⟨rfl, N0, rfl⟩
theorem pd_0 : parseMethodDescriptor "(I)Z" = some ⟨[.int], some .boolean⟩ := by decide +kernel
theorem d2_0 : decode jdk_89_method_88_code 0 = .ok (.iload_n 0, 1) := by decide +kernel
theorem d2_1 : decode jdk_89_method_88_code 1 = .ok (.invokestatic 266, 3) := by decide +kernel
theorem d2_4 : decode jdk_89_method_88_code 4 = .ok (.ireturn, 1) := by decide +kernel
theorem pn_2 : plainName "java/lang/Character" = true := by first | (simp [plainName, overriddenIn]; done) | decide +kernel
theorem ef_2 (m : MethodId) (vc : Int32) : entryFrame m #[(.int vc)] 1 = mkF m 0 #[.val (.int vc)] [] := by first | (simp [entryFrame, mkF, argsToLocals, Value.category]; done) | rfl
def F2 (vc : Int32) : Int32 := (nar .boolean (F3 vc))
def Q2 (Z : State) (vc : Int32) (h0 : Heap) (n0 : Nat) (v : Option Value) (h : Heap) (L : List Loc) : Prop := v = some (.int (F2 vc)) ∧ Fr n0 L ∧ h = h0
set_option maxRecDepth 65536 in
set_option maxHeartbeats 40000000 in
theorem rm2 (l : Launch) (Z : State) (a0 : Array Value) (hw : ∀ d ∈ tables_1, d.before a0 Z = true) (ws : List Jvm.Cond) (vc : Int32) (h0 : Heap) (n0 : Nat) (Z0 : n0 ≤ h0.size)  :
    MetFree l (⟨"java/lang/Character", "isISOControl", "(C)Z"⟩ : MethodName) (head1 (Jvm.Cond.code (⟨"java/lang/Character", "isISOControl", "(C)Z"⟩ : MethodName) jdk_89_method_88_code 1 (some .boolean) :: ws) ({ frames := 1, cells := 0, slots := 0, locals := 12 } : Room)) (fun a U => a = #[(.int vc)] ∧ Z.Warmed39 U.vm ∧ U.heap = h0) (fun _ _ _ _ _ => True) (fun _ U o U' => ∃ v L, o = .returned v ∧ Q2 Z vc h0 n0 v U'.heap L ∧ FrameEnd U o U' L ({ frames := 1, cells := 0, slots := 0, locals := 12 } : Room).cells ({ frames := 1, cells := 0, slots := 0, locals := 12 } : Room).slots) := by
  refine MetFree.of_bodySF (plainFor_of_name pn_2) hisR ?_
  intro p e s m args below meth c s₁ Bd hml0 hP hK
  obtain ⟨rfl, hZ, hh⟩ := hP
  have hx := Bd.exec
  have hby := Bd.bytes
  have hml : c.maxLocals = 1 := hml0
  have hown : s.vm.findClass "java/lang/Character" = some m.cls := findClass_of_methodNamed Bd.named
  have hnm := (name_of_methodNamed Bd.named Bd.method).1
  have X0 : Stand p l e ({ frames := 1, cells := 0, slots := 0, locals := 12 } : Room) s m #[(.int vc)] below meth c s₁ [] 0 0 := Stand.of_body Bd
  have e0 : s₁.heap = h0 := by rw [← hh, Bd.state]; rfl
  have N0 := Fr.nil n0
  have pre0 : ∀ t, Steps p.tables e below (s₁.setTop (mkF m 0 #[.val (.int vc)] [])) t → Steps p.tables e below (s₁.setTop (entryFrame m #[(.int vc)] 1)) t := fun t k => castTop (ef_2 m vc) k
  obtain ⟨_, _, ⟨T1, L1, k1, n1⟩, -, X1, ⟨Lc1, hQ1, l1, y1, z1⟩, st1⟩ := Jvm.LawKit.callS X0 hx (y := (⟨"java/lang/Character", "isISOControl", "(I)Z"⟩ : MethodName)) hown (mvT hZ (hw _ (List.mem_of_getElem? (i := 9) rfl))) (mvT hZ (hw _ (List.mem_of_getElem? (i := 10) rfl))) (mvT hZ (hw _ (List.mem_of_getElem? (i := 7) rfl))) (mvT hZ (hw _ (List.mem_of_getElem? (i := 11) rfl))) (by decide) (backOf (W := 0) (rm3 l Z a0 hw [] vc  h0 n0 Z0 ) hZ (hw _ (List.mem_of_getElem? (i := 11) rfl)) (hw _ (List.mem_of_getElem? (i := 7) rfl)) (by decide) (by decide)) (g := (mkF m 1 #[.val (.int vc)] [(.int vc)])) rfl (by rw [hml]; rfl) (argsL := [(.int vc)]) (rest := []) (lenOf pd_0 rfl) rfl (by show 2 * 0 + _ ≤ _; exact Nat.le_of_eq rfl) (hb hby d2_1) (fun _ _ => ⟨rfl, e0, (by decide : 0 + 0 ≤ _), (by decide : 0 + 0 ≤ _)⟩)
  dsimp only [Pt.U, Pt.locs, Pt.cells, Pt.slots] at X1 l1 y1 z1 st1 hQ1
  subst l1 y1 z1
  obtain ⟨rfl, N1q, e1⟩ := hQ1
  have N1 := Fr.app N0 N1q
  obtain ⟨fs, hr, hrun, hended, hW, hsame⟩ := X1.leave (v := some (.int (nar .boolean (F3 vc)))) (fun h => by rw [Bd.returns] at h; cases h)
  refine ⟨_, _, pre0 _ ?_, hrun, hended, _, _, rfl, ?_, ⟨_, rfl⟩, hW, hsame.mono (by decide) (by decide)⟩
  · show Steps p.tables e below (s₁.setTop (mkF m 0 #[.val (.int vc)] [])) _
    refine XS.iloadN X0.here hx rfl (hb hby d2_0) rfl ?_
    show Steps p.tables e below (s₁.setTop (mkF m 1 #[.val (.int vc)] [(.int vc)])) _
    refine st1 _ ?_
    show Steps p.tables e below (T1.setTop (mkF m 4 #[.val (.int vc)] [(.int (F3 vc))])) _
    exact retN X1 hx (t := .boolean) Bd.returns (by simp) (hb hby d2_4) hr
  · show Q2 Z vc h0 n0 _ T1.heap _
    rw [e1]
    exact ⟨rfl, N1, rfl⟩
theorem pd_1 : parseMethodDescriptor "(C)Z" = some ⟨[.char], some .boolean⟩ := by decide +kernel
theorem d1_0 : decode prog_10_method_4_code 0 = .ok (.iload_n 0, 1) := by decide +kernel
theorem d1_1 : decode prog_10_method_4_code 1 = .ok (.invokestatic 118, 3) := by decide +kernel
theorem d1_4 : decode prog_10_method_4_code 4 = .ok (.ifCond .ne 17, 3) := by decide +kernel
theorem d1_7 : decode prog_10_method_4_code 7 = .ok (.iload_n 0, 1) := by decide +kernel
theorem d1_8 : decode prog_10_method_4_code 8 = .ok (.sipush 8232, 3) := by decide +kernel
theorem d1_11 : decode prog_10_method_4_code 11 = .ok (.if_icmp .eq 10, 3) := by decide +kernel
theorem d1_14 : decode prog_10_method_4_code 14 = .ok (.iload_n 0, 1) := by decide +kernel
theorem d1_15 : decode prog_10_method_4_code 15 = .ok (.sipush 8233, 3) := by decide +kernel
theorem d1_18 : decode prog_10_method_4_code 18 = .ok (.if_icmp .ne 7, 3) := by decide +kernel
theorem d1_21 : decode prog_10_method_4_code 21 = .ok (.iconst 1, 1) := by decide +kernel
theorem d1_22 : decode prog_10_method_4_code 22 = .ok (.goto 4, 3) := by decide +kernel
theorem d1_25 : decode prog_10_method_4_code 25 = .ok (.iconst 0, 1) := by decide +kernel
theorem d1_26 : decode prog_10_method_4_code 26 = .ok (.ireturn, 1) := by decide +kernel
theorem pn_1 : plainName "com/example/chainvouch/chainvouch/cli/Cli" = true := by first | (simp [plainName, overriddenIn]; done) | decide +kernel
theorem ef_1 (m : MethodId) (vc : Int32) : entryFrame m #[(.int vc)] 1 = mkF m 0 #[.val (.int vc)] [] := by first | (simp [entryFrame, mkF, argsToLocals, Value.category]; done) | rfl
def F1 (vc : Int32) : Int32 := (if (F2 vc) = (0 : Int32) then (if vc = (8232 : Int32) then (1 : Int32) else (if vc = (8233 : Int32) then (1 : Int32) else (0 : Int32))) else (1 : Int32))
def Q1 (Z : State) (vc : Int32) (h0 : Heap) (n0 : Nat) (v : Option Value) (h : Heap) (L : List Loc) : Prop := v = some (.int (F1 vc)) ∧ Fr n0 L ∧ h = h0
set_option maxRecDepth 65536 in
set_option maxHeartbeats 40000000 in
theorem rm1 (l : Launch) (Z : State) (a0 : Array Value) (hw : ∀ d ∈ tables_1, d.before a0 Z = true) (ws : List Jvm.Cond) (vc : Int32) (h0 : Heap) (n0 : Nat) (Z0 : n0 ≤ h0.size)  :
    MetFree l (⟨"com/example/chainvouch/chainvouch/cli/Cli", "isOffTheLine", "(C)Z"⟩ : MethodName) (head1 (Jvm.Cond.code (⟨"com/example/chainvouch/chainvouch/cli/Cli", "isOffTheLine", "(C)Z"⟩ : MethodName) prog_10_method_4_code 1 (some .boolean) :: ws) ({ frames := 2, cells := 0, slots := 0, locals := 24 } : Room)) (fun a U => a = #[(.int vc)] ∧ Z.Warmed39 U.vm ∧ U.heap = h0) (fun _ _ _ _ _ => True) (fun _ U o U' => ∃ v L, o = .returned v ∧ Q1 Z vc h0 n0 v U'.heap L ∧ FrameEnd U o U' L ({ frames := 2, cells := 0, slots := 0, locals := 24 } : Room).cells ({ frames := 2, cells := 0, slots := 0, locals := 24 } : Room).slots) := by
  refine MetFree.of_bodySF (plainFor_of_name pn_1) hisR ?_
  intro p e s m args below meth c s₁ Bd hml0 hP hK
  obtain ⟨rfl, hZ, hh⟩ := hP
  have hx := Bd.exec
  have hby := Bd.bytes
  have hml : c.maxLocals = 1 := hml0
  have hown : s.vm.findClass "com/example/chainvouch/chainvouch/cli/Cli" = some m.cls := findClass_of_methodNamed Bd.named
  have hnm := (name_of_methodNamed Bd.named Bd.method).1
  have X0 : Stand p l e ({ frames := 2, cells := 0, slots := 0, locals := 24 } : Room) s m #[(.int vc)] below meth c s₁ [] 0 0 := Stand.of_body Bd
  have e0 : s₁.heap = h0 := by rw [← hh, Bd.state]; rfl
  have N0 := Fr.nil n0
  have pre0 : ∀ t, Steps p.tables e below (s₁.setTop (mkF m 0 #[.val (.int vc)] [])) t → Steps p.tables e below (s₁.setTop (entryFrame m #[(.int vc)] 1)) t := fun t k => castTop (ef_1 m vc) k
  obtain ⟨_, _, ⟨T1, L1, k1, n1⟩, -, X1, ⟨Lc1, hQ1, l1, y1, z1⟩, st1⟩ := Jvm.LawKit.callS X0 hx (y := (⟨"java/lang/Character", "isISOControl", "(C)Z"⟩ : MethodName)) hown (mvT hZ (hw _ (List.mem_of_getElem? (i := 5) rfl))) (mvT hZ (hw _ (List.mem_of_getElem? (i := 6) rfl))) (mvT hZ (hw _ (List.mem_of_getElem? (i := 7) rfl))) (mvT hZ (hw _ (List.mem_of_getElem? (i := 8) rfl))) (by decide) (backOf (W := 0) (rm2 l Z a0 hw [] vc  h0 n0 Z0 ) hZ (hw _ (List.mem_of_getElem? (i := 8) rfl)) (hw _ (List.mem_of_getElem? (i := 7) rfl)) (by decide) (by decide)) (g := (mkF m 1 #[.val (.int vc)] [(.int vc)])) rfl (by rw [hml]; rfl) (argsL := [(.int vc)]) (rest := []) (lenOf pd_1 rfl) rfl (by show 2 * 0 + _ ≤ _; exact Nat.le_of_eq rfl) (hb hby d1_1) (fun _ _ => ⟨rfl, e0, (by decide : 0 + 0 ≤ _), (by decide : 0 + 0 ≤ _)⟩)
  dsimp only [Pt.U, Pt.locs, Pt.cells, Pt.slots] at X1 l1 y1 z1 st1 hQ1
  subst l1 y1 z1
  obtain ⟨rfl, N1q, e1⟩ := hQ1
  have N1 := Fr.app N0 N1q
  obtain ⟨fs, hr, hrun, hended, hW, hsame⟩ := X1.leave (v := some (.int (if (F2 vc) = (0 : Int32) then (if vc = (8232 : Int32) then (1 : Int32) else (if vc = (8233 : Int32) then (1 : Int32) else (0 : Int32))) else (1 : Int32)))) (fun h => by rw [Bd.returns] at h; cases h)
  refine ⟨_, _, pre0 _ ?_, hrun, hended, _, _, rfl, ?_, ⟨_, rfl⟩, hW, hsame.mono (by decide) (by decide)⟩
  · show Steps p.tables e below (s₁.setTop (mkF m 0 #[.val (.int vc)] [])) _
    refine XS.iloadN X0.here hx rfl (hb hby d1_0) rfl ?_
    show Steps p.tables e below (s₁.setTop (mkF m 1 #[.val (.int vc)] [(.int vc)])) _
    refine st1 _ ?_
    show Steps p.tables e below (T1.setTop (mkF m 4 #[.val (.int vc)] [(.int (F2 vc))])) _
    refine own_dia (u := ((if vc = (8232 : Int32) then (1 : Int32) else (if vc = (8233 : Int32) then (1 : Int32) else (0 : Int32))) : Int32)) (v := (1 : Int32)) ((F2 vc) = (0 : Int32)) (fun z2 => (mkF m 26 #[.val (.int vc)] [(.int z2)])) (fun hc2 k2 => ?_) (fun hc2 k2 => ?_) ?_
    · refine XS.ifNo X1.here hx rfl (hb hby d1_4) rfl ((if0 _ _).trans (teq hc2).2) ?_
      show Steps p.tables e below (T1.setTop (mkF m 7 #[.val (.int vc)] [])) _
      refine XS.iloadN X1.here hx rfl (hb hby d1_7) rfl ?_
      show Steps p.tables e below (T1.setTop (mkF m 8 #[.val (.int vc)] [(.int vc)])) _
      refine XS.sipush X1.here hx rfl (hb hby d1_8) ?_
      show Steps p.tables e below (T1.setTop (mkF m 11 #[.val (.int vc)] [(.int (8232 : Int32)), (.int vc)])) _
      refine own_dia (u := ((1 : Int32) : Int32)) (v := (if vc = (8233 : Int32) then (1 : Int32) else (0 : Int32))) (vc = (8232 : Int32)) (fun z3 => (mkF m 26 #[.val (.int vc)] [(.int z3)])) (fun hc3 k3 => ?_) (fun hc3 k3 => ?_) ?_
      · refine XS.icmpYes X1.here hx rfl (pc0 := 11) (pc' := 21) rfl (hb hby d1_11) rfl (teq hc3).1 (by decide) (by decide) ?_
        show Steps p.tables e below (T1.setTop (mkF m 21 #[.val (.int vc)] [])) _
        refine XS.iconst X1.here hx rfl (hb hby d1_21) ?_
        show Steps p.tables e below (T1.setTop (mkF m 22 #[.val (.int vc)] [(.int (1 : Int32))])) _
        refine XS.goto X1.here hx rfl (pc0 := 22) (pc' := 26) rfl (hb hby d1_22) (by decide) (by decide) ?_
        exact k3
      · refine XS.icmpNo X1.here hx rfl (hb hby d1_11) rfl (feq hc3).1 ?_
        show Steps p.tables e below (T1.setTop (mkF m 14 #[.val (.int vc)] [])) _
        refine XS.iloadN X1.here hx rfl (hb hby d1_14) rfl ?_
        show Steps p.tables e below (T1.setTop (mkF m 15 #[.val (.int vc)] [(.int vc)])) _
        refine XS.sipush X1.here hx rfl (hb hby d1_15) ?_
        show Steps p.tables e below (T1.setTop (mkF m 18 #[.val (.int vc)] [(.int (8233 : Int32)), (.int vc)])) _
        refine own_dia (u := ((1 : Int32) : Int32)) (v := (0 : Int32)) (vc = (8233 : Int32)) (fun z4 => (mkF m 26 #[.val (.int vc)] [(.int z4)])) (fun hc4 k4 => ?_) (fun hc4 k4 => ?_) ?_
        · refine XS.icmpNo X1.here hx rfl (hb hby d1_18) rfl (teq hc4).2 ?_
          show Steps p.tables e below (T1.setTop (mkF m 21 #[.val (.int vc)] [])) _
          refine XS.iconst X1.here hx rfl (hb hby d1_21) ?_
          show Steps p.tables e below (T1.setTop (mkF m 22 #[.val (.int vc)] [(.int (1 : Int32))])) _
          refine XS.goto X1.here hx rfl (pc0 := 22) (pc' := 26) rfl (hb hby d1_22) (by decide) (by decide) ?_
          exact k4
        · refine XS.icmpYes X1.here hx rfl (pc0 := 18) (pc' := 25) rfl (hb hby d1_18) rfl (feq hc4).2 (by decide) (by decide) ?_
          show Steps p.tables e below (T1.setTop (mkF m 25 #[.val (.int vc)] [])) _
          refine XS.iconst X1.here hx rfl (hb hby d1_25) ?_
          exact k4
        -- meets at 26
        exact k3
      -- meets at 26
      exact k2
    · refine XS.ifYes X1.here hx rfl (pc0 := 4) (pc' := 21) rfl (hb hby d1_4) rfl ((if0 _ _).trans (feq hc2).2) (by decide) (by decide) ?_
      show Steps p.tables e below (T1.setTop (mkF m 21 #[.val (.int vc)] [])) _
      refine XS.iconst X1.here hx rfl (hb hby d1_21) ?_
      show Steps p.tables e below (T1.setTop (mkF m 22 #[.val (.int vc)] [(.int (1 : Int32))])) _
      refine XS.goto X1.here hx rfl (pc0 := 22) (pc' := 26) rfl (hb hby d1_22) (by decide) (by decide) ?_
      exact k2
    -- meets at 26
    show Steps p.tables e below (T1.setTop (mkF m 26 #[.val (.int vc)] [(.int (if (F2 vc) = (0 : Int32) then (if vc = (8232 : Int32) then (1 : Int32) else (if vc = (8233 : Int32) then (1 : Int32) else (0 : Int32))) else (1 : Int32)))])) _
    exact retN X1 hx (t := .boolean) Bd.returns (by simp) (hb hby d1_26) (by rw [own_nb (own_b01 (own_b01 (Or.inr rfl) (own_b01 (Or.inr rfl) (Or.inl rfl))) (Or.inr rfl))]; exact hr)
  · show Q1 Z vc h0 n0 _ T1.heap _
    rw [e1]
    exact ⟨rfl, N1, rfl⟩
theorem d4_0 : decode method_2_code 0 = .ok (.iload_n 0, 1) := by decide +kernel
theorem d4_1 : decode method_2_code 1 = .ok (.bipush 31, 2) := by decide +kernel
theorem d4_3 : decode method_2_code 3 = .ok (.if_icmp .gt 5, 3) := by decide +kernel
theorem d4_6 : decode method_2_code 6 = .ok (.iconst 1, 1) := by decide +kernel
theorem d4_7 : decode method_2_code 7 = .ok (.ireturn, 1) := by decide +kernel
theorem d4_8 : decode method_2_code 8 = .ok (.iload_n 0, 1) := by decide +kernel
theorem d4_9 : decode method_2_code 9 = .ok (.bipush 127, 2) := by decide +kernel
theorem d4_11 : decode method_2_code 11 = .ok (.if_icmp .lt 12, 3) := by decide +kernel
theorem d4_14 : decode method_2_code 14 = .ok (.iload_n 0, 1) := by decide +kernel
theorem d4_15 : decode method_2_code 15 = .ok (.sipush 159, 3) := by decide +kernel
theorem d4_18 : decode method_2_code 18 = .ok (.if_icmp .gt 5, 3) := by decide +kernel
theorem d4_21 : decode method_2_code 21 = .ok (.iconst 1, 1) := by decide +kernel
theorem d4_22 : decode method_2_code 22 = .ok (.ireturn, 1) := by decide +kernel
theorem d4_23 : decode method_2_code 23 = .ok (.iload_n 0, 1) := by decide +kernel
theorem d4_24 : decode method_2_code 24 = .ok (.sipush 8232, 3) := by decide +kernel
theorem d4_27 : decode method_2_code 27 = .ok (.if_icmp .eq 10, 3) := by decide +kernel
theorem d4_30 : decode method_2_code 30 = .ok (.iload_n 0, 1) := by decide +kernel
theorem d4_31 : decode method_2_code 31 = .ok (.sipush 8233, 3) := by decide +kernel
theorem d4_34 : decode method_2_code 34 = .ok (.if_icmp .ne 5, 3) := by decide +kernel
theorem d4_37 : decode method_2_code 37 = .ok (.iconst 1, 1) := by decide +kernel
theorem d4_38 : decode method_2_code 38 = .ok (.ireturn, 1) := by decide +kernel
theorem d4_39 : decode method_2_code 39 = .ok (.iconst 0, 1) := by decide +kernel
theorem d4_40 : decode method_2_code 40 = .ok (.ireturn, 1) := by decide +kernel
theorem pn_4 : plainName "com/example/chainvouch/chainvouch/cli/CliIsOffTheLinePinLaw" = true := by first | (simp [plainName, overriddenIn]; done) | decide +kernel
theorem ef_4 (m : MethodId) (v1 : Int32) : entryFrame m #[(.int v1)] 1 = mkF m 0 #[.val (.int v1)] [] := by first | (simp [entryFrame, mkF, argsToLocals, Value.category]; done) | rfl
def F4 (v1 : Int32) : Int32 := (if (31 : Int32) < v1 then (if v1 < (127 : Int32) then (if v1 = (8232 : Int32) then (1 : Int32) else (if v1 = (8233 : Int32) then (1 : Int32) else (0 : Int32))) else (if (159 : Int32) < v1 then (if v1 = (8232 : Int32) then (1 : Int32) else (if v1 = (8233 : Int32) then (1 : Int32) else (0 : Int32))) else (1 : Int32))) else (1 : Int32))
def Q4 (Z : State) (v1 : Int32) (h0 : Heap) (n0 : Nat) (v : Option Value) (h : Heap) (L : List Loc) : Prop := v = some (.int (F4 v1)) ∧ Fr n0 L ∧ h = h0
set_option maxRecDepth 65536 in
set_option maxHeartbeats 40000000 in
theorem rm4 (l : Launch) (Z : State) (a0 : Array Value) (hw : ∀ d ∈ tables_1, d.before a0 Z = true) (ws : List Jvm.Cond) (v1 : Int32) (h0 : Heap) (n0 : Nat) (Z0 : n0 ≤ h0.size)  :
    MetFree l (⟨"com/example/chainvouch/chainvouch/cli/CliIsOffTheLinePinLaw", "expected", "(I)Z"⟩ : MethodName) (head1 (Jvm.Cond.code (⟨"com/example/chainvouch/chainvouch/cli/CliIsOffTheLinePinLaw", "expected", "(I)Z"⟩ : MethodName) method_2_code 1 (some .boolean) :: ws) ({ frames := 0, cells := 0, slots := 0, locals := 0 } : Room)) (fun a U => a = #[(.int v1)] ∧ Z.Warmed39 U.vm ∧ U.heap = h0) (fun _ _ _ _ _ => True) (fun _ U o U' => ∃ v L, o = .returned v ∧ Q4 Z v1 h0 n0 v U'.heap L ∧ FrameEnd U o U' L ({ frames := 0, cells := 0, slots := 0, locals := 0 } : Room).cells ({ frames := 0, cells := 0, slots := 0, locals := 0 } : Room).slots) := by
  refine MetFree.of_bodySF (plainFor_of_name pn_4) hisR ?_
  intro p e s m args below meth c s₁ Bd hml0 hP hK
  obtain ⟨rfl, hZ, hh⟩ := hP
  have hx := Bd.exec
  have hby := Bd.bytes
  have hml : c.maxLocals = 1 := hml0
  have hown : s.vm.findClass "com/example/chainvouch/chainvouch/cli/CliIsOffTheLinePinLaw" = some m.cls := findClass_of_methodNamed Bd.named
  have hnm := (name_of_methodNamed Bd.named Bd.method).1
  have X0 : Stand p l e ({ frames := 0, cells := 0, slots := 0, locals := 0 } : Room) s m #[(.int v1)] below meth c s₁ [] 0 0 := Stand.of_body Bd
  have e0 : s₁.heap = h0 := by rw [← hh, Bd.state]; rfl
  have N0 := Fr.nil n0
  have pre0 : ∀ t, Steps p.tables e below (s₁.setTop (mkF m 0 #[.val (.int v1)] [])) t → Steps p.tables e below (s₁.setTop (entryFrame m #[(.int v1)] 1)) t := fun t k => castTop (ef_4 m v1) k
  by_cases hb1 : (31 : Int32) < v1
  · by_cases hb2 : v1 < (127 : Int32)
    · by_cases hb3 : v1 = (8232 : Int32)
      · obtain ⟨fs, hr, hrun, hended, hW, hsame⟩ := X0.leave (v := some (.int (1 : Int32))) (fun h => by rw [Bd.returns] at h; cases h)
        refine ⟨_, _, pre0 _ ?_, hrun, hended, _, _, rfl, ?_, ⟨_, rfl⟩, hW, hsame.mono (by decide) (by decide)⟩
        · show Steps p.tables e below (s₁.setTop (mkF m 0 #[.val (.int v1)] [])) _
          refine XS.iloadN X0.here hx rfl (hb hby d4_0) rfl ?_
          show Steps p.tables e below (s₁.setTop (mkF m 1 #[.val (.int v1)] [(.int v1)])) _
          refine XS.bipush X0.here hx rfl (hb hby d4_1) ?_
          show Steps p.tables e below (s₁.setTop (mkF m 3 #[.val (.int v1)] [(.int (31 : Int32)), (.int v1)])) _
          refine XS.icmpYes X0.here hx rfl (pc0 := 3) (pc' := 8) rfl (hb hby d4_3) rfl (tlt hb1).2.2.1 (by decide) (by decide) ?_
          show Steps p.tables e below (s₁.setTop (mkF m 8 #[.val (.int v1)] [])) _
          refine XS.iloadN X0.here hx rfl (hb hby d4_8) rfl ?_
          show Steps p.tables e below (s₁.setTop (mkF m 9 #[.val (.int v1)] [(.int v1)])) _
          refine XS.bipush X0.here hx rfl (hb hby d4_9) ?_
          show Steps p.tables e below (s₁.setTop (mkF m 11 #[.val (.int v1)] [(.int (127 : Int32)), (.int v1)])) _
          refine XS.icmpYes X0.here hx rfl (pc0 := 11) (pc' := 23) rfl (hb hby d4_11) rfl (tlt hb2).1 (by decide) (by decide) ?_
          show Steps p.tables e below (s₁.setTop (mkF m 23 #[.val (.int v1)] [])) _
          refine XS.iloadN X0.here hx rfl (hb hby d4_23) rfl ?_
          show Steps p.tables e below (s₁.setTop (mkF m 24 #[.val (.int v1)] [(.int v1)])) _
          refine XS.sipush X0.here hx rfl (hb hby d4_24) ?_
          show Steps p.tables e below (s₁.setTop (mkF m 27 #[.val (.int v1)] [(.int (8232 : Int32)), (.int v1)])) _
          refine XS.icmpYes X0.here hx rfl (pc0 := 27) (pc' := 37) rfl (hb hby d4_27) rfl (teq hb3).1 (by decide) (by decide) ?_
          show Steps p.tables e below (s₁.setTop (mkF m 37 #[.val (.int v1)] [])) _
          refine XS.iconst X0.here hx rfl (hb hby d4_37) ?_
          show Steps p.tables e below (s₁.setTop (mkF m 38 #[.val (.int v1)] [(.int (1 : Int32))])) _
          exact retN X0 hx (t := .boolean) Bd.returns (by simp) (hb hby d4_38) hr
        · show Q4 Z v1 h0 n0 _ s₁.heap _
          rw [e0]
          exact ⟨(congrArg (fun z => some (Value.int z)) (Eq.symm (Eq.trans (if_pos hb1) (Eq.trans (if_pos hb2) (if_pos hb3))))), N0, rfl⟩
      · by_cases hb4 : v1 = (8233 : Int32)
        · obtain ⟨fs, hr, hrun, hended, hW, hsame⟩ := X0.leave (v := some (.int (1 : Int32))) (fun h => by rw [Bd.returns] at h; cases h)
          refine ⟨_, _, pre0 _ ?_, hrun, hended, _, _, rfl, ?_, ⟨_, rfl⟩, hW, hsame.mono (by decide) (by decide)⟩
          · show Steps p.tables e below (s₁.setTop (mkF m 0 #[.val (.int v1)] [])) _
            refine XS.iloadN X0.here hx rfl (hb hby d4_0) rfl ?_
            show Steps p.tables e below (s₁.setTop (mkF m 1 #[.val (.int v1)] [(.int v1)])) _
            refine XS.bipush X0.here hx rfl (hb hby d4_1) ?_
            show Steps p.tables e below (s₁.setTop (mkF m 3 #[.val (.int v1)] [(.int (31 : Int32)), (.int v1)])) _
            refine XS.icmpYes X0.here hx rfl (pc0 := 3) (pc' := 8) rfl (hb hby d4_3) rfl (tlt hb1).2.2.1 (by decide) (by decide) ?_
            show Steps p.tables e below (s₁.setTop (mkF m 8 #[.val (.int v1)] [])) _
            refine XS.iloadN X0.here hx rfl (hb hby d4_8) rfl ?_
            show Steps p.tables e below (s₁.setTop (mkF m 9 #[.val (.int v1)] [(.int v1)])) _
            refine XS.bipush X0.here hx rfl (hb hby d4_9) ?_
            show Steps p.tables e below (s₁.setTop (mkF m 11 #[.val (.int v1)] [(.int (127 : Int32)), (.int v1)])) _
            refine XS.icmpYes X0.here hx rfl (pc0 := 11) (pc' := 23) rfl (hb hby d4_11) rfl (tlt hb2).1 (by decide) (by decide) ?_
            show Steps p.tables e below (s₁.setTop (mkF m 23 #[.val (.int v1)] [])) _
            refine XS.iloadN X0.here hx rfl (hb hby d4_23) rfl ?_
            show Steps p.tables e below (s₁.setTop (mkF m 24 #[.val (.int v1)] [(.int v1)])) _
            refine XS.sipush X0.here hx rfl (hb hby d4_24) ?_
            show Steps p.tables e below (s₁.setTop (mkF m 27 #[.val (.int v1)] [(.int (8232 : Int32)), (.int v1)])) _
            refine XS.icmpNo X0.here hx rfl (hb hby d4_27) rfl (feq hb3).1 ?_
            show Steps p.tables e below (s₁.setTop (mkF m 30 #[.val (.int v1)] [])) _
            refine XS.iloadN X0.here hx rfl (hb hby d4_30) rfl ?_
            show Steps p.tables e below (s₁.setTop (mkF m 31 #[.val (.int v1)] [(.int v1)])) _
            refine XS.sipush X0.here hx rfl (hb hby d4_31) ?_
            show Steps p.tables e below (s₁.setTop (mkF m 34 #[.val (.int v1)] [(.int (8233 : Int32)), (.int v1)])) _
            refine XS.icmpNo X0.here hx rfl (hb hby d4_34) rfl (teq hb4).2 ?_
            show Steps p.tables e below (s₁.setTop (mkF m 37 #[.val (.int v1)] [])) _
            refine XS.iconst X0.here hx rfl (hb hby d4_37) ?_
            show Steps p.tables e below (s₁.setTop (mkF m 38 #[.val (.int v1)] [(.int (1 : Int32))])) _
            exact retN X0 hx (t := .boolean) Bd.returns (by simp) (hb hby d4_38) hr
          · show Q4 Z v1 h0 n0 _ s₁.heap _
            rw [e0]
            exact ⟨(congrArg (fun z => some (Value.int z)) (Eq.symm (Eq.trans (if_pos hb1) (Eq.trans (if_pos hb2) (Eq.trans (if_neg hb3) (if_pos hb4)))))), N0, rfl⟩
        · obtain ⟨fs, hr, hrun, hended, hW, hsame⟩ := X0.leave (v := some (.int (0 : Int32))) (fun h => by rw [Bd.returns] at h; cases h)
          refine ⟨_, _, pre0 _ ?_, hrun, hended, _, _, rfl, ?_, ⟨_, rfl⟩, hW, hsame.mono (by decide) (by decide)⟩
          · show Steps p.tables e below (s₁.setTop (mkF m 0 #[.val (.int v1)] [])) _
            refine XS.iloadN X0.here hx rfl (hb hby d4_0) rfl ?_
            show Steps p.tables e below (s₁.setTop (mkF m 1 #[.val (.int v1)] [(.int v1)])) _
            refine XS.bipush X0.here hx rfl (hb hby d4_1) ?_
            show Steps p.tables e below (s₁.setTop (mkF m 3 #[.val (.int v1)] [(.int (31 : Int32)), (.int v1)])) _
            refine XS.icmpYes X0.here hx rfl (pc0 := 3) (pc' := 8) rfl (hb hby d4_3) rfl (tlt hb1).2.2.1 (by decide) (by decide) ?_
            show Steps p.tables e below (s₁.setTop (mkF m 8 #[.val (.int v1)] [])) _
            refine XS.iloadN X0.here hx rfl (hb hby d4_8) rfl ?_
            show Steps p.tables e below (s₁.setTop (mkF m 9 #[.val (.int v1)] [(.int v1)])) _
            refine XS.bipush X0.here hx rfl (hb hby d4_9) ?_
            show Steps p.tables e below (s₁.setTop (mkF m 11 #[.val (.int v1)] [(.int (127 : Int32)), (.int v1)])) _
            refine XS.icmpYes X0.here hx rfl (pc0 := 11) (pc' := 23) rfl (hb hby d4_11) rfl (tlt hb2).1 (by decide) (by decide) ?_
            show Steps p.tables e below (s₁.setTop (mkF m 23 #[.val (.int v1)] [])) _
            refine XS.iloadN X0.here hx rfl (hb hby d4_23) rfl ?_
            show Steps p.tables e below (s₁.setTop (mkF m 24 #[.val (.int v1)] [(.int v1)])) _
            refine XS.sipush X0.here hx rfl (hb hby d4_24) ?_
            show Steps p.tables e below (s₁.setTop (mkF m 27 #[.val (.int v1)] [(.int (8232 : Int32)), (.int v1)])) _
            refine XS.icmpNo X0.here hx rfl (hb hby d4_27) rfl (feq hb3).1 ?_
            show Steps p.tables e below (s₁.setTop (mkF m 30 #[.val (.int v1)] [])) _
            refine XS.iloadN X0.here hx rfl (hb hby d4_30) rfl ?_
            show Steps p.tables e below (s₁.setTop (mkF m 31 #[.val (.int v1)] [(.int v1)])) _
            refine XS.sipush X0.here hx rfl (hb hby d4_31) ?_
            show Steps p.tables e below (s₁.setTop (mkF m 34 #[.val (.int v1)] [(.int (8233 : Int32)), (.int v1)])) _
            refine XS.icmpYes X0.here hx rfl (pc0 := 34) (pc' := 39) rfl (hb hby d4_34) rfl (feq hb4).2 (by decide) (by decide) ?_
            show Steps p.tables e below (s₁.setTop (mkF m 39 #[.val (.int v1)] [])) _
            refine XS.iconst X0.here hx rfl (hb hby d4_39) ?_
            show Steps p.tables e below (s₁.setTop (mkF m 40 #[.val (.int v1)] [(.int (0 : Int32))])) _
            exact retN X0 hx (t := .boolean) Bd.returns (by simp) (hb hby d4_40) hr
          · show Q4 Z v1 h0 n0 _ s₁.heap _
            rw [e0]
            exact ⟨(congrArg (fun z => some (Value.int z)) (Eq.symm (Eq.trans (if_pos hb1) (Eq.trans (if_pos hb2) (Eq.trans (if_neg hb3) (if_neg hb4)))))), N0, rfl⟩
    · by_cases hb5 : (159 : Int32) < v1
      · by_cases hb6 : v1 = (8232 : Int32)
        · obtain ⟨fs, hr, hrun, hended, hW, hsame⟩ := X0.leave (v := some (.int (1 : Int32))) (fun h => by rw [Bd.returns] at h; cases h)
          refine ⟨_, _, pre0 _ ?_, hrun, hended, _, _, rfl, ?_, ⟨_, rfl⟩, hW, hsame.mono (by decide) (by decide)⟩
          · show Steps p.tables e below (s₁.setTop (mkF m 0 #[.val (.int v1)] [])) _
            refine XS.iloadN X0.here hx rfl (hb hby d4_0) rfl ?_
            show Steps p.tables e below (s₁.setTop (mkF m 1 #[.val (.int v1)] [(.int v1)])) _
            refine XS.bipush X0.here hx rfl (hb hby d4_1) ?_
            show Steps p.tables e below (s₁.setTop (mkF m 3 #[.val (.int v1)] [(.int (31 : Int32)), (.int v1)])) _
            refine XS.icmpYes X0.here hx rfl (pc0 := 3) (pc' := 8) rfl (hb hby d4_3) rfl (tlt hb1).2.2.1 (by decide) (by decide) ?_
            show Steps p.tables e below (s₁.setTop (mkF m 8 #[.val (.int v1)] [])) _
            refine XS.iloadN X0.here hx rfl (hb hby d4_8) rfl ?_
            show Steps p.tables e below (s₁.setTop (mkF m 9 #[.val (.int v1)] [(.int v1)])) _
            refine XS.bipush X0.here hx rfl (hb hby d4_9) ?_
            show Steps p.tables e below (s₁.setTop (mkF m 11 #[.val (.int v1)] [(.int (127 : Int32)), (.int v1)])) _
            refine XS.icmpNo X0.here hx rfl (hb hby d4_11) rfl (flt hb2).1 ?_
            show Steps p.tables e below (s₁.setTop (mkF m 14 #[.val (.int v1)] [])) _
            refine XS.iloadN X0.here hx rfl (hb hby d4_14) rfl ?_
            show Steps p.tables e below (s₁.setTop (mkF m 15 #[.val (.int v1)] [(.int v1)])) _
            refine XS.sipush X0.here hx rfl (hb hby d4_15) ?_
            show Steps p.tables e below (s₁.setTop (mkF m 18 #[.val (.int v1)] [(.int (159 : Int32)), (.int v1)])) _
            refine XS.icmpYes X0.here hx rfl (pc0 := 18) (pc' := 23) rfl (hb hby d4_18) rfl (tlt hb5).2.2.1 (by decide) (by decide) ?_
            show Steps p.tables e below (s₁.setTop (mkF m 23 #[.val (.int v1)] [])) _
            refine XS.iloadN X0.here hx rfl (hb hby d4_23) rfl ?_
            show Steps p.tables e below (s₁.setTop (mkF m 24 #[.val (.int v1)] [(.int v1)])) _
            refine XS.sipush X0.here hx rfl (hb hby d4_24) ?_
            show Steps p.tables e below (s₁.setTop (mkF m 27 #[.val (.int v1)] [(.int (8232 : Int32)), (.int v1)])) _
            refine XS.icmpYes X0.here hx rfl (pc0 := 27) (pc' := 37) rfl (hb hby d4_27) rfl (teq hb6).1 (by decide) (by decide) ?_
            show Steps p.tables e below (s₁.setTop (mkF m 37 #[.val (.int v1)] [])) _
            refine XS.iconst X0.here hx rfl (hb hby d4_37) ?_
            show Steps p.tables e below (s₁.setTop (mkF m 38 #[.val (.int v1)] [(.int (1 : Int32))])) _
            exact retN X0 hx (t := .boolean) Bd.returns (by simp) (hb hby d4_38) hr
          · show Q4 Z v1 h0 n0 _ s₁.heap _
            rw [e0]
            exact ⟨(congrArg (fun z => some (Value.int z)) (Eq.symm (Eq.trans (if_pos hb1) (Eq.trans (if_neg hb2) (Eq.trans (if_pos hb5) (if_pos hb6)))))), N0, rfl⟩
        · by_cases hb7 : v1 = (8233 : Int32)
          · obtain ⟨fs, hr, hrun, hended, hW, hsame⟩ := X0.leave (v := some (.int (1 : Int32))) (fun h => by rw [Bd.returns] at h; cases h)
            refine ⟨_, _, pre0 _ ?_, hrun, hended, _, _, rfl, ?_, ⟨_, rfl⟩, hW, hsame.mono (by decide) (by decide)⟩
            · show Steps p.tables e below (s₁.setTop (mkF m 0 #[.val (.int v1)] [])) _
              refine XS.iloadN X0.here hx rfl (hb hby d4_0) rfl ?_
              show Steps p.tables e below (s₁.setTop (mkF m 1 #[.val (.int v1)] [(.int v1)])) _
              refine XS.bipush X0.here hx rfl (hb hby d4_1) ?_
              show Steps p.tables e below (s₁.setTop (mkF m 3 #[.val (.int v1)] [(.int (31 : Int32)), (.int v1)])) _
              refine XS.icmpYes X0.here hx rfl (pc0 := 3) (pc' := 8) rfl (hb hby d4_3) rfl (tlt hb1).2.2.1 (by decide) (by decide) ?_
              show Steps p.tables e below (s₁.setTop (mkF m 8 #[.val (.int v1)] [])) _
              refine XS.iloadN X0.here hx rfl (hb hby d4_8) rfl ?_
              show Steps p.tables e below (s₁.setTop (mkF m 9 #[.val (.int v1)] [(.int v1)])) _
              refine XS.bipush X0.here hx rfl (hb hby d4_9) ?_
              show Steps p.tables e below (s₁.setTop (mkF m 11 #[.val (.int v1)] [(.int (127 : Int32)), (.int v1)])) _
              refine XS.icmpNo X0.here hx rfl (hb hby d4_11) rfl (flt hb2).1 ?_
              show Steps p.tables e below (s₁.setTop (mkF m 14 #[.val (.int v1)] [])) _
              refine XS.iloadN X0.here hx rfl (hb hby d4_14) rfl ?_
              show Steps p.tables e below (s₁.setTop (mkF m 15 #[.val (.int v1)] [(.int v1)])) _
              refine XS.sipush X0.here hx rfl (hb hby d4_15) ?_
              show Steps p.tables e below (s₁.setTop (mkF m 18 #[.val (.int v1)] [(.int (159 : Int32)), (.int v1)])) _
              refine XS.icmpYes X0.here hx rfl (pc0 := 18) (pc' := 23) rfl (hb hby d4_18) rfl (tlt hb5).2.2.1 (by decide) (by decide) ?_
              show Steps p.tables e below (s₁.setTop (mkF m 23 #[.val (.int v1)] [])) _
              refine XS.iloadN X0.here hx rfl (hb hby d4_23) rfl ?_
              show Steps p.tables e below (s₁.setTop (mkF m 24 #[.val (.int v1)] [(.int v1)])) _
              refine XS.sipush X0.here hx rfl (hb hby d4_24) ?_
              show Steps p.tables e below (s₁.setTop (mkF m 27 #[.val (.int v1)] [(.int (8232 : Int32)), (.int v1)])) _
              refine XS.icmpNo X0.here hx rfl (hb hby d4_27) rfl (feq hb6).1 ?_
              show Steps p.tables e below (s₁.setTop (mkF m 30 #[.val (.int v1)] [])) _
              refine XS.iloadN X0.here hx rfl (hb hby d4_30) rfl ?_
              show Steps p.tables e below (s₁.setTop (mkF m 31 #[.val (.int v1)] [(.int v1)])) _
              refine XS.sipush X0.here hx rfl (hb hby d4_31) ?_
              show Steps p.tables e below (s₁.setTop (mkF m 34 #[.val (.int v1)] [(.int (8233 : Int32)), (.int v1)])) _
              refine XS.icmpNo X0.here hx rfl (hb hby d4_34) rfl (teq hb7).2 ?_
              show Steps p.tables e below (s₁.setTop (mkF m 37 #[.val (.int v1)] [])) _
              refine XS.iconst X0.here hx rfl (hb hby d4_37) ?_
              show Steps p.tables e below (s₁.setTop (mkF m 38 #[.val (.int v1)] [(.int (1 : Int32))])) _
              exact retN X0 hx (t := .boolean) Bd.returns (by simp) (hb hby d4_38) hr
            · show Q4 Z v1 h0 n0 _ s₁.heap _
              rw [e0]
              exact ⟨(congrArg (fun z => some (Value.int z)) (Eq.symm (Eq.trans (if_pos hb1) (Eq.trans (if_neg hb2) (Eq.trans (if_pos hb5) (Eq.trans (if_neg hb6) (if_pos hb7))))))), N0, rfl⟩
          · obtain ⟨fs, hr, hrun, hended, hW, hsame⟩ := X0.leave (v := some (.int (0 : Int32))) (fun h => by rw [Bd.returns] at h; cases h)
            refine ⟨_, _, pre0 _ ?_, hrun, hended, _, _, rfl, ?_, ⟨_, rfl⟩, hW, hsame.mono (by decide) (by decide)⟩
            · show Steps p.tables e below (s₁.setTop (mkF m 0 #[.val (.int v1)] [])) _
              refine XS.iloadN X0.here hx rfl (hb hby d4_0) rfl ?_
              show Steps p.tables e below (s₁.setTop (mkF m 1 #[.val (.int v1)] [(.int v1)])) _
              refine XS.bipush X0.here hx rfl (hb hby d4_1) ?_
              show Steps p.tables e below (s₁.setTop (mkF m 3 #[.val (.int v1)] [(.int (31 : Int32)), (.int v1)])) _
              refine XS.icmpYes X0.here hx rfl (pc0 := 3) (pc' := 8) rfl (hb hby d4_3) rfl (tlt hb1).2.2.1 (by decide) (by decide) ?_
              show Steps p.tables e below (s₁.setTop (mkF m 8 #[.val (.int v1)] [])) _
              refine XS.iloadN X0.here hx rfl (hb hby d4_8) rfl ?_
              show Steps p.tables e below (s₁.setTop (mkF m 9 #[.val (.int v1)] [(.int v1)])) _
              refine XS.bipush X0.here hx rfl (hb hby d4_9) ?_
              show Steps p.tables e below (s₁.setTop (mkF m 11 #[.val (.int v1)] [(.int (127 : Int32)), (.int v1)])) _
              refine XS.icmpNo X0.here hx rfl (hb hby d4_11) rfl (flt hb2).1 ?_
              show Steps p.tables e below (s₁.setTop (mkF m 14 #[.val (.int v1)] [])) _
              refine XS.iloadN X0.here hx rfl (hb hby d4_14) rfl ?_
              show Steps p.tables e below (s₁.setTop (mkF m 15 #[.val (.int v1)] [(.int v1)])) _
              refine XS.sipush X0.here hx rfl (hb hby d4_15) ?_
              show Steps p.tables e below (s₁.setTop (mkF m 18 #[.val (.int v1)] [(.int (159 : Int32)), (.int v1)])) _
              refine XS.icmpYes X0.here hx rfl (pc0 := 18) (pc' := 23) rfl (hb hby d4_18) rfl (tlt hb5).2.2.1 (by decide) (by decide) ?_
              show Steps p.tables e below (s₁.setTop (mkF m 23 #[.val (.int v1)] [])) _
              refine XS.iloadN X0.here hx rfl (hb hby d4_23) rfl ?_
              show Steps p.tables e below (s₁.setTop (mkF m 24 #[.val (.int v1)] [(.int v1)])) _
              refine XS.sipush X0.here hx rfl (hb hby d4_24) ?_
              show Steps p.tables e below (s₁.setTop (mkF m 27 #[.val (.int v1)] [(.int (8232 : Int32)), (.int v1)])) _
              refine XS.icmpNo X0.here hx rfl (hb hby d4_27) rfl (feq hb6).1 ?_
              show Steps p.tables e below (s₁.setTop (mkF m 30 #[.val (.int v1)] [])) _
              refine XS.iloadN X0.here hx rfl (hb hby d4_30) rfl ?_
              show Steps p.tables e below (s₁.setTop (mkF m 31 #[.val (.int v1)] [(.int v1)])) _
              refine XS.sipush X0.here hx rfl (hb hby d4_31) ?_
              show Steps p.tables e below (s₁.setTop (mkF m 34 #[.val (.int v1)] [(.int (8233 : Int32)), (.int v1)])) _
              refine XS.icmpYes X0.here hx rfl (pc0 := 34) (pc' := 39) rfl (hb hby d4_34) rfl (feq hb7).2 (by decide) (by decide) ?_
              show Steps p.tables e below (s₁.setTop (mkF m 39 #[.val (.int v1)] [])) _
              refine XS.iconst X0.here hx rfl (hb hby d4_39) ?_
              show Steps p.tables e below (s₁.setTop (mkF m 40 #[.val (.int v1)] [(.int (0 : Int32))])) _
              exact retN X0 hx (t := .boolean) Bd.returns (by simp) (hb hby d4_40) hr
            · show Q4 Z v1 h0 n0 _ s₁.heap _
              rw [e0]
              exact ⟨(congrArg (fun z => some (Value.int z)) (Eq.symm (Eq.trans (if_pos hb1) (Eq.trans (if_neg hb2) (Eq.trans (if_pos hb5) (Eq.trans (if_neg hb6) (if_neg hb7))))))), N0, rfl⟩
      · obtain ⟨fs, hr, hrun, hended, hW, hsame⟩ := X0.leave (v := some (.int (1 : Int32))) (fun h => by rw [Bd.returns] at h; cases h)
        refine ⟨_, _, pre0 _ ?_, hrun, hended, _, _, rfl, ?_, ⟨_, rfl⟩, hW, hsame.mono (by decide) (by decide)⟩
        · show Steps p.tables e below (s₁.setTop (mkF m 0 #[.val (.int v1)] [])) _
          refine XS.iloadN X0.here hx rfl (hb hby d4_0) rfl ?_
          show Steps p.tables e below (s₁.setTop (mkF m 1 #[.val (.int v1)] [(.int v1)])) _
          refine XS.bipush X0.here hx rfl (hb hby d4_1) ?_
          show Steps p.tables e below (s₁.setTop (mkF m 3 #[.val (.int v1)] [(.int (31 : Int32)), (.int v1)])) _
          refine XS.icmpYes X0.here hx rfl (pc0 := 3) (pc' := 8) rfl (hb hby d4_3) rfl (tlt hb1).2.2.1 (by decide) (by decide) ?_
          show Steps p.tables e below (s₁.setTop (mkF m 8 #[.val (.int v1)] [])) _
          refine XS.iloadN X0.here hx rfl (hb hby d4_8) rfl ?_
          show Steps p.tables e below (s₁.setTop (mkF m 9 #[.val (.int v1)] [(.int v1)])) _
          refine XS.bipush X0.here hx rfl (hb hby d4_9) ?_
          show Steps p.tables e below (s₁.setTop (mkF m 11 #[.val (.int v1)] [(.int (127 : Int32)), (.int v1)])) _
          refine XS.icmpNo X0.here hx rfl (hb hby d4_11) rfl (flt hb2).1 ?_
          show Steps p.tables e below (s₁.setTop (mkF m 14 #[.val (.int v1)] [])) _
          refine XS.iloadN X0.here hx rfl (hb hby d4_14) rfl ?_
          show Steps p.tables e below (s₁.setTop (mkF m 15 #[.val (.int v1)] [(.int v1)])) _
          refine XS.sipush X0.here hx rfl (hb hby d4_15) ?_
          show Steps p.tables e below (s₁.setTop (mkF m 18 #[.val (.int v1)] [(.int (159 : Int32)), (.int v1)])) _
          refine XS.icmpNo X0.here hx rfl (hb hby d4_18) rfl (flt hb5).2.2.1 ?_
          show Steps p.tables e below (s₁.setTop (mkF m 21 #[.val (.int v1)] [])) _
          refine XS.iconst X0.here hx rfl (hb hby d4_21) ?_
          show Steps p.tables e below (s₁.setTop (mkF m 22 #[.val (.int v1)] [(.int (1 : Int32))])) _
          exact retN X0 hx (t := .boolean) Bd.returns (by simp) (hb hby d4_22) hr
        · show Q4 Z v1 h0 n0 _ s₁.heap _
          rw [e0]
          exact ⟨(congrArg (fun z => some (Value.int z)) (Eq.symm (Eq.trans (if_pos hb1) (Eq.trans (if_neg hb2) (if_neg hb5))))), N0, rfl⟩
  · obtain ⟨fs, hr, hrun, hended, hW, hsame⟩ := X0.leave (v := some (.int (1 : Int32))) (fun h => by rw [Bd.returns] at h; cases h)
    refine ⟨_, _, pre0 _ ?_, hrun, hended, _, _, rfl, ?_, ⟨_, rfl⟩, hW, hsame.mono (by decide) (by decide)⟩
    · show Steps p.tables e below (s₁.setTop (mkF m 0 #[.val (.int v1)] [])) _
      refine XS.iloadN X0.here hx rfl (hb hby d4_0) rfl ?_
      show Steps p.tables e below (s₁.setTop (mkF m 1 #[.val (.int v1)] [(.int v1)])) _
      refine XS.bipush X0.here hx rfl (hb hby d4_1) ?_
      show Steps p.tables e below (s₁.setTop (mkF m 3 #[.val (.int v1)] [(.int (31 : Int32)), (.int v1)])) _
      refine XS.icmpNo X0.here hx rfl (hb hby d4_3) rfl (flt hb1).2.2.1 ?_
      show Steps p.tables e below (s₁.setTop (mkF m 6 #[.val (.int v1)] [])) _
      refine XS.iconst X0.here hx rfl (hb hby d4_6) ?_
      show Steps p.tables e below (s₁.setTop (mkF m 7 #[.val (.int v1)] [(.int (1 : Int32))])) _
      exact retN X0 hx (t := .boolean) Bd.returns (by simp) (hb hby d4_7) hr
    · show Q4 Z v1 h0 n0 _ s₁.heap _
      rw [e0]
      exact ⟨(congrArg (fun z => some (Value.int z)) (Eq.symm (if_neg hb1))), N0, rfl⟩
theorem pn_0 : plainName "com/example/chainvouch/chainvouch/cli/CliIsOffTheLinePinLaw" = true := by first | (simp [plainName, overriddenIn]; done) | decide +kernel
theorem ef_0 (m : MethodId) (x1 : Int32) : entryFrame m #[(.int x1)] maxLocals = mkF m 0 #[.val (.int x1), .unset, .unset] [] := by first | (simp [entryFrame, mkF, argsToLocals, Value.category, maxLocals]; done) | rfl
def F0 (x1 : Int32) : Int32 := (if (F1 ((x1 &&& (65535 : Int32)).toUInt32.toUInt16.toUInt32.toInt32)) = (F4 ((x1 &&& (65535 : Int32)).toUInt32.toUInt16.toUInt32.toInt32)) then (1 : Int32) else (0 : Int32))
def Q0 (Z : State) (x1 : Int32) (h0 : Heap) (n0 : Nat) (v : Option Value) (h : Heap) (L : List Loc) : Prop := v = some (.int (F0 x1)) ∧ Fr n0 L
set_option maxRecDepth 65536 in
set_option maxHeartbeats 40000000 in
theorem rm0 (l : Launch) (Z : State) (a0 : Array Value) (hw : ∀ d ∈ tables_1, d.before a0 Z = true) (ws : List Jvm.Cond) (x1 : Int32) (h0 : Heap) (n0 : Nat) (Z0 : n0 ≤ h0.size)  :
    MetFree l x (head1 (Jvm.Cond.code x code maxLocals ret :: ws) room_1) (fun a U => a = #[(.int x1)] ∧ Z.Warmed39 U.vm ∧ U.heap = h0) (fun _ _ _ _ _ => True) (fun _ U o U' => ∃ v L, o = .returned v ∧ Q0 Z x1 h0 n0 v U'.heap L ∧ FrameEnd U o U' L room_1.cells room_1.slots) := by
  refine MetFree.of_bodySF (plainFor_of_name pn_0) hisR ?_
  intro p e s m args below meth c s₁ Bd hml0 hP hK
  obtain ⟨rfl, hZ, hh⟩ := hP
  have hx := Bd.exec
  have hby := Bd.bytes
  have hml : c.maxLocals = 3 := hml0
  have hown : s.vm.findClass "com/example/chainvouch/chainvouch/cli/CliIsOffTheLinePinLaw" = some m.cls := findClass_of_methodNamed Bd.named
  have hnm := (name_of_methodNamed Bd.named Bd.method).1
  have X0 : Stand p l e room_1 s m #[(.int x1)] below meth c s₁ [] 0 0 := Stand.of_body Bd
  have e0 : s₁.heap = h0 := by rw [← hh, Bd.state]; rfl
  have N0 := Fr.nil n0
  have pre0 : ∀ t, Steps p.tables e below (s₁.setTop (mkF m 0 #[.val (.int x1), .unset, .unset] [])) t → Steps p.tables e below (s₁.setTop (entryFrame m #[(.int x1)] maxLocals)) t := fun t k => castTop (ef_0 m x1) k
  obtain ⟨_, _, ⟨T1, L1, k1, n1⟩, -, X1, ⟨Lc1, hQ1, l1, y1, z1⟩, st1⟩ := Jvm.LawKit.callS X0 hx (y := (⟨"com/example/chainvouch/chainvouch/cli/Cli", "isOffTheLine", "(C)Z"⟩ : MethodName)) hown (mvT hZ (hw _ (List.mem_of_getElem? (i := 1) rfl))) (mvT hZ (hw _ (List.mem_of_getElem? (i := 2) rfl))) (mvT hZ (hw _ (List.mem_of_getElem? (i := 3) rfl))) (mvT hZ (hw _ (List.mem_of_getElem? (i := 4) rfl))) (by decide) (backOf (W := 0) (rm1 l Z a0 hw [] ((x1 &&& (65535 : Int32)).toUInt32.toUInt16.toUInt32.toInt32)  h0 n0 Z0 ) hZ (hw _ (List.mem_of_getElem? (i := 4) rfl)) (hw _ (List.mem_of_getElem? (i := 3) rfl)) (by decide) (by decide)) (g := (mkF m 9 #[.val (.int x1), .val (.int ((x1 &&& (65535 : Int32)).toUInt32.toUInt16.toUInt32.toInt32)), .val (.int ((x1 &&& (65535 : Int32)).toUInt32.toUInt16.toUInt32.toInt32))] [(.int ((x1 &&& (65535 : Int32)).toUInt32.toUInt16.toUInt32.toInt32))])) rfl (by rw [hml]; rfl) (argsL := [(.int ((x1 &&& (65535 : Int32)).toUInt32.toUInt16.toUInt32.toInt32))]) (rest := []) (lenOf pd_1 rfl) rfl (by show 2 * 0 + _ ≤ _; exact Nat.le_of_eq rfl) (hb hby at_9) (fun _ _ => ⟨rfl, e0, (by decide : 0 + 0 ≤ _), (by decide : 0 + 0 ≤ _)⟩)
  dsimp only [Pt.U, Pt.locs, Pt.cells, Pt.slots] at X1 l1 y1 z1 st1 hQ1
  subst l1 y1 z1
  obtain ⟨rfl, N1q, e1⟩ := hQ1
  have N1 := Fr.app N0 N1q
  obtain ⟨_, _, ⟨T2, L2, k2, n2⟩, -, X2, ⟨Lc2, hQ2, l2, y2, z2⟩, st2⟩ := Jvm.LawKit.callS X1 hx (y := (⟨"com/example/chainvouch/chainvouch/cli/CliIsOffTheLinePinLaw", "expected", "(I)Z"⟩ : MethodName)) hown (mvT hZ (hw _ (List.mem_of_getElem? (i := 12) rfl))) (mvT hZ (hw _ (List.mem_of_getElem? (i := 13) rfl))) (mvT hZ (hw _ (List.mem_of_getElem? (i := 14) rfl))) (mvT hZ (hw _ (List.mem_of_getElem? (i := 15) rfl))) (by decide) (backOf (W := 1) (rm4 l Z a0 hw [] ((x1 &&& (65535 : Int32)).toUInt32.toUInt16.toUInt32.toInt32)  h0 n0 Z0 ) hZ (hw _ (List.mem_of_getElem? (i := 15) rfl)) (hw _ (List.mem_of_getElem? (i := 14) rfl)) (by decide) (by decide)) (g := (mkF m 13 #[.val (.int x1), .val (.int ((x1 &&& (65535 : Int32)).toUInt32.toUInt16.toUInt32.toInt32)), .val (.int ((x1 &&& (65535 : Int32)).toUInt32.toUInt16.toUInt32.toInt32))] [(.int ((x1 &&& (65535 : Int32)).toUInt32.toUInt16.toUInt32.toInt32)), (.int (F1 ((x1 &&& (65535 : Int32)).toUInt32.toUInt16.toUInt32.toInt32)))])) rfl (by rw [hml]; rfl) (argsL := [(.int ((x1 &&& (65535 : Int32)).toUInt32.toUInt16.toUInt32.toInt32))]) (rest := [(.int (F1 ((x1 &&& (65535 : Int32)).toUInt32.toUInt16.toUInt32.toInt32)))]) (lenOf pd_0 rfl) rfl (by show 2 * 0 + _ ≤ _; exact Nat.le_of_eq rfl) (hb hby at_13) (fun _ _ => ⟨rfl, e1, (by decide : 0 + 0 ≤ _), (by decide : 0 + 0 ≤ _)⟩)
  dsimp only [Pt.U, Pt.locs, Pt.cells, Pt.slots] at X2 l2 y2 z2 st2 hQ2
  subst l2 y2 z2
  obtain ⟨rfl, N2q, e2⟩ := hQ2
  have N2 := Fr.app N1 N2q
  obtain ⟨fs, hr, hrun, hended, hW, hsame⟩ := X2.leave (v := some (.int (if (F1 ((x1 &&& (65535 : Int32)).toUInt32.toUInt16.toUInt32.toInt32)) = (F4 ((x1 &&& (65535 : Int32)).toUInt32.toUInt16.toUInt32.toInt32)) then (1 : Int32) else (0 : Int32)))) (fun h => by rw [Bd.returns] at h; cases h)
  refine ⟨_, _, pre0 _ ?_, hrun, hended, _, _, rfl, ?_, ⟨_, rfl⟩, hW, hsame.mono (by decide) (by decide)⟩
  · show Steps p.tables e below (s₁.setTop (mkF m 0 #[.val (.int x1), .unset, .unset] [])) _
    refine XS.iloadN X0.here hx rfl (hb hby at_0) rfl ?_
    show Steps p.tables e below (s₁.setTop (mkF m 1 #[.val (.int x1), .unset, .unset] [(.int x1)])) _
    refine X0.ldcInt hx hown (mvT hZ (hw _ (List.mem_of_getElem? (i := 0) rfl))) (g := (mkF m 1 #[.val (.int x1), .unset, .unset] [(.int x1)])) rfl (hb hby at_1) _ ?_
    show Steps p.tables e below (s₁.setTop (mkF m 3 #[.val (.int x1), .unset, .unset] [(.int (65535 : Int32)), (.int x1)])) _
    refine XS.iand X0.here hx rfl (hb hby at_3) rfl ?_
    show Steps p.tables e below (s₁.setTop (mkF m 4 #[.val (.int x1), .unset, .unset] [(.int (x1 &&& (65535 : Int32)))])) _
    refine XS.i2c X0.here hx rfl (hb hby at_4) rfl ?_
    show Steps p.tables e below (s₁.setTop (mkF m 5 #[.val (.int x1), .unset, .unset] [(.int ((x1 &&& (65535 : Int32)).toUInt32.toUInt16.toUInt32.toInt32))])) _
    refine XS.istoreN X0.here hx rfl (hb hby at_5) rfl (l' := #[.val (.int x1), .val (.int ((x1 &&& (65535 : Int32)).toUInt32.toUInt16.toUInt32.toInt32)), .unset]) rfl ?_
    show Steps p.tables e below (s₁.setTop (mkF m 6 #[.val (.int x1), .val (.int ((x1 &&& (65535 : Int32)).toUInt32.toUInt16.toUInt32.toInt32)), .unset] [])) _
    refine XS.iloadN X0.here hx rfl (hb hby at_6) rfl ?_
    show Steps p.tables e below (s₁.setTop (mkF m 7 #[.val (.int x1), .val (.int ((x1 &&& (65535 : Int32)).toUInt32.toUInt16.toUInt32.toInt32)), .unset] [(.int ((x1 &&& (65535 : Int32)).toUInt32.toUInt16.toUInt32.toInt32))])) _
    refine XS.istoreN X0.here hx rfl (hb hby at_7) rfl (l' := #[.val (.int x1), .val (.int ((x1 &&& (65535 : Int32)).toUInt32.toUInt16.toUInt32.toInt32)), .val (.int ((x1 &&& (65535 : Int32)).toUInt32.toUInt16.toUInt32.toInt32))]) rfl ?_
    show Steps p.tables e below (s₁.setTop (mkF m 8 #[.val (.int x1), .val (.int ((x1 &&& (65535 : Int32)).toUInt32.toUInt16.toUInt32.toInt32)), .val (.int ((x1 &&& (65535 : Int32)).toUInt32.toUInt16.toUInt32.toInt32))] [])) _
    refine XS.iloadN X0.here hx rfl (hb hby at_8) rfl ?_
    show Steps p.tables e below (s₁.setTop (mkF m 9 #[.val (.int x1), .val (.int ((x1 &&& (65535 : Int32)).toUInt32.toUInt16.toUInt32.toInt32)), .val (.int ((x1 &&& (65535 : Int32)).toUInt32.toUInt16.toUInt32.toInt32))] [(.int ((x1 &&& (65535 : Int32)).toUInt32.toUInt16.toUInt32.toInt32))])) _
    refine st1 _ ?_
    show Steps p.tables e below (T1.setTop (mkF m 12 #[.val (.int x1), .val (.int ((x1 &&& (65535 : Int32)).toUInt32.toUInt16.toUInt32.toInt32)), .val (.int ((x1 &&& (65535 : Int32)).toUInt32.toUInt16.toUInt32.toInt32))] [(.int (F1 ((x1 &&& (65535 : Int32)).toUInt32.toUInt16.toUInt32.toInt32)))])) _
    refine XS.iloadN X1.here hx rfl (hb hby at_12) rfl ?_
    show Steps p.tables e below (T1.setTop (mkF m 13 #[.val (.int x1), .val (.int ((x1 &&& (65535 : Int32)).toUInt32.toUInt16.toUInt32.toInt32)), .val (.int ((x1 &&& (65535 : Int32)).toUInt32.toUInt16.toUInt32.toInt32))] [(.int ((x1 &&& (65535 : Int32)).toUInt32.toUInt16.toUInt32.toInt32)), (.int (F1 ((x1 &&& (65535 : Int32)).toUInt32.toUInt16.toUInt32.toInt32)))])) _
    refine st2 _ ?_
    show Steps p.tables e below (T2.setTop (mkF m 16 #[.val (.int x1), .val (.int ((x1 &&& (65535 : Int32)).toUInt32.toUInt16.toUInt32.toInt32)), .val (.int ((x1 &&& (65535 : Int32)).toUInt32.toUInt16.toUInt32.toInt32))] [(.int (F4 ((x1 &&& (65535 : Int32)).toUInt32.toUInt16.toUInt32.toInt32))), (.int (F1 ((x1 &&& (65535 : Int32)).toUInt32.toUInt16.toUInt32.toInt32)))])) _
    refine own_dia (u := ((1 : Int32) : Int32)) (v := (0 : Int32)) ((F1 ((x1 &&& (65535 : Int32)).toUInt32.toUInt16.toUInt32.toInt32)) = (F4 ((x1 &&& (65535 : Int32)).toUInt32.toUInt16.toUInt32.toInt32))) (fun z3 => (mkF m 24 #[.val (.int x1), .val (.int ((x1 &&& (65535 : Int32)).toUInt32.toUInt16.toUInt32.toInt32)), .val (.int ((x1 &&& (65535 : Int32)).toUInt32.toUInt16.toUInt32.toInt32))] [(.int z3)])) (fun hc3 k3 => ?_) (fun hc3 k3 => ?_) ?_
    · refine XS.icmpNo X2.here hx rfl (hb hby at_16) rfl (teq hc3).2 ?_
      show Steps p.tables e below (T2.setTop (mkF m 19 #[.val (.int x1), .val (.int ((x1 &&& (65535 : Int32)).toUInt32.toUInt16.toUInt32.toInt32)), .val (.int ((x1 &&& (65535 : Int32)).toUInt32.toUInt16.toUInt32.toInt32))] [])) _
      refine XS.iconst X2.here hx rfl (hb hby at_19) ?_
      show Steps p.tables e below (T2.setTop (mkF m 20 #[.val (.int x1), .val (.int ((x1 &&& (65535 : Int32)).toUInt32.toUInt16.toUInt32.toInt32)), .val (.int ((x1 &&& (65535 : Int32)).toUInt32.toUInt16.toUInt32.toInt32))] [(.int (1 : Int32))])) _
      refine XS.goto X2.here hx rfl (pc0 := 20) (pc' := 24) rfl (hb hby at_20) (by decide) (by decide) ?_
      exact k3
    · refine XS.icmpYes X2.here hx rfl (pc0 := 16) (pc' := 23) rfl (hb hby at_16) rfl (feq hc3).2 (by decide) (by decide) ?_
      show Steps p.tables e below (T2.setTop (mkF m 23 #[.val (.int x1), .val (.int ((x1 &&& (65535 : Int32)).toUInt32.toUInt16.toUInt32.toInt32)), .val (.int ((x1 &&& (65535 : Int32)).toUInt32.toUInt16.toUInt32.toInt32))] [])) _
      refine XS.iconst X2.here hx rfl (hb hby at_23) ?_
      exact k3
    -- meets at 24
    show Steps p.tables e below (T2.setTop (mkF m 24 #[.val (.int x1), .val (.int ((x1 &&& (65535 : Int32)).toUInt32.toUInt16.toUInt32.toInt32)), .val (.int ((x1 &&& (65535 : Int32)).toUInt32.toUInt16.toUInt32.toInt32))] [(.int (if (F1 ((x1 &&& (65535 : Int32)).toUInt32.toUInt16.toUInt32.toInt32)) = (F4 ((x1 &&& (65535 : Int32)).toUInt32.toUInt16.toUInt32.toInt32)) then (1 : Int32) else (0 : Int32)))])) _
    exact retN X2 hx (t := .boolean) Bd.returns (by simp) (hb hby at_24) (by rw [own_nb (own_b01 (Or.inr rfl) (Or.inl rfl))]; exact hr)
  · show Q0 Z x1 h0 n0 _ T2.heap _
    rw [e2]
    exact ⟨rfl, N2⟩

theorem own_nat {v : Int32} (h : 0 ≤ v.toInt) : v.toInt = (v.toBitVec.toNat : Int) := by
  have hb := v.toBitVec.isLt
  have e : v.toInt = v.toBitVec.toInt := rfl
  rw [e, BitVec.toInt_eq_toNat_cond] at h ⊢
  by_cases hc : 2 * v.toBitVec.toNat < 2 ^ 32
  · rw [if_pos hc]
  · rw [if_neg hc] at h; omega
theorem own_ofnat {v : Int32} {n : Nat} (h : v.toBitVec.toNat = n) (hn : n < 2 ^ 31) : v.toInt = (n : Int) := by
  have e : v.toInt = v.toBitVec.toInt := rfl
  rw [e, BitVec.toInt_eq_toNat_cond, h, if_pos (by omega)]

theorem own_i2c {v : Int32} (h0 : 0 ≤ v.toInt) (h1 : v.toInt < 65536) : v.toUInt32.toUInt16.toUInt32.toInt32 = v := by
  have e := own_nat h0
  apply Int32.toBitVec_inj.mp
  apply BitVec.eq_of_toNat_eq
  have e1 : (v.toUInt32.toUInt16.toUInt32.toInt32).toBitVec.toNat = (v.toUInt32.toUInt16.toUInt32).toNat := rfl
  rw [e1, UInt16.toNat_toUInt32, UInt32.toNat_toUInt16]
  show v.toBitVec.toNat % 2 ^ 16 = _
  omega

theorem own_f3 (vc : Int32) : F3 vc = 0 ∨ F3 vc = 1 := by
  unfold F3
  (repeat' split) <;> first | exact Or.inl rfl | exact Or.inr rfl
theorem own_eq {v : Int32} (h0 : 0 ≤ v.toInt) : F1 v = F4 v := by
  have e : F2 v = F3 v := own_nb (own_f3 v)
  have es : ((v.toUInt32 >>> ((5 : Int32) &&& 31).toUInt32).toInt32).toInt = v.toInt / 2 ^ 5 := Jvm.Kit.i32_iushr (Jvm.Kit.i32_nonneg.mpr h0) (by decide) (by decide)
  have l0 : (0 : Int32).toInt = 0 := rfl
  have l31 : (31 : Int32).toInt = 31 := rfl
  have l127 : (127 : Int32).toInt = 127 := rfl
  have l159 : (159 : Int32).toInt = 159 := rfl
  have la : (8232 : Int32).toInt = 8232 := rfl
  have lb : (8233 : Int32).toInt = 8233 := rfl
  have e3 : (F3 v = 0) ↔ ¬ (v.toInt < 32 ∨ (127 ≤ v.toInt ∧ v.toInt ≤ 159)) := by
    have es0 : (((v.toUInt32 >>> ((5 : Int32) &&& 31).toUInt32).toInt32) = 0) ↔ v.toInt / 2 ^ 5 = 0 := by rw [← Int32.toInt_inj, es, l0]
    unfold F3
    simp only [Int32.lt_iff_toInt_lt, l127, l159, es0]
    (repeat' split) <;> constructor <;> intro q <;> first | omega | (exact absurd q (by decide)) | rfl | (exfalso; omega)
  unfold F1 F4
  rw [e]
  simp only [e3]
  simp only [Int32.lt_iff_toInt_lt, ← Int32.toInt_inj, l31, l127, l159, la, lb]
  (repeat' split) <;> first | rfl | (exfalso; omega)
theorem own_plain (x1 : Int32) : F0 x1 = 1 := by
  have e1 : (x1 &&& (65535 : Int32)).toInt = x1.toInt % 2 ^ 16 := Jvm.Kit.i32_mask x1 65535 (by decide) (by decide)
  unfold F0
  rw [own_i2c (by omega) (by omega), own_eq (by omega), if_pos rfl]

set_option maxRecDepth 65536 in
set_option maxHeartbeats 40000000 in
theorem comes_1 {Post : Tables → Env → Array Value → State → Outcome → State → Prop} (hpost : ∀ tb e args s v u, (limb_1_1.after args s (.returned v) u = true ∧ limb_1_2.after args s (.returned v) u = true ∧ True) → FrameEnd s (.returned v) u (Jvm.fieldLocs frame_1_writes args s ++ Jvm.arrayLocs frame_1_arrays args s ++ Jvm.staticLocs frame_1_statics s) 0 0 → Post tb e args s (.returned v) u) :
    ArmFor flags0 classFile x code maxLocals ret World_1 tables_1 room_1 Calls_1 rest_1 Pre_1 Post := by
  intro l hfl _ _ p e ha hc hk s m args below hf hA hF happ hP
  obtain ⟨hcalls, hrest, hpre⟩ := hP
  obtain ⟨-, -, -, hnamed, -, -, -, hat⟩ := (Spec.applies_iff hf).mp happ
  obtain ⟨hg, hn⟩ := and_e (Cond.before_iff.mp (show (Jvm.Cond.and given_1 narrow_1).before args s = true from hpre))
  obtain ⟨hcount, t0⟩ := and_e hg
  have k0 := t0
  obtain ⟨w0, rfl⟩ : ∃ w0 : Value, args = #[w0] := by
    have hs : args.size = 1 := by simpa [Cond.value, given_1] using hcount
    obtain ⟨L⟩ := args
    match L, hs with
    | [w0], _ => exact ⟨w0, rfl⟩
  have hw := fun d (hd : d ∈ tables_1) => atoms_spec (ws := Jvm.Cond.code x code maxLocals ret :: tables_1) hat d (List.mem_cons_of_mem _ hd)
  obtain ⟨i0, ei0⟩ := is_v k0
  obtain rfl : w0 = (.int i0) := Option.some.inj ei0
  obtain ⟨n, o, h1, h2, h3, _, L, rfl, ⟨hv, N⟩, hq⟩ := rm0 l s _ hw tables_1 i0 s.heap s.heap.size (Nat.le_refl _) p e ha hc hk s m _ below hf ((Spec.applies_iff_loose hf).mp happ).1 ⟨rfl, State.Warmed39.refl s, rfl⟩ trivial
  rw [own_plain i0] at hv
  subst hv
  refine ⟨n, _, h1, h2, h3, hpost _ _ _ _ _ _ ⟨Cond.after_iff.mpr rfl, Cond.after_iff.mpr (eq_i res_at (Term.int_eval (1)) rfl), trivial⟩ ⟨hq.1, hq.2.1, (hq.2.2.sift fun y hy => Or.inr (N y hy)).mono (by decide) (by decide)⟩⟩
theorem main_1_1 : Claimed_1_1 := comes_1 fun _ _ _ _ _ _ h hF => ⟨h.1, hF⟩
theorem main_1_2 : Claimed_1_2 := comes_1 fun _ _ _ _ _ _ h hF => ⟨h.2.1, hF⟩
end Jvm.Pilot.@@N@@
namespace Jvm.Pilot.@@N@@
open Jvm Jvm.ClassFile Sem Op Lib Jvm.Free Jvm.Stand Jvm.Pilot.@@N@@.Jvm.D
/-! MADE BY PROGRAM (witnessworld.py) out of the Statement's table words and the real class files: 12 classes; the members and pool entries that the words name. The judged class is class 1, her method 2. -/
namespace start1
open Jvm.ClassFile
def u (s : String) : CpInfo := .utf8 (stringToUtf16 s)
/-- a pool by its gaps: so many unusable entries, then the entry; so many at the end -/
def gap : Nat → List CpInfo → List CpInfo
  | 0, r => r
  | n + 1, r => .unusable :: gap n r
def poolList (es : List (Nat × CpInfo)) (last : Nat) : List CpInfo := es.foldr (fun e r => gap e.1 (e.2 :: r)) (gap last [])
def pool (es : List (Nat × CpInfo)) (last : Nat) : Array CpInfo := ⟨poolList es last⟩
def fileOf (pool : Array CpInfo) (this : Nat) (attrs : Array Attribute := #[]) (ms : Array MethodInfo := #[]) (fl : Nat := 33) (sup : Nat := 0) (ifs : Array Nat := #[]) (fds : Array FieldInfo := #[]) : ClassFile where
  minorVersion := 0
  majorVersion := 65
  constantPool := pool
  accessFlags := fl
  thisClass := this
  superClass := sup
  interfaces := ifs
  fields := fds
  methods := ms
  attributes := attrs
def plain (name : String) (sup : Option ClassId) : Class where
  name := name
  kind := .ordinary
  loader := none
  accessFlags := 33
  super := sup
  interfaces := #[]
  cf := none
  fields := #[]
  methods := #[]
  instanceTypes := #[]
  staticTypes := #[]
  resolved := #[]
  callSites := []
  init := .initialized
  statics := none
  mirror := none

def pool0 : Array CpInfo := pool [(5, u "<init>"), (0, u "()V"), (1, .class_ 10), (1, u "java/lang/Object")] 113

def k0m0 : Method := { name := "<init>", desc := "()V", sig := { parameters := [], returnType := none }, accessFlags := 1, code := none }
/-- java/lang/Object -/
def k0 : Class := { plain "java/lang/Object" none with
  accessFlags := 33
  interfaces := #[]
  cf := some (fileOf pool0 8 #[] #[{ accessFlags := 1, nameIndex := 5, descriptorIndex := 6, attributes := #[] }] 33 0 #[] #[])
  fields := #[]
  methods := #[k0m0]
  instanceTypes := #[]
  staticTypes := #[]
  resolved := Array.replicate 124 none
  statics := none }

def pool1 : Array CpInfo := pool [(2, .class_ 4), (1, u "java/lang/Object"), (0, u "<init>"), (0, u "()V"), (0, .integer 65535), (0, .methodref 9 10), (0, .class_ 11), (0, .nameAndType 12 13), (0, u "com/example/chainvouch/chainvouch/cli/Cli"), (0, u "isOffTheLine"), (0, u "(C)Z"), (0, .methodref 15 16), (0, .class_ 17), (0, .nameAndType 18 19), (0, u "com/example/chainvouch/chainvouch/cli/CliIsOffTheLinePinLaw"), (0, u "expected"), (0, u "(I)Z"), (3, u "law")] 2

def k1m0 : Method := { name := "<init>", desc := "()V", sig := { parameters := [], returnType := none }, accessFlags := 2, code := none }
def k1c1 : Code := { maxStack := 2, maxLocals := 1, code := method_2_code, exceptionTable := #[], attributes := #[] }
def k1m1 : Method := { name := "expected", desc := "(I)Z", sig := { parameters := [.int], returnType := some .boolean }, accessFlags := 10, code := some k1c1 }
def k1c2 : Code := { maxStack := 2, maxLocals := 3, code := code, exceptionTable := #[], attributes := #[] }
def k1m2 : Method := { name := "law", desc := "(I)Z", sig := { parameters := [.int], returnType := some .boolean }, accessFlags := 9, code := some k1c2 }
/-- com/example/chainvouch/chainvouch/cli/CliIsOffTheLinePinLaw -/
def k1 : Class := { plain "com/example/chainvouch/chainvouch/cli/CliIsOffTheLinePinLaw" (some 0) with
  accessFlags := 49
  interfaces := #[]
  cf := some (fileOf pool1 15 #[] #[{ accessFlags := 2, nameIndex := 5, descriptorIndex := 6, attributes := #[] }, { accessFlags := 10, nameIndex := 18, descriptorIndex := 19, attributes := #[] }, { accessFlags := 9, nameIndex := 23, descriptorIndex := 19, attributes := #[] }] 49 2 #[] #[])
  fields := #[]
  methods := #[k1m0, k1m1, k1m2]
  instanceTypes := #[]
  staticTypes := #[]
  resolved := Array.replicate 26 none
  statics := none }

def pool2 : Array CpInfo := pool [(2, .class_ 4), (1, u "java/lang/Object"), (6, .class_ 13), (1, u "com/example/chainvouch/chainvouch/cli/Cli"), (0, u "formats"), (0, u "Ljava/util/Map;"), (102, .methodref 119 120), (0, .class_ 121), (0, .nameAndType 122 123), (0, u "java/lang/Character"), (0, u "isISOControl"), (0, u "(C)Z"), (10, u "isOffTheLine"), (110, u "EXIT_OK"), (0, u "I"), (2, u "EXIT_INVALID"), (1, u "EXIT_CANNOT_RUN"), (1, u "PROGRAM"), (0, u "Ljava/lang/String;")] 69

def k2c0 : Code := { maxStack := 2, maxLocals := 1, code := prog_10_method_4_code, exceptionTable := #[], attributes := #[] }
def k2m0 : Method := { name := "isOffTheLine", desc := "(C)Z", sig := { parameters := [.char], returnType := some .boolean }, accessFlags := 8, code := some k2c0 }
/-- com/example/chainvouch/chainvouch/cli/Cli -/
def k2 : Class := { plain "com/example/chainvouch/chainvouch/cli/Cli" (some 0) with
  accessFlags := 48
  interfaces := #[]
  cf := some (fileOf pool2 11 #[] #[{ accessFlags := 8, nameIndex := 134, descriptorIndex := 123, attributes := #[] }] 48 2 #[] #[{ accessFlags := 24, nameIndex := 245, descriptorIndex := 246, attributes := #[] }, { accessFlags := 24, nameIndex := 249, descriptorIndex := 246, attributes := #[] }, { accessFlags := 24, nameIndex := 251, descriptorIndex := 246, attributes := #[] }, { accessFlags := 24, nameIndex := 253, descriptorIndex := 254, attributes := #[] }, { accessFlags := 18, nameIndex := 14, descriptorIndex := 15, attributes := #[] }])
  fields := #[{ name := "EXIT_OK", type := .int, accessFlags := 24, slot := 0, constantValue := 0 }, { name := "EXIT_INVALID", type := .int, accessFlags := 24, slot := 1, constantValue := 0 }, { name := "EXIT_CANNOT_RUN", type := .int, accessFlags := 24, slot := 2, constantValue := 0 }, { name := "PROGRAM", type := (.object "java/lang/String"), accessFlags := 24, slot := 3, constantValue := 0 }, { name := "formats", type := (.object "java/util/Map"), accessFlags := 18, slot := 0, constantValue := 0 }]
  methods := #[k2m0]
  instanceTypes := #[(.object "java/util/Map")]
  staticTypes := #[.int, .int, .int, (.object "java/lang/String")]
  resolved := Array.replicate 324 none
  statics := none }

def pool3 : Array CpInfo := pool [(1, .class_ 2), (0, u "java/io/Serializable"), (0, .class_ 4), (0, u "java/lang/Object")] 2

/-- java/io/Serializable -/
def k3 : Class := { plain "java/io/Serializable" (some 0) with
  accessFlags := 1537
  interfaces := #[]
  cf := some (fileOf pool3 1 #[] #[] 1537 3 #[] #[])
  fields := #[]
  methods := #[]
  instanceTypes := #[]
  staticTypes := #[]
  resolved := Array.replicate 7 none
  statics := none }

def pool4 : Array CpInfo := pool [(1, .class_ 2), (0, u "java/lang/Comparable"), (0, .class_ 4), (0, u "java/lang/Object")] 7

/-- java/lang/Comparable -/
def k4 : Class := { plain "java/lang/Comparable" (some 0) with
  accessFlags := 1537
  interfaces := #[]
  cf := some (fileOf pool4 1 #[] #[] 1537 3 #[] #[])
  fields := #[]
  methods := #[]
  instanceTypes := #[]
  staticTypes := #[]
  resolved := Array.replicate 12 none
  statics := none }

def pool5 : Array CpInfo := pool [(1, .class_ 2), (0, u "java/lang/constant/Constable"), (0, .class_ 4), (0, u "java/lang/Object")] 6

/-- java/lang/constant/Constable -/
def k5 : Class := { plain "java/lang/constant/Constable" (some 0) with
  accessFlags := 1537
  interfaces := #[]
  cf := some (fileOf pool5 1 #[] #[] 1537 3 #[] #[])
  fields := #[]
  methods := #[]
  instanceTypes := #[]
  staticTypes := #[]
  resolved := Array.replicate 11 none
  statics := none }

def pool6 : Array CpInfo := pool [(1, .class_ 2), (0, u "java/lang/Character"), (18, u "value"), (0, u "C"), (19, .class_ 44), (1, u "java/lang/Object"), (3, .class_ 50), (1, u "java/lang/Character$CharacterCache"), (30, u "(C)Z"), (32, u "(I)Z"), (151, .methodref 1 267), (0, .nameAndType 268 114), (0, u "isISOControl"), (15, u "$assertionsDisabled"), (0, u "Z"), (21, .class_ 309), (1, u "java/lang/Character$UnicodeBlock"), (73, u "TYPE"), (0, u "Ljava/lang/Class;"), (0, .class_ 386), (0, u "java/io/Serializable"), (0, .class_ 388), (0, u "java/lang/Comparable"), (0, .class_ 390), (0, u "java/lang/constant/Constable"), (0, u "MIN_RADIX"), (0, u "I"), (2, u "MAX_RADIX"), (1, u "MIN_VALUE"), (1, u "MAX_VALUE"), (3, u "UNASSIGNED"), (0, u "B"), (0, u "UPPERCASE_LETTER"), (1, u "LOWERCASE_LETTER"), (0, u "TITLECASE_LETTER"), (1, u "MODIFIER_LETTER"), (1, u "OTHER_LETTER"), (1, u "NON_SPACING_MARK"), (1, u "ENCLOSING_MARK"), (1, u "COMBINING_SPACING_MARK"), (1, u "DECIMAL_DIGIT_NUMBER"), (1, u "LETTER_NUMBER"), (1, u "OTHER_NUMBER"), (1, u "SPACE_SEPARATOR"), (1, u "LINE_SEPARATOR"), (1, u "PARAGRAPH_SEPARATOR"), (1, u "CONTROL"), (1, u "FORMAT"), (1, u "PRIVATE_USE"), (1, u "SURROGATE"), (1, u "DASH_PUNCTUATION"), (1, u "START_PUNCTUATION"), (1, u "END_PUNCTUATION"), (1, u "CONNECTOR_PUNCTUATION"), (1, u "OTHER_PUNCTUATION"), (1, u "MATH_SYMBOL"), (1, u "CURRENCY_SYMBOL"), (1, u "MODIFIER_SYMBOL"), (1, u "OTHER_SYMBOL"), (1, u "INITIAL_QUOTE_PUNCTUATION"), (1, u "FINAL_QUOTE_PUNCTUATION"), (1, u "ERROR"), (1, u "DIRECTIONALITY_UNDEFINED"), (0, u "DIRECTIONALITY_LEFT_TO_RIGHT"), (0, u "DIRECTIONALITY_RIGHT_TO_LEFT"), (0, u "DIRECTIONALITY_RIGHT_TO_LEFT_ARABIC"), (0, u "DIRECTIONALITY_EUROPEAN_NUMBER"), (0, u "DIRECTIONALITY_EUROPEAN_NUMBER_SEPARATOR"), (0, u "DIRECTIONALITY_EUROPEAN_NUMBER_TERMINATOR"), (0, u "DIRECTIONALITY_ARABIC_NUMBER"), (0, u "DIRECTIONALITY_COMMON_NUMBER_SEPARATOR"), (0, u "DIRECTIONALITY_NONSPACING_MARK"), (0, u "DIRECTIONALITY_BOUNDARY_NEUTRAL"), (0, u "DIRECTIONALITY_PARAGRAPH_SEPARATOR"), (0, u "DIRECTIONALITY_SEGMENT_SEPARATOR"), (0, u "DIRECTIONALITY_WHITESPACE"), (0, u "DIRECTIONALITY_OTHER_NEUTRALS"), (0, u "DIRECTIONALITY_LEFT_TO_RIGHT_EMBEDDING"), (0, u "DIRECTIONALITY_LEFT_TO_RIGHT_OVERRIDE"), (0, u "DIRECTIONALITY_RIGHT_TO_LEFT_EMBEDDING"), (0, u "DIRECTIONALITY_RIGHT_TO_LEFT_OVERRIDE"), (1, u "DIRECTIONALITY_POP_DIRECTIONAL_FORMAT"), (0, u "DIRECTIONALITY_LEFT_TO_RIGHT_ISOLATE"), (0, u "DIRECTIONALITY_RIGHT_TO_LEFT_ISOLATE"), (0, u "DIRECTIONALITY_FIRST_STRONG_ISOLATE"), (0, u "DIRECTIONALITY_POP_DIRECTIONAL_ISOLATE"), (0, u "MIN_HIGH_SURROGATE"), (0, u "MAX_HIGH_SURROGATE"), (1, u "MIN_LOW_SURROGATE"), (0, u "MAX_LOW_SURROGATE"), (1, u "MIN_SURROGATE"), (0, u "MAX_SURROGATE"), (0, u "MIN_SUPPLEMENTARY_CODE_POINT"), (0, u "MIN_CODE_POINT"), (0, u "MAX_CODE_POINT"), (1, u "serialVersionUID"), (0, u "J"), (2, u "SIZE"), (0, u "BYTES"), (88, .class_ 596), (0, u "java/lang/Character$UnicodeScript"), (0, .class_ 598), (0, u "java/lang/Character$Subset")] 5

def k6c0 : Code := { maxStack := 1, maxLocals := 1, code := jdk_89_method_88_code, exceptionTable := #[], attributes := #[] }
def k6m0 : Method := { name := "isISOControl", desc := "(C)Z", sig := { parameters := [.char], returnType := some .boolean }, accessFlags := 9, code := some k6c0 }
def k6c1 : Code := { maxStack := 2, maxLocals := 1, code := jdk_89_method_89_code, exceptionTable := #[], attributes := #[] }
def k6m1 : Method := { name := "isISOControl", desc := "(I)Z", sig := { parameters := [.int], returnType := some .boolean }, accessFlags := 9, code := some k6c1 }
/-- java/lang/Character -/
def k6 : Class := { plain "java/lang/Character" (some 0) with
  accessFlags := 49
  interfaces := #[3, 4, 5]
  cf := some (fileOf pool6 1 #[.nestMembers #[48, 595, 307, 597]] #[{ accessFlags := 9, nameIndex := 268, descriptorIndex := 81, attributes := #[] }, { accessFlags := 9, nameIndex := 268, descriptorIndex := 114, attributes := #[] }] 49 42 #[385, 387, 389] #[{ accessFlags := 25, nameIndex := 391, descriptorIndex := 392, attributes := #[] }, { accessFlags := 25, nameIndex := 395, descriptorIndex := 392, attributes := #[] }, { accessFlags := 25, nameIndex := 397, descriptorIndex := 22, attributes := #[] }, { accessFlags := 25, nameIndex := 399, descriptorIndex := 22, attributes := #[] }, { accessFlags := 25, nameIndex := 383, descriptorIndex := 384, attributes := #[] }, { accessFlags := 25, nameIndex := 403, descriptorIndex := 404, attributes := #[] }, { accessFlags := 25, nameIndex := 405, descriptorIndex := 404, attributes := #[] }, { accessFlags := 25, nameIndex := 407, descriptorIndex := 404, attributes := #[] }, { accessFlags := 25, nameIndex := 408, descriptorIndex := 404, attributes := #[] }, { accessFlags := 25, nameIndex := 410, descriptorIndex := 404, attributes := #[] }, { accessFlags := 25, nameIndex := 412, descriptorIndex := 404, attributes := #[] }, { accessFlags := 25, nameIndex := 414, descriptorIndex := 404, attributes := #[] }, { accessFlags := 25, nameIndex := 416, descriptorIndex := 404, attributes := #[] }, { accessFlags := 25, nameIndex := 418, descriptorIndex := 404, attributes := #[] }, { accessFlags := 25, nameIndex := 420, descriptorIndex := 404, attributes := #[] }, { accessFlags := 25, nameIndex := 422, descriptorIndex := 404, attributes := #[] }, { accessFlags := 25, nameIndex := 424, descriptorIndex := 404, attributes := #[] }, { accessFlags := 25, nameIndex := 426, descriptorIndex := 404, attributes := #[] }, { accessFlags := 25, nameIndex := 428, descriptorIndex := 404, attributes := #[] }, { accessFlags := 25, nameIndex := 430, descriptorIndex := 404, attributes := #[] }, { accessFlags := 25, nameIndex := 432, descriptorIndex := 404, attributes := #[] }, { accessFlags := 25, nameIndex := 434, descriptorIndex := 404, attributes := #[] }, { accessFlags := 25, nameIndex := 436, descriptorIndex := 404, attributes := #[] }, { accessFlags := 25, nameIndex := 438, descriptorIndex := 404, attributes := #[] }, { accessFlags := 25, nameIndex := 440, descriptorIndex := 404, attributes := #[] }, { accessFlags := 25, nameIndex := 442, descriptorIndex := 404, attributes := #[] }, { accessFlags := 25, nameIndex := 444, descriptorIndex := 404, attributes := #[] }, { accessFlags := 25, nameIndex := 446, descriptorIndex := 404, attributes := #[] }, { accessFlags := 25, nameIndex := 448, descriptorIndex := 404, attributes := #[] }, { accessFlags := 25, nameIndex := 450, descriptorIndex := 404, attributes := #[] }, { accessFlags := 25, nameIndex := 452, descriptorIndex := 404, attributes := #[] }, { accessFlags := 25, nameIndex := 454, descriptorIndex := 404, attributes := #[] }, { accessFlags := 25, nameIndex := 456, descriptorIndex := 404, attributes := #[] }, { accessFlags := 25, nameIndex := 458, descriptorIndex := 404, attributes := #[] }, { accessFlags := 25, nameIndex := 460, descriptorIndex := 404, attributes := #[] }, { accessFlags := 24, nameIndex := 462, descriptorIndex := 392, attributes := #[] }, { accessFlags := 25, nameIndex := 464, descriptorIndex := 404, attributes := #[] }, { accessFlags := 25, nameIndex := 465, descriptorIndex := 404, attributes := #[] }, { accessFlags := 25, nameIndex := 466, descriptorIndex := 404, attributes := #[] }, { accessFlags := 25, nameIndex := 467, descriptorIndex := 404, attributes := #[] }, { accessFlags := 25, nameIndex := 468, descriptorIndex := 404, attributes := #[] }, { accessFlags := 25, nameIndex := 469, descriptorIndex := 404, attributes := #[] }, { accessFlags := 25, nameIndex := 470, descriptorIndex := 404, attributes := #[] }, { accessFlags := 25, nameIndex := 471, descriptorIndex := 404, attributes := #[] }, { accessFlags := 25, nameIndex := 472, descriptorIndex := 404, attributes := #[] }, { accessFlags := 25, nameIndex := 473, descriptorIndex := 404, attributes := #[] }, { accessFlags := 25, nameIndex := 474, descriptorIndex := 404, attributes := #[] }, { accessFlags := 25, nameIndex := 475, descriptorIndex := 404, attributes := #[] }, { accessFlags := 25, nameIndex := 476, descriptorIndex := 404, attributes := #[] }, { accessFlags := 25, nameIndex := 477, descriptorIndex := 404, attributes := #[] }, { accessFlags := 25, nameIndex := 478, descriptorIndex := 404, attributes := #[] }, { accessFlags := 25, nameIndex := 479, descriptorIndex := 404, attributes := #[] }, { accessFlags := 25, nameIndex := 480, descriptorIndex := 404, attributes := #[] }, { accessFlags := 25, nameIndex := 481, descriptorIndex := 404, attributes := #[] }, { accessFlags := 25, nameIndex := 482, descriptorIndex := 404, attributes := #[] }, { accessFlags := 25, nameIndex := 484, descriptorIndex := 404, attributes := #[] }, { accessFlags := 25, nameIndex := 485, descriptorIndex := 404, attributes := #[] }, { accessFlags := 25, nameIndex := 486, descriptorIndex := 404, attributes := #[] }, { accessFlags := 25, nameIndex := 487, descriptorIndex := 404, attributes := #[] }, { accessFlags := 25, nameIndex := 488, descriptorIndex := 404, attributes := #[] }, { accessFlags := 25, nameIndex := 489, descriptorIndex := 22, attributes := #[] }, { accessFlags := 25, nameIndex := 490, descriptorIndex := 22, attributes := #[] }, { accessFlags := 25, nameIndex := 492, descriptorIndex := 22, attributes := #[] }, { accessFlags := 25, nameIndex := 493, descriptorIndex := 22, attributes := #[] }, { accessFlags := 25, nameIndex := 495, descriptorIndex := 22, attributes := #[] }, { accessFlags := 25, nameIndex := 496, descriptorIndex := 22, attributes := #[] }, { accessFlags := 25, nameIndex := 497, descriptorIndex := 392, attributes := #[] }, { accessFlags := 25, nameIndex := 498, descriptorIndex := 392, attributes := #[] }, { accessFlags := 25, nameIndex := 499, descriptorIndex := 392, attributes := #[] }, { accessFlags := 18, nameIndex := 21, descriptorIndex := 22, attributes := #[] }, { accessFlags := 26, nameIndex := 501, descriptorIndex := 502, attributes := #[] }, { accessFlags := 25, nameIndex := 505, descriptorIndex := 392, attributes := #[] }, { accessFlags := 25, nameIndex := 506, descriptorIndex := 392, attributes := #[] }, { accessFlags := 4120, nameIndex := 284, descriptorIndex := 285, attributes := #[] }])
  fields := #[{ name := "MIN_RADIX", type := .int, accessFlags := 25, slot := 0, constantValue := 0 }, { name := "MAX_RADIX", type := .int, accessFlags := 25, slot := 1, constantValue := 0 }, { name := "MIN_VALUE", type := .char, accessFlags := 25, slot := 2, constantValue := 0 }, { name := "MAX_VALUE", type := .char, accessFlags := 25, slot := 3, constantValue := 0 }, { name := "TYPE", type := (.object "java/lang/Class"), accessFlags := 25, slot := 4, constantValue := 0 }, { name := "UNASSIGNED", type := .byte, accessFlags := 25, slot := 5, constantValue := 0 }, { name := "UPPERCASE_LETTER", type := .byte, accessFlags := 25, slot := 6, constantValue := 0 }, { name := "LOWERCASE_LETTER", type := .byte, accessFlags := 25, slot := 7, constantValue := 0 }, { name := "TITLECASE_LETTER", type := .byte, accessFlags := 25, slot := 8, constantValue := 0 }, { name := "MODIFIER_LETTER", type := .byte, accessFlags := 25, slot := 9, constantValue := 0 }, { name := "OTHER_LETTER", type := .byte, accessFlags := 25, slot := 10, constantValue := 0 }, { name := "NON_SPACING_MARK", type := .byte, accessFlags := 25, slot := 11, constantValue := 0 }, { name := "ENCLOSING_MARK", type := .byte, accessFlags := 25, slot := 12, constantValue := 0 }, { name := "COMBINING_SPACING_MARK", type := .byte, accessFlags := 25, slot := 13, constantValue := 0 }, { name := "DECIMAL_DIGIT_NUMBER", type := .byte, accessFlags := 25, slot := 14, constantValue := 0 }, { name := "LETTER_NUMBER", type := .byte, accessFlags := 25, slot := 15, constantValue := 0 }, { name := "OTHER_NUMBER", type := .byte, accessFlags := 25, slot := 16, constantValue := 0 }, { name := "SPACE_SEPARATOR", type := .byte, accessFlags := 25, slot := 17, constantValue := 0 }, { name := "LINE_SEPARATOR", type := .byte, accessFlags := 25, slot := 18, constantValue := 0 }, { name := "PARAGRAPH_SEPARATOR", type := .byte, accessFlags := 25, slot := 19, constantValue := 0 }, { name := "CONTROL", type := .byte, accessFlags := 25, slot := 20, constantValue := 0 }, { name := "FORMAT", type := .byte, accessFlags := 25, slot := 21, constantValue := 0 }, { name := "PRIVATE_USE", type := .byte, accessFlags := 25, slot := 22, constantValue := 0 }, { name := "SURROGATE", type := .byte, accessFlags := 25, slot := 23, constantValue := 0 }, { name := "DASH_PUNCTUATION", type := .byte, accessFlags := 25, slot := 24, constantValue := 0 }, { name := "START_PUNCTUATION", type := .byte, accessFlags := 25, slot := 25, constantValue := 0 }, { name := "END_PUNCTUATION", type := .byte, accessFlags := 25, slot := 26, constantValue := 0 }, { name := "CONNECTOR_PUNCTUATION", type := .byte, accessFlags := 25, slot := 27, constantValue := 0 }, { name := "OTHER_PUNCTUATION", type := .byte, accessFlags := 25, slot := 28, constantValue := 0 }, { name := "MATH_SYMBOL", type := .byte, accessFlags := 25, slot := 29, constantValue := 0 }, { name := "CURRENCY_SYMBOL", type := .byte, accessFlags := 25, slot := 30, constantValue := 0 }, { name := "MODIFIER_SYMBOL", type := .byte, accessFlags := 25, slot := 31, constantValue := 0 }, { name := "OTHER_SYMBOL", type := .byte, accessFlags := 25, slot := 32, constantValue := 0 }, { name := "INITIAL_QUOTE_PUNCTUATION", type := .byte, accessFlags := 25, slot := 33, constantValue := 0 }, { name := "FINAL_QUOTE_PUNCTUATION", type := .byte, accessFlags := 25, slot := 34, constantValue := 0 }, { name := "ERROR", type := .int, accessFlags := 24, slot := 35, constantValue := 0 }, { name := "DIRECTIONALITY_UNDEFINED", type := .byte, accessFlags := 25, slot := 36, constantValue := 0 }, { name := "DIRECTIONALITY_LEFT_TO_RIGHT", type := .byte, accessFlags := 25, slot := 37, constantValue := 0 }, { name := "DIRECTIONALITY_RIGHT_TO_LEFT", type := .byte, accessFlags := 25, slot := 38, constantValue := 0 }, { name := "DIRECTIONALITY_RIGHT_TO_LEFT_ARABIC", type := .byte, accessFlags := 25, slot := 39, constantValue := 0 }, { name := "DIRECTIONALITY_EUROPEAN_NUMBER", type := .byte, accessFlags := 25, slot := 40, constantValue := 0 }, { name := "DIRECTIONALITY_EUROPEAN_NUMBER_SEPARATOR", type := .byte, accessFlags := 25, slot := 41, constantValue := 0 }, { name := "DIRECTIONALITY_EUROPEAN_NUMBER_TERMINATOR", type := .byte, accessFlags := 25, slot := 42, constantValue := 0 }, { name := "DIRECTIONALITY_ARABIC_NUMBER", type := .byte, accessFlags := 25, slot := 43, constantValue := 0 }, { name := "DIRECTIONALITY_COMMON_NUMBER_SEPARATOR", type := .byte, accessFlags := 25, slot := 44, constantValue := 0 }, { name := "DIRECTIONALITY_NONSPACING_MARK", type := .byte, accessFlags := 25, slot := 45, constantValue := 0 }, { name := "DIRECTIONALITY_BOUNDARY_NEUTRAL", type := .byte, accessFlags := 25, slot := 46, constantValue := 0 }, { name := "DIRECTIONALITY_PARAGRAPH_SEPARATOR", type := .byte, accessFlags := 25, slot := 47, constantValue := 0 }, { name := "DIRECTIONALITY_SEGMENT_SEPARATOR", type := .byte, accessFlags := 25, slot := 48, constantValue := 0 }, { name := "DIRECTIONALITY_WHITESPACE", type := .byte, accessFlags := 25, slot := 49, constantValue := 0 }, { name := "DIRECTIONALITY_OTHER_NEUTRALS", type := .byte, accessFlags := 25, slot := 50, constantValue := 0 }, { name := "DIRECTIONALITY_LEFT_TO_RIGHT_EMBEDDING", type := .byte, accessFlags := 25, slot := 51, constantValue := 0 }, { name := "DIRECTIONALITY_LEFT_TO_RIGHT_OVERRIDE", type := .byte, accessFlags := 25, slot := 52, constantValue := 0 }, { name := "DIRECTIONALITY_RIGHT_TO_LEFT_EMBEDDING", type := .byte, accessFlags := 25, slot := 53, constantValue := 0 }, { name := "DIRECTIONALITY_RIGHT_TO_LEFT_OVERRIDE", type := .byte, accessFlags := 25, slot := 54, constantValue := 0 }, { name := "DIRECTIONALITY_POP_DIRECTIONAL_FORMAT", type := .byte, accessFlags := 25, slot := 55, constantValue := 0 }, { name := "DIRECTIONALITY_LEFT_TO_RIGHT_ISOLATE", type := .byte, accessFlags := 25, slot := 56, constantValue := 0 }, { name := "DIRECTIONALITY_RIGHT_TO_LEFT_ISOLATE", type := .byte, accessFlags := 25, slot := 57, constantValue := 0 }, { name := "DIRECTIONALITY_FIRST_STRONG_ISOLATE", type := .byte, accessFlags := 25, slot := 58, constantValue := 0 }, { name := "DIRECTIONALITY_POP_DIRECTIONAL_ISOLATE", type := .byte, accessFlags := 25, slot := 59, constantValue := 0 }, { name := "MIN_HIGH_SURROGATE", type := .char, accessFlags := 25, slot := 60, constantValue := 0 }, { name := "MAX_HIGH_SURROGATE", type := .char, accessFlags := 25, slot := 61, constantValue := 0 }, { name := "MIN_LOW_SURROGATE", type := .char, accessFlags := 25, slot := 62, constantValue := 0 }, { name := "MAX_LOW_SURROGATE", type := .char, accessFlags := 25, slot := 63, constantValue := 0 }, { name := "MIN_SURROGATE", type := .char, accessFlags := 25, slot := 64, constantValue := 0 }, { name := "MAX_SURROGATE", type := .char, accessFlags := 25, slot := 65, constantValue := 0 }, { name := "MIN_SUPPLEMENTARY_CODE_POINT", type := .int, accessFlags := 25, slot := 66, constantValue := 0 }, { name := "MIN_CODE_POINT", type := .int, accessFlags := 25, slot := 67, constantValue := 0 }, { name := "MAX_CODE_POINT", type := .int, accessFlags := 25, slot := 68, constantValue := 0 }, { name := "value", type := .char, accessFlags := 18, slot := 0, constantValue := 0 }, { name := "serialVersionUID", type := .long, accessFlags := 26, slot := 69, constantValue := 0 }, { name := "SIZE", type := .int, accessFlags := 25, slot := 70, constantValue := 0 }, { name := "BYTES", type := .int, accessFlags := 25, slot := 71, constantValue := 0 }, { name := "$assertionsDisabled", type := .boolean, accessFlags := 4120, slot := 72, constantValue := 0 }]
  methods := #[k6m0, k6m1]
  instanceTypes := #[.char]
  staticTypes := #[.int, .int, .char, .char, (.object "java/lang/Class"), .byte, .byte, .byte, .byte, .byte, .byte, .byte, .byte, .byte, .byte, .byte, .byte, .byte, .byte, .byte, .byte, .byte, .byte, .byte, .byte, .byte, .byte, .byte, .byte, .byte, .byte, .byte, .byte, .byte, .byte, .int, .byte, .byte, .byte, .byte, .byte, .byte, .byte, .byte, .byte, .byte, .byte, .byte, .byte, .byte, .byte, .byte, .byte, .byte, .byte, .byte, .byte, .byte, .byte, .byte, .char, .char, .char, .char, .char, .char, .int, .int, .int, .long, .int, .int, .boolean]
  resolved := Array.replicate 604 none
  statics := none }

def pool7 : Array CpInfo := pool [(1, u "java/lang/Cloneable"), (0, .class_ 1), (0, u "java/lang/Object"), (0, .class_ 3)] 3

/-- java/lang/Cloneable -/
def k7 : Class := { plain "java/lang/Cloneable" (some 0) with
  accessFlags := 1537
  interfaces := #[]
  cf := some (fileOf pool7 2 #[] #[] 1537 4 #[] #[])
  fields := #[]
  methods := #[]
  instanceTypes := #[]
  staticTypes := #[]
  resolved := Array.replicate 8 none
  statics := none }

/-- the primitive byte -/
def k8 : Class := { plain "byte" none with kind := .primitive 'B', accessFlags := 0x411 }
/-- [B -/
def k9 : Class := { plain "[B" (some 0) with kind := .array 8 .byte, interfaces := #[7, 3], accessFlags := 1041 }

/-- the primitive int -/
def k10 : Class := { plain "int" none with kind := .primitive 'I', accessFlags := 0x411 }
/-- [I -/
def k11 : Class := { plain "[I" (some 0) with kind := .array 10 .int, interfaces := #[7, 3], accessFlags := 1041 }

def heap : Heap := #[]
def classes : Array Class := #[k0, k1, k2, k3, k4, k5, k6, k7, k8, k9, k10, k11]
def interned : List (Array UInt16 × Addr) := []
def slotsUsed : Nat := 0
def theMethod : MethodId := ⟨1, 2⟩
def args0 : Array Value := #[.int 5]
def aboutOver (below : List Frame) : State where
  vm := { classes := classes, interned := interned.toArray }
  heap := heap
  slotsUsed := slotsUsed
  threads := #[{ frames := .invoking theMethod args0 :: below }]
def below0 : List Frame := [.native { method := ⟨0, 0⟩, args := #[] }]
def about1 : State := aboutOver below0
def p0 : Program := .bare "" "" ""
def e0 : Env := launch0.env 0 0 0
theorem w_frames : about1.frames = Frame.invoking theMethod args0 :: below0 := rfl
set_option maxRecDepth 65536 in
theorem w_args : argsFit about1.vm theMethod args0 = true := by decide +kernel
set_option maxRecDepth 65536 in
theorem w_heap : heapFits about1 = true := by decide +kernel
set_option maxRecDepth 65536 in
theorem w_runnable : about1.curStatus? = some .runnable := by decide +kernel
set_option maxRecDepth 65536 in
theorem w_alone : about1.alone = true := by decide +kernel
set_option maxRecDepth 65536 in
theorem w_named : about1.methodNamed? x = some theMethod := by decide +kernel
set_option maxRecDepth 65536 in
theorem w_hears : about1.hears theMethod below0 = true := by decide +kernel
set_option maxRecDepth 65536 in
theorem w_ripe : about1.ripe theMethod args0 below0 = true := by decide +kernel
theorem w_running : about1.status = .running := rfl
set_option maxRecDepth 65536 in
theorem w_room : about1.hasRoom e0.platform room_1 = true :=
  launch0.hasRoom_least _ room_1 (by decide +kernel) (by decide +kernel) (by decide +kernel) (by decide +kernel) (by decide +kernel) (by decide +kernel)
theorem allAtoms_all (ts : List Jvm.Cond) (a : Array Jvm.Value) (st : Jvm.State) : (allAtoms ts).before a st = ts.all (fun c => c.before a st) := by
  induction ts with
  | nil => rfl
  | cons c t ih =>
    show (Jvm.Cond.and c (allAtoms t)).before a st = _
    rw [Jvm.Cond.before_and, ih, List.all_cons]
def words1 : List Jvm.Cond := Jvm.Cond.code x code maxLocals ret :: tables_1
/-- a 'code' word, met by the world's own term for the bytes: nothing is compared byte by byte -/
theorem code_word {y : MethodName} {bytes : ByteArray} {mx : Nat} {rt : Option FieldType} {a : Array Value} {s : State} {m : MethodId} {meth : Method} {c : Code} (h1 : s.methodNamed? y = some m) (h2 : s.vm.method? m = some meth) (h3 : meth.code = some c) (h4 : c.code = bytes)
    (h5 : (c.maxLocals == mx && c.exceptionTable.isEmpty && decide (c.maxStack ≤ mostOperands) && decide (meth.sig.returnType = rt) && !meth.locks && decide (parseMethodDescriptor y.desc = some meth.sig)) = true) : (Jvm.Cond.code y bytes mx rt).before a s = true := by
  simp only [Bool.and_eq_true, beq_iff_eq, Bool.not_eq_true', decide_eq_true_eq] at h5
  obtain ⟨⟨⟨⟨⟨g1, g2⟩, g3⟩, g4⟩, g5⟩, g6⟩ := h5
  simp [Cond.before, Cond.holds, Cond.value, h1, h2, h3, h4, g1, g2, g3, g4, g5, g6]
def isCode : Jvm.Cond → Bool
  | .code _ _ _ _ => true
  | _ => false
theorem all_split {L : List Jvm.Cond} {P : Jvm.Cond → Bool} (h1 : L.all (fun c => isCode c || P c) = true) (h2 : ∀ c ∈ L.filter isCode, P c = true) : L.all P = true := by
  refine List.all_eq_true.mpr fun c hc => ?_
  have h := List.all_eq_true.mp h1 c hc
  rcases Bool.eq_false_or_eq_true (isCode c) with hi | hi
  · exact h2 c (List.mem_filter.mpr ⟨hc, hi⟩)
  · simpa [hi] using h
set_option maxRecDepth 65536 in
theorem w_c0 : (Jvm.Cond.code x code maxLocals ret).before args0 about1 = true := code_word (m := ⟨1, 2⟩) (meth := k1m2) (c := k1c2) (by decide +kernel) rfl rfl rfl (by decide +kernel)
set_option maxRecDepth 65536 in
theorem w_c1 : (Jvm.Cond.code ({ cls := "com/example/chainvouch/chainvouch/cli/Cli", name := "isOffTheLine", desc := "(C)Z" } : Jvm.MethodName) prog_10_method_4_code (1 : Nat) (Option.some Jvm.ClassFile.FieldType.boolean)).before args0 about1 = true := code_word (m := ⟨2, 0⟩) (meth := k2m0) (c := k2c0) (by decide +kernel) rfl rfl rfl (by decide +kernel)
set_option maxRecDepth 65536 in
theorem w_c2 : (Jvm.Cond.code ({ cls := "java/lang/Character", name := "isISOControl", desc := "(C)Z" } : Jvm.MethodName) jdk_89_method_88_code (1 : Nat) (Option.some Jvm.ClassFile.FieldType.boolean)).before args0 about1 = true := code_word (m := ⟨6, 0⟩) (meth := k6m0) (c := k6c0) (by decide +kernel) rfl rfl rfl (by decide +kernel)
set_option maxRecDepth 65536 in
theorem w_c3 : (Jvm.Cond.code ({ cls := "java/lang/Character", name := "isISOControl", desc := "(I)Z" } : Jvm.MethodName) jdk_89_method_89_code (1 : Nat) (Option.some Jvm.ClassFile.FieldType.boolean)).before args0 about1 = true := code_word (m := ⟨6, 1⟩) (meth := k6m1) (c := k6c1) (by decide +kernel) rfl rfl rfl (by decide +kernel)
set_option maxRecDepth 65536 in
theorem w_c4 : (Jvm.Cond.code ({ cls := "com/example/chainvouch/chainvouch/cli/CliIsOffTheLinePinLaw", name := "expected", desc := "(I)Z" } : Jvm.MethodName) method_2_code (1 : Nat) (Option.some Jvm.ClassFile.FieldType.boolean)).before args0 about1 = true := code_word (m := ⟨1, 1⟩) (meth := k1m1) (c := k1c1) (by decide +kernel) rfl rfl rfl (by decide +kernel)
def codes1 : List Jvm.Cond := [Jvm.Cond.code x code maxLocals ret, Jvm.Cond.code ({ cls := "com/example/chainvouch/chainvouch/cli/Cli", name := "isOffTheLine", desc := "(C)Z" } : Jvm.MethodName) prog_10_method_4_code (1 : Nat) (Option.some Jvm.ClassFile.FieldType.boolean), Jvm.Cond.code ({ cls := "java/lang/Character", name := "isISOControl", desc := "(C)Z" } : Jvm.MethodName) jdk_89_method_88_code (1 : Nat) (Option.some Jvm.ClassFile.FieldType.boolean), Jvm.Cond.code ({ cls := "java/lang/Character", name := "isISOControl", desc := "(I)Z" } : Jvm.MethodName) jdk_89_method_89_code (1 : Nat) (Option.some Jvm.ClassFile.FieldType.boolean), Jvm.Cond.code ({ cls := "com/example/chainvouch/chainvouch/cli/CliIsOffTheLinePinLaw", name := "expected", desc := "(I)Z" } : Jvm.MethodName) method_2_code (1 : Nat) (Option.some Jvm.ClassFile.FieldType.boolean)]
set_option maxRecDepth 65536 in
theorem codes_eq : words1.filter isCode = codes1 := rfl
theorem w_codes : ∀ c ∈ words1.filter isCode, c.before args0 about1 = true := by
  rw [codes_eq]
  intro c hc
  simp only [codes1, List.mem_cons, List.not_mem_nil, or_false] at hc
  rcases hc with rfl | rfl | rfl | rfl | rfl
  · exact w_c0
  · exact w_c1
  · exact w_c2
  · exact w_c3
  · exact w_c4
set_option maxRecDepth 65536 in
theorem w_t1 : words1.all (fun c => isCode c || c.before args0 about1) = true := by decide +kernel
theorem w_tables : (allAtoms (Jvm.Cond.code x code maxLocals ret :: tables_1)).before args0 about1 = true := by
  rw [allAtoms_all]
  show words1.all (fun c => c.before args0 about1) = true
  refine all_split ?_ w_codes
  rw [w_t1]
set_option maxRecDepth 65536 in
theorem w_case : (Jvm.Cond.and given_1 narrow_1).before args0 about1 = true := by decide +kernel
theorem w_applies : (headSpec (Jvm.Cond.code x code maxLocals ret :: tables_1) room_1).applies x e0.platform about1 = true :=
  (Spec.applies_iff w_frames).mpr ⟨w_running, w_runnable, w_alone, w_named, w_hears, w_ripe, w_room, w_tables⟩
theorem atStart : AtStart classFile x code maxLocals ret World_1 tables_1 room_1 Calls_1 rest_1 Pre_1 launch0 p0 e0 about1 theMethod args0 below0 :=
  ⟨lists_1, trivial, launch0.admits_env _ _ _, launch0.least_env, fairChoices_fair.cas, fairChoices_fair.clock, w_frames, w_args, w_heap, w_applies, trivial, trivial, w_case⟩
end start1
theorem witness_1 : WitnessClaimed_1 := ⟨start1.p0, start1.e0, start1.about1, start1.theMethod, start1.args0, start1.below0, start1.atStart⟩
end Jvm.Pilot.@@N@@
