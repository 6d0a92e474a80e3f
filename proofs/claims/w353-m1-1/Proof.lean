import JvmDerived
import JvmDerived.Pilot.@@N@@Statement
import JvmDerived.Pilot.@@N@@Code
set_option linter.unusedVariables false
set_option linter.unusedSimpArgs false
@@BLOCK:NumsL.lean.txt@@
namespace Jvm.RoadKit
open Sem ClassFile Op Lib Jvm.Stand Jvm.Free Jvm.LawKit
section New
variable {p : Program} {l : Launch} {e : Env} {R : Room} {s : State} {m : MethodId} {args : Array Value} {below : List Frame} {meth : Method} {c : Code} {T : State} {locs : List Loc} {cells slots : Nat}
theorem retI (X : Stand p l e R s m args below meth c T locs cells slots) (hx : p.tables.exec = Jvm.exec) {pc : Nat} {Ls : Array Slot} {z : Int32} {rest : List Value} (hret : meth.sig.returnType = some .int) (hd : decode c.code pc = .ok (.ireturn, 1)) {fs : List Frame}
    (hl : ∀ (f : JFrame) (acts : List Action), f.method = m → f.locked = none → f.entered = [] → (doReturn e (T.setTop f) acts (some (.int z))).1 = T.setFrames fs) : Steps p.tables e below (T.setTop (mkF m pc Ls (.int z :: rest))) (T.setFrames fs) := by
  have hm' : T.vm.method? m = some meth := X.method'
  have hn : narrow .int (.int z) = .int z := rfl
  show Steps p.tables e below (T.setTop { method := m, pc := pc, locals := Ls, stack := _ :: rest, locked := none }) _
  jvm_step X.here [X.here.top, hx, hd, hm', hret, hn]
  first | (intro acts; rw [hl _ acts rfl rfl rfl]) | rw [hl _ _ rfl rfl rfl]
  exact Steps.refl _
end New
theorem own_dia {tb : Tables} {e : Env} {below : List Frame} {T tgt : State} {g : JFrame} {A : Type} {u v : A} (q : Prop) [Decidable q] (f : A → JFrame)
    (h1 : q → Steps tb e below (T.setTop (f u)) tgt → Steps tb e below (T.setTop g) tgt) (h0 : ¬ q → Steps tb e below (T.setTop (f v)) tgt → Steps tb e below (T.setTop g) tgt)
    (k : Steps tb e below (T.setTop (f (if q then u else v))) tgt) : Steps tb e below (T.setTop g) tgt := by
  by_cases hq : q
  · rw [if_pos hq] at k; exact h1 hq k
  · rw [if_neg hq] at k; exact h0 hq k
theorem own_cast {tb : Tables} {e : Env} {below : List Frame} {T tgt : State} {A : Type} {u v : A} (f : A → JFrame) (h : u = v) (k : Steps tb e below (T.setTop (f v)) tgt) : Steps tb e below (T.setTop (f u)) tgt := h ▸ k
theorem own_llt {x y : Int64} (h : x < y) : ifCond.holds .lt (lcmpW x y) = true ∧ ifCond.holds .ge (lcmpW x y) = false := by
  rw [if0, if0]; exact ⟨(tlt ((lw_lt x y).mpr h)).1, (tlt ((lw_lt x y).mpr h)).2.1⟩
theorem own_lge {x y : Int64} (h : ¬ x < y) : ifCond.holds .lt (lcmpW x y) = false ∧ ifCond.holds .ge (lcmpW x y) = true := by
  rw [if0, if0]; exact ⟨(flt fun q => h ((lw_lt x y).mp q)).1, (flt fun q => h ((lw_lt x y).mp q)).2.1⟩
theorem own_lgt {x y : Int64} (h : y < x) : ifCond.holds .gt (lcmpW x y) = true ∧ ifCond.holds .le (lcmpW x y) = false := by
  rw [if0, if0]; exact ⟨(tlt ((lw_gt x y).mpr h)).2.2.1, (tlt ((lw_gt x y).mpr h)).2.2.2⟩
theorem own_lle {x y : Int64} (h : ¬ y < x) : ifCond.holds .gt (lcmpW x y) = false ∧ ifCond.holds .le (lcmpW x y) = true := by
  rw [if0, if0]; exact ⟨(flt fun q => h ((lw_gt x y).mp q)).2.2.1, (flt fun q => h ((lw_gt x y).mp q)).2.2.2⟩
theorem own_leq {x y : Int64} (h : x = y) : ifCond.holds .eq (lcmpW x y) = true ∧ ifCond.holds .ne (lcmpW x y) = false := by
  rw [if0, if0]; exact ⟨(teq ((lw_eq x y).mpr h)).1, (teq ((lw_eq x y).mpr h)).2⟩
theorem own_lne {x y : Int64} (h : ¬ x = y) : ifCond.holds .eq (lcmpW x y) = false ∧ ifCond.holds .ne (lcmpW x y) = true := by
  rw [if0, if0]; exact ⟨(feq fun q => h ((lw_eq x y).mp q)).1, (feq fun q => h ((lw_eq x y).mp q)).2⟩
theorem own_bt {q : Prop} [Decidable q] (h : q) : ifCond.holds .ne (if q then (1 : Int32) else (0 : Int32)) = true ∧ ifCond.holds .eq (if q then (1 : Int32) else (0 : Int32)) = false := by
  rw [if_pos h]; exact ⟨rfl, rfl⟩
theorem own_bf {q : Prop} [Decidable q] (h : ¬ q) : ifCond.holds .ne (if q then (1 : Int32) else (0 : Int32)) = false ∧ ifCond.holds .eq (if q then (1 : Int32) else (0 : Int32)) = true := by
  rw [if_neg h]; exact ⟨rfl, rfl⟩
theorem own_ct {q : Prop} [Decidable q] (h : q) : ifCond.holds .ne (if q then (0 : Int32) else (1 : Int32)) = false ∧ ifCond.holds .eq (if q then (0 : Int32) else (1 : Int32)) = true := by
  rw [if_pos h]; exact ⟨rfl, rfl⟩
theorem own_cf {q : Prop} [Decidable q] (h : ¬ q) : ifCond.holds .ne (if q then (0 : Int32) else (1 : Int32)) = true ∧ ifCond.holds .eq (if q then (0 : Int32) else (1 : Int32)) = false := by
  rw [if_neg h]; exact ⟨rfl, rfl⟩
theorem own_b01 {q : Prop} [Decidable q] {x y : Int32} (hx : x = 0 ∨ x = 1) (hy : y = 0 ∨ y = 1) : (if q then x else y) = 0 ∨ (if q then x else y) = 1 := by
  split <;> assumption
def Arf (Z : State) (h : Heap) (a : Addr) (ty : FieldType) (n : Int32) (f : Nat → Value) : Prop :=
  ∃ c : Cell, Arr Z h a c ty ∧ c.slots.size = n.toNatClampNeg ∧ ¬ n < 0 ∧ ∀ i, i < n.toNatClampNeg → c.slots[i]? = some (f i)
theorem Arf.lt {Z : State} {h : Heap} {a : Addr} {ty : FieldType} {n : Int32} {f : Nat → Value} (F : Arf Z h a ty n f) : a < h.size := by
  obtain ⟨c, A, -⟩ := F; exact A.lt
theorem Arf.ext {Z : State} {h h' : Heap} {a : Addr} {ty : FieldType} {n : Int32} {f : Nat → Value} (F : Arf Z h a ty n f) (E : Ext h h') : Arf Z h' a ty n f := by
  obtain ⟨c, A, r⟩ := F; exact ⟨c, A.ext E, r⟩
theorem Arf.other {Z : State} {h h' : Heap} {a b : Addr} {sl : Nat} {v : Value} {ty : FieldType} {n : Int32} {f : Nat → Value} (F : Arf Z h b ty n f) (W : Wr h h' a sl v) (q : b ≠ a) : Arf Z h' b ty n f := by
  obtain ⟨c, A, r⟩ := F; exact ⟨c, A.other W q, r⟩
theorem Arf.keep {Z : State} {h h' : Heap} {a : Addr} {ws : List Addr} {ty : FieldType} {n : Int32} {f : Nat → Value} (F : Arf Z h a ty n f) (K : Keep h h' ws) (q : a ∉ ws) : Arf Z h' a ty n f := by
  obtain ⟨c, A, r⟩ := F; exact ⟨c, ⟨K.2.1 a c A.1 q, A.2⟩, r⟩
theorem own_arf_new {Z : State} {h : Heap} {a : Addr} {k : ClassId} {ty : FieldType} {z : Int32} (A : Arr Z h a (newA k ty z) ty) (q : ¬ z < 0) : Arf Z h a ty z (fun _ => defaultValue ty) :=
  ⟨_, A, sz_new _ _ _, q, fun i hi => by simp [newA, hi]⟩
theorem own_arf_set {Z : State} {h h' : Heap} {a : Addr} {ty : FieldType} {n : Int32} {f : Nat → Value} {j : Nat} {v : Value} (F : Arf Z h a ty n f) (W : Wr h h' a j v) : Arf Z h' a ty n (fun i => if i = j then v else f i) := by
  obtain ⟨c, A, S, M, H⟩ := F
  refine ⟨_, A.same W, by rw [sz_set]; exact S, M, fun i hi => ?_⟩
  show _ = some (if i = j then v else f i)
  by_cases u : i = j
  · subst u; rw [if_pos rfl]; rw [← S] at hi; simp [Cell.setSlot, hi]
  · rw [if_neg u]; have := H i hi; simp only [Cell.setSlot]; rw [Array.getElem?_setIfInBounds_ne (Ne.symm u)]; exact this
theorem own_arf_fn {Z : State} {h : Heap} {a : Addr} {ty : FieldType} {n : Int32} {f g : Nat → Value} (F : Arf Z h a ty n f) (q : ∀ i, i < n.toNatClampNeg → f i = g i) : Arf Z h a ty n g := by
  obtain ⟨c, A, S, M, H⟩ := F
  exact ⟨c, A, S, M, fun i hi => by rw [← q i hi]; exact H i hi⟩
theorem own_arf_setI {Z : State} {h h' : Heap} {a : Addr} {ty : FieldType} {n : Int32} {f : Nat → Int32} {j : Nat} {v : Int32} (F : Arf Z h a ty n (fun i => Value.int (f i))) (W : Wr h h' a j (.int v)) : Arf Z h' a ty n (fun i => Value.int (if i = j then v else f i)) :=
  own_arf_fn (own_arf_set F W) fun i _ => by by_cases u : i = j <;> simp [u]
theorem own_arf_setL {Z : State} {h h' : Heap} {a : Addr} {ty : FieldType} {n : Int32} {f : Nat → Int64} {j : Nat} {v : Int64} (F : Arf Z h a ty n (fun i => Value.long (f i))) (W : Wr h h' a j (.long v)) : Arf Z h' a ty n (fun i => Value.long (if i = j then v else f i)) :=
  own_arf_fn (own_arf_set F W) fun i _ => by by_cases u : i = j <;> simp [u]
theorem own_arf_at {c : Cell} {n j : Int32} {f : Nat → Value} (H : ∀ i, i < n.toNatClampNeg → c.slots[i]? = some (f i)) (S : c.slots.size = n.toNatClampNeg) (q : ¬ (j < 0 ∨ c.slots.size ≤ j.toNatClampNeg)) : c.slots[j.toNatClampNeg]? = some (f j.toNatClampNeg) :=
  H _ (by rw [← S]; exact Nat.lt_of_not_le fun y => q (Or.inr y))
theorem own_nb {x : Int32} (h : x = 0 ∨ x = 1) : nar .boolean x = x := by
  rcases h with rfl | rfl <;> rfl
end Jvm.RoadKit
namespace Jvm.Pilot.@@N@@
open Jvm Jvm.ClassFile Sem Op Lib Jvm.Free Jvm.Stand Jvm.LawKit Jvm.RoadKit Bundle Jvm.Pilot.@@N@@.Jvm.D

def own_arr (d0 d1 d2 d3 : Int32) : Nat → Int32
  | 0 => d0
  | 1 => d1
  | 2 => d2
  | _ => d3
theorem own_four {f g : Nat → Value} (h0 : f 0 = g 0) (h1 : f 1 = g 1) (h2 : f 2 = g 2) (h3 : f 3 = g 3) : ∀ i, i < (4 : Int32).toNatClampNeg → f i = g i := fun i hi => by
  have hi' : i < 4 := hi
  match i, hi' with
  | 0, _ => exact h0
  | 1, _ => exact h1
  | 2, _ => exact h2
  | 3, _ => exact h3
def own_le (n : Int32) (f : Nat → Int32) : Nat → Int32 → Int32 → Int32
  | 0, r, _ => r
  | k + 1, r, i => if i < n then (if r < (0 : Int32) then own_le n f k (if f i.toNatClampNeg = (10 : Int32) then i else r) (i + (1 : Int32)) else r) else r
theorem own_le_s (n : Int32) (f : Nat → Int32) (k : Nat) (r i : Int32) : own_le n f (k + 1) r i = if i < n then (if r < (0 : Int32) then own_le n f k (if f i.toNatClampNeg = (10 : Int32) then i else r) (i + (1 : Int32)) else r) else r := rfl
theorem own_next {n i : Int32} {k : Nat} (hk : n.toInt - i.toInt ≤ (k + 1 : Nat)) (h0 : ¬ i < 0) (hc : i < n) : n.toInt - (i + (1 : Int32)).toInt ≤ (k : Nat) ∧ ¬ (i + (1 : Int32)) < 0 := by
  have e0 : (0 : Int32).toInt = 0 := rfl
  have e1 : (1 : Int32).toInt = 1 := rfl
  have := n.toInt_lt
  rw [Int32.lt_iff_toInt_lt] at h0 hc
  have e2 : (i + (1 : Int32)).toInt = i.toInt + (1 : Int32).toInt := Jvm.Kit.i32_add (by omega) (by omega)
  rw [Int32.lt_iff_toInt_lt]; omega
theorem own_stop {n i : Int32} (hk : n.toInt - i.toInt ≤ (0 : Nat)) : ¬ i < n := by
  rw [Int32.lt_iff_toInt_lt]; omega

theorem d1_0 : decode method_2_code 0 = .ok (.iload_n 0, 1) := by decide +kernel
theorem d1_1 : decode method_2_code 1 = .ok (.iconst 1, 1) := by decide +kernel
theorem d1_2 : decode method_2_code 2 = .ok (.iand, 1) := by decide +kernel
theorem d1_3 : decode method_2_code 3 = .ok (.ifCond .eq 8, 3) := by decide +kernel
theorem d1_6 : decode method_2_code 6 = .ok (.bipush 10, 2) := by decide +kernel
theorem d1_8 : decode method_2_code 8 = .ok (.goto 7, 3) := by decide +kernel
theorem d1_11 : decode method_2_code 11 = .ok (.iload_n 0, 1) := by decide +kernel
theorem d1_12 : decode method_2_code 12 = .ok (.iconst 1, 1) := by decide +kernel
theorem d1_13 : decode method_2_code 13 = .ok (.ishr, 1) := by decide +kernel
theorem d1_14 : decode method_2_code 14 = .ok (.i2b, 1) := by decide +kernel
theorem d1_15 : decode method_2_code 15 = .ok (.ireturn, 1) := by decide +kernel
theorem pn_1 : plainName "com/example/trunkline/trunkline/message/MessageParserLineEndPinLaw" = true := by first | (simp [plainName, overriddenIn]; done) | decide +kernel
theorem ef_1 (m : MethodId) (vp : Int32) : entryFrame m #[(.int vp)] 1 = mkF m 0 #[.val (.int vp)] [] := by first | (simp [entryFrame, mkF, argsToLocals, Value.category]; done) | rfl
def F1 (vp : Int32) : Int32 := (nar .byte (if (vp &&& (1 : Int32)) = (0 : Int32) then ((vp >>> ((1 : Int32) &&& 31)).toInt8.toInt32) else (10 : Int32)))
def Q1 (Z : State) (vp : Int32) (h0 : Heap) (n0 : Nat) (v : Option Value) (h : Heap) (L : List Loc) : Prop := v = some (.int (F1 vp)) ∧ Fr n0 L ∧ h = h0
set_option maxRecDepth 65536 in
set_option maxHeartbeats 40000000 in
theorem rm1 (l : Launch) (Z : State) (a0 : Array Value) (hw : ∀ d ∈ tables_1, d.before a0 Z = true) (ws : List Jvm.Cond) (vp : Int32) (h0 : Heap) (n0 : Nat) (Z0 : n0 ≤ h0.size)  :
    MetFree l (⟨"com/example/trunkline/trunkline/message/MessageParserLineEndPinLaw", "draw", "(I)B"⟩ : MethodName) (head1 (Jvm.Cond.code (⟨"com/example/trunkline/trunkline/message/MessageParserLineEndPinLaw", "draw", "(I)B"⟩ : MethodName) method_2_code 1 (some .byte) :: ws) ({ frames := 0, cells := 0, slots := 0, locals := 0 } : Room)) (fun a U => a = #[(.int vp)] ∧ Z.Warmed39 U.vm ∧ U.heap = h0) (fun _ _ _ _ _ => True) (fun _ U o U' => ∃ v L, o = .returned v ∧ Q1 Z vp h0 n0 v U'.heap L ∧ FrameEnd U o U' L ({ frames := 0, cells := 0, slots := 0, locals := 0 } : Room).cells ({ frames := 0, cells := 0, slots := 0, locals := 0 } : Room).slots) := by
  refine MetFree.of_bodySF (plainFor_of_name pn_1) hisR ?_
  intro p e s m args below meth c s₁ Bd hml0 hP hK
  obtain ⟨rfl, hZ, hh⟩ := hP
  have hx := Bd.exec
  have hby := Bd.bytes
  have hml : c.maxLocals = 1 := hml0
  have hown : s.vm.findClass "com/example/trunkline/trunkline/message/MessageParserLineEndPinLaw" = some m.cls := findClass_of_methodNamed Bd.named
  have hnm := (name_of_methodNamed Bd.named Bd.method).1
  have X0 : Stand p l e ({ frames := 0, cells := 0, slots := 0, locals := 0 } : Room) s m #[(.int vp)] below meth c s₁ [] 0 0 := Stand.of_body Bd
  have e0 : s₁.heap = h0 := by rw [← hh, Bd.state]; rfl
  have N0 := Fr.nil n0
  have pre0 : ∀ t, Steps p.tables e below (s₁.setTop (mkF m 0 #[.val (.int vp)] [])) t → Steps p.tables e below (s₁.setTop (entryFrame m #[(.int vp)] 1)) t := fun t k => castTop (ef_1 m vp) k
  obtain ⟨fs, hr, hrun, hended, hW, hsame⟩ := X0.leave (v := some (.int (nar .byte (if (vp &&& (1 : Int32)) = (0 : Int32) then ((vp >>> ((1 : Int32) &&& 31)).toInt8.toInt32) else (10 : Int32))))) (fun h => by rw [Bd.returns] at h; cases h)
  refine ⟨_, _, pre0 _ ?_, hrun, hended, _, _, rfl, ?_, ⟨_, rfl⟩, hW, hsame.mono (by decide) (by decide)⟩
  · show Steps p.tables e below (s₁.setTop (mkF m 0 #[.val (.int vp)] [])) _
    refine XS.iloadN X0.here hx rfl (hb hby d1_0) rfl ?_
    show Steps p.tables e below (s₁.setTop (mkF m 1 #[.val (.int vp)] [(.int vp)])) _
    refine XS.iconst X0.here hx rfl (hb hby d1_1) ?_
    show Steps p.tables e below (s₁.setTop (mkF m 2 #[.val (.int vp)] [(.int (1 : Int32)), (.int vp)])) _
    refine XS.iand X0.here hx rfl (hb hby d1_2) rfl ?_
    show Steps p.tables e below (s₁.setTop (mkF m 3 #[.val (.int vp)] [(.int (vp &&& (1 : Int32)))])) _
    refine own_dia (u := (((vp >>> ((1 : Int32) &&& 31)).toInt8.toInt32) : Int32)) (v := (10 : Int32)) ((vp &&& (1 : Int32)) = (0 : Int32)) (fun z1 => (mkF m 15 #[.val (.int vp)] [(.int z1)])) (fun hc1 k1 => ?_) (fun hc1 k1 => ?_) ?_
    · refine XS.ifYes X0.here hx rfl (pc0 := 3) (pc' := 11) rfl (hb hby d1_3) rfl ((if0 _ _).trans (teq hc1).1) (by decide) (by decide) ?_
      show Steps p.tables e below (s₁.setTop (mkF m 11 #[.val (.int vp)] [])) _
      refine XS.iloadN X0.here hx rfl (hb hby d1_11) rfl ?_
      show Steps p.tables e below (s₁.setTop (mkF m 12 #[.val (.int vp)] [(.int vp)])) _
      refine XS.iconst X0.here hx rfl (hb hby d1_12) ?_
      show Steps p.tables e below (s₁.setTop (mkF m 13 #[.val (.int vp)] [(.int (1 : Int32)), (.int vp)])) _
      refine XS.ishr X0.here hx rfl (hb hby d1_13) rfl ?_
      show Steps p.tables e below (s₁.setTop (mkF m 14 #[.val (.int vp)] [(.int (vp >>> ((1 : Int32) &&& 31)))])) _
      refine XS.i2b X0.here hx rfl (hb hby d1_14) rfl ?_
      exact k1
    · refine XS.ifNo X0.here hx rfl (hb hby d1_3) rfl ((if0 _ _).trans (feq hc1).1) ?_
      show Steps p.tables e below (s₁.setTop (mkF m 6 #[.val (.int vp)] [])) _
      refine XS.bipush X0.here hx rfl (hb hby d1_6) ?_
      show Steps p.tables e below (s₁.setTop (mkF m 8 #[.val (.int vp)] [(.int (10 : Int32))])) _
      refine XS.goto X0.here hx rfl (pc0 := 8) (pc' := 15) rfl (hb hby d1_8) (by decide) (by decide) ?_
      exact k1
    -- meets at 15
    show Steps p.tables e below (s₁.setTop (mkF m 15 #[.val (.int vp)] [(.int (if (vp &&& (1 : Int32)) = (0 : Int32) then ((vp >>> ((1 : Int32) &&& 31)).toInt8.toInt32) else (10 : Int32)))])) _
    exact retN X0 hx (t := .byte) Bd.returns (by simp) (hb hby d1_15) hr
  · show Q1 Z vp h0 n0 _ s₁.heap _
    rw [e0]
    exact ⟨rfl, N0, rfl⟩
theorem d2_0 : decode method_3_code 0 = .ok (.iload_n 1, 1) := by decide +kernel
theorem d2_1 : decode method_3_code 1 = .ok (.iload_n 2, 1) := by decide +kernel
theorem d2_2 : decode method_3_code 2 = .ok (.if_icmp .lt 15, 3) := by decide +kernel
theorem d2_5 : decode method_3_code 5 = .ok (.aload_n 0, 1) := by decide +kernel
theorem d2_6 : decode method_3_code 6 = .ok (.iload_n 1, 1) := by decide +kernel
theorem d2_7 : decode method_3_code 7 = .ok (.baload, 1) := by decide +kernel
theorem d2_8 : decode method_3_code 8 = .ok (.bipush 10, 2) := by decide +kernel
theorem d2_10 : decode method_3_code 10 = .ok (.if_icmp .ne 7, 3) := by decide +kernel
theorem d2_13 : decode method_3_code 13 = .ok (.iconst 1, 1) := by decide +kernel
theorem d2_14 : decode method_3_code 14 = .ok (.goto 4, 3) := by decide +kernel
theorem d2_17 : decode method_3_code 17 = .ok (.iconst 0, 1) := by decide +kernel
theorem d2_18 : decode method_3_code 18 = .ok (.ireturn, 1) := by decide +kernel
theorem pn_2 : plainName "com/example/trunkline/trunkline/message/MessageParserLineEndPinLaw" = true := by first | (simp [plainName, overriddenIn]; done) | decide +kernel
theorem ef_2 (m : MethodId) (va : Addr) (vi : Int32) (vs : Int32) : entryFrame m #[(.ref va), (.int vi), (.int vs)] 3 = mkF m 0 #[.val (.ref va), .val (.int vi), .val (.int vs)] [] := by first | (simp [entryFrame, mkF, argsToLocals, Value.category]; done) | rfl
def F2 (vi : Int32) (vs : Int32) (vf : Nat → Int32) : Int32 := (if vi < vs then (0 : Int32) else (if (vf (vi).toNatClampNeg) = (10 : Int32) then (1 : Int32) else (0 : Int32)))
def Q2 (Z : State) (va : Addr) (vi : Int32) (vs : Int32) (vn : Int32) (vf : Nat → Int32) (h0 : Heap) (n0 : Nat) (v : Option Value) (h : Heap) (L : List Loc) : Prop := v = some (.int (F2 vi vs vf)) ∧ Fr n0 L ∧ h = h0
set_option maxRecDepth 65536 in
set_option maxHeartbeats 40000000 in
theorem rm2 (l : Launch) (Z : State) (a0 : Array Value) (hw : ∀ d ∈ tables_1, d.before a0 Z = true) (ws : List Jvm.Cond) (va : Addr) (vi : Int32) (vs : Int32) (vn : Int32) (vf : Nat → Int32) (h0 : Heap) (n0 : Nat) (Z0 : n0 ≤ h0.size) (V_va : Arf Z h0 va .byte vn (fun i => Value.int (vf i))) (hi0 : ¬ vi < 0) (hi1 : vi < vn) :
    MetFree l (⟨"com/example/trunkline/trunkline/message/MessageParserLineEndPinLaw", "isEnd", "([BII)Z"⟩ : MethodName) (head1 (Jvm.Cond.code (⟨"com/example/trunkline/trunkline/message/MessageParserLineEndPinLaw", "isEnd", "([BII)Z"⟩ : MethodName) method_3_code 3 (some .boolean) :: ws) ({ frames := 0, cells := 0, slots := 0, locals := 0 } : Room)) (fun a U => a = #[(.ref va), (.int vi), (.int vs)] ∧ Z.Warmed39 U.vm ∧ U.heap = h0) (fun _ _ _ _ _ => True) (fun _ U o U' => ∃ v L, o = .returned v ∧ Q2 Z va vi vs vn vf h0 n0 v U'.heap L ∧ FrameEnd U o U' L ({ frames := 0, cells := 0, slots := 0, locals := 0 } : Room).cells ({ frames := 0, cells := 0, slots := 0, locals := 0 } : Room).slots) := by
  refine MetFree.of_bodySF (plainFor_of_name pn_2) hisR ?_
  intro p e s m args below meth c s₁ Bd hml0 hP hK
  obtain ⟨rfl, hZ, hh⟩ := hP
  have hx := Bd.exec
  have hby := Bd.bytes
  have hml : c.maxLocals = 3 := hml0
  have hown : s.vm.findClass "com/example/trunkline/trunkline/message/MessageParserLineEndPinLaw" = some m.cls := findClass_of_methodNamed Bd.named
  have hnm := (name_of_methodNamed Bd.named Bd.method).1
  have X0 : Stand p l e ({ frames := 0, cells := 0, slots := 0, locals := 0 } : Room) s m #[(.ref va), (.int vi), (.int vs)] below meth c s₁ [] 0 0 := Stand.of_body Bd
  have e0 : s₁.heap = h0 := by rw [← hh, Bd.state]; rfl
  have N0 := Fr.nil n0
  have pre0 : ∀ t, Steps p.tables e below (s₁.setTop (mkF m 0 #[.val (.ref va), .val (.int vi), .val (.int vs)] [])) t → Steps p.tables e below (s₁.setTop (entryFrame m #[(.ref va), (.int vi), (.int vs)] 3)) t := fun t k => castTop (ef_2 m va vi vs) k
  have Vo2 := V_va
  obtain ⟨cl2, Ar2, S2, M2, H2⟩ := Vo2
  obtain ⟨fs, hr, hrun, hended, hW, hsame⟩ := X0.leave (v := some (.int (if vi < vs then (0 : Int32) else (if (vf (vi).toNatClampNeg) = (10 : Int32) then (1 : Int32) else (0 : Int32))))) (fun h => by rw [Bd.returns] at h; cases h)
  refine ⟨_, _, pre0 _ ?_, hrun, hended, _, _, rfl, ?_, ⟨_, rfl⟩, hW, hsame.mono (by decide) (by decide)⟩
  · show Steps p.tables e below (s₁.setTop (mkF m 0 #[.val (.ref va), .val (.int vi), .val (.int vs)] [])) _
    refine XS.iloadN X0.here hx rfl (hb hby d2_0) rfl ?_
    show Steps p.tables e below (s₁.setTop (mkF m 1 #[.val (.ref va), .val (.int vi), .val (.int vs)] [(.int vi)])) _
    refine XS.iloadN X0.here hx rfl (hb hby d2_1) rfl ?_
    show Steps p.tables e below (s₁.setTop (mkF m 2 #[.val (.ref va), .val (.int vi), .val (.int vs)] [(.int vs), (.int vi)])) _
    refine own_dia (u := ((0 : Int32) : Int32)) (v := (if (vf (vi).toNatClampNeg) = (10 : Int32) then (1 : Int32) else (0 : Int32))) (vi < vs) (fun z1 => (mkF m 18 #[.val (.ref va), .val (.int vi), .val (.int vs)] [(.int z1)])) (fun hc1 k1 => ?_) (fun hc1 k1 => ?_) ?_
    · refine XS.icmpYes X0.here hx rfl (pc0 := 2) (pc' := 17) rfl (hb hby d2_2) rfl (tlt hc1).1 (by decide) (by decide) ?_
      show Steps p.tables e below (s₁.setTop (mkF m 17 #[.val (.ref va), .val (.int vi), .val (.int vs)] [])) _
      refine XS.iconst X0.here hx rfl (hb hby d2_17) ?_
      exact k1
    · refine XS.icmpNo X0.here hx rfl (hb hby d2_2) rfl (flt hc1).1 ?_
      show Steps p.tables e below (s₁.setTop (mkF m 5 #[.val (.ref va), .val (.int vi), .val (.int vs)] [])) _
      refine XS.aloadN X0.here hx rfl (hb hby d2_5) rfl rfl ?_
      show Steps p.tables e below (s₁.setTop (mkF m 6 #[.val (.ref va), .val (.int vi), .val (.int vs)] [(.ref va)])) _
      refine XS.iloadN X0.here hx rfl (hb hby d2_6) rfl ?_
      show Steps p.tables e below (s₁.setTop (mkF m 7 #[.val (.ref va), .val (.int vi), .val (.int vs)] [(.int vi), (.ref va)])) _
      have hin3 : ¬ (vi < 0 ∨ cl2.slots.size ≤ (vi).toNatClampNeg) := inb_of S2 ⟨hi0, hi1⟩
      refine X0.baloadBytes hx (j := vi) (v := (.int (vf (vi).toNatClampNeg))) (by rw [e0]; exact Ar2.1) (State.isArrayOf_alike hZ.alike Ar2.2.1) Ar2.2.2 hin3 (own_arf_at H2 S2 hin3) (g := (mkF m 7 #[.val (.ref va), .val (.int vi), .val (.int vs)] [(.int vi), (.ref va)])) rfl rfl (hb hby d2_7) _ ?_
      show Steps p.tables e below (s₁.setTop (mkF m 8 #[.val (.ref va), .val (.int vi), .val (.int vs)] [(.int (vf (vi).toNatClampNeg))])) _
      refine XS.bipush X0.here hx rfl (hb hby d2_8) ?_
      show Steps p.tables e below (s₁.setTop (mkF m 10 #[.val (.ref va), .val (.int vi), .val (.int vs)] [(.int (10 : Int32)), (.int (vf (vi).toNatClampNeg))])) _
      refine own_dia (u := ((1 : Int32) : Int32)) (v := (0 : Int32)) ((vf (vi).toNatClampNeg) = (10 : Int32)) (fun z4 => (mkF m 18 #[.val (.ref va), .val (.int vi), .val (.int vs)] [(.int z4)])) (fun hc4 k4 => ?_) (fun hc4 k4 => ?_) ?_
      · refine XS.icmpNo X0.here hx rfl (hb hby d2_10) rfl (teq hc4).2 ?_
        show Steps p.tables e below (s₁.setTop (mkF m 13 #[.val (.ref va), .val (.int vi), .val (.int vs)] [])) _
        refine XS.iconst X0.here hx rfl (hb hby d2_13) ?_
        show Steps p.tables e below (s₁.setTop (mkF m 14 #[.val (.ref va), .val (.int vi), .val (.int vs)] [(.int (1 : Int32))])) _
        refine XS.goto X0.here hx rfl (pc0 := 14) (pc' := 18) rfl (hb hby d2_14) (by decide) (by decide) ?_
        exact k4
      · refine XS.icmpYes X0.here hx rfl (pc0 := 10) (pc' := 17) rfl (hb hby d2_10) rfl (feq hc4).2 (by decide) (by decide) ?_
        show Steps p.tables e below (s₁.setTop (mkF m 17 #[.val (.ref va), .val (.int vi), .val (.int vs)] [])) _
        refine XS.iconst X0.here hx rfl (hb hby d2_17) ?_
        exact k4
      -- meets at 18
      exact k1
    -- meets at 18
    show Steps p.tables e below (s₁.setTop (mkF m 18 #[.val (.ref va), .val (.int vi), .val (.int vs)] [(.int (if vi < vs then (0 : Int32) else (if (vf (vi).toNatClampNeg) = (10 : Int32) then (1 : Int32) else (0 : Int32))))])) _
    exact retN X0 hx (t := .boolean) Bd.returns (by simp) (hb hby d2_18) (by rw [own_nb (own_b01 (Or.inl rfl) (own_b01 (Or.inr rfl) (Or.inl rfl)))]; exact hr)
  · show Q2 Z va vi vs vn vf h0 n0 _ s₁.heap _
    rw [e0]
    exact ⟨rfl, N0, rfl⟩
theorem d3_4 : decode prog_25_method_11_code 4 = .ok (.iload_n 3, 1) := by decide +kernel
theorem d3_5 : decode prog_25_method_11_code 5 = .ok (.aload_n 0, 1) := by decide +kernel
theorem d3_6 : decode prog_25_method_11_code 6 = .ok (.arraylength, 1) := by decide +kernel
theorem d3_7 : decode prog_25_method_11_code 7 = .ok (.if_icmp .ge 23, 3) := by decide +kernel
theorem d3_10 : decode prog_25_method_11_code 10 = .ok (.iload_n 2, 1) := by decide +kernel
theorem d3_11 : decode prog_25_method_11_code 11 = .ok (.ifCond .ge 19, 3) := by decide +kernel
theorem d3_14 : decode prog_25_method_11_code 14 = .ok (.aload_n 0, 1) := by decide +kernel
theorem d3_15 : decode prog_25_method_11_code 15 = .ok (.iload_n 3, 1) := by decide +kernel
theorem d3_16 : decode prog_25_method_11_code 16 = .ok (.baload, 1) := by decide +kernel
theorem d3_17 : decode prog_25_method_11_code 17 = .ok (.bipush 10, 2) := by decide +kernel
theorem d3_19 : decode prog_25_method_11_code 19 = .ok (.if_icmp .ne 5, 3) := by decide +kernel
theorem d3_22 : decode prog_25_method_11_code 22 = .ok (.iload_n 3, 1) := by decide +kernel
theorem d3_23 : decode prog_25_method_11_code 23 = .ok (.istore_n 2, 1) := by decide +kernel
theorem d3_24 : decode prog_25_method_11_code 24 = .ok (.iinc 3 1, 3) := by decide +kernel
theorem d3_27 : decode prog_25_method_11_code 27 = .ok (.goto (-23), 3) := by decide +kernel
set_option maxRecDepth 65536 in
set_option maxHeartbeats 40000000 in
theorem loop3 {p : Program} {l : Launch} {e : Env} {R : Room} {s : State} {m : MethodId} {args : Array Value} {below : List Frame} {meth : Method} {c : Code} {locs : List Loc} {cells slots : Nat} {Z : State} {a0 : Array Value} {h0 : Heap} {T0 : State} {va : Addr} {vs vn : Int32} {vf : Nat → Int32} (X0 : Stand p l e R s m args below meth c T0 locs cells slots) (hx : p.tables.exec = Jvm.exec) (hZ : Z.Warmed39 s.vm) (hw : ∀ d ∈ tables_1, d.before a0 Z = true) (hby : c.code = prog_25_method_11_code) (hml : c.maxLocals = 4) (hown : s.vm.findClass "com/example/trunkline/trunkline/message/MessageParser" = some m.cls) (e0 : T0.heap = h0) (V_va : Arf Z h0 va .byte vn (fun i => Value.int (vf i))) :
    ∀ (k : Nat) (vr vi : Int32), vn.toInt - vi.toInt ≤ (k : Nat) → ¬ vi < 0 → ∃ vi' : Int32, ∀ target, Steps p.tables e below (T0.setTop (mkF m 30 #[.val (.ref va), .val (.int vs), .val (.int (own_le vn vf k vr vi)), .val (.int vi')] [])) target → Steps p.tables e below (T0.setTop (mkF m 4 #[.val (.ref va), .val (.int vs), .val (.int vr), .val (.int vi)] [])) target := by
  intro k
  induction k with
  | zero =>
    intro vr vi hk h0
    have Vo1 := V_va
    obtain ⟨cl1, Ar1, S1, M1, H1⟩ := Vo1
    refine ⟨vi, fun target kt => ?_⟩
    show Steps p.tables e below (T0.setTop (mkF m 4 #[.val (.ref va), .val (.int vs), .val (.int vr), .val (.int vi)] [])) _
    refine XS.iloadN X0.here hx rfl (hb hby d3_4) rfl ?_
    show Steps p.tables e below (T0.setTop (mkF m 5 #[.val (.ref va), .val (.int vs), .val (.int vr), .val (.int vi)] [(.int vi)])) _
    refine XS.aloadN X0.here hx rfl (hb hby d3_5) rfl rfl ?_
    show Steps p.tables e below (T0.setTop (mkF m 6 #[.val (.ref va), .val (.int vs), .val (.int vr), .val (.int vi)] [(.ref va), (.int vi)])) _
    refine X0.arraylength hx (by rw [e0]; exact Ar1.1) (State.isArrayOf_alike hZ.alike Ar1.2.1) (g := (mkF m 6 #[.val (.ref va), .val (.int vs), .val (.int vr), .val (.int vi)] [(.ref va), (.int vi)])) rfl rfl (hb hby d3_6) _ ?_
    rw [len_of S1 M1]
    show Steps p.tables e below (T0.setTop (mkF m 7 #[.val (.ref va), .val (.int vs), .val (.int vr), .val (.int vi)] [(.int vn), (.int vi)])) _
    refine XS.icmpYes X0.here hx rfl (pc0 := 7) (pc' := 30) rfl (hb hby d3_7) rfl (flt (own_stop hk : ¬ (vi < vn))).2.1 (by decide) (by decide) ?_
    exact kt
  | succ k ih =>
    intro vr vi hk h0
    have Vo1 := V_va
    obtain ⟨cl1, Ar1, S1, M1, H1⟩ := Vo1
    by_cases hb2 : vi < vn
    · by_cases hb3 : vr < (0 : Int32)
      · obtain ⟨vi', ih'⟩ := ih (if (vf (vi).toNatClampNeg) = (10 : Int32) then vi else vr) (vi + (1 : Int32)) (own_next hk h0 hb2).1 (own_next hk h0 hb2).2
        refine ⟨vi', fun target kt => ?_⟩
        rw [own_le_s, if_pos hb2, if_pos hb3] at kt
        show Steps p.tables e below (T0.setTop (mkF m 4 #[.val (.ref va), .val (.int vs), .val (.int vr), .val (.int vi)] [])) _
        refine XS.iloadN X0.here hx rfl (hb hby d3_4) rfl ?_
        show Steps p.tables e below (T0.setTop (mkF m 5 #[.val (.ref va), .val (.int vs), .val (.int vr), .val (.int vi)] [(.int vi)])) _
        refine XS.aloadN X0.here hx rfl (hb hby d3_5) rfl rfl ?_
        show Steps p.tables e below (T0.setTop (mkF m 6 #[.val (.ref va), .val (.int vs), .val (.int vr), .val (.int vi)] [(.ref va), (.int vi)])) _
        refine X0.arraylength hx (by rw [e0]; exact Ar1.1) (State.isArrayOf_alike hZ.alike Ar1.2.1) (g := (mkF m 6 #[.val (.ref va), .val (.int vs), .val (.int vr), .val (.int vi)] [(.ref va), (.int vi)])) rfl rfl (hb hby d3_6) _ ?_
        rw [len_of S1 M1]
        show Steps p.tables e below (T0.setTop (mkF m 7 #[.val (.ref va), .val (.int vs), .val (.int vr), .val (.int vi)] [(.int vn), (.int vi)])) _
        refine XS.icmpNo X0.here hx rfl (hb hby d3_7) rfl (tlt hb2).2.1 ?_
        show Steps p.tables e below (T0.setTop (mkF m 10 #[.val (.ref va), .val (.int vs), .val (.int vr), .val (.int vi)] [])) _
        refine XS.iloadN X0.here hx rfl (hb hby d3_10) rfl ?_
        show Steps p.tables e below (T0.setTop (mkF m 11 #[.val (.ref va), .val (.int vs), .val (.int vr), .val (.int vi)] [(.int vr)])) _
        refine XS.ifNo X0.here hx rfl (hb hby d3_11) rfl ((if0 _ _).trans (tlt hb3).2.1) ?_
        show Steps p.tables e below (T0.setTop (mkF m 14 #[.val (.ref va), .val (.int vs), .val (.int vr), .val (.int vi)] [])) _
        refine XS.aloadN X0.here hx rfl (hb hby d3_14) rfl rfl ?_
        show Steps p.tables e below (T0.setTop (mkF m 15 #[.val (.ref va), .val (.int vs), .val (.int vr), .val (.int vi)] [(.ref va)])) _
        refine XS.iloadN X0.here hx rfl (hb hby d3_15) rfl ?_
        show Steps p.tables e below (T0.setTop (mkF m 16 #[.val (.ref va), .val (.int vs), .val (.int vr), .val (.int vi)] [(.int vi), (.ref va)])) _
        have hin4 : ¬ (vi < 0 ∨ cl1.slots.size ≤ (vi).toNatClampNeg) := inb_of S1 ⟨h0, hb2⟩
        refine X0.baloadBytes hx (j := vi) (v := (.int (vf (vi).toNatClampNeg))) (by rw [e0]; exact Ar1.1) (State.isArrayOf_alike hZ.alike Ar1.2.1) Ar1.2.2 hin4 (own_arf_at H1 S1 hin4) (g := (mkF m 16 #[.val (.ref va), .val (.int vs), .val (.int vr), .val (.int vi)] [(.int vi), (.ref va)])) rfl rfl (hb hby d3_16) _ ?_
        show Steps p.tables e below (T0.setTop (mkF m 17 #[.val (.ref va), .val (.int vs), .val (.int vr), .val (.int vi)] [(.int (vf (vi).toNatClampNeg))])) _
        refine XS.bipush X0.here hx rfl (hb hby d3_17) ?_
        show Steps p.tables e below (T0.setTop (mkF m 19 #[.val (.ref va), .val (.int vs), .val (.int vr), .val (.int vi)] [(.int (10 : Int32)), (.int (vf (vi).toNatClampNeg))])) _
        refine own_dia (u := (vi : Int32)) (v := vr) ((vf (vi).toNatClampNeg) = (10 : Int32)) (fun z5 => (mkF m 24 #[.val (.ref va), .val (.int vs), .val (.int z5), .val (.int vi)] [])) (fun hc5 k5 => ?_) (fun hc5 k5 => ?_) ?_
        · refine XS.icmpNo X0.here hx rfl (hb hby d3_19) rfl (teq hc5).2 ?_
          show Steps p.tables e below (T0.setTop (mkF m 22 #[.val (.ref va), .val (.int vs), .val (.int vr), .val (.int vi)] [])) _
          refine XS.iloadN X0.here hx rfl (hb hby d3_22) rfl ?_
          show Steps p.tables e below (T0.setTop (mkF m 23 #[.val (.ref va), .val (.int vs), .val (.int vr), .val (.int vi)] [(.int vi)])) _
          refine XS.istoreN X0.here hx rfl (hb hby d3_23) rfl (l' := #[.val (.ref va), .val (.int vs), .val (.int vi), .val (.int vi)]) rfl ?_
          exact k5
        · refine XS.icmpYes X0.here hx rfl (pc0 := 19) (pc' := 24) rfl (hb hby d3_19) rfl (feq hc5).2 (by decide) (by decide) ?_
          exact k5
        -- meets at 24
        show Steps p.tables e below (T0.setTop (mkF m 24 #[.val (.ref va), .val (.int vs), .val (.int (if (vf (vi).toNatClampNeg) = (10 : Int32) then vi else vr)), .val (.int vi)] [])) _
        refine XS.iinc X0.here hx rfl (hb hby d3_24) rfl (l' := #[.val (.ref va), .val (.int vs), .val (.int (if (vf (vi).toNatClampNeg) = (10 : Int32) then vi else vr)), .val (.int (vi + (1 : Int32)))]) rfl ?_
        show Steps p.tables e below (T0.setTop (mkF m 27 #[.val (.ref va), .val (.int vs), .val (.int (if (vf (vi).toNatClampNeg) = (10 : Int32) then vi else vr)), .val (.int (vi + (1 : Int32)))] [])) _
        refine XS.goto X0.here hx rfl (pc0 := 27) (pc' := 4) rfl (hb hby d3_27) (by decide) (by decide) ?_
        exact ih' target kt
      · refine ⟨vi, fun target kt => ?_⟩
        rw [own_le_s, if_pos hb2, if_neg hb3] at kt
        show Steps p.tables e below (T0.setTop (mkF m 4 #[.val (.ref va), .val (.int vs), .val (.int vr), .val (.int vi)] [])) _
        refine XS.iloadN X0.here hx rfl (hb hby d3_4) rfl ?_
        show Steps p.tables e below (T0.setTop (mkF m 5 #[.val (.ref va), .val (.int vs), .val (.int vr), .val (.int vi)] [(.int vi)])) _
        refine XS.aloadN X0.here hx rfl (hb hby d3_5) rfl rfl ?_
        show Steps p.tables e below (T0.setTop (mkF m 6 #[.val (.ref va), .val (.int vs), .val (.int vr), .val (.int vi)] [(.ref va), (.int vi)])) _
        refine X0.arraylength hx (by rw [e0]; exact Ar1.1) (State.isArrayOf_alike hZ.alike Ar1.2.1) (g := (mkF m 6 #[.val (.ref va), .val (.int vs), .val (.int vr), .val (.int vi)] [(.ref va), (.int vi)])) rfl rfl (hb hby d3_6) _ ?_
        rw [len_of S1 M1]
        show Steps p.tables e below (T0.setTop (mkF m 7 #[.val (.ref va), .val (.int vs), .val (.int vr), .val (.int vi)] [(.int vn), (.int vi)])) _
        refine XS.icmpNo X0.here hx rfl (hb hby d3_7) rfl (tlt hb2).2.1 ?_
        show Steps p.tables e below (T0.setTop (mkF m 10 #[.val (.ref va), .val (.int vs), .val (.int vr), .val (.int vi)] [])) _
        refine XS.iloadN X0.here hx rfl (hb hby d3_10) rfl ?_
        show Steps p.tables e below (T0.setTop (mkF m 11 #[.val (.ref va), .val (.int vs), .val (.int vr), .val (.int vi)] [(.int vr)])) _
        refine XS.ifYes X0.here hx rfl (pc0 := 11) (pc' := 30) rfl (hb hby d3_11) rfl ((if0 _ _).trans (flt hb3).2.1) (by decide) (by decide) ?_
        exact kt
    · refine ⟨vi, fun target kt => ?_⟩
      rw [own_le_s, if_neg hb2] at kt
      show Steps p.tables e below (T0.setTop (mkF m 4 #[.val (.ref va), .val (.int vs), .val (.int vr), .val (.int vi)] [])) _
      refine XS.iloadN X0.here hx rfl (hb hby d3_4) rfl ?_
      show Steps p.tables e below (T0.setTop (mkF m 5 #[.val (.ref va), .val (.int vs), .val (.int vr), .val (.int vi)] [(.int vi)])) _
      refine XS.aloadN X0.here hx rfl (hb hby d3_5) rfl rfl ?_
      show Steps p.tables e below (T0.setTop (mkF m 6 #[.val (.ref va), .val (.int vs), .val (.int vr), .val (.int vi)] [(.ref va), (.int vi)])) _
      refine X0.arraylength hx (by rw [e0]; exact Ar1.1) (State.isArrayOf_alike hZ.alike Ar1.2.1) (g := (mkF m 6 #[.val (.ref va), .val (.int vs), .val (.int vr), .val (.int vi)] [(.ref va), (.int vi)])) rfl rfl (hb hby d3_6) _ ?_
      rw [len_of S1 M1]
      show Steps p.tables e below (T0.setTop (mkF m 7 #[.val (.ref va), .val (.int vs), .val (.int vr), .val (.int vi)] [(.int vn), (.int vi)])) _
      refine XS.icmpYes X0.here hx rfl (pc0 := 7) (pc' := 30) rfl (hb hby d3_7) rfl (flt hb2).2.1 (by decide) (by decide) ?_
      exact kt
theorem d3_0 : decode prog_25_method_11_code 0 = .ok (.iconst (-1), 1) := by decide +kernel
theorem d3_1 : decode prog_25_method_11_code 1 = .ok (.istore_n 2, 1) := by decide +kernel
theorem d3_2 : decode prog_25_method_11_code 2 = .ok (.iload_n 1, 1) := by decide +kernel
theorem d3_3 : decode prog_25_method_11_code 3 = .ok (.istore_n 3, 1) := by decide +kernel
theorem d3_30 : decode prog_25_method_11_code 30 = .ok (.iload_n 2, 1) := by decide +kernel
theorem d3_31 : decode prog_25_method_11_code 31 = .ok (.ireturn, 1) := by decide +kernel
theorem pn_3 : plainName "com/example/trunkline/trunkline/message/MessageParser" = true := by first | (simp [plainName, overriddenIn]; done) | decide +kernel
theorem ef_3 (m : MethodId) (va : Addr) (vs : Int32) : entryFrame m #[(.ref va), (.int vs)] 4 = mkF m 0 #[.val (.ref va), .val (.int vs), .unset, .unset] [] := by first | (simp [entryFrame, mkF, argsToLocals, Value.category]; done) | rfl
def Q3 (Z : State) (va : Addr) (vs : Int32) (vn : Int32) (vf : Nat → Int32) (h0 : Heap) (n0 : Nat) (v : Option Value) (h : Heap) (L : List Loc) : Prop := v = some (.int (own_le vn vf 5 (-1) vs)) ∧ Fr n0 L ∧ h = h0
set_option maxRecDepth 65536 in
set_option maxHeartbeats 40000000 in
theorem rm3 (l : Launch) (Z : State) (a0 : Array Value) (hw : ∀ d ∈ tables_1, d.before a0 Z = true) (ws : List Jvm.Cond) (va : Addr) (vs : Int32) (vn : Int32) (vf : Nat → Int32) (h0 : Heap) (n0 : Nat) (Z0 : n0 ≤ h0.size) (V_va : Arf Z h0 va .byte vn (fun i => Value.int (vf i))) (hs0 : ¬ vs < 0) (hn4 : vn.toInt - vs.toInt ≤ 5) :
    MetFree l (⟨"com/example/trunkline/trunkline/message/MessageParser", "lineEnd", "([BI)I"⟩ : MethodName) (head1 (Jvm.Cond.code (⟨"com/example/trunkline/trunkline/message/MessageParser", "lineEnd", "([BI)I"⟩ : MethodName) prog_25_method_11_code 4 (some .int) :: ws) ({ frames := 0, cells := 0, slots := 0, locals := 0 } : Room)) (fun a U => a = #[(.ref va), (.int vs)] ∧ Z.Warmed39 U.vm ∧ U.heap = h0) (fun _ _ _ _ _ => True) (fun _ U o U' => ∃ v L, o = .returned v ∧ Q3 Z va vs vn vf h0 n0 v U'.heap L ∧ FrameEnd U o U' L ({ frames := 0, cells := 0, slots := 0, locals := 0 } : Room).cells ({ frames := 0, cells := 0, slots := 0, locals := 0 } : Room).slots) := by
  refine MetFree.of_bodySF (plainFor_of_name pn_3) hisR ?_
  intro p e s m args below meth c s₁ Bd hml0 hP hK
  obtain ⟨rfl, hZ, hh⟩ := hP
  have hx := Bd.exec
  have hby := Bd.bytes
  have hml : c.maxLocals = 4 := hml0
  have hown : s.vm.findClass "com/example/trunkline/trunkline/message/MessageParser" = some m.cls := findClass_of_methodNamed Bd.named
  have hnm := (name_of_methodNamed Bd.named Bd.method).1
  have X0 : Stand p l e ({ frames := 0, cells := 0, slots := 0, locals := 0 } : Room) s m #[(.ref va), (.int vs)] below meth c s₁ [] 0 0 := Stand.of_body Bd
  have e0 : s₁.heap = h0 := by rw [← hh, Bd.state]; rfl
  have N0 := Fr.nil n0
  have pre0 : ∀ t, Steps p.tables e below (s₁.setTop (mkF m 0 #[.val (.ref va), .val (.int vs), .unset, .unset] [])) t → Steps p.tables e below (s₁.setTop (entryFrame m #[(.ref va), (.int vs)] 4)) t := fun t k => castTop (ef_3 m va vs) k
  obtain ⟨vi1, lp1⟩ := loop3 (vs := vs) X0 hx hZ hw hby hml hown e0 V_va 5 (-1) vs (by omega) hs0
  obtain ⟨fs, hr, hrun, hended, hW, hsame⟩ := X0.leave (v := some (.int (own_le vn vf 5 (-1) vs))) (fun h => by rw [Bd.returns] at h; cases h)
  refine ⟨_, _, pre0 _ ?_, hrun, hended, _, _, rfl, ?_, ⟨_, rfl⟩, hW, hsame.mono (by decide) (by decide)⟩
  · show Steps p.tables e below (s₁.setTop (mkF m 0 #[.val (.ref va), .val (.int vs), .unset, .unset] [])) _
    refine XS.iconst X0.here hx rfl (hb hby d3_0) ?_
    show Steps p.tables e below (s₁.setTop (mkF m 1 #[.val (.ref va), .val (.int vs), .unset, .unset] [(.int (-1 : Int32))])) _
    refine XS.istoreN X0.here hx rfl (hb hby d3_1) rfl (l' := #[.val (.ref va), .val (.int vs), .val (.int (-1 : Int32)), .unset]) rfl ?_
    show Steps p.tables e below (s₁.setTop (mkF m 2 #[.val (.ref va), .val (.int vs), .val (.int (-1 : Int32)), .unset] [])) _
    refine XS.iloadN X0.here hx rfl (hb hby d3_2) rfl ?_
    show Steps p.tables e below (s₁.setTop (mkF m 3 #[.val (.ref va), .val (.int vs), .val (.int (-1 : Int32)), .unset] [(.int vs)])) _
    refine XS.istoreN X0.here hx rfl (hb hby d3_3) rfl (l' := #[.val (.ref va), .val (.int vs), .val (.int (-1 : Int32)), .val (.int vs)]) rfl ?_
    show Steps p.tables e below (s₁.setTop (mkF m 4 #[.val (.ref va), .val (.int vs), .val (.int (-1 : Int32)), .val (.int vs)] [])) _
    refine lp1 _ ?_
    show Steps p.tables e below (s₁.setTop (mkF m 30 #[.val (.ref va), .val (.int vs), .val (.int (own_le vn vf 5 (-1) vs)), .val (.int vi1)] [])) _
    refine XS.iloadN X0.here hx rfl (hb hby d3_30) rfl ?_
    show Steps p.tables e below (s₁.setTop (mkF m 31 #[.val (.ref va), .val (.int vs), .val (.int (own_le vn vf 5 (-1) vs)), .val (.int vi1)] [(.int (own_le vn vf 5 (-1) vs))])) _
    exact retI X0 hx Bd.returns (hb hby d3_31) hr
  · show Q3 Z va vs vn vf h0 n0 _ s₁.heap _
    rw [e0]
    exact ⟨rfl, N0, rfl⟩

def own_s (x5 : Int32) : Int32 := (if (x5 &&& (256 : Int32)) = (0 : Int32) then (x5 &&& (7 : Int32)) else (x5 &&& (2147483647 : Int32)))
theorem own_s_v (x5 : Int32) : 0 ≤ (own_s x5).toInt := by
  have e1 : (x5 &&& (7 : Int32)).toInt = x5.toInt % 2 ^ 3 := Jvm.Kit.i32_mask x5 7 (by decide) (by decide)
  have e2 : (x5 &&& (2147483647 : Int32)).toInt = x5.toInt % 2 ^ 31 := Jvm.Kit.i32_mask x5 2147483647 (by decide) (by decide)
  unfold own_s; split <;> omega
theorem own_s0 (x5 : Int32) : ¬ own_s x5 < 0 := by
  have := own_s_v x5
  rw [Int32.lt_iff_toInt_lt]; show ¬ _ < (0 : Int); omega
theorem own_s4 (x5 : Int32) : (4 : Int32).toInt - (own_s x5).toInt ≤ 5 := by
  have := own_s_v x5
  show (4 : Int) - _ ≤ 5; omega

theorem pd_0 : parseMethodDescriptor "(I)B" = some ⟨[.int], some .byte⟩ := by decide +kernel
theorem pd_1 : parseMethodDescriptor "([BII)Z" = some ⟨[(.array .byte), .int, .int], some .boolean⟩ := by decide +kernel
theorem pd_2 : parseMethodDescriptor "([BI)I" = some ⟨[(.array .byte), .int], some .int⟩ := by decide +kernel
theorem pn_0 : plainName "com/example/trunkline/trunkline/message/MessageParserLineEndPinLaw" = true := by first | (simp [plainName, overriddenIn]; done) | decide +kernel
theorem ef_0 (m : MethodId) (x1 : Int32) (x2 : Int32) (x3 : Int32) (x4 : Int32) (x5 : Int32) : entryFrame m #[(.int x1), (.int x2), (.int x3), (.int x4), (.int x5)] maxLocals = mkF m 0 #[.val (.int x1), .val (.int x2), .val (.int x3), .val (.int x4), .val (.int x5), .unset, .unset, .unset, .unset] [] := by first | (simp [entryFrame, mkF, argsToLocals, Value.category, maxLocals]; done) | rfl
def F0 (x1 : Int32) (x2 : Int32) (x3 : Int32) (x4 : Int32) (x5 : Int32) : Int32 := (if (F2 (0 : Int32) (if (x5 &&& (256 : Int32)) = (0 : Int32) then (x5 &&& (7 : Int32)) else (x5 &&& (2147483647 : Int32))) ((own_arr (nar .byte (F1 x1)) (nar .byte (F1 x2)) (nar .byte (F1 x3)) (nar .byte (F1 x4))))) = (0 : Int32) then (if (F2 (1 : Int32) (if (x5 &&& (256 : Int32)) = (0 : Int32) then (x5 &&& (7 : Int32)) else (x5 &&& (2147483647 : Int32))) ((own_arr (nar .byte (F1 x1)) (nar .byte (F1 x2)) (nar .byte (F1 x3)) (nar .byte (F1 x4))))) = (0 : Int32) then (if (F2 (2 : Int32) (if (x5 &&& (256 : Int32)) = (0 : Int32) then (x5 &&& (7 : Int32)) else (x5 &&& (2147483647 : Int32))) ((own_arr (nar .byte (F1 x1)) (nar .byte (F1 x2)) (nar .byte (F1 x3)) (nar .byte (F1 x4))))) = (0 : Int32) then (if (own_le ((4 : Int32)) ((own_arr (nar .byte (F1 x1)) (nar .byte (F1 x2)) (nar .byte (F1 x3)) (nar .byte (F1 x4)))) 5 (-1) (if (x5 &&& (256 : Int32)) = (0 : Int32) then (x5 &&& (7 : Int32)) else (x5 &&& (2147483647 : Int32)))) = (if (F2 (3 : Int32) (if (x5 &&& (256 : Int32)) = (0 : Int32) then (x5 &&& (7 : Int32)) else (x5 &&& (2147483647 : Int32))) ((own_arr (nar .byte (F1 x1)) (nar .byte (F1 x2)) (nar .byte (F1 x3)) (nar .byte (F1 x4))))) = (0 : Int32) then (-1 : Int32) else (3 : Int32)) then (1 : Int32) else (0 : Int32)) else (if (own_le ((4 : Int32)) ((own_arr (nar .byte (F1 x1)) (nar .byte (F1 x2)) (nar .byte (F1 x3)) (nar .byte (F1 x4)))) 5 (-1) (if (x5 &&& (256 : Int32)) = (0 : Int32) then (x5 &&& (7 : Int32)) else (x5 &&& (2147483647 : Int32)))) = (2 : Int32) then (1 : Int32) else (0 : Int32))) else (if (own_le ((4 : Int32)) ((own_arr (nar .byte (F1 x1)) (nar .byte (F1 x2)) (nar .byte (F1 x3)) (nar .byte (F1 x4)))) 5 (-1) (if (x5 &&& (256 : Int32)) = (0 : Int32) then (x5 &&& (7 : Int32)) else (x5 &&& (2147483647 : Int32)))) = (1 : Int32) then (1 : Int32) else (0 : Int32))) else (if (own_le ((4 : Int32)) ((own_arr (nar .byte (F1 x1)) (nar .byte (F1 x2)) (nar .byte (F1 x3)) (nar .byte (F1 x4)))) 5 (-1) (if (x5 &&& (256 : Int32)) = (0 : Int32) then (x5 &&& (7 : Int32)) else (x5 &&& (2147483647 : Int32)))) = (0 : Int32) then (1 : Int32) else (0 : Int32)))
def Q0 (Z : State) (x1 : Int32) (x2 : Int32) (x3 : Int32) (x4 : Int32) (x5 : Int32) (h0 : Heap) (n0 : Nat) (v : Option Value) (h : Heap) (L : List Loc) : Prop := v = some (.int (F0 x1 x2 x3 x4 x5)) ∧ Fr n0 L
set_option maxRecDepth 65536 in
set_option maxHeartbeats 40000000 in
theorem rm0 (l : Launch) (Z : State) (a0 : Array Value) (hw : ∀ d ∈ tables_1, d.before a0 Z = true) (ws : List Jvm.Cond) (x1 : Int32) (x2 : Int32) (x3 : Int32) (x4 : Int32) (x5 : Int32) (h0 : Heap) (n0 : Nat) (Z0 : n0 ≤ h0.size)  :
    MetFree l x (head1 (Jvm.Cond.code x code maxLocals ret :: ws) room_1) (fun a U => a = #[(.int x1), (.int x2), (.int x3), (.int x4), (.int x5)] ∧ Z.Warmed39 U.vm ∧ U.heap = h0) (fun _ _ _ _ _ => True) (fun _ U o U' => ∃ v L, o = .returned v ∧ Q0 Z x1 x2 x3 x4 x5 h0 n0 v U'.heap L ∧ FrameEnd U o U' L room_1.cells room_1.slots) := by
  refine MetFree.of_bodySF (plainFor_of_name pn_0) hisR ?_
  intro p e s m args below meth c s₁ Bd hml0 hP hK
  obtain ⟨rfl, hZ, hh⟩ := hP
  have hx := Bd.exec
  have hby := Bd.bytes
  have hml : c.maxLocals = 9 := hml0
  have hown : s.vm.findClass "com/example/trunkline/trunkline/message/MessageParserLineEndPinLaw" = some m.cls := findClass_of_methodNamed Bd.named
  have hnm := (name_of_methodNamed Bd.named Bd.method).1
  have X0 : Stand p l e room_1 s m #[(.int x1), (.int x2), (.int x3), (.int x4), (.int x5)] below meth c s₁ [] 0 0 := Stand.of_body Bd
  have e0 : s₁.heap = h0 := by rw [← hh, Bd.state]; rfl
  have N0 := Fr.nil n0
  have pre0 : ∀ t, Steps p.tables e below (s₁.setTop (mkF m 0 #[.val (.int x1), .val (.int x2), .val (.int x3), .val (.int x4), .val (.int x5), .unset, .unset, .unset, .unset] [])) t → Steps p.tables e below (s₁.setTop (entryFrame m #[(.int x1), (.int x2), (.int x3), (.int x4), (.int x5)] maxLocals)) t := fun t k => castTop (ef_0 m x1 x2 x3 x4 x5) k
  obtain ⟨T1, h1, k1, X1, e1, E1, A1, st1⟩ := newP X0 hx hZ (hw _ (List.mem_of_getElem? (i := 0) rfl)) e0 (g := (mkF m 1 #[.val (.int x1), .val (.int x2), .val (.int x3), .val (.int x4), .val (.int x5), .unset, .unset, .unset, .unset] [(.int (4 : Int32))])) rfl (hb hby at_1) rfl (by decide) (cap := 4) (by decide) (by decide) (by decide) (by decide)
  obtain ⟨b1, g1⟩ : ∃ z, z = h0.size := ⟨_, rfl⟩
  rw [← g1] at A1 st1
  have g_b1 : n0 ≤ b1 := Nat.le_trans Z0 (Nat.le_of_eq g1.symm)
  have Z2 : n0 ≤ h1.size := Nat.le_trans Z0 E1.1
  have V_b1 : Arf Z h1 b1 .byte (4 : Int32) (fun _ => Value.int (0 : Int32)) := own_arf_new A1 (by decide)
  obtain ⟨_, _, ⟨T3, L3, k3, n3⟩, -, X3, ⟨Lc3, hQ3, l3, y3, z3⟩, st3⟩ := Jvm.LawKit.callS X1 hx (y := (⟨"com/example/trunkline/trunkline/message/MessageParserLineEndPinLaw", "draw", "(I)B"⟩ : MethodName)) hown (mvT hZ (hw _ (List.mem_of_getElem? (i := 1) rfl))) (mvT hZ (hw _ (List.mem_of_getElem? (i := 2) rfl))) (mvT hZ (hw _ (List.mem_of_getElem? (i := 3) rfl))) (mvT hZ (hw _ (List.mem_of_getElem? (i := 4) rfl))) (by decide) (backOf (W := 2) (rm1 l Z a0 hw [] x1  h1 n0 Z2 ) hZ (hw _ (List.mem_of_getElem? (i := 4) rfl)) (hw _ (List.mem_of_getElem? (i := 3) rfl)) (by decide) (by decide)) (g := (mkF m 9 #[.val (.int x1), .val (.int x2), .val (.int x3), .val (.int x4), .val (.int x5), .val (.ref b1), .unset, .unset, .unset] [(.int x1), (.int (0 : Int32)), (.ref b1)])) rfl (by rw [hml]; rfl) (argsL := [(.int x1)]) (rest := [(.int (0 : Int32)), (.ref b1)]) (lenOf pd_0 rfl) rfl (by show 2 * 0 + _ ≤ _; exact Nat.le_of_eq rfl) (hb hby at_9) (fun _ _ => ⟨rfl, e1, (by decide : 1 + 0 ≤ _), (by decide : 4 + 0 ≤ _)⟩)
  dsimp only [Pt.U, Pt.locs, Pt.cells, Pt.slots] at X3 l3 y3 z3 st3 hQ3
  subst l3 y3 z3
  obtain ⟨rfl, N3q, e3⟩ := hQ3
  have N3 := Fr.app N0 N3q
  have Vo5 := V_b1
  obtain ⟨cl5, Ar5, S5, M5, H5⟩ := Vo5
  have hin4 : ¬ ((0 : Int32) < 0 ∨ cl5.slots.size ≤ ((0 : Int32)).toNatClampNeg) := inb_of S5 ⟨by decide, by decide⟩
  obtain ⟨T4, h4, X4, e4, W4, st4⟩ := stB X3 hx hZ e3 Ar5 (j := (0 : Int32)) hin4 (g := (mkF m 12 #[.val (.int x1), .val (.int x2), .val (.int x3), .val (.int x4), .val (.int x5), .val (.ref b1), .unset, .unset, .unset] [(.int (F1 x1)), (.int (0 : Int32)), (.ref b1)])) rfl rfl (hb hby at_12)
  have Z6 : n0 ≤ h4.size := Nat.le_trans Z2 (Keep.of_wr W4).1
  have V4 := own_arf_setI V_b1 W4
  have N4 := Fr.snoc X4 N3 g_b1
  obtain ⟨_, _, ⟨T8, L8, k8, n8⟩, -, X8, ⟨Lc8, hQ8, l8, y8, z8⟩, st8⟩ := Jvm.LawKit.callS X4 hx (y := (⟨"com/example/trunkline/trunkline/message/MessageParserLineEndPinLaw", "draw", "(I)B"⟩ : MethodName)) hown (mvT hZ (hw _ (List.mem_of_getElem? (i := 1) rfl))) (mvT hZ (hw _ (List.mem_of_getElem? (i := 2) rfl))) (mvT hZ (hw _ (List.mem_of_getElem? (i := 3) rfl))) (mvT hZ (hw _ (List.mem_of_getElem? (i := 4) rfl))) (by decide) (backOf (W := 2) (rm1 l Z a0 hw [] x2  h4 n0 Z6 ) hZ (hw _ (List.mem_of_getElem? (i := 4) rfl)) (hw _ (List.mem_of_getElem? (i := 3) rfl)) (by decide) (by decide)) (g := (mkF m 17 #[.val (.int x1), .val (.int x2), .val (.int x3), .val (.int x4), .val (.int x5), .val (.ref b1), .unset, .unset, .unset] [(.int x2), (.int (1 : Int32)), (.ref b1)])) rfl (by rw [hml]; rfl) (argsL := [(.int x2)]) (rest := [(.int (1 : Int32)), (.ref b1)]) (lenOf pd_0 rfl) rfl (by show 2 * 0 + _ ≤ _; exact Nat.le_of_eq rfl) (hb hby at_17) (fun _ _ => ⟨rfl, e4, (by decide : 1 + 0 ≤ _), (by decide : 4 + 0 ≤ _)⟩)
  dsimp only [Pt.U, Pt.locs, Pt.cells, Pt.slots] at X8 l8 y8 z8 st8 hQ8
  subst l8 y8 z8
  obtain ⟨rfl, N8q, e8⟩ := hQ8
  have N8 := Fr.app N4 N8q
  have Vo10 := V4
  obtain ⟨cl10, Ar10, S10, M10, H10⟩ := Vo10
  have hin9 : ¬ ((1 : Int32) < 0 ∨ cl10.slots.size ≤ ((1 : Int32)).toNatClampNeg) := inb_of S10 ⟨by decide, by decide⟩
  obtain ⟨T9, h9, X9, e9, W9, st9⟩ := stB X8 hx hZ e8 Ar10 (j := (1 : Int32)) hin9 (g := (mkF m 20 #[.val (.int x1), .val (.int x2), .val (.int x3), .val (.int x4), .val (.int x5), .val (.ref b1), .unset, .unset, .unset] [(.int (F1 x2)), (.int (1 : Int32)), (.ref b1)])) rfl rfl (hb hby at_20)
  have Z11 : n0 ≤ h9.size := Nat.le_trans Z6 (Keep.of_wr W9).1
  have V9 := own_arf_setI V4 W9
  have N9 := Fr.snoc X9 N8 g_b1
  obtain ⟨_, _, ⟨T13, L13, k13, n13⟩, -, X13, ⟨Lc13, hQ13, l13, y13, z13⟩, st13⟩ := Jvm.LawKit.callS X9 hx (y := (⟨"com/example/trunkline/trunkline/message/MessageParserLineEndPinLaw", "draw", "(I)B"⟩ : MethodName)) hown (mvT hZ (hw _ (List.mem_of_getElem? (i := 1) rfl))) (mvT hZ (hw _ (List.mem_of_getElem? (i := 2) rfl))) (mvT hZ (hw _ (List.mem_of_getElem? (i := 3) rfl))) (mvT hZ (hw _ (List.mem_of_getElem? (i := 4) rfl))) (by decide) (backOf (W := 2) (rm1 l Z a0 hw [] x3  h9 n0 Z11 ) hZ (hw _ (List.mem_of_getElem? (i := 4) rfl)) (hw _ (List.mem_of_getElem? (i := 3) rfl)) (by decide) (by decide)) (g := (mkF m 25 #[.val (.int x1), .val (.int x2), .val (.int x3), .val (.int x4), .val (.int x5), .val (.ref b1), .unset, .unset, .unset] [(.int x3), (.int (2 : Int32)), (.ref b1)])) rfl (by rw [hml]; rfl) (argsL := [(.int x3)]) (rest := [(.int (2 : Int32)), (.ref b1)]) (lenOf pd_0 rfl) rfl (by show 2 * 0 + _ ≤ _; exact Nat.le_of_eq rfl) (hb hby at_25) (fun _ _ => ⟨rfl, e9, (by decide : 1 + 0 ≤ _), (by decide : 4 + 0 ≤ _)⟩)
  dsimp only [Pt.U, Pt.locs, Pt.cells, Pt.slots] at X13 l13 y13 z13 st13 hQ13
  subst l13 y13 z13
  obtain ⟨rfl, N13q, e13⟩ := hQ13
  have N13 := Fr.app N9 N13q
  have Vo15 := V9
  obtain ⟨cl15, Ar15, S15, M15, H15⟩ := Vo15
  have hin14 : ¬ ((2 : Int32) < 0 ∨ cl15.slots.size ≤ ((2 : Int32)).toNatClampNeg) := inb_of S15 ⟨by decide, by decide⟩
  obtain ⟨T14, h14, X14, e14, W14, st14⟩ := stB X13 hx hZ e13 Ar15 (j := (2 : Int32)) hin14 (g := (mkF m 28 #[.val (.int x1), .val (.int x2), .val (.int x3), .val (.int x4), .val (.int x5), .val (.ref b1), .unset, .unset, .unset] [(.int (F1 x3)), (.int (2 : Int32)), (.ref b1)])) rfl rfl (hb hby at_28)
  have Z16 : n0 ≤ h14.size := Nat.le_trans Z11 (Keep.of_wr W14).1
  have V14 := own_arf_setI V9 W14
  have N14 := Fr.snoc X14 N13 g_b1
  obtain ⟨_, _, ⟨T18, L18, k18, n18⟩, -, X18, ⟨Lc18, hQ18, l18, y18, z18⟩, st18⟩ := Jvm.LawKit.callS X14 hx (y := (⟨"com/example/trunkline/trunkline/message/MessageParserLineEndPinLaw", "draw", "(I)B"⟩ : MethodName)) hown (mvT hZ (hw _ (List.mem_of_getElem? (i := 1) rfl))) (mvT hZ (hw _ (List.mem_of_getElem? (i := 2) rfl))) (mvT hZ (hw _ (List.mem_of_getElem? (i := 3) rfl))) (mvT hZ (hw _ (List.mem_of_getElem? (i := 4) rfl))) (by decide) (backOf (W := 2) (rm1 l Z a0 hw [] x4  h14 n0 Z16 ) hZ (hw _ (List.mem_of_getElem? (i := 4) rfl)) (hw _ (List.mem_of_getElem? (i := 3) rfl)) (by decide) (by decide)) (g := (mkF m 33 #[.val (.int x1), .val (.int x2), .val (.int x3), .val (.int x4), .val (.int x5), .val (.ref b1), .unset, .unset, .unset] [(.int x4), (.int (3 : Int32)), (.ref b1)])) rfl (by rw [hml]; rfl) (argsL := [(.int x4)]) (rest := [(.int (3 : Int32)), (.ref b1)]) (lenOf pd_0 rfl) rfl (by show 2 * 0 + _ ≤ _; exact Nat.le_of_eq rfl) (hb hby at_33) (fun _ _ => ⟨rfl, e14, (by decide : 1 + 0 ≤ _), (by decide : 4 + 0 ≤ _)⟩)
  dsimp only [Pt.U, Pt.locs, Pt.cells, Pt.slots] at X18 l18 y18 z18 st18 hQ18
  subst l18 y18 z18
  obtain ⟨rfl, N18q, e18⟩ := hQ18
  have N18 := Fr.app N14 N18q
  have Vo20 := V14
  obtain ⟨cl20, Ar20, S20, M20, H20⟩ := Vo20
  have hin19 : ¬ ((3 : Int32) < 0 ∨ cl20.slots.size ≤ ((3 : Int32)).toNatClampNeg) := inb_of S20 ⟨by decide, by decide⟩
  obtain ⟨T19, h19, X19, e19, W19, st19⟩ := stB X18 hx hZ e18 Ar20 (j := (3 : Int32)) hin19 (g := (mkF m 36 #[.val (.int x1), .val (.int x2), .val (.int x3), .val (.int x4), .val (.int x5), .val (.ref b1), .unset, .unset, .unset] [(.int (F1 x4)), (.int (3 : Int32)), (.ref b1)])) rfl rfl (hb hby at_36)
  have Z21 : n0 ≤ h19.size := Nat.le_trans Z16 (Keep.of_wr W19).1
  have V19 := own_arf_setI V14 W19
  have N19 := Fr.snoc X19 N18 g_b1
  have Vq : Arf Z h19 b1 .byte (4 : Int32) (fun i => Value.int ((own_arr (nar .byte (F1 x1)) (nar .byte (F1 x2)) (nar .byte (F1 x3)) (nar .byte (F1 x4))) i)) := own_arf_fn V19 (own_four rfl rfl rfl rfl)
  obtain ⟨_, _, ⟨T24, L24, k24, n24⟩, -, X24, ⟨Lc24, hQ24, l24, y24, z24⟩, st24⟩ := Jvm.LawKit.callS X19 hx (y := (⟨"com/example/trunkline/trunkline/message/MessageParserLineEndPinLaw", "isEnd", "([BII)Z"⟩ : MethodName)) hown (mvT hZ (hw _ (List.mem_of_getElem? (i := 5) rfl))) (mvT hZ (hw _ (List.mem_of_getElem? (i := 6) rfl))) (mvT hZ (hw _ (List.mem_of_getElem? (i := 3) rfl))) (mvT hZ (hw _ (List.mem_of_getElem? (i := 7) rfl))) (by decide) (backOf (W := 0) (rm2 l Z a0 hw [] b1 (0 : Int32) (if (x5 &&& (256 : Int32)) = (0 : Int32) then (x5 &&& (7 : Int32)) else (x5 &&& (2147483647 : Int32))) ((4 : Int32)) ((own_arr (nar .byte (F1 x1)) (nar .byte (F1 x2)) (nar .byte (F1 x3)) (nar .byte (F1 x4)))) h19 n0 Z21 Vq (by decide) (by decide)) hZ (hw _ (List.mem_of_getElem? (i := 7) rfl)) (hw _ (List.mem_of_getElem? (i := 3) rfl)) (by decide) (by decide)) (g := (mkF m 66 #[.val (.int x1), .val (.int x2), .val (.int x3), .val (.int x4), .val (.int x5), .val (.ref b1), .val (.int (if (x5 &&& (256 : Int32)) = (0 : Int32) then (x5 &&& (7 : Int32)) else (x5 &&& (2147483647 : Int32)))), .unset, .unset] [(.int (if (x5 &&& (256 : Int32)) = (0 : Int32) then (x5 &&& (7 : Int32)) else (x5 &&& (2147483647 : Int32)))), (.int (0 : Int32)), (.ref b1)])) rfl (by rw [hml]; rfl) (argsL := [(.ref b1), (.int (0 : Int32)), (.int (if (x5 &&& (256 : Int32)) = (0 : Int32) then (x5 &&& (7 : Int32)) else (x5 &&& (2147483647 : Int32))))]) (rest := []) (lenOf pd_1 rfl) rfl (by show 2 * 0 + _ ≤ _; exact Nat.le_of_eq rfl) (hb hby at_66) (fun _ _ => ⟨rfl, e19, (by decide : 1 + 0 ≤ _), (by decide : 4 + 0 ≤ _)⟩)
  dsimp only [Pt.U, Pt.locs, Pt.cells, Pt.slots] at X24 l24 y24 z24 st24 hQ24
  subst l24 y24 z24
  obtain ⟨rfl, N24q, e24⟩ := hQ24
  have N24 := Fr.app N19 N24q
  by_cases hb25 : (F2 (0 : Int32) (if (x5 &&& (256 : Int32)) = (0 : Int32) then (x5 &&& (7 : Int32)) else (x5 &&& (2147483647 : Int32))) ((own_arr (nar .byte (F1 x1)) (nar .byte (F1 x2)) (nar .byte (F1 x3)) (nar .byte (F1 x4))))) = (0 : Int32)
  · obtain ⟨_, _, ⟨T26, L26, k26, n26⟩, -, X26, ⟨Lc26, hQ26, l26, y26, z26⟩, st26⟩ := Jvm.LawKit.callS X24 hx (y := (⟨"com/example/trunkline/trunkline/message/MessageParserLineEndPinLaw", "isEnd", "([BII)Z"⟩ : MethodName)) hown (mvT hZ (hw _ (List.mem_of_getElem? (i := 5) rfl))) (mvT hZ (hw _ (List.mem_of_getElem? (i := 6) rfl))) (mvT hZ (hw _ (List.mem_of_getElem? (i := 3) rfl))) (mvT hZ (hw _ (List.mem_of_getElem? (i := 7) rfl))) (by decide) (backOf (W := 0) (rm2 l Z a0 hw [] b1 (1 : Int32) (if (x5 &&& (256 : Int32)) = (0 : Int32) then (x5 &&& (7 : Int32)) else (x5 &&& (2147483647 : Int32))) ((4 : Int32)) ((own_arr (nar .byte (F1 x1)) (nar .byte (F1 x2)) (nar .byte (F1 x3)) (nar .byte (F1 x4)))) h19 n0 Z21 Vq (by decide) (by decide)) hZ (hw _ (List.mem_of_getElem? (i := 7) rfl)) (hw _ (List.mem_of_getElem? (i := 3) rfl)) (by decide) (by decide)) (g := (mkF m 83 #[.val (.int x1), .val (.int x2), .val (.int x3), .val (.int x4), .val (.int x5), .val (.ref b1), .val (.int (if (x5 &&& (256 : Int32)) = (0 : Int32) then (x5 &&& (7 : Int32)) else (x5 &&& (2147483647 : Int32)))), .unset, .unset] [(.int (if (x5 &&& (256 : Int32)) = (0 : Int32) then (x5 &&& (7 : Int32)) else (x5 &&& (2147483647 : Int32)))), (.int (1 : Int32)), (.ref b1)])) rfl (by rw [hml]; rfl) (argsL := [(.ref b1), (.int (1 : Int32)), (.int (if (x5 &&& (256 : Int32)) = (0 : Int32) then (x5 &&& (7 : Int32)) else (x5 &&& (2147483647 : Int32))))]) (rest := []) (lenOf pd_1 rfl) rfl (by show 2 * 0 + _ ≤ _; exact Nat.le_of_eq rfl) (hb hby at_83) (fun _ _ => ⟨rfl, e24, (by decide : 1 + 0 ≤ _), (by decide : 4 + 0 ≤ _)⟩)
    dsimp only [Pt.U, Pt.locs, Pt.cells, Pt.slots] at X26 l26 y26 z26 st26 hQ26
    subst l26 y26 z26
    obtain ⟨rfl, N26q, e26⟩ := hQ26
    have N26 := Fr.app N24 N26q
    by_cases hb27 : (F2 (1 : Int32) (if (x5 &&& (256 : Int32)) = (0 : Int32) then (x5 &&& (7 : Int32)) else (x5 &&& (2147483647 : Int32))) ((own_arr (nar .byte (F1 x1)) (nar .byte (F1 x2)) (nar .byte (F1 x3)) (nar .byte (F1 x4))))) = (0 : Int32)
    · obtain ⟨_, _, ⟨T28, L28, k28, n28⟩, -, X28, ⟨Lc28, hQ28, l28, y28, z28⟩, st28⟩ := Jvm.LawKit.callS X26 hx (y := (⟨"com/example/trunkline/trunkline/message/MessageParserLineEndPinLaw", "isEnd", "([BII)Z"⟩ : MethodName)) hown (mvT hZ (hw _ (List.mem_of_getElem? (i := 5) rfl))) (mvT hZ (hw _ (List.mem_of_getElem? (i := 6) rfl))) (mvT hZ (hw _ (List.mem_of_getElem? (i := 3) rfl))) (mvT hZ (hw _ (List.mem_of_getElem? (i := 7) rfl))) (by decide) (backOf (W := 0) (rm2 l Z a0 hw [] b1 (2 : Int32) (if (x5 &&& (256 : Int32)) = (0 : Int32) then (x5 &&& (7 : Int32)) else (x5 &&& (2147483647 : Int32))) ((4 : Int32)) ((own_arr (nar .byte (F1 x1)) (nar .byte (F1 x2)) (nar .byte (F1 x3)) (nar .byte (F1 x4)))) h19 n0 Z21 Vq (by decide) (by decide)) hZ (hw _ (List.mem_of_getElem? (i := 7) rfl)) (hw _ (List.mem_of_getElem? (i := 3) rfl)) (by decide) (by decide)) (g := (mkF m 100 #[.val (.int x1), .val (.int x2), .val (.int x3), .val (.int x4), .val (.int x5), .val (.ref b1), .val (.int (if (x5 &&& (256 : Int32)) = (0 : Int32) then (x5 &&& (7 : Int32)) else (x5 &&& (2147483647 : Int32)))), .unset, .unset] [(.int (if (x5 &&& (256 : Int32)) = (0 : Int32) then (x5 &&& (7 : Int32)) else (x5 &&& (2147483647 : Int32)))), (.int (2 : Int32)), (.ref b1)])) rfl (by rw [hml]; rfl) (argsL := [(.ref b1), (.int (2 : Int32)), (.int (if (x5 &&& (256 : Int32)) = (0 : Int32) then (x5 &&& (7 : Int32)) else (x5 &&& (2147483647 : Int32))))]) (rest := []) (lenOf pd_1 rfl) rfl (by show 2 * 0 + _ ≤ _; exact Nat.le_of_eq rfl) (hb hby at_100) (fun _ _ => ⟨rfl, e26, (by decide : 1 + 0 ≤ _), (by decide : 4 + 0 ≤ _)⟩)
      dsimp only [Pt.U, Pt.locs, Pt.cells, Pt.slots] at X28 l28 y28 z28 st28 hQ28
      subst l28 y28 z28
      obtain ⟨rfl, N28q, e28⟩ := hQ28
      have N28 := Fr.app N26 N28q
      by_cases hb29 : (F2 (2 : Int32) (if (x5 &&& (256 : Int32)) = (0 : Int32) then (x5 &&& (7 : Int32)) else (x5 &&& (2147483647 : Int32))) ((own_arr (nar .byte (F1 x1)) (nar .byte (F1 x2)) (nar .byte (F1 x3)) (nar .byte (F1 x4))))) = (0 : Int32)
      · obtain ⟨_, _, ⟨T30, L30, k30, n30⟩, -, X30, ⟨Lc30, hQ30, l30, y30, z30⟩, st30⟩ := Jvm.LawKit.callS X28 hx (y := (⟨"com/example/trunkline/trunkline/message/MessageParserLineEndPinLaw", "isEnd", "([BII)Z"⟩ : MethodName)) hown (mvT hZ (hw _ (List.mem_of_getElem? (i := 5) rfl))) (mvT hZ (hw _ (List.mem_of_getElem? (i := 6) rfl))) (mvT hZ (hw _ (List.mem_of_getElem? (i := 3) rfl))) (mvT hZ (hw _ (List.mem_of_getElem? (i := 7) rfl))) (by decide) (backOf (W := 0) (rm2 l Z a0 hw [] b1 (3 : Int32) (if (x5 &&& (256 : Int32)) = (0 : Int32) then (x5 &&& (7 : Int32)) else (x5 &&& (2147483647 : Int32))) ((4 : Int32)) ((own_arr (nar .byte (F1 x1)) (nar .byte (F1 x2)) (nar .byte (F1 x3)) (nar .byte (F1 x4)))) h19 n0 Z21 Vq (by decide) (by decide)) hZ (hw _ (List.mem_of_getElem? (i := 7) rfl)) (hw _ (List.mem_of_getElem? (i := 3) rfl)) (by decide) (by decide)) (g := (mkF m 117 #[.val (.int x1), .val (.int x2), .val (.int x3), .val (.int x4), .val (.int x5), .val (.ref b1), .val (.int (if (x5 &&& (256 : Int32)) = (0 : Int32) then (x5 &&& (7 : Int32)) else (x5 &&& (2147483647 : Int32)))), .unset, .unset] [(.int (if (x5 &&& (256 : Int32)) = (0 : Int32) then (x5 &&& (7 : Int32)) else (x5 &&& (2147483647 : Int32)))), (.int (3 : Int32)), (.ref b1)])) rfl (by rw [hml]; rfl) (argsL := [(.ref b1), (.int (3 : Int32)), (.int (if (x5 &&& (256 : Int32)) = (0 : Int32) then (x5 &&& (7 : Int32)) else (x5 &&& (2147483647 : Int32))))]) (rest := []) (lenOf pd_1 rfl) rfl (by show 2 * 0 + _ ≤ _; exact Nat.le_of_eq rfl) (hb hby at_117) (fun _ _ => ⟨rfl, e28, (by decide : 1 + 0 ≤ _), (by decide : 4 + 0 ≤ _)⟩)
        dsimp only [Pt.U, Pt.locs, Pt.cells, Pt.slots] at X30 l30 y30 z30 st30 hQ30
        subst l30 y30 z30
        obtain ⟨rfl, N30q, e30⟩ := hQ30
        have N30 := Fr.app N28 N30q
        obtain ⟨_, _, ⟨T32, L32, k32, n32⟩, -, X32, ⟨Lc32, hQ32, l32, y32, z32⟩, st32⟩ := Jvm.LawKit.callS X30 hx (y := (⟨"com/example/trunkline/trunkline/message/MessageParser", "lineEnd", "([BI)I"⟩ : MethodName)) hown (mvT hZ (hw _ (List.mem_of_getElem? (i := 8) rfl))) (mvT hZ (hw _ (List.mem_of_getElem? (i := 9) rfl))) (mvT hZ (hw _ (List.mem_of_getElem? (i := 10) rfl))) (mvT hZ (hw _ (List.mem_of_getElem? (i := 11) rfl))) (by decide) (backOf (W := 0) (rm3 l Z a0 hw [] b1 (if (x5 &&& (256 : Int32)) = (0 : Int32) then (x5 &&& (7 : Int32)) else (x5 &&& (2147483647 : Int32))) ((4 : Int32)) ((own_arr (nar .byte (F1 x1)) (nar .byte (F1 x2)) (nar .byte (F1 x3)) (nar .byte (F1 x4)))) h19 n0 Z21 Vq (own_s0 x5) (own_s4 x5)) hZ (hw _ (List.mem_of_getElem? (i := 11) rfl)) (hw _ (List.mem_of_getElem? (i := 10) rfl)) (by decide) (by decide)) (g := (mkF m 136 #[.val (.int x1), .val (.int x2), .val (.int x3), .val (.int x4), .val (.int x5), .val (.ref b1), .val (.int (if (x5 &&& (256 : Int32)) = (0 : Int32) then (x5 &&& (7 : Int32)) else (x5 &&& (2147483647 : Int32)))), .val (.int (if (F2 (3 : Int32) (if (x5 &&& (256 : Int32)) = (0 : Int32) then (x5 &&& (7 : Int32)) else (x5 &&& (2147483647 : Int32))) ((own_arr (nar .byte (F1 x1)) (nar .byte (F1 x2)) (nar .byte (F1 x3)) (nar .byte (F1 x4))))) = (0 : Int32) then (-1 : Int32) else (3 : Int32))), .unset] [(.int (if (x5 &&& (256 : Int32)) = (0 : Int32) then (x5 &&& (7 : Int32)) else (x5 &&& (2147483647 : Int32)))), (.ref b1)])) rfl (by rw [hml]; rfl) (argsL := [(.ref b1), (.int (if (x5 &&& (256 : Int32)) = (0 : Int32) then (x5 &&& (7 : Int32)) else (x5 &&& (2147483647 : Int32))))]) (rest := []) (lenOf pd_2 rfl) rfl (by show 2 * 0 + _ ≤ _; exact Nat.le_of_eq rfl) (hb hby at_136) (fun _ _ => ⟨rfl, e30, (by decide : 1 + 0 ≤ _), (by decide : 4 + 0 ≤ _)⟩)
        dsimp only [Pt.U, Pt.locs, Pt.cells, Pt.slots] at X32 l32 y32 z32 st32 hQ32
        subst l32 y32 z32
        obtain ⟨rfl, N32q, e32⟩ := hQ32
        have N32 := Fr.app N30 N32q
        obtain ⟨fs, hr, hrun, hended, hW, hsame⟩ := X32.leave (v := some (.int (if (own_le ((4 : Int32)) ((own_arr (nar .byte (F1 x1)) (nar .byte (F1 x2)) (nar .byte (F1 x3)) (nar .byte (F1 x4)))) 5 (-1) (if (x5 &&& (256 : Int32)) = (0 : Int32) then (x5 &&& (7 : Int32)) else (x5 &&& (2147483647 : Int32)))) = (if (F2 (3 : Int32) (if (x5 &&& (256 : Int32)) = (0 : Int32) then (x5 &&& (7 : Int32)) else (x5 &&& (2147483647 : Int32))) ((own_arr (nar .byte (F1 x1)) (nar .byte (F1 x2)) (nar .byte (F1 x3)) (nar .byte (F1 x4))))) = (0 : Int32) then (-1 : Int32) else (3 : Int32)) then (1 : Int32) else (0 : Int32)))) (fun h => by rw [Bd.returns] at h; cases h)
        refine ⟨_, _, pre0 _ ?_, hrun, hended, _, _, rfl, ?_, ⟨_, rfl⟩, hW, hsame.mono (by decide) (by decide)⟩
        · show Steps p.tables e below (s₁.setTop (mkF m 0 #[.val (.int x1), .val (.int x2), .val (.int x3), .val (.int x4), .val (.int x5), .unset, .unset, .unset, .unset] [])) _
          refine XS.iconst X0.here hx rfl (hb hby at_0) ?_
          show Steps p.tables e below (s₁.setTop (mkF m 1 #[.val (.int x1), .val (.int x2), .val (.int x3), .val (.int x4), .val (.int x5), .unset, .unset, .unset, .unset] [(.int (4 : Int32))])) _
          refine st1 _ ?_
          show Steps p.tables e below (T1.setTop (mkF m 3 #[.val (.int x1), .val (.int x2), .val (.int x3), .val (.int x4), .val (.int x5), .unset, .unset, .unset, .unset] [(.ref b1)])) _
          refine XS.astore X1.here hx rfl (hb hby at_3) rfl rfl (l' := #[.val (.int x1), .val (.int x2), .val (.int x3), .val (.int x4), .val (.int x5), .val (.ref b1), .unset, .unset, .unset]) rfl ?_
          show Steps p.tables e below (T1.setTop (mkF m 5 #[.val (.int x1), .val (.int x2), .val (.int x3), .val (.int x4), .val (.int x5), .val (.ref b1), .unset, .unset, .unset] [])) _
          refine XS.aload X1.here hx rfl (hb hby at_5) rfl rfl ?_
          show Steps p.tables e below (T1.setTop (mkF m 7 #[.val (.int x1), .val (.int x2), .val (.int x3), .val (.int x4), .val (.int x5), .val (.ref b1), .unset, .unset, .unset] [(.ref b1)])) _
          refine XS.iconst X1.here hx rfl (hb hby at_7) ?_
          show Steps p.tables e below (T1.setTop (mkF m 8 #[.val (.int x1), .val (.int x2), .val (.int x3), .val (.int x4), .val (.int x5), .val (.ref b1), .unset, .unset, .unset] [(.int (0 : Int32)), (.ref b1)])) _
          refine XS.iloadN X1.here hx rfl (hb hby at_8) rfl ?_
          show Steps p.tables e below (T1.setTop (mkF m 9 #[.val (.int x1), .val (.int x2), .val (.int x3), .val (.int x4), .val (.int x5), .val (.ref b1), .unset, .unset, .unset] [(.int x1), (.int (0 : Int32)), (.ref b1)])) _
          refine st3 _ ?_
          show Steps p.tables e below (T3.setTop (mkF m 12 #[.val (.int x1), .val (.int x2), .val (.int x3), .val (.int x4), .val (.int x5), .val (.ref b1), .unset, .unset, .unset] [(.int (F1 x1)), (.int (0 : Int32)), (.ref b1)])) _
          refine st4 _ ?_
          show Steps p.tables e below (T4.setTop (mkF m 13 #[.val (.int x1), .val (.int x2), .val (.int x3), .val (.int x4), .val (.int x5), .val (.ref b1), .unset, .unset, .unset] [])) _
          refine XS.aload X4.here hx rfl (hb hby at_13) rfl rfl ?_
          show Steps p.tables e below (T4.setTop (mkF m 15 #[.val (.int x1), .val (.int x2), .val (.int x3), .val (.int x4), .val (.int x5), .val (.ref b1), .unset, .unset, .unset] [(.ref b1)])) _
          refine XS.iconst X4.here hx rfl (hb hby at_15) ?_
          show Steps p.tables e below (T4.setTop (mkF m 16 #[.val (.int x1), .val (.int x2), .val (.int x3), .val (.int x4), .val (.int x5), .val (.ref b1), .unset, .unset, .unset] [(.int (1 : Int32)), (.ref b1)])) _
          refine XS.iloadN X4.here hx rfl (hb hby at_16) rfl ?_
          show Steps p.tables e below (T4.setTop (mkF m 17 #[.val (.int x1), .val (.int x2), .val (.int x3), .val (.int x4), .val (.int x5), .val (.ref b1), .unset, .unset, .unset] [(.int x2), (.int (1 : Int32)), (.ref b1)])) _
          refine st8 _ ?_
          show Steps p.tables e below (T8.setTop (mkF m 20 #[.val (.int x1), .val (.int x2), .val (.int x3), .val (.int x4), .val (.int x5), .val (.ref b1), .unset, .unset, .unset] [(.int (F1 x2)), (.int (1 : Int32)), (.ref b1)])) _
          refine st9 _ ?_
          show Steps p.tables e below (T9.setTop (mkF m 21 #[.val (.int x1), .val (.int x2), .val (.int x3), .val (.int x4), .val (.int x5), .val (.ref b1), .unset, .unset, .unset] [])) _
          refine XS.aload X9.here hx rfl (hb hby at_21) rfl rfl ?_
          show Steps p.tables e below (T9.setTop (mkF m 23 #[.val (.int x1), .val (.int x2), .val (.int x3), .val (.int x4), .val (.int x5), .val (.ref b1), .unset, .unset, .unset] [(.ref b1)])) _
          refine XS.iconst X9.here hx rfl (hb hby at_23) ?_
          show Steps p.tables e below (T9.setTop (mkF m 24 #[.val (.int x1), .val (.int x2), .val (.int x3), .val (.int x4), .val (.int x5), .val (.ref b1), .unset, .unset, .unset] [(.int (2 : Int32)), (.ref b1)])) _
          refine XS.iloadN X9.here hx rfl (hb hby at_24) rfl ?_
          show Steps p.tables e below (T9.setTop (mkF m 25 #[.val (.int x1), .val (.int x2), .val (.int x3), .val (.int x4), .val (.int x5), .val (.ref b1), .unset, .unset, .unset] [(.int x3), (.int (2 : Int32)), (.ref b1)])) _
          refine st13 _ ?_
          show Steps p.tables e below (T13.setTop (mkF m 28 #[.val (.int x1), .val (.int x2), .val (.int x3), .val (.int x4), .val (.int x5), .val (.ref b1), .unset, .unset, .unset] [(.int (F1 x3)), (.int (2 : Int32)), (.ref b1)])) _
          refine st14 _ ?_
          show Steps p.tables e below (T14.setTop (mkF m 29 #[.val (.int x1), .val (.int x2), .val (.int x3), .val (.int x4), .val (.int x5), .val (.ref b1), .unset, .unset, .unset] [])) _
          refine XS.aload X14.here hx rfl (hb hby at_29) rfl rfl ?_
          show Steps p.tables e below (T14.setTop (mkF m 31 #[.val (.int x1), .val (.int x2), .val (.int x3), .val (.int x4), .val (.int x5), .val (.ref b1), .unset, .unset, .unset] [(.ref b1)])) _
          refine XS.iconst X14.here hx rfl (hb hby at_31) ?_
          show Steps p.tables e below (T14.setTop (mkF m 32 #[.val (.int x1), .val (.int x2), .val (.int x3), .val (.int x4), .val (.int x5), .val (.ref b1), .unset, .unset, .unset] [(.int (3 : Int32)), (.ref b1)])) _
          refine XS.iloadN X14.here hx rfl (hb hby at_32) rfl ?_
          show Steps p.tables e below (T14.setTop (mkF m 33 #[.val (.int x1), .val (.int x2), .val (.int x3), .val (.int x4), .val (.int x5), .val (.ref b1), .unset, .unset, .unset] [(.int x4), (.int (3 : Int32)), (.ref b1)])) _
          refine st18 _ ?_
          show Steps p.tables e below (T18.setTop (mkF m 36 #[.val (.int x1), .val (.int x2), .val (.int x3), .val (.int x4), .val (.int x5), .val (.ref b1), .unset, .unset, .unset] [(.int (F1 x4)), (.int (3 : Int32)), (.ref b1)])) _
          refine st19 _ ?_
          show Steps p.tables e below (T19.setTop (mkF m 37 #[.val (.int x1), .val (.int x2), .val (.int x3), .val (.int x4), .val (.int x5), .val (.ref b1), .unset, .unset, .unset] [])) _
          refine XS.iload X19.here hx rfl (hb hby at_37) rfl ?_
          show Steps p.tables e below (T19.setTop (mkF m 39 #[.val (.int x1), .val (.int x2), .val (.int x3), .val (.int x4), .val (.int x5), .val (.ref b1), .unset, .unset, .unset] [(.int x5)])) _
          refine XS.sipush X19.here hx rfl (hb hby at_39) ?_
          show Steps p.tables e below (T19.setTop (mkF m 42 #[.val (.int x1), .val (.int x2), .val (.int x3), .val (.int x4), .val (.int x5), .val (.ref b1), .unset, .unset, .unset] [(.int (256 : Int32)), (.int x5)])) _
          refine XS.iand X19.here hx rfl (hb hby at_42) rfl ?_
          show Steps p.tables e below (T19.setTop (mkF m 43 #[.val (.int x1), .val (.int x2), .val (.int x3), .val (.int x4), .val (.int x5), .val (.ref b1), .unset, .unset, .unset] [(.int (x5 &&& (256 : Int32)))])) _
          refine own_dia (u := ((x5 &&& (7 : Int32)) : Int32)) (v := (x5 &&& (2147483647 : Int32))) ((x5 &&& (256 : Int32)) = (0 : Int32)) (fun z23 => (mkF m 59 #[.val (.int x1), .val (.int x2), .val (.int x3), .val (.int x4), .val (.int x5), .val (.ref b1), .unset, .unset, .unset] [(.int z23)])) (fun hc23 k23 => ?_) (fun hc23 k23 => ?_) ?_
          · refine XS.ifYes X19.here hx rfl (pc0 := 43) (pc' := 54) rfl (hb hby at_43) rfl ((if0 _ _).trans (teq hc23).1) (by decide) (by decide) ?_
            show Steps p.tables e below (T19.setTop (mkF m 54 #[.val (.int x1), .val (.int x2), .val (.int x3), .val (.int x4), .val (.int x5), .val (.ref b1), .unset, .unset, .unset] [])) _
            refine XS.iload X19.here hx rfl (hb hby at_54) rfl ?_
            show Steps p.tables e below (T19.setTop (mkF m 56 #[.val (.int x1), .val (.int x2), .val (.int x3), .val (.int x4), .val (.int x5), .val (.ref b1), .unset, .unset, .unset] [(.int x5)])) _
            refine XS.bipush X19.here hx rfl (hb hby at_56) ?_
            show Steps p.tables e below (T19.setTop (mkF m 58 #[.val (.int x1), .val (.int x2), .val (.int x3), .val (.int x4), .val (.int x5), .val (.ref b1), .unset, .unset, .unset] [(.int (7 : Int32)), (.int x5)])) _
            refine XS.iand X19.here hx rfl (hb hby at_58) rfl ?_
            exact k23
          · refine XS.ifNo X19.here hx rfl (hb hby at_43) rfl ((if0 _ _).trans (feq hc23).1) ?_
            show Steps p.tables e below (T19.setTop (mkF m 46 #[.val (.int x1), .val (.int x2), .val (.int x3), .val (.int x4), .val (.int x5), .val (.ref b1), .unset, .unset, .unset] [])) _
            refine XS.iload X19.here hx rfl (hb hby at_46) rfl ?_
            show Steps p.tables e below (T19.setTop (mkF m 48 #[.val (.int x1), .val (.int x2), .val (.int x3), .val (.int x4), .val (.int x5), .val (.ref b1), .unset, .unset, .unset] [(.int x5)])) _
            refine X19.ldcInt hx hown (mvT hZ (hw _ (List.mem_of_getElem? (i := 12) rfl))) (g := (mkF m 48 #[.val (.int x1), .val (.int x2), .val (.int x3), .val (.int x4), .val (.int x5), .val (.ref b1), .unset, .unset, .unset] [(.int x5)])) rfl (hb hby at_48) _ ?_
            show Steps p.tables e below (T19.setTop (mkF m 50 #[.val (.int x1), .val (.int x2), .val (.int x3), .val (.int x4), .val (.int x5), .val (.ref b1), .unset, .unset, .unset] [(.int (2147483647 : Int32)), (.int x5)])) _
            refine XS.iand X19.here hx rfl (hb hby at_50) rfl ?_
            show Steps p.tables e below (T19.setTop (mkF m 51 #[.val (.int x1), .val (.int x2), .val (.int x3), .val (.int x4), .val (.int x5), .val (.ref b1), .unset, .unset, .unset] [(.int (x5 &&& (2147483647 : Int32)))])) _
            refine XS.goto X19.here hx rfl (pc0 := 51) (pc' := 59) rfl (hb hby at_51) (by decide) (by decide) ?_
            exact k23
          -- meets at 59
          show Steps p.tables e below (T19.setTop (mkF m 59 #[.val (.int x1), .val (.int x2), .val (.int x3), .val (.int x4), .val (.int x5), .val (.ref b1), .unset, .unset, .unset] [(.int (if (x5 &&& (256 : Int32)) = (0 : Int32) then (x5 &&& (7 : Int32)) else (x5 &&& (2147483647 : Int32))))])) _
          refine XS.istore X19.here hx rfl (hb hby at_59) rfl (l' := #[.val (.int x1), .val (.int x2), .val (.int x3), .val (.int x4), .val (.int x5), .val (.ref b1), .val (.int (if (x5 &&& (256 : Int32)) = (0 : Int32) then (x5 &&& (7 : Int32)) else (x5 &&& (2147483647 : Int32)))), .unset, .unset]) rfl ?_
          show Steps p.tables e below (T19.setTop (mkF m 61 #[.val (.int x1), .val (.int x2), .val (.int x3), .val (.int x4), .val (.int x5), .val (.ref b1), .val (.int (if (x5 &&& (256 : Int32)) = (0 : Int32) then (x5 &&& (7 : Int32)) else (x5 &&& (2147483647 : Int32)))), .unset, .unset] [])) _
          refine XS.aload X19.here hx rfl (hb hby at_61) rfl rfl ?_
          show Steps p.tables e below (T19.setTop (mkF m 63 #[.val (.int x1), .val (.int x2), .val (.int x3), .val (.int x4), .val (.int x5), .val (.ref b1), .val (.int (if (x5 &&& (256 : Int32)) = (0 : Int32) then (x5 &&& (7 : Int32)) else (x5 &&& (2147483647 : Int32)))), .unset, .unset] [(.ref b1)])) _
          refine XS.iconst X19.here hx rfl (hb hby at_63) ?_
          show Steps p.tables e below (T19.setTop (mkF m 64 #[.val (.int x1), .val (.int x2), .val (.int x3), .val (.int x4), .val (.int x5), .val (.ref b1), .val (.int (if (x5 &&& (256 : Int32)) = (0 : Int32) then (x5 &&& (7 : Int32)) else (x5 &&& (2147483647 : Int32)))), .unset, .unset] [(.int (0 : Int32)), (.ref b1)])) _
          refine XS.iload X19.here hx rfl (hb hby at_64) rfl ?_
          show Steps p.tables e below (T19.setTop (mkF m 66 #[.val (.int x1), .val (.int x2), .val (.int x3), .val (.int x4), .val (.int x5), .val (.ref b1), .val (.int (if (x5 &&& (256 : Int32)) = (0 : Int32) then (x5 &&& (7 : Int32)) else (x5 &&& (2147483647 : Int32)))), .unset, .unset] [(.int (if (x5 &&& (256 : Int32)) = (0 : Int32) then (x5 &&& (7 : Int32)) else (x5 &&& (2147483647 : Int32)))), (.int (0 : Int32)), (.ref b1)])) _
          refine st24 _ ?_
          show Steps p.tables e below (T24.setTop (mkF m 69 #[.val (.int x1), .val (.int x2), .val (.int x3), .val (.int x4), .val (.int x5), .val (.ref b1), .val (.int (if (x5 &&& (256 : Int32)) = (0 : Int32) then (x5 &&& (7 : Int32)) else (x5 &&& (2147483647 : Int32)))), .unset, .unset] [(.int (F2 (0 : Int32) (if (x5 &&& (256 : Int32)) = (0 : Int32) then (x5 &&& (7 : Int32)) else (x5 &&& (2147483647 : Int32))) ((own_arr (nar .byte (F1 x1)) (nar .byte (F1 x2)) (nar .byte (F1 x3)) (nar .byte (F1 x4))))))])) _
          refine XS.ifYes X24.here hx rfl (pc0 := 69) (pc' := 78) rfl (hb hby at_69) rfl ((if0 _ _).trans (teq hb25).1) (by decide) (by decide) ?_
          show Steps p.tables e below (T24.setTop (mkF m 78 #[.val (.int x1), .val (.int x2), .val (.int x3), .val (.int x4), .val (.int x5), .val (.ref b1), .val (.int (if (x5 &&& (256 : Int32)) = (0 : Int32) then (x5 &&& (7 : Int32)) else (x5 &&& (2147483647 : Int32)))), .unset, .unset] [])) _
          refine XS.aload X24.here hx rfl (hb hby at_78) rfl rfl ?_
          show Steps p.tables e below (T24.setTop (mkF m 80 #[.val (.int x1), .val (.int x2), .val (.int x3), .val (.int x4), .val (.int x5), .val (.ref b1), .val (.int (if (x5 &&& (256 : Int32)) = (0 : Int32) then (x5 &&& (7 : Int32)) else (x5 &&& (2147483647 : Int32)))), .unset, .unset] [(.ref b1)])) _
          refine XS.iconst X24.here hx rfl (hb hby at_80) ?_
          show Steps p.tables e below (T24.setTop (mkF m 81 #[.val (.int x1), .val (.int x2), .val (.int x3), .val (.int x4), .val (.int x5), .val (.ref b1), .val (.int (if (x5 &&& (256 : Int32)) = (0 : Int32) then (x5 &&& (7 : Int32)) else (x5 &&& (2147483647 : Int32)))), .unset, .unset] [(.int (1 : Int32)), (.ref b1)])) _
          refine XS.iload X24.here hx rfl (hb hby at_81) rfl ?_
          show Steps p.tables e below (T24.setTop (mkF m 83 #[.val (.int x1), .val (.int x2), .val (.int x3), .val (.int x4), .val (.int x5), .val (.ref b1), .val (.int (if (x5 &&& (256 : Int32)) = (0 : Int32) then (x5 &&& (7 : Int32)) else (x5 &&& (2147483647 : Int32)))), .unset, .unset] [(.int (if (x5 &&& (256 : Int32)) = (0 : Int32) then (x5 &&& (7 : Int32)) else (x5 &&& (2147483647 : Int32)))), (.int (1 : Int32)), (.ref b1)])) _
          refine st26 _ ?_
          show Steps p.tables e below (T26.setTop (mkF m 86 #[.val (.int x1), .val (.int x2), .val (.int x3), .val (.int x4), .val (.int x5), .val (.ref b1), .val (.int (if (x5 &&& (256 : Int32)) = (0 : Int32) then (x5 &&& (7 : Int32)) else (x5 &&& (2147483647 : Int32)))), .unset, .unset] [(.int (F2 (1 : Int32) (if (x5 &&& (256 : Int32)) = (0 : Int32) then (x5 &&& (7 : Int32)) else (x5 &&& (2147483647 : Int32))) ((own_arr (nar .byte (F1 x1)) (nar .byte (F1 x2)) (nar .byte (F1 x3)) (nar .byte (F1 x4))))))])) _
          refine XS.ifYes X26.here hx rfl (pc0 := 86) (pc' := 95) rfl (hb hby at_86) rfl ((if0 _ _).trans (teq hb27).1) (by decide) (by decide) ?_
          show Steps p.tables e below (T26.setTop (mkF m 95 #[.val (.int x1), .val (.int x2), .val (.int x3), .val (.int x4), .val (.int x5), .val (.ref b1), .val (.int (if (x5 &&& (256 : Int32)) = (0 : Int32) then (x5 &&& (7 : Int32)) else (x5 &&& (2147483647 : Int32)))), .unset, .unset] [])) _
          refine XS.aload X26.here hx rfl (hb hby at_95) rfl rfl ?_
          show Steps p.tables e below (T26.setTop (mkF m 97 #[.val (.int x1), .val (.int x2), .val (.int x3), .val (.int x4), .val (.int x5), .val (.ref b1), .val (.int (if (x5 &&& (256 : Int32)) = (0 : Int32) then (x5 &&& (7 : Int32)) else (x5 &&& (2147483647 : Int32)))), .unset, .unset] [(.ref b1)])) _
          refine XS.iconst X26.here hx rfl (hb hby at_97) ?_
          show Steps p.tables e below (T26.setTop (mkF m 98 #[.val (.int x1), .val (.int x2), .val (.int x3), .val (.int x4), .val (.int x5), .val (.ref b1), .val (.int (if (x5 &&& (256 : Int32)) = (0 : Int32) then (x5 &&& (7 : Int32)) else (x5 &&& (2147483647 : Int32)))), .unset, .unset] [(.int (2 : Int32)), (.ref b1)])) _
          refine XS.iload X26.here hx rfl (hb hby at_98) rfl ?_
          show Steps p.tables e below (T26.setTop (mkF m 100 #[.val (.int x1), .val (.int x2), .val (.int x3), .val (.int x4), .val (.int x5), .val (.ref b1), .val (.int (if (x5 &&& (256 : Int32)) = (0 : Int32) then (x5 &&& (7 : Int32)) else (x5 &&& (2147483647 : Int32)))), .unset, .unset] [(.int (if (x5 &&& (256 : Int32)) = (0 : Int32) then (x5 &&& (7 : Int32)) else (x5 &&& (2147483647 : Int32)))), (.int (2 : Int32)), (.ref b1)])) _
          refine st28 _ ?_
          show Steps p.tables e below (T28.setTop (mkF m 103 #[.val (.int x1), .val (.int x2), .val (.int x3), .val (.int x4), .val (.int x5), .val (.ref b1), .val (.int (if (x5 &&& (256 : Int32)) = (0 : Int32) then (x5 &&& (7 : Int32)) else (x5 &&& (2147483647 : Int32)))), .unset, .unset] [(.int (F2 (2 : Int32) (if (x5 &&& (256 : Int32)) = (0 : Int32) then (x5 &&& (7 : Int32)) else (x5 &&& (2147483647 : Int32))) ((own_arr (nar .byte (F1 x1)) (nar .byte (F1 x2)) (nar .byte (F1 x3)) (nar .byte (F1 x4))))))])) _
          refine XS.ifYes X28.here hx rfl (pc0 := 103) (pc' := 112) rfl (hb hby at_103) rfl ((if0 _ _).trans (teq hb29).1) (by decide) (by decide) ?_
          show Steps p.tables e below (T28.setTop (mkF m 112 #[.val (.int x1), .val (.int x2), .val (.int x3), .val (.int x4), .val (.int x5), .val (.ref b1), .val (.int (if (x5 &&& (256 : Int32)) = (0 : Int32) then (x5 &&& (7 : Int32)) else (x5 &&& (2147483647 : Int32)))), .unset, .unset] [])) _
          refine XS.aload X28.here hx rfl (hb hby at_112) rfl rfl ?_
          show Steps p.tables e below (T28.setTop (mkF m 114 #[.val (.int x1), .val (.int x2), .val (.int x3), .val (.int x4), .val (.int x5), .val (.ref b1), .val (.int (if (x5 &&& (256 : Int32)) = (0 : Int32) then (x5 &&& (7 : Int32)) else (x5 &&& (2147483647 : Int32)))), .unset, .unset] [(.ref b1)])) _
          refine XS.iconst X28.here hx rfl (hb hby at_114) ?_
          show Steps p.tables e below (T28.setTop (mkF m 115 #[.val (.int x1), .val (.int x2), .val (.int x3), .val (.int x4), .val (.int x5), .val (.ref b1), .val (.int (if (x5 &&& (256 : Int32)) = (0 : Int32) then (x5 &&& (7 : Int32)) else (x5 &&& (2147483647 : Int32)))), .unset, .unset] [(.int (3 : Int32)), (.ref b1)])) _
          refine XS.iload X28.here hx rfl (hb hby at_115) rfl ?_
          show Steps p.tables e below (T28.setTop (mkF m 117 #[.val (.int x1), .val (.int x2), .val (.int x3), .val (.int x4), .val (.int x5), .val (.ref b1), .val (.int (if (x5 &&& (256 : Int32)) = (0 : Int32) then (x5 &&& (7 : Int32)) else (x5 &&& (2147483647 : Int32)))), .unset, .unset] [(.int (if (x5 &&& (256 : Int32)) = (0 : Int32) then (x5 &&& (7 : Int32)) else (x5 &&& (2147483647 : Int32)))), (.int (3 : Int32)), (.ref b1)])) _
          refine st30 _ ?_
          show Steps p.tables e below (T30.setTop (mkF m 120 #[.val (.int x1), .val (.int x2), .val (.int x3), .val (.int x4), .val (.int x5), .val (.ref b1), .val (.int (if (x5 &&& (256 : Int32)) = (0 : Int32) then (x5 &&& (7 : Int32)) else (x5 &&& (2147483647 : Int32)))), .unset, .unset] [(.int (F2 (3 : Int32) (if (x5 &&& (256 : Int32)) = (0 : Int32) then (x5 &&& (7 : Int32)) else (x5 &&& (2147483647 : Int32))) ((own_arr (nar .byte (F1 x1)) (nar .byte (F1 x2)) (nar .byte (F1 x3)) (nar .byte (F1 x4))))))])) _
          refine own_dia (u := ((-1 : Int32) : Int32)) (v := (3 : Int32)) ((F2 (3 : Int32) (if (x5 &&& (256 : Int32)) = (0 : Int32) then (x5 &&& (7 : Int32)) else (x5 &&& (2147483647 : Int32))) ((own_arr (nar .byte (F1 x1)) (nar .byte (F1 x2)) (nar .byte (F1 x3)) (nar .byte (F1 x4))))) = (0 : Int32)) (fun z31 => (mkF m 132 #[.val (.int x1), .val (.int x2), .val (.int x3), .val (.int x4), .val (.int x5), .val (.ref b1), .val (.int (if (x5 &&& (256 : Int32)) = (0 : Int32) then (x5 &&& (7 : Int32)) else (x5 &&& (2147483647 : Int32)))), .val (.int z31), .unset] [])) (fun hc31 k31 => ?_) (fun hc31 k31 => ?_) ?_
          · refine XS.ifYes X30.here hx rfl (pc0 := 120) (pc' := 129) rfl (hb hby at_120) rfl ((if0 _ _).trans (teq hc31).1) (by decide) (by decide) ?_
            show Steps p.tables e below (T30.setTop (mkF m 129 #[.val (.int x1), .val (.int x2), .val (.int x3), .val (.int x4), .val (.int x5), .val (.ref b1), .val (.int (if (x5 &&& (256 : Int32)) = (0 : Int32) then (x5 &&& (7 : Int32)) else (x5 &&& (2147483647 : Int32)))), .unset, .unset] [])) _
            refine XS.iconst X30.here hx rfl (hb hby at_129) ?_
            show Steps p.tables e below (T30.setTop (mkF m 130 #[.val (.int x1), .val (.int x2), .val (.int x3), .val (.int x4), .val (.int x5), .val (.ref b1), .val (.int (if (x5 &&& (256 : Int32)) = (0 : Int32) then (x5 &&& (7 : Int32)) else (x5 &&& (2147483647 : Int32)))), .unset, .unset] [(.int (-1 : Int32))])) _
            refine XS.istore X30.here hx rfl (hb hby at_130) rfl (l' := #[.val (.int x1), .val (.int x2), .val (.int x3), .val (.int x4), .val (.int x5), .val (.ref b1), .val (.int (if (x5 &&& (256 : Int32)) = (0 : Int32) then (x5 &&& (7 : Int32)) else (x5 &&& (2147483647 : Int32)))), .val (.int (-1 : Int32)), .unset]) rfl ?_
            exact k31
          · refine XS.ifNo X30.here hx rfl (hb hby at_120) rfl ((if0 _ _).trans (feq hc31).1) ?_
            show Steps p.tables e below (T30.setTop (mkF m 123 #[.val (.int x1), .val (.int x2), .val (.int x3), .val (.int x4), .val (.int x5), .val (.ref b1), .val (.int (if (x5 &&& (256 : Int32)) = (0 : Int32) then (x5 &&& (7 : Int32)) else (x5 &&& (2147483647 : Int32)))), .unset, .unset] [])) _
            refine XS.iconst X30.here hx rfl (hb hby at_123) ?_
            show Steps p.tables e below (T30.setTop (mkF m 124 #[.val (.int x1), .val (.int x2), .val (.int x3), .val (.int x4), .val (.int x5), .val (.ref b1), .val (.int (if (x5 &&& (256 : Int32)) = (0 : Int32) then (x5 &&& (7 : Int32)) else (x5 &&& (2147483647 : Int32)))), .unset, .unset] [(.int (3 : Int32))])) _
            refine XS.istore X30.here hx rfl (hb hby at_124) rfl (l' := #[.val (.int x1), .val (.int x2), .val (.int x3), .val (.int x4), .val (.int x5), .val (.ref b1), .val (.int (if (x5 &&& (256 : Int32)) = (0 : Int32) then (x5 &&& (7 : Int32)) else (x5 &&& (2147483647 : Int32)))), .val (.int (3 : Int32)), .unset]) rfl ?_
            show Steps p.tables e below (T30.setTop (mkF m 126 #[.val (.int x1), .val (.int x2), .val (.int x3), .val (.int x4), .val (.int x5), .val (.ref b1), .val (.int (if (x5 &&& (256 : Int32)) = (0 : Int32) then (x5 &&& (7 : Int32)) else (x5 &&& (2147483647 : Int32)))), .val (.int (3 : Int32)), .unset] [])) _
            refine XS.goto X30.here hx rfl (pc0 := 126) (pc' := 132) rfl (hb hby at_126) (by decide) (by decide) ?_
            exact k31
          -- meets at 132
          show Steps p.tables e below (T30.setTop (mkF m 132 #[.val (.int x1), .val (.int x2), .val (.int x3), .val (.int x4), .val (.int x5), .val (.ref b1), .val (.int (if (x5 &&& (256 : Int32)) = (0 : Int32) then (x5 &&& (7 : Int32)) else (x5 &&& (2147483647 : Int32)))), .val (.int (if (F2 (3 : Int32) (if (x5 &&& (256 : Int32)) = (0 : Int32) then (x5 &&& (7 : Int32)) else (x5 &&& (2147483647 : Int32))) ((own_arr (nar .byte (F1 x1)) (nar .byte (F1 x2)) (nar .byte (F1 x3)) (nar .byte (F1 x4))))) = (0 : Int32) then (-1 : Int32) else (3 : Int32))), .unset] [])) _
          refine XS.aload X30.here hx rfl (hb hby at_132) rfl rfl ?_
          show Steps p.tables e below (T30.setTop (mkF m 134 #[.val (.int x1), .val (.int x2), .val (.int x3), .val (.int x4), .val (.int x5), .val (.ref b1), .val (.int (if (x5 &&& (256 : Int32)) = (0 : Int32) then (x5 &&& (7 : Int32)) else (x5 &&& (2147483647 : Int32)))), .val (.int (if (F2 (3 : Int32) (if (x5 &&& (256 : Int32)) = (0 : Int32) then (x5 &&& (7 : Int32)) else (x5 &&& (2147483647 : Int32))) ((own_arr (nar .byte (F1 x1)) (nar .byte (F1 x2)) (nar .byte (F1 x3)) (nar .byte (F1 x4))))) = (0 : Int32) then (-1 : Int32) else (3 : Int32))), .unset] [(.ref b1)])) _
          refine XS.iload X30.here hx rfl (hb hby at_134) rfl ?_
          show Steps p.tables e below (T30.setTop (mkF m 136 #[.val (.int x1), .val (.int x2), .val (.int x3), .val (.int x4), .val (.int x5), .val (.ref b1), .val (.int (if (x5 &&& (256 : Int32)) = (0 : Int32) then (x5 &&& (7 : Int32)) else (x5 &&& (2147483647 : Int32)))), .val (.int (if (F2 (3 : Int32) (if (x5 &&& (256 : Int32)) = (0 : Int32) then (x5 &&& (7 : Int32)) else (x5 &&& (2147483647 : Int32))) ((own_arr (nar .byte (F1 x1)) (nar .byte (F1 x2)) (nar .byte (F1 x3)) (nar .byte (F1 x4))))) = (0 : Int32) then (-1 : Int32) else (3 : Int32))), .unset] [(.int (if (x5 &&& (256 : Int32)) = (0 : Int32) then (x5 &&& (7 : Int32)) else (x5 &&& (2147483647 : Int32)))), (.ref b1)])) _
          refine st32 _ ?_
          show Steps p.tables e below (T32.setTop (mkF m 139 #[.val (.int x1), .val (.int x2), .val (.int x3), .val (.int x4), .val (.int x5), .val (.ref b1), .val (.int (if (x5 &&& (256 : Int32)) = (0 : Int32) then (x5 &&& (7 : Int32)) else (x5 &&& (2147483647 : Int32)))), .val (.int (if (F2 (3 : Int32) (if (x5 &&& (256 : Int32)) = (0 : Int32) then (x5 &&& (7 : Int32)) else (x5 &&& (2147483647 : Int32))) ((own_arr (nar .byte (F1 x1)) (nar .byte (F1 x2)) (nar .byte (F1 x3)) (nar .byte (F1 x4))))) = (0 : Int32) then (-1 : Int32) else (3 : Int32))), .unset] [(.int (own_le ((4 : Int32)) ((own_arr (nar .byte (F1 x1)) (nar .byte (F1 x2)) (nar .byte (F1 x3)) (nar .byte (F1 x4)))) 5 (-1) (if (x5 &&& (256 : Int32)) = (0 : Int32) then (x5 &&& (7 : Int32)) else (x5 &&& (2147483647 : Int32)))))])) _
          refine XS.istore X32.here hx rfl (hb hby at_139) rfl (l' := #[.val (.int x1), .val (.int x2), .val (.int x3), .val (.int x4), .val (.int x5), .val (.ref b1), .val (.int (if (x5 &&& (256 : Int32)) = (0 : Int32) then (x5 &&& (7 : Int32)) else (x5 &&& (2147483647 : Int32)))), .val (.int (if (F2 (3 : Int32) (if (x5 &&& (256 : Int32)) = (0 : Int32) then (x5 &&& (7 : Int32)) else (x5 &&& (2147483647 : Int32))) ((own_arr (nar .byte (F1 x1)) (nar .byte (F1 x2)) (nar .byte (F1 x3)) (nar .byte (F1 x4))))) = (0 : Int32) then (-1 : Int32) else (3 : Int32))), .val (.int (own_le ((4 : Int32)) ((own_arr (nar .byte (F1 x1)) (nar .byte (F1 x2)) (nar .byte (F1 x3)) (nar .byte (F1 x4)))) 5 (-1) (if (x5 &&& (256 : Int32)) = (0 : Int32) then (x5 &&& (7 : Int32)) else (x5 &&& (2147483647 : Int32)))))]) rfl ?_
          show Steps p.tables e below (T32.setTop (mkF m 141 #[.val (.int x1), .val (.int x2), .val (.int x3), .val (.int x4), .val (.int x5), .val (.ref b1), .val (.int (if (x5 &&& (256 : Int32)) = (0 : Int32) then (x5 &&& (7 : Int32)) else (x5 &&& (2147483647 : Int32)))), .val (.int (if (F2 (3 : Int32) (if (x5 &&& (256 : Int32)) = (0 : Int32) then (x5 &&& (7 : Int32)) else (x5 &&& (2147483647 : Int32))) ((own_arr (nar .byte (F1 x1)) (nar .byte (F1 x2)) (nar .byte (F1 x3)) (nar .byte (F1 x4))))) = (0 : Int32) then (-1 : Int32) else (3 : Int32))), .val (.int (own_le ((4 : Int32)) ((own_arr (nar .byte (F1 x1)) (nar .byte (F1 x2)) (nar .byte (F1 x3)) (nar .byte (F1 x4)))) 5 (-1) (if (x5 &&& (256 : Int32)) = (0 : Int32) then (x5 &&& (7 : Int32)) else (x5 &&& (2147483647 : Int32)))))] [])) _
          refine XS.iload X32.here hx rfl (hb hby at_141) rfl ?_
          show Steps p.tables e below (T32.setTop (mkF m 143 #[.val (.int x1), .val (.int x2), .val (.int x3), .val (.int x4), .val (.int x5), .val (.ref b1), .val (.int (if (x5 &&& (256 : Int32)) = (0 : Int32) then (x5 &&& (7 : Int32)) else (x5 &&& (2147483647 : Int32)))), .val (.int (if (F2 (3 : Int32) (if (x5 &&& (256 : Int32)) = (0 : Int32) then (x5 &&& (7 : Int32)) else (x5 &&& (2147483647 : Int32))) ((own_arr (nar .byte (F1 x1)) (nar .byte (F1 x2)) (nar .byte (F1 x3)) (nar .byte (F1 x4))))) = (0 : Int32) then (-1 : Int32) else (3 : Int32))), .val (.int (own_le ((4 : Int32)) ((own_arr (nar .byte (F1 x1)) (nar .byte (F1 x2)) (nar .byte (F1 x3)) (nar .byte (F1 x4)))) 5 (-1) (if (x5 &&& (256 : Int32)) = (0 : Int32) then (x5 &&& (7 : Int32)) else (x5 &&& (2147483647 : Int32)))))] [(.int (own_le ((4 : Int32)) ((own_arr (nar .byte (F1 x1)) (nar .byte (F1 x2)) (nar .byte (F1 x3)) (nar .byte (F1 x4)))) 5 (-1) (if (x5 &&& (256 : Int32)) = (0 : Int32) then (x5 &&& (7 : Int32)) else (x5 &&& (2147483647 : Int32)))))])) _
          refine XS.iload X32.here hx rfl (hb hby at_143) rfl ?_
          show Steps p.tables e below (T32.setTop (mkF m 145 #[.val (.int x1), .val (.int x2), .val (.int x3), .val (.int x4), .val (.int x5), .val (.ref b1), .val (.int (if (x5 &&& (256 : Int32)) = (0 : Int32) then (x5 &&& (7 : Int32)) else (x5 &&& (2147483647 : Int32)))), .val (.int (if (F2 (3 : Int32) (if (x5 &&& (256 : Int32)) = (0 : Int32) then (x5 &&& (7 : Int32)) else (x5 &&& (2147483647 : Int32))) ((own_arr (nar .byte (F1 x1)) (nar .byte (F1 x2)) (nar .byte (F1 x3)) (nar .byte (F1 x4))))) = (0 : Int32) then (-1 : Int32) else (3 : Int32))), .val (.int (own_le ((4 : Int32)) ((own_arr (nar .byte (F1 x1)) (nar .byte (F1 x2)) (nar .byte (F1 x3)) (nar .byte (F1 x4)))) 5 (-1) (if (x5 &&& (256 : Int32)) = (0 : Int32) then (x5 &&& (7 : Int32)) else (x5 &&& (2147483647 : Int32)))))] [(.int (if (F2 (3 : Int32) (if (x5 &&& (256 : Int32)) = (0 : Int32) then (x5 &&& (7 : Int32)) else (x5 &&& (2147483647 : Int32))) ((own_arr (nar .byte (F1 x1)) (nar .byte (F1 x2)) (nar .byte (F1 x3)) (nar .byte (F1 x4))))) = (0 : Int32) then (-1 : Int32) else (3 : Int32))), (.int (own_le ((4 : Int32)) ((own_arr (nar .byte (F1 x1)) (nar .byte (F1 x2)) (nar .byte (F1 x3)) (nar .byte (F1 x4)))) 5 (-1) (if (x5 &&& (256 : Int32)) = (0 : Int32) then (x5 &&& (7 : Int32)) else (x5 &&& (2147483647 : Int32)))))])) _
          refine own_dia (u := ((1 : Int32) : Int32)) (v := (0 : Int32)) ((own_le ((4 : Int32)) ((own_arr (nar .byte (F1 x1)) (nar .byte (F1 x2)) (nar .byte (F1 x3)) (nar .byte (F1 x4)))) 5 (-1) (if (x5 &&& (256 : Int32)) = (0 : Int32) then (x5 &&& (7 : Int32)) else (x5 &&& (2147483647 : Int32)))) = (if (F2 (3 : Int32) (if (x5 &&& (256 : Int32)) = (0 : Int32) then (x5 &&& (7 : Int32)) else (x5 &&& (2147483647 : Int32))) ((own_arr (nar .byte (F1 x1)) (nar .byte (F1 x2)) (nar .byte (F1 x3)) (nar .byte (F1 x4))))) = (0 : Int32) then (-1 : Int32) else (3 : Int32))) (fun z33 => (mkF m 153 #[.val (.int x1), .val (.int x2), .val (.int x3), .val (.int x4), .val (.int x5), .val (.ref b1), .val (.int (if (x5 &&& (256 : Int32)) = (0 : Int32) then (x5 &&& (7 : Int32)) else (x5 &&& (2147483647 : Int32)))), .val (.int (if (F2 (3 : Int32) (if (x5 &&& (256 : Int32)) = (0 : Int32) then (x5 &&& (7 : Int32)) else (x5 &&& (2147483647 : Int32))) ((own_arr (nar .byte (F1 x1)) (nar .byte (F1 x2)) (nar .byte (F1 x3)) (nar .byte (F1 x4))))) = (0 : Int32) then (-1 : Int32) else (3 : Int32))), .val (.int (own_le ((4 : Int32)) ((own_arr (nar .byte (F1 x1)) (nar .byte (F1 x2)) (nar .byte (F1 x3)) (nar .byte (F1 x4)))) 5 (-1) (if (x5 &&& (256 : Int32)) = (0 : Int32) then (x5 &&& (7 : Int32)) else (x5 &&& (2147483647 : Int32)))))] [(.int z33)])) (fun hc33 k33 => ?_) (fun hc33 k33 => ?_) ?_
          · refine XS.icmpNo X32.here hx rfl (hb hby at_145) rfl (teq hc33).2 ?_
            show Steps p.tables e below (T32.setTop (mkF m 148 #[.val (.int x1), .val (.int x2), .val (.int x3), .val (.int x4), .val (.int x5), .val (.ref b1), .val (.int (if (x5 &&& (256 : Int32)) = (0 : Int32) then (x5 &&& (7 : Int32)) else (x5 &&& (2147483647 : Int32)))), .val (.int (if (F2 (3 : Int32) (if (x5 &&& (256 : Int32)) = (0 : Int32) then (x5 &&& (7 : Int32)) else (x5 &&& (2147483647 : Int32))) ((own_arr (nar .byte (F1 x1)) (nar .byte (F1 x2)) (nar .byte (F1 x3)) (nar .byte (F1 x4))))) = (0 : Int32) then (-1 : Int32) else (3 : Int32))), .val (.int (own_le ((4 : Int32)) ((own_arr (nar .byte (F1 x1)) (nar .byte (F1 x2)) (nar .byte (F1 x3)) (nar .byte (F1 x4)))) 5 (-1) (if (x5 &&& (256 : Int32)) = (0 : Int32) then (x5 &&& (7 : Int32)) else (x5 &&& (2147483647 : Int32)))))] [])) _
            refine XS.iconst X32.here hx rfl (hb hby at_148) ?_
            show Steps p.tables e below (T32.setTop (mkF m 149 #[.val (.int x1), .val (.int x2), .val (.int x3), .val (.int x4), .val (.int x5), .val (.ref b1), .val (.int (if (x5 &&& (256 : Int32)) = (0 : Int32) then (x5 &&& (7 : Int32)) else (x5 &&& (2147483647 : Int32)))), .val (.int (if (F2 (3 : Int32) (if (x5 &&& (256 : Int32)) = (0 : Int32) then (x5 &&& (7 : Int32)) else (x5 &&& (2147483647 : Int32))) ((own_arr (nar .byte (F1 x1)) (nar .byte (F1 x2)) (nar .byte (F1 x3)) (nar .byte (F1 x4))))) = (0 : Int32) then (-1 : Int32) else (3 : Int32))), .val (.int (own_le ((4 : Int32)) ((own_arr (nar .byte (F1 x1)) (nar .byte (F1 x2)) (nar .byte (F1 x3)) (nar .byte (F1 x4)))) 5 (-1) (if (x5 &&& (256 : Int32)) = (0 : Int32) then (x5 &&& (7 : Int32)) else (x5 &&& (2147483647 : Int32)))))] [(.int (1 : Int32))])) _
            refine XS.goto X32.here hx rfl (pc0 := 149) (pc' := 153) rfl (hb hby at_149) (by decide) (by decide) ?_
            exact k33
          · refine XS.icmpYes X32.here hx rfl (pc0 := 145) (pc' := 152) rfl (hb hby at_145) rfl (feq hc33).2 (by decide) (by decide) ?_
            show Steps p.tables e below (T32.setTop (mkF m 152 #[.val (.int x1), .val (.int x2), .val (.int x3), .val (.int x4), .val (.int x5), .val (.ref b1), .val (.int (if (x5 &&& (256 : Int32)) = (0 : Int32) then (x5 &&& (7 : Int32)) else (x5 &&& (2147483647 : Int32)))), .val (.int (if (F2 (3 : Int32) (if (x5 &&& (256 : Int32)) = (0 : Int32) then (x5 &&& (7 : Int32)) else (x5 &&& (2147483647 : Int32))) ((own_arr (nar .byte (F1 x1)) (nar .byte (F1 x2)) (nar .byte (F1 x3)) (nar .byte (F1 x4))))) = (0 : Int32) then (-1 : Int32) else (3 : Int32))), .val (.int (own_le ((4 : Int32)) ((own_arr (nar .byte (F1 x1)) (nar .byte (F1 x2)) (nar .byte (F1 x3)) (nar .byte (F1 x4)))) 5 (-1) (if (x5 &&& (256 : Int32)) = (0 : Int32) then (x5 &&& (7 : Int32)) else (x5 &&& (2147483647 : Int32)))))] [])) _
            refine XS.iconst X32.here hx rfl (hb hby at_152) ?_
            exact k33
          -- meets at 153
          show Steps p.tables e below (T32.setTop (mkF m 153 #[.val (.int x1), .val (.int x2), .val (.int x3), .val (.int x4), .val (.int x5), .val (.ref b1), .val (.int (if (x5 &&& (256 : Int32)) = (0 : Int32) then (x5 &&& (7 : Int32)) else (x5 &&& (2147483647 : Int32)))), .val (.int (if (F2 (3 : Int32) (if (x5 &&& (256 : Int32)) = (0 : Int32) then (x5 &&& (7 : Int32)) else (x5 &&& (2147483647 : Int32))) ((own_arr (nar .byte (F1 x1)) (nar .byte (F1 x2)) (nar .byte (F1 x3)) (nar .byte (F1 x4))))) = (0 : Int32) then (-1 : Int32) else (3 : Int32))), .val (.int (own_le ((4 : Int32)) ((own_arr (nar .byte (F1 x1)) (nar .byte (F1 x2)) (nar .byte (F1 x3)) (nar .byte (F1 x4)))) 5 (-1) (if (x5 &&& (256 : Int32)) = (0 : Int32) then (x5 &&& (7 : Int32)) else (x5 &&& (2147483647 : Int32)))))] [(.int (if (own_le ((4 : Int32)) ((own_arr (nar .byte (F1 x1)) (nar .byte (F1 x2)) (nar .byte (F1 x3)) (nar .byte (F1 x4)))) 5 (-1) (if (x5 &&& (256 : Int32)) = (0 : Int32) then (x5 &&& (7 : Int32)) else (x5 &&& (2147483647 : Int32)))) = (if (F2 (3 : Int32) (if (x5 &&& (256 : Int32)) = (0 : Int32) then (x5 &&& (7 : Int32)) else (x5 &&& (2147483647 : Int32))) ((own_arr (nar .byte (F1 x1)) (nar .byte (F1 x2)) (nar .byte (F1 x3)) (nar .byte (F1 x4))))) = (0 : Int32) then (-1 : Int32) else (3 : Int32)) then (1 : Int32) else (0 : Int32)))])) _
          exact retN X32 hx (t := .boolean) Bd.returns (by simp) (hb hby at_153) (by rw [own_nb (own_b01 (Or.inr rfl) (Or.inl rfl))]; exact hr)
        · show Q0 Z x1 x2 x3 x4 x5 h0 n0 _ T32.heap _
          rw [e32]
          exact ⟨(congrArg (fun z => some (Value.int z)) (Eq.symm (Eq.trans (if_pos hb25) (Eq.trans (if_pos hb27) (if_pos hb29))))), N32⟩
      · obtain ⟨_, _, ⟨T34, L34, k34, n34⟩, -, X34, ⟨Lc34, hQ34, l34, y34, z34⟩, st34⟩ := Jvm.LawKit.callS X28 hx (y := (⟨"com/example/trunkline/trunkline/message/MessageParser", "lineEnd", "([BI)I"⟩ : MethodName)) hown (mvT hZ (hw _ (List.mem_of_getElem? (i := 8) rfl))) (mvT hZ (hw _ (List.mem_of_getElem? (i := 9) rfl))) (mvT hZ (hw _ (List.mem_of_getElem? (i := 10) rfl))) (mvT hZ (hw _ (List.mem_of_getElem? (i := 11) rfl))) (by decide) (backOf (W := 0) (rm3 l Z a0 hw [] b1 (if (x5 &&& (256 : Int32)) = (0 : Int32) then (x5 &&& (7 : Int32)) else (x5 &&& (2147483647 : Int32))) ((4 : Int32)) ((own_arr (nar .byte (F1 x1)) (nar .byte (F1 x2)) (nar .byte (F1 x3)) (nar .byte (F1 x4)))) h19 n0 Z21 Vq (own_s0 x5) (own_s4 x5)) hZ (hw _ (List.mem_of_getElem? (i := 11) rfl)) (hw _ (List.mem_of_getElem? (i := 10) rfl)) (by decide) (by decide)) (g := (mkF m 136 #[.val (.int x1), .val (.int x2), .val (.int x3), .val (.int x4), .val (.int x5), .val (.ref b1), .val (.int (if (x5 &&& (256 : Int32)) = (0 : Int32) then (x5 &&& (7 : Int32)) else (x5 &&& (2147483647 : Int32)))), .val (.int (2 : Int32)), .unset] [(.int (if (x5 &&& (256 : Int32)) = (0 : Int32) then (x5 &&& (7 : Int32)) else (x5 &&& (2147483647 : Int32)))), (.ref b1)])) rfl (by rw [hml]; rfl) (argsL := [(.ref b1), (.int (if (x5 &&& (256 : Int32)) = (0 : Int32) then (x5 &&& (7 : Int32)) else (x5 &&& (2147483647 : Int32))))]) (rest := []) (lenOf pd_2 rfl) rfl (by show 2 * 0 + _ ≤ _; exact Nat.le_of_eq rfl) (hb hby at_136) (fun _ _ => ⟨rfl, e28, (by decide : 1 + 0 ≤ _), (by decide : 4 + 0 ≤ _)⟩)
        dsimp only [Pt.U, Pt.locs, Pt.cells, Pt.slots] at X34 l34 y34 z34 st34 hQ34
        subst l34 y34 z34
        obtain ⟨rfl, N34q, e34⟩ := hQ34
        have N34 := Fr.app N28 N34q
        obtain ⟨fs, hr, hrun, hended, hW, hsame⟩ := X34.leave (v := some (.int (if (own_le ((4 : Int32)) ((own_arr (nar .byte (F1 x1)) (nar .byte (F1 x2)) (nar .byte (F1 x3)) (nar .byte (F1 x4)))) 5 (-1) (if (x5 &&& (256 : Int32)) = (0 : Int32) then (x5 &&& (7 : Int32)) else (x5 &&& (2147483647 : Int32)))) = (2 : Int32) then (1 : Int32) else (0 : Int32)))) (fun h => by rw [Bd.returns] at h; cases h)
        refine ⟨_, _, pre0 _ ?_, hrun, hended, _, _, rfl, ?_, ⟨_, rfl⟩, hW, hsame.mono (by decide) (by decide)⟩
        · show Steps p.tables e below (s₁.setTop (mkF m 0 #[.val (.int x1), .val (.int x2), .val (.int x3), .val (.int x4), .val (.int x5), .unset, .unset, .unset, .unset] [])) _
          refine XS.iconst X0.here hx rfl (hb hby at_0) ?_
          show Steps p.tables e below (s₁.setTop (mkF m 1 #[.val (.int x1), .val (.int x2), .val (.int x3), .val (.int x4), .val (.int x5), .unset, .unset, .unset, .unset] [(.int (4 : Int32))])) _
          refine st1 _ ?_
          show Steps p.tables e below (T1.setTop (mkF m 3 #[.val (.int x1), .val (.int x2), .val (.int x3), .val (.int x4), .val (.int x5), .unset, .unset, .unset, .unset] [(.ref b1)])) _
          refine XS.astore X1.here hx rfl (hb hby at_3) rfl rfl (l' := #[.val (.int x1), .val (.int x2), .val (.int x3), .val (.int x4), .val (.int x5), .val (.ref b1), .unset, .unset, .unset]) rfl ?_
          show Steps p.tables e below (T1.setTop (mkF m 5 #[.val (.int x1), .val (.int x2), .val (.int x3), .val (.int x4), .val (.int x5), .val (.ref b1), .unset, .unset, .unset] [])) _
          refine XS.aload X1.here hx rfl (hb hby at_5) rfl rfl ?_
          show Steps p.tables e below (T1.setTop (mkF m 7 #[.val (.int x1), .val (.int x2), .val (.int x3), .val (.int x4), .val (.int x5), .val (.ref b1), .unset, .unset, .unset] [(.ref b1)])) _
          refine XS.iconst X1.here hx rfl (hb hby at_7) ?_
          show Steps p.tables e below (T1.setTop (mkF m 8 #[.val (.int x1), .val (.int x2), .val (.int x3), .val (.int x4), .val (.int x5), .val (.ref b1), .unset, .unset, .unset] [(.int (0 : Int32)), (.ref b1)])) _
          refine XS.iloadN X1.here hx rfl (hb hby at_8) rfl ?_
          show Steps p.tables e below (T1.setTop (mkF m 9 #[.val (.int x1), .val (.int x2), .val (.int x3), .val (.int x4), .val (.int x5), .val (.ref b1), .unset, .unset, .unset] [(.int x1), (.int (0 : Int32)), (.ref b1)])) _
          refine st3 _ ?_
          show Steps p.tables e below (T3.setTop (mkF m 12 #[.val (.int x1), .val (.int x2), .val (.int x3), .val (.int x4), .val (.int x5), .val (.ref b1), .unset, .unset, .unset] [(.int (F1 x1)), (.int (0 : Int32)), (.ref b1)])) _
          refine st4 _ ?_
          show Steps p.tables e below (T4.setTop (mkF m 13 #[.val (.int x1), .val (.int x2), .val (.int x3), .val (.int x4), .val (.int x5), .val (.ref b1), .unset, .unset, .unset] [])) _
          refine XS.aload X4.here hx rfl (hb hby at_13) rfl rfl ?_
          show Steps p.tables e below (T4.setTop (mkF m 15 #[.val (.int x1), .val (.int x2), .val (.int x3), .val (.int x4), .val (.int x5), .val (.ref b1), .unset, .unset, .unset] [(.ref b1)])) _
          refine XS.iconst X4.here hx rfl (hb hby at_15) ?_
          show Steps p.tables e below (T4.setTop (mkF m 16 #[.val (.int x1), .val (.int x2), .val (.int x3), .val (.int x4), .val (.int x5), .val (.ref b1), .unset, .unset, .unset] [(.int (1 : Int32)), (.ref b1)])) _
          refine XS.iloadN X4.here hx rfl (hb hby at_16) rfl ?_
          show Steps p.tables e below (T4.setTop (mkF m 17 #[.val (.int x1), .val (.int x2), .val (.int x3), .val (.int x4), .val (.int x5), .val (.ref b1), .unset, .unset, .unset] [(.int x2), (.int (1 : Int32)), (.ref b1)])) _
          refine st8 _ ?_
          show Steps p.tables e below (T8.setTop (mkF m 20 #[.val (.int x1), .val (.int x2), .val (.int x3), .val (.int x4), .val (.int x5), .val (.ref b1), .unset, .unset, .unset] [(.int (F1 x2)), (.int (1 : Int32)), (.ref b1)])) _
          refine st9 _ ?_
          show Steps p.tables e below (T9.setTop (mkF m 21 #[.val (.int x1), .val (.int x2), .val (.int x3), .val (.int x4), .val (.int x5), .val (.ref b1), .unset, .unset, .unset] [])) _
          refine XS.aload X9.here hx rfl (hb hby at_21) rfl rfl ?_
          show Steps p.tables e below (T9.setTop (mkF m 23 #[.val (.int x1), .val (.int x2), .val (.int x3), .val (.int x4), .val (.int x5), .val (.ref b1), .unset, .unset, .unset] [(.ref b1)])) _
          refine XS.iconst X9.here hx rfl (hb hby at_23) ?_
          show Steps p.tables e below (T9.setTop (mkF m 24 #[.val (.int x1), .val (.int x2), .val (.int x3), .val (.int x4), .val (.int x5), .val (.ref b1), .unset, .unset, .unset] [(.int (2 : Int32)), (.ref b1)])) _
          refine XS.iloadN X9.here hx rfl (hb hby at_24) rfl ?_
          show Steps p.tables e below (T9.setTop (mkF m 25 #[.val (.int x1), .val (.int x2), .val (.int x3), .val (.int x4), .val (.int x5), .val (.ref b1), .unset, .unset, .unset] [(.int x3), (.int (2 : Int32)), (.ref b1)])) _
          refine st13 _ ?_
          show Steps p.tables e below (T13.setTop (mkF m 28 #[.val (.int x1), .val (.int x2), .val (.int x3), .val (.int x4), .val (.int x5), .val (.ref b1), .unset, .unset, .unset] [(.int (F1 x3)), (.int (2 : Int32)), (.ref b1)])) _
          refine st14 _ ?_
          show Steps p.tables e below (T14.setTop (mkF m 29 #[.val (.int x1), .val (.int x2), .val (.int x3), .val (.int x4), .val (.int x5), .val (.ref b1), .unset, .unset, .unset] [])) _
          refine XS.aload X14.here hx rfl (hb hby at_29) rfl rfl ?_
          show Steps p.tables e below (T14.setTop (mkF m 31 #[.val (.int x1), .val (.int x2), .val (.int x3), .val (.int x4), .val (.int x5), .val (.ref b1), .unset, .unset, .unset] [(.ref b1)])) _
          refine XS.iconst X14.here hx rfl (hb hby at_31) ?_
          show Steps p.tables e below (T14.setTop (mkF m 32 #[.val (.int x1), .val (.int x2), .val (.int x3), .val (.int x4), .val (.int x5), .val (.ref b1), .unset, .unset, .unset] [(.int (3 : Int32)), (.ref b1)])) _
          refine XS.iloadN X14.here hx rfl (hb hby at_32) rfl ?_
          show Steps p.tables e below (T14.setTop (mkF m 33 #[.val (.int x1), .val (.int x2), .val (.int x3), .val (.int x4), .val (.int x5), .val (.ref b1), .unset, .unset, .unset] [(.int x4), (.int (3 : Int32)), (.ref b1)])) _
          refine st18 _ ?_
          show Steps p.tables e below (T18.setTop (mkF m 36 #[.val (.int x1), .val (.int x2), .val (.int x3), .val (.int x4), .val (.int x5), .val (.ref b1), .unset, .unset, .unset] [(.int (F1 x4)), (.int (3 : Int32)), (.ref b1)])) _
          refine st19 _ ?_
          show Steps p.tables e below (T19.setTop (mkF m 37 #[.val (.int x1), .val (.int x2), .val (.int x3), .val (.int x4), .val (.int x5), .val (.ref b1), .unset, .unset, .unset] [])) _
          refine XS.iload X19.here hx rfl (hb hby at_37) rfl ?_
          show Steps p.tables e below (T19.setTop (mkF m 39 #[.val (.int x1), .val (.int x2), .val (.int x3), .val (.int x4), .val (.int x5), .val (.ref b1), .unset, .unset, .unset] [(.int x5)])) _
          refine XS.sipush X19.here hx rfl (hb hby at_39) ?_
          show Steps p.tables e below (T19.setTop (mkF m 42 #[.val (.int x1), .val (.int x2), .val (.int x3), .val (.int x4), .val (.int x5), .val (.ref b1), .unset, .unset, .unset] [(.int (256 : Int32)), (.int x5)])) _
          refine XS.iand X19.here hx rfl (hb hby at_42) rfl ?_
          show Steps p.tables e below (T19.setTop (mkF m 43 #[.val (.int x1), .val (.int x2), .val (.int x3), .val (.int x4), .val (.int x5), .val (.ref b1), .unset, .unset, .unset] [(.int (x5 &&& (256 : Int32)))])) _
          refine own_dia (u := ((x5 &&& (7 : Int32)) : Int32)) (v := (x5 &&& (2147483647 : Int32))) ((x5 &&& (256 : Int32)) = (0 : Int32)) (fun z23 => (mkF m 59 #[.val (.int x1), .val (.int x2), .val (.int x3), .val (.int x4), .val (.int x5), .val (.ref b1), .unset, .unset, .unset] [(.int z23)])) (fun hc23 k23 => ?_) (fun hc23 k23 => ?_) ?_
          · refine XS.ifYes X19.here hx rfl (pc0 := 43) (pc' := 54) rfl (hb hby at_43) rfl ((if0 _ _).trans (teq hc23).1) (by decide) (by decide) ?_
            show Steps p.tables e below (T19.setTop (mkF m 54 #[.val (.int x1), .val (.int x2), .val (.int x3), .val (.int x4), .val (.int x5), .val (.ref b1), .unset, .unset, .unset] [])) _
            refine XS.iload X19.here hx rfl (hb hby at_54) rfl ?_
            show Steps p.tables e below (T19.setTop (mkF m 56 #[.val (.int x1), .val (.int x2), .val (.int x3), .val (.int x4), .val (.int x5), .val (.ref b1), .unset, .unset, .unset] [(.int x5)])) _
            refine XS.bipush X19.here hx rfl (hb hby at_56) ?_
            show Steps p.tables e below (T19.setTop (mkF m 58 #[.val (.int x1), .val (.int x2), .val (.int x3), .val (.int x4), .val (.int x5), .val (.ref b1), .unset, .unset, .unset] [(.int (7 : Int32)), (.int x5)])) _
            refine XS.iand X19.here hx rfl (hb hby at_58) rfl ?_
            exact k23
          · refine XS.ifNo X19.here hx rfl (hb hby at_43) rfl ((if0 _ _).trans (feq hc23).1) ?_
            show Steps p.tables e below (T19.setTop (mkF m 46 #[.val (.int x1), .val (.int x2), .val (.int x3), .val (.int x4), .val (.int x5), .val (.ref b1), .unset, .unset, .unset] [])) _
            refine XS.iload X19.here hx rfl (hb hby at_46) rfl ?_
            show Steps p.tables e below (T19.setTop (mkF m 48 #[.val (.int x1), .val (.int x2), .val (.int x3), .val (.int x4), .val (.int x5), .val (.ref b1), .unset, .unset, .unset] [(.int x5)])) _
            refine X19.ldcInt hx hown (mvT hZ (hw _ (List.mem_of_getElem? (i := 12) rfl))) (g := (mkF m 48 #[.val (.int x1), .val (.int x2), .val (.int x3), .val (.int x4), .val (.int x5), .val (.ref b1), .unset, .unset, .unset] [(.int x5)])) rfl (hb hby at_48) _ ?_
            show Steps p.tables e below (T19.setTop (mkF m 50 #[.val (.int x1), .val (.int x2), .val (.int x3), .val (.int x4), .val (.int x5), .val (.ref b1), .unset, .unset, .unset] [(.int (2147483647 : Int32)), (.int x5)])) _
            refine XS.iand X19.here hx rfl (hb hby at_50) rfl ?_
            show Steps p.tables e below (T19.setTop (mkF m 51 #[.val (.int x1), .val (.int x2), .val (.int x3), .val (.int x4), .val (.int x5), .val (.ref b1), .unset, .unset, .unset] [(.int (x5 &&& (2147483647 : Int32)))])) _
            refine XS.goto X19.here hx rfl (pc0 := 51) (pc' := 59) rfl (hb hby at_51) (by decide) (by decide) ?_
            exact k23
          -- meets at 59
          show Steps p.tables e below (T19.setTop (mkF m 59 #[.val (.int x1), .val (.int x2), .val (.int x3), .val (.int x4), .val (.int x5), .val (.ref b1), .unset, .unset, .unset] [(.int (if (x5 &&& (256 : Int32)) = (0 : Int32) then (x5 &&& (7 : Int32)) else (x5 &&& (2147483647 : Int32))))])) _
          refine XS.istore X19.here hx rfl (hb hby at_59) rfl (l' := #[.val (.int x1), .val (.int x2), .val (.int x3), .val (.int x4), .val (.int x5), .val (.ref b1), .val (.int (if (x5 &&& (256 : Int32)) = (0 : Int32) then (x5 &&& (7 : Int32)) else (x5 &&& (2147483647 : Int32)))), .unset, .unset]) rfl ?_
          show Steps p.tables e below (T19.setTop (mkF m 61 #[.val (.int x1), .val (.int x2), .val (.int x3), .val (.int x4), .val (.int x5), .val (.ref b1), .val (.int (if (x5 &&& (256 : Int32)) = (0 : Int32) then (x5 &&& (7 : Int32)) else (x5 &&& (2147483647 : Int32)))), .unset, .unset] [])) _
          refine XS.aload X19.here hx rfl (hb hby at_61) rfl rfl ?_
          show Steps p.tables e below (T19.setTop (mkF m 63 #[.val (.int x1), .val (.int x2), .val (.int x3), .val (.int x4), .val (.int x5), .val (.ref b1), .val (.int (if (x5 &&& (256 : Int32)) = (0 : Int32) then (x5 &&& (7 : Int32)) else (x5 &&& (2147483647 : Int32)))), .unset, .unset] [(.ref b1)])) _
          refine XS.iconst X19.here hx rfl (hb hby at_63) ?_
          show Steps p.tables e below (T19.setTop (mkF m 64 #[.val (.int x1), .val (.int x2), .val (.int x3), .val (.int x4), .val (.int x5), .val (.ref b1), .val (.int (if (x5 &&& (256 : Int32)) = (0 : Int32) then (x5 &&& (7 : Int32)) else (x5 &&& (2147483647 : Int32)))), .unset, .unset] [(.int (0 : Int32)), (.ref b1)])) _
          refine XS.iload X19.here hx rfl (hb hby at_64) rfl ?_
          show Steps p.tables e below (T19.setTop (mkF m 66 #[.val (.int x1), .val (.int x2), .val (.int x3), .val (.int x4), .val (.int x5), .val (.ref b1), .val (.int (if (x5 &&& (256 : Int32)) = (0 : Int32) then (x5 &&& (7 : Int32)) else (x5 &&& (2147483647 : Int32)))), .unset, .unset] [(.int (if (x5 &&& (256 : Int32)) = (0 : Int32) then (x5 &&& (7 : Int32)) else (x5 &&& (2147483647 : Int32)))), (.int (0 : Int32)), (.ref b1)])) _
          refine st24 _ ?_
          show Steps p.tables e below (T24.setTop (mkF m 69 #[.val (.int x1), .val (.int x2), .val (.int x3), .val (.int x4), .val (.int x5), .val (.ref b1), .val (.int (if (x5 &&& (256 : Int32)) = (0 : Int32) then (x5 &&& (7 : Int32)) else (x5 &&& (2147483647 : Int32)))), .unset, .unset] [(.int (F2 (0 : Int32) (if (x5 &&& (256 : Int32)) = (0 : Int32) then (x5 &&& (7 : Int32)) else (x5 &&& (2147483647 : Int32))) ((own_arr (nar .byte (F1 x1)) (nar .byte (F1 x2)) (nar .byte (F1 x3)) (nar .byte (F1 x4))))))])) _
          refine XS.ifYes X24.here hx rfl (pc0 := 69) (pc' := 78) rfl (hb hby at_69) rfl ((if0 _ _).trans (teq hb25).1) (by decide) (by decide) ?_
          show Steps p.tables e below (T24.setTop (mkF m 78 #[.val (.int x1), .val (.int x2), .val (.int x3), .val (.int x4), .val (.int x5), .val (.ref b1), .val (.int (if (x5 &&& (256 : Int32)) = (0 : Int32) then (x5 &&& (7 : Int32)) else (x5 &&& (2147483647 : Int32)))), .unset, .unset] [])) _
          refine XS.aload X24.here hx rfl (hb hby at_78) rfl rfl ?_
          show Steps p.tables e below (T24.setTop (mkF m 80 #[.val (.int x1), .val (.int x2), .val (.int x3), .val (.int x4), .val (.int x5), .val (.ref b1), .val (.int (if (x5 &&& (256 : Int32)) = (0 : Int32) then (x5 &&& (7 : Int32)) else (x5 &&& (2147483647 : Int32)))), .unset, .unset] [(.ref b1)])) _
          refine XS.iconst X24.here hx rfl (hb hby at_80) ?_
          show Steps p.tables e below (T24.setTop (mkF m 81 #[.val (.int x1), .val (.int x2), .val (.int x3), .val (.int x4), .val (.int x5), .val (.ref b1), .val (.int (if (x5 &&& (256 : Int32)) = (0 : Int32) then (x5 &&& (7 : Int32)) else (x5 &&& (2147483647 : Int32)))), .unset, .unset] [(.int (1 : Int32)), (.ref b1)])) _
          refine XS.iload X24.here hx rfl (hb hby at_81) rfl ?_
          show Steps p.tables e below (T24.setTop (mkF m 83 #[.val (.int x1), .val (.int x2), .val (.int x3), .val (.int x4), .val (.int x5), .val (.ref b1), .val (.int (if (x5 &&& (256 : Int32)) = (0 : Int32) then (x5 &&& (7 : Int32)) else (x5 &&& (2147483647 : Int32)))), .unset, .unset] [(.int (if (x5 &&& (256 : Int32)) = (0 : Int32) then (x5 &&& (7 : Int32)) else (x5 &&& (2147483647 : Int32)))), (.int (1 : Int32)), (.ref b1)])) _
          refine st26 _ ?_
          show Steps p.tables e below (T26.setTop (mkF m 86 #[.val (.int x1), .val (.int x2), .val (.int x3), .val (.int x4), .val (.int x5), .val (.ref b1), .val (.int (if (x5 &&& (256 : Int32)) = (0 : Int32) then (x5 &&& (7 : Int32)) else (x5 &&& (2147483647 : Int32)))), .unset, .unset] [(.int (F2 (1 : Int32) (if (x5 &&& (256 : Int32)) = (0 : Int32) then (x5 &&& (7 : Int32)) else (x5 &&& (2147483647 : Int32))) ((own_arr (nar .byte (F1 x1)) (nar .byte (F1 x2)) (nar .byte (F1 x3)) (nar .byte (F1 x4))))))])) _
          refine XS.ifYes X26.here hx rfl (pc0 := 86) (pc' := 95) rfl (hb hby at_86) rfl ((if0 _ _).trans (teq hb27).1) (by decide) (by decide) ?_
          show Steps p.tables e below (T26.setTop (mkF m 95 #[.val (.int x1), .val (.int x2), .val (.int x3), .val (.int x4), .val (.int x5), .val (.ref b1), .val (.int (if (x5 &&& (256 : Int32)) = (0 : Int32) then (x5 &&& (7 : Int32)) else (x5 &&& (2147483647 : Int32)))), .unset, .unset] [])) _
          refine XS.aload X26.here hx rfl (hb hby at_95) rfl rfl ?_
          show Steps p.tables e below (T26.setTop (mkF m 97 #[.val (.int x1), .val (.int x2), .val (.int x3), .val (.int x4), .val (.int x5), .val (.ref b1), .val (.int (if (x5 &&& (256 : Int32)) = (0 : Int32) then (x5 &&& (7 : Int32)) else (x5 &&& (2147483647 : Int32)))), .unset, .unset] [(.ref b1)])) _
          refine XS.iconst X26.here hx rfl (hb hby at_97) ?_
          show Steps p.tables e below (T26.setTop (mkF m 98 #[.val (.int x1), .val (.int x2), .val (.int x3), .val (.int x4), .val (.int x5), .val (.ref b1), .val (.int (if (x5 &&& (256 : Int32)) = (0 : Int32) then (x5 &&& (7 : Int32)) else (x5 &&& (2147483647 : Int32)))), .unset, .unset] [(.int (2 : Int32)), (.ref b1)])) _
          refine XS.iload X26.here hx rfl (hb hby at_98) rfl ?_
          show Steps p.tables e below (T26.setTop (mkF m 100 #[.val (.int x1), .val (.int x2), .val (.int x3), .val (.int x4), .val (.int x5), .val (.ref b1), .val (.int (if (x5 &&& (256 : Int32)) = (0 : Int32) then (x5 &&& (7 : Int32)) else (x5 &&& (2147483647 : Int32)))), .unset, .unset] [(.int (if (x5 &&& (256 : Int32)) = (0 : Int32) then (x5 &&& (7 : Int32)) else (x5 &&& (2147483647 : Int32)))), (.int (2 : Int32)), (.ref b1)])) _
          refine st28 _ ?_
          show Steps p.tables e below (T28.setTop (mkF m 103 #[.val (.int x1), .val (.int x2), .val (.int x3), .val (.int x4), .val (.int x5), .val (.ref b1), .val (.int (if (x5 &&& (256 : Int32)) = (0 : Int32) then (x5 &&& (7 : Int32)) else (x5 &&& (2147483647 : Int32)))), .unset, .unset] [(.int (F2 (2 : Int32) (if (x5 &&& (256 : Int32)) = (0 : Int32) then (x5 &&& (7 : Int32)) else (x5 &&& (2147483647 : Int32))) ((own_arr (nar .byte (F1 x1)) (nar .byte (F1 x2)) (nar .byte (F1 x3)) (nar .byte (F1 x4))))))])) _
          refine XS.ifNo X28.here hx rfl (hb hby at_103) rfl ((if0 _ _).trans (feq hb29).1) ?_
          show Steps p.tables e below (T28.setTop (mkF m 106 #[.val (.int x1), .val (.int x2), .val (.int x3), .val (.int x4), .val (.int x5), .val (.ref b1), .val (.int (if (x5 &&& (256 : Int32)) = (0 : Int32) then (x5 &&& (7 : Int32)) else (x5 &&& (2147483647 : Int32)))), .unset, .unset] [])) _
          refine XS.iconst X28.here hx rfl (hb hby at_106) ?_
          show Steps p.tables e below (T28.setTop (mkF m 107 #[.val (.int x1), .val (.int x2), .val (.int x3), .val (.int x4), .val (.int x5), .val (.ref b1), .val (.int (if (x5 &&& (256 : Int32)) = (0 : Int32) then (x5 &&& (7 : Int32)) else (x5 &&& (2147483647 : Int32)))), .unset, .unset] [(.int (2 : Int32))])) _
          refine XS.istore X28.here hx rfl (hb hby at_107) rfl (l' := #[.val (.int x1), .val (.int x2), .val (.int x3), .val (.int x4), .val (.int x5), .val (.ref b1), .val (.int (if (x5 &&& (256 : Int32)) = (0 : Int32) then (x5 &&& (7 : Int32)) else (x5 &&& (2147483647 : Int32)))), .val (.int (2 : Int32)), .unset]) rfl ?_
          show Steps p.tables e below (T28.setTop (mkF m 109 #[.val (.int x1), .val (.int x2), .val (.int x3), .val (.int x4), .val (.int x5), .val (.ref b1), .val (.int (if (x5 &&& (256 : Int32)) = (0 : Int32) then (x5 &&& (7 : Int32)) else (x5 &&& (2147483647 : Int32)))), .val (.int (2 : Int32)), .unset] [])) _
          refine XS.goto X28.here hx rfl (pc0 := 109) (pc' := 132) rfl (hb hby at_109) (by decide) (by decide) ?_
          show Steps p.tables e below (T28.setTop (mkF m 132 #[.val (.int x1), .val (.int x2), .val (.int x3), .val (.int x4), .val (.int x5), .val (.ref b1), .val (.int (if (x5 &&& (256 : Int32)) = (0 : Int32) then (x5 &&& (7 : Int32)) else (x5 &&& (2147483647 : Int32)))), .val (.int (2 : Int32)), .unset] [])) _
          refine XS.aload X28.here hx rfl (hb hby at_132) rfl rfl ?_
          show Steps p.tables e below (T28.setTop (mkF m 134 #[.val (.int x1), .val (.int x2), .val (.int x3), .val (.int x4), .val (.int x5), .val (.ref b1), .val (.int (if (x5 &&& (256 : Int32)) = (0 : Int32) then (x5 &&& (7 : Int32)) else (x5 &&& (2147483647 : Int32)))), .val (.int (2 : Int32)), .unset] [(.ref b1)])) _
          refine XS.iload X28.here hx rfl (hb hby at_134) rfl ?_
          show Steps p.tables e below (T28.setTop (mkF m 136 #[.val (.int x1), .val (.int x2), .val (.int x3), .val (.int x4), .val (.int x5), .val (.ref b1), .val (.int (if (x5 &&& (256 : Int32)) = (0 : Int32) then (x5 &&& (7 : Int32)) else (x5 &&& (2147483647 : Int32)))), .val (.int (2 : Int32)), .unset] [(.int (if (x5 &&& (256 : Int32)) = (0 : Int32) then (x5 &&& (7 : Int32)) else (x5 &&& (2147483647 : Int32)))), (.ref b1)])) _
          refine st34 _ ?_
          show Steps p.tables e below (T34.setTop (mkF m 139 #[.val (.int x1), .val (.int x2), .val (.int x3), .val (.int x4), .val (.int x5), .val (.ref b1), .val (.int (if (x5 &&& (256 : Int32)) = (0 : Int32) then (x5 &&& (7 : Int32)) else (x5 &&& (2147483647 : Int32)))), .val (.int (2 : Int32)), .unset] [(.int (own_le ((4 : Int32)) ((own_arr (nar .byte (F1 x1)) (nar .byte (F1 x2)) (nar .byte (F1 x3)) (nar .byte (F1 x4)))) 5 (-1) (if (x5 &&& (256 : Int32)) = (0 : Int32) then (x5 &&& (7 : Int32)) else (x5 &&& (2147483647 : Int32)))))])) _
          refine XS.istore X34.here hx rfl (hb hby at_139) rfl (l' := #[.val (.int x1), .val (.int x2), .val (.int x3), .val (.int x4), .val (.int x5), .val (.ref b1), .val (.int (if (x5 &&& (256 : Int32)) = (0 : Int32) then (x5 &&& (7 : Int32)) else (x5 &&& (2147483647 : Int32)))), .val (.int (2 : Int32)), .val (.int (own_le ((4 : Int32)) ((own_arr (nar .byte (F1 x1)) (nar .byte (F1 x2)) (nar .byte (F1 x3)) (nar .byte (F1 x4)))) 5 (-1) (if (x5 &&& (256 : Int32)) = (0 : Int32) then (x5 &&& (7 : Int32)) else (x5 &&& (2147483647 : Int32)))))]) rfl ?_
          show Steps p.tables e below (T34.setTop (mkF m 141 #[.val (.int x1), .val (.int x2), .val (.int x3), .val (.int x4), .val (.int x5), .val (.ref b1), .val (.int (if (x5 &&& (256 : Int32)) = (0 : Int32) then (x5 &&& (7 : Int32)) else (x5 &&& (2147483647 : Int32)))), .val (.int (2 : Int32)), .val (.int (own_le ((4 : Int32)) ((own_arr (nar .byte (F1 x1)) (nar .byte (F1 x2)) (nar .byte (F1 x3)) (nar .byte (F1 x4)))) 5 (-1) (if (x5 &&& (256 : Int32)) = (0 : Int32) then (x5 &&& (7 : Int32)) else (x5 &&& (2147483647 : Int32)))))] [])) _
          refine XS.iload X34.here hx rfl (hb hby at_141) rfl ?_
          show Steps p.tables e below (T34.setTop (mkF m 143 #[.val (.int x1), .val (.int x2), .val (.int x3), .val (.int x4), .val (.int x5), .val (.ref b1), .val (.int (if (x5 &&& (256 : Int32)) = (0 : Int32) then (x5 &&& (7 : Int32)) else (x5 &&& (2147483647 : Int32)))), .val (.int (2 : Int32)), .val (.int (own_le ((4 : Int32)) ((own_arr (nar .byte (F1 x1)) (nar .byte (F1 x2)) (nar .byte (F1 x3)) (nar .byte (F1 x4)))) 5 (-1) (if (x5 &&& (256 : Int32)) = (0 : Int32) then (x5 &&& (7 : Int32)) else (x5 &&& (2147483647 : Int32)))))] [(.int (own_le ((4 : Int32)) ((own_arr (nar .byte (F1 x1)) (nar .byte (F1 x2)) (nar .byte (F1 x3)) (nar .byte (F1 x4)))) 5 (-1) (if (x5 &&& (256 : Int32)) = (0 : Int32) then (x5 &&& (7 : Int32)) else (x5 &&& (2147483647 : Int32)))))])) _
          refine XS.iload X34.here hx rfl (hb hby at_143) rfl ?_
          show Steps p.tables e below (T34.setTop (mkF m 145 #[.val (.int x1), .val (.int x2), .val (.int x3), .val (.int x4), .val (.int x5), .val (.ref b1), .val (.int (if (x5 &&& (256 : Int32)) = (0 : Int32) then (x5 &&& (7 : Int32)) else (x5 &&& (2147483647 : Int32)))), .val (.int (2 : Int32)), .val (.int (own_le ((4 : Int32)) ((own_arr (nar .byte (F1 x1)) (nar .byte (F1 x2)) (nar .byte (F1 x3)) (nar .byte (F1 x4)))) 5 (-1) (if (x5 &&& (256 : Int32)) = (0 : Int32) then (x5 &&& (7 : Int32)) else (x5 &&& (2147483647 : Int32)))))] [(.int (2 : Int32)), (.int (own_le ((4 : Int32)) ((own_arr (nar .byte (F1 x1)) (nar .byte (F1 x2)) (nar .byte (F1 x3)) (nar .byte (F1 x4)))) 5 (-1) (if (x5 &&& (256 : Int32)) = (0 : Int32) then (x5 &&& (7 : Int32)) else (x5 &&& (2147483647 : Int32)))))])) _
          refine own_dia (u := ((1 : Int32) : Int32)) (v := (0 : Int32)) ((own_le ((4 : Int32)) ((own_arr (nar .byte (F1 x1)) (nar .byte (F1 x2)) (nar .byte (F1 x3)) (nar .byte (F1 x4)))) 5 (-1) (if (x5 &&& (256 : Int32)) = (0 : Int32) then (x5 &&& (7 : Int32)) else (x5 &&& (2147483647 : Int32)))) = (2 : Int32)) (fun z35 => (mkF m 153 #[.val (.int x1), .val (.int x2), .val (.int x3), .val (.int x4), .val (.int x5), .val (.ref b1), .val (.int (if (x5 &&& (256 : Int32)) = (0 : Int32) then (x5 &&& (7 : Int32)) else (x5 &&& (2147483647 : Int32)))), .val (.int (2 : Int32)), .val (.int (own_le ((4 : Int32)) ((own_arr (nar .byte (F1 x1)) (nar .byte (F1 x2)) (nar .byte (F1 x3)) (nar .byte (F1 x4)))) 5 (-1) (if (x5 &&& (256 : Int32)) = (0 : Int32) then (x5 &&& (7 : Int32)) else (x5 &&& (2147483647 : Int32)))))] [(.int z35)])) (fun hc35 k35 => ?_) (fun hc35 k35 => ?_) ?_
          · refine XS.icmpNo X34.here hx rfl (hb hby at_145) rfl (teq hc35).2 ?_
            show Steps p.tables e below (T34.setTop (mkF m 148 #[.val (.int x1), .val (.int x2), .val (.int x3), .val (.int x4), .val (.int x5), .val (.ref b1), .val (.int (if (x5 &&& (256 : Int32)) = (0 : Int32) then (x5 &&& (7 : Int32)) else (x5 &&& (2147483647 : Int32)))), .val (.int (2 : Int32)), .val (.int (own_le ((4 : Int32)) ((own_arr (nar .byte (F1 x1)) (nar .byte (F1 x2)) (nar .byte (F1 x3)) (nar .byte (F1 x4)))) 5 (-1) (if (x5 &&& (256 : Int32)) = (0 : Int32) then (x5 &&& (7 : Int32)) else (x5 &&& (2147483647 : Int32)))))] [])) _
            refine XS.iconst X34.here hx rfl (hb hby at_148) ?_
            show Steps p.tables e below (T34.setTop (mkF m 149 #[.val (.int x1), .val (.int x2), .val (.int x3), .val (.int x4), .val (.int x5), .val (.ref b1), .val (.int (if (x5 &&& (256 : Int32)) = (0 : Int32) then (x5 &&& (7 : Int32)) else (x5 &&& (2147483647 : Int32)))), .val (.int (2 : Int32)), .val (.int (own_le ((4 : Int32)) ((own_arr (nar .byte (F1 x1)) (nar .byte (F1 x2)) (nar .byte (F1 x3)) (nar .byte (F1 x4)))) 5 (-1) (if (x5 &&& (256 : Int32)) = (0 : Int32) then (x5 &&& (7 : Int32)) else (x5 &&& (2147483647 : Int32)))))] [(.int (1 : Int32))])) _
            refine XS.goto X34.here hx rfl (pc0 := 149) (pc' := 153) rfl (hb hby at_149) (by decide) (by decide) ?_
            exact k35
          · refine XS.icmpYes X34.here hx rfl (pc0 := 145) (pc' := 152) rfl (hb hby at_145) rfl (feq hc35).2 (by decide) (by decide) ?_
            show Steps p.tables e below (T34.setTop (mkF m 152 #[.val (.int x1), .val (.int x2), .val (.int x3), .val (.int x4), .val (.int x5), .val (.ref b1), .val (.int (if (x5 &&& (256 : Int32)) = (0 : Int32) then (x5 &&& (7 : Int32)) else (x5 &&& (2147483647 : Int32)))), .val (.int (2 : Int32)), .val (.int (own_le ((4 : Int32)) ((own_arr (nar .byte (F1 x1)) (nar .byte (F1 x2)) (nar .byte (F1 x3)) (nar .byte (F1 x4)))) 5 (-1) (if (x5 &&& (256 : Int32)) = (0 : Int32) then (x5 &&& (7 : Int32)) else (x5 &&& (2147483647 : Int32)))))] [])) _
            refine XS.iconst X34.here hx rfl (hb hby at_152) ?_
            exact k35
          -- meets at 153
          show Steps p.tables e below (T34.setTop (mkF m 153 #[.val (.int x1), .val (.int x2), .val (.int x3), .val (.int x4), .val (.int x5), .val (.ref b1), .val (.int (if (x5 &&& (256 : Int32)) = (0 : Int32) then (x5 &&& (7 : Int32)) else (x5 &&& (2147483647 : Int32)))), .val (.int (2 : Int32)), .val (.int (own_le ((4 : Int32)) ((own_arr (nar .byte (F1 x1)) (nar .byte (F1 x2)) (nar .byte (F1 x3)) (nar .byte (F1 x4)))) 5 (-1) (if (x5 &&& (256 : Int32)) = (0 : Int32) then (x5 &&& (7 : Int32)) else (x5 &&& (2147483647 : Int32)))))] [(.int (if (own_le ((4 : Int32)) ((own_arr (nar .byte (F1 x1)) (nar .byte (F1 x2)) (nar .byte (F1 x3)) (nar .byte (F1 x4)))) 5 (-1) (if (x5 &&& (256 : Int32)) = (0 : Int32) then (x5 &&& (7 : Int32)) else (x5 &&& (2147483647 : Int32)))) = (2 : Int32) then (1 : Int32) else (0 : Int32)))])) _
          exact retN X34 hx (t := .boolean) Bd.returns (by simp) (hb hby at_153) (by rw [own_nb (own_b01 (Or.inr rfl) (Or.inl rfl))]; exact hr)
        · show Q0 Z x1 x2 x3 x4 x5 h0 n0 _ T34.heap _
          rw [e34]
          exact ⟨(congrArg (fun z => some (Value.int z)) (Eq.symm (Eq.trans (if_pos hb25) (Eq.trans (if_pos hb27) (if_neg hb29))))), N34⟩
    · obtain ⟨_, _, ⟨T36, L36, k36, n36⟩, -, X36, ⟨Lc36, hQ36, l36, y36, z36⟩, st36⟩ := Jvm.LawKit.callS X26 hx (y := (⟨"com/example/trunkline/trunkline/message/MessageParser", "lineEnd", "([BI)I"⟩ : MethodName)) hown (mvT hZ (hw _ (List.mem_of_getElem? (i := 8) rfl))) (mvT hZ (hw _ (List.mem_of_getElem? (i := 9) rfl))) (mvT hZ (hw _ (List.mem_of_getElem? (i := 10) rfl))) (mvT hZ (hw _ (List.mem_of_getElem? (i := 11) rfl))) (by decide) (backOf (W := 0) (rm3 l Z a0 hw [] b1 (if (x5 &&& (256 : Int32)) = (0 : Int32) then (x5 &&& (7 : Int32)) else (x5 &&& (2147483647 : Int32))) ((4 : Int32)) ((own_arr (nar .byte (F1 x1)) (nar .byte (F1 x2)) (nar .byte (F1 x3)) (nar .byte (F1 x4)))) h19 n0 Z21 Vq (own_s0 x5) (own_s4 x5)) hZ (hw _ (List.mem_of_getElem? (i := 11) rfl)) (hw _ (List.mem_of_getElem? (i := 10) rfl)) (by decide) (by decide)) (g := (mkF m 136 #[.val (.int x1), .val (.int x2), .val (.int x3), .val (.int x4), .val (.int x5), .val (.ref b1), .val (.int (if (x5 &&& (256 : Int32)) = (0 : Int32) then (x5 &&& (7 : Int32)) else (x5 &&& (2147483647 : Int32)))), .val (.int (1 : Int32)), .unset] [(.int (if (x5 &&& (256 : Int32)) = (0 : Int32) then (x5 &&& (7 : Int32)) else (x5 &&& (2147483647 : Int32)))), (.ref b1)])) rfl (by rw [hml]; rfl) (argsL := [(.ref b1), (.int (if (x5 &&& (256 : Int32)) = (0 : Int32) then (x5 &&& (7 : Int32)) else (x5 &&& (2147483647 : Int32))))]) (rest := []) (lenOf pd_2 rfl) rfl (by show 2 * 0 + _ ≤ _; exact Nat.le_of_eq rfl) (hb hby at_136) (fun _ _ => ⟨rfl, e26, (by decide : 1 + 0 ≤ _), (by decide : 4 + 0 ≤ _)⟩)
      dsimp only [Pt.U, Pt.locs, Pt.cells, Pt.slots] at X36 l36 y36 z36 st36 hQ36
      subst l36 y36 z36
      obtain ⟨rfl, N36q, e36⟩ := hQ36
      have N36 := Fr.app N26 N36q
      obtain ⟨fs, hr, hrun, hended, hW, hsame⟩ := X36.leave (v := some (.int (if (own_le ((4 : Int32)) ((own_arr (nar .byte (F1 x1)) (nar .byte (F1 x2)) (nar .byte (F1 x3)) (nar .byte (F1 x4)))) 5 (-1) (if (x5 &&& (256 : Int32)) = (0 : Int32) then (x5 &&& (7 : Int32)) else (x5 &&& (2147483647 : Int32)))) = (1 : Int32) then (1 : Int32) else (0 : Int32)))) (fun h => by rw [Bd.returns] at h; cases h)
      refine ⟨_, _, pre0 _ ?_, hrun, hended, _, _, rfl, ?_, ⟨_, rfl⟩, hW, hsame.mono (by decide) (by decide)⟩
      · show Steps p.tables e below (s₁.setTop (mkF m 0 #[.val (.int x1), .val (.int x2), .val (.int x3), .val (.int x4), .val (.int x5), .unset, .unset, .unset, .unset] [])) _
        refine XS.iconst X0.here hx rfl (hb hby at_0) ?_
        show Steps p.tables e below (s₁.setTop (mkF m 1 #[.val (.int x1), .val (.int x2), .val (.int x3), .val (.int x4), .val (.int x5), .unset, .unset, .unset, .unset] [(.int (4 : Int32))])) _
        refine st1 _ ?_
        show Steps p.tables e below (T1.setTop (mkF m 3 #[.val (.int x1), .val (.int x2), .val (.int x3), .val (.int x4), .val (.int x5), .unset, .unset, .unset, .unset] [(.ref b1)])) _
        refine XS.astore X1.here hx rfl (hb hby at_3) rfl rfl (l' := #[.val (.int x1), .val (.int x2), .val (.int x3), .val (.int x4), .val (.int x5), .val (.ref b1), .unset, .unset, .unset]) rfl ?_
        show Steps p.tables e below (T1.setTop (mkF m 5 #[.val (.int x1), .val (.int x2), .val (.int x3), .val (.int x4), .val (.int x5), .val (.ref b1), .unset, .unset, .unset] [])) _
        refine XS.aload X1.here hx rfl (hb hby at_5) rfl rfl ?_
        show Steps p.tables e below (T1.setTop (mkF m 7 #[.val (.int x1), .val (.int x2), .val (.int x3), .val (.int x4), .val (.int x5), .val (.ref b1), .unset, .unset, .unset] [(.ref b1)])) _
        refine XS.iconst X1.here hx rfl (hb hby at_7) ?_
        show Steps p.tables e below (T1.setTop (mkF m 8 #[.val (.int x1), .val (.int x2), .val (.int x3), .val (.int x4), .val (.int x5), .val (.ref b1), .unset, .unset, .unset] [(.int (0 : Int32)), (.ref b1)])) _
        refine XS.iloadN X1.here hx rfl (hb hby at_8) rfl ?_
        show Steps p.tables e below (T1.setTop (mkF m 9 #[.val (.int x1), .val (.int x2), .val (.int x3), .val (.int x4), .val (.int x5), .val (.ref b1), .unset, .unset, .unset] [(.int x1), (.int (0 : Int32)), (.ref b1)])) _
        refine st3 _ ?_
        show Steps p.tables e below (T3.setTop (mkF m 12 #[.val (.int x1), .val (.int x2), .val (.int x3), .val (.int x4), .val (.int x5), .val (.ref b1), .unset, .unset, .unset] [(.int (F1 x1)), (.int (0 : Int32)), (.ref b1)])) _
        refine st4 _ ?_
        show Steps p.tables e below (T4.setTop (mkF m 13 #[.val (.int x1), .val (.int x2), .val (.int x3), .val (.int x4), .val (.int x5), .val (.ref b1), .unset, .unset, .unset] [])) _
        refine XS.aload X4.here hx rfl (hb hby at_13) rfl rfl ?_
        show Steps p.tables e below (T4.setTop (mkF m 15 #[.val (.int x1), .val (.int x2), .val (.int x3), .val (.int x4), .val (.int x5), .val (.ref b1), .unset, .unset, .unset] [(.ref b1)])) _
        refine XS.iconst X4.here hx rfl (hb hby at_15) ?_
        show Steps p.tables e below (T4.setTop (mkF m 16 #[.val (.int x1), .val (.int x2), .val (.int x3), .val (.int x4), .val (.int x5), .val (.ref b1), .unset, .unset, .unset] [(.int (1 : Int32)), (.ref b1)])) _
        refine XS.iloadN X4.here hx rfl (hb hby at_16) rfl ?_
        show Steps p.tables e below (T4.setTop (mkF m 17 #[.val (.int x1), .val (.int x2), .val (.int x3), .val (.int x4), .val (.int x5), .val (.ref b1), .unset, .unset, .unset] [(.int x2), (.int (1 : Int32)), (.ref b1)])) _
        refine st8 _ ?_
        show Steps p.tables e below (T8.setTop (mkF m 20 #[.val (.int x1), .val (.int x2), .val (.int x3), .val (.int x4), .val (.int x5), .val (.ref b1), .unset, .unset, .unset] [(.int (F1 x2)), (.int (1 : Int32)), (.ref b1)])) _
        refine st9 _ ?_
        show Steps p.tables e below (T9.setTop (mkF m 21 #[.val (.int x1), .val (.int x2), .val (.int x3), .val (.int x4), .val (.int x5), .val (.ref b1), .unset, .unset, .unset] [])) _
        refine XS.aload X9.here hx rfl (hb hby at_21) rfl rfl ?_
        show Steps p.tables e below (T9.setTop (mkF m 23 #[.val (.int x1), .val (.int x2), .val (.int x3), .val (.int x4), .val (.int x5), .val (.ref b1), .unset, .unset, .unset] [(.ref b1)])) _
        refine XS.iconst X9.here hx rfl (hb hby at_23) ?_
        show Steps p.tables e below (T9.setTop (mkF m 24 #[.val (.int x1), .val (.int x2), .val (.int x3), .val (.int x4), .val (.int x5), .val (.ref b1), .unset, .unset, .unset] [(.int (2 : Int32)), (.ref b1)])) _
        refine XS.iloadN X9.here hx rfl (hb hby at_24) rfl ?_
        show Steps p.tables e below (T9.setTop (mkF m 25 #[.val (.int x1), .val (.int x2), .val (.int x3), .val (.int x4), .val (.int x5), .val (.ref b1), .unset, .unset, .unset] [(.int x3), (.int (2 : Int32)), (.ref b1)])) _
        refine st13 _ ?_
        show Steps p.tables e below (T13.setTop (mkF m 28 #[.val (.int x1), .val (.int x2), .val (.int x3), .val (.int x4), .val (.int x5), .val (.ref b1), .unset, .unset, .unset] [(.int (F1 x3)), (.int (2 : Int32)), (.ref b1)])) _
        refine st14 _ ?_
        show Steps p.tables e below (T14.setTop (mkF m 29 #[.val (.int x1), .val (.int x2), .val (.int x3), .val (.int x4), .val (.int x5), .val (.ref b1), .unset, .unset, .unset] [])) _
        refine XS.aload X14.here hx rfl (hb hby at_29) rfl rfl ?_
        show Steps p.tables e below (T14.setTop (mkF m 31 #[.val (.int x1), .val (.int x2), .val (.int x3), .val (.int x4), .val (.int x5), .val (.ref b1), .unset, .unset, .unset] [(.ref b1)])) _
        refine XS.iconst X14.here hx rfl (hb hby at_31) ?_
        show Steps p.tables e below (T14.setTop (mkF m 32 #[.val (.int x1), .val (.int x2), .val (.int x3), .val (.int x4), .val (.int x5), .val (.ref b1), .unset, .unset, .unset] [(.int (3 : Int32)), (.ref b1)])) _
        refine XS.iloadN X14.here hx rfl (hb hby at_32) rfl ?_
        show Steps p.tables e below (T14.setTop (mkF m 33 #[.val (.int x1), .val (.int x2), .val (.int x3), .val (.int x4), .val (.int x5), .val (.ref b1), .unset, .unset, .unset] [(.int x4), (.int (3 : Int32)), (.ref b1)])) _
        refine st18 _ ?_
        show Steps p.tables e below (T18.setTop (mkF m 36 #[.val (.int x1), .val (.int x2), .val (.int x3), .val (.int x4), .val (.int x5), .val (.ref b1), .unset, .unset, .unset] [(.int (F1 x4)), (.int (3 : Int32)), (.ref b1)])) _
        refine st19 _ ?_
        show Steps p.tables e below (T19.setTop (mkF m 37 #[.val (.int x1), .val (.int x2), .val (.int x3), .val (.int x4), .val (.int x5), .val (.ref b1), .unset, .unset, .unset] [])) _
        refine XS.iload X19.here hx rfl (hb hby at_37) rfl ?_
        show Steps p.tables e below (T19.setTop (mkF m 39 #[.val (.int x1), .val (.int x2), .val (.int x3), .val (.int x4), .val (.int x5), .val (.ref b1), .unset, .unset, .unset] [(.int x5)])) _
        refine XS.sipush X19.here hx rfl (hb hby at_39) ?_
        show Steps p.tables e below (T19.setTop (mkF m 42 #[.val (.int x1), .val (.int x2), .val (.int x3), .val (.int x4), .val (.int x5), .val (.ref b1), .unset, .unset, .unset] [(.int (256 : Int32)), (.int x5)])) _
        refine XS.iand X19.here hx rfl (hb hby at_42) rfl ?_
        show Steps p.tables e below (T19.setTop (mkF m 43 #[.val (.int x1), .val (.int x2), .val (.int x3), .val (.int x4), .val (.int x5), .val (.ref b1), .unset, .unset, .unset] [(.int (x5 &&& (256 : Int32)))])) _
        refine own_dia (u := ((x5 &&& (7 : Int32)) : Int32)) (v := (x5 &&& (2147483647 : Int32))) ((x5 &&& (256 : Int32)) = (0 : Int32)) (fun z23 => (mkF m 59 #[.val (.int x1), .val (.int x2), .val (.int x3), .val (.int x4), .val (.int x5), .val (.ref b1), .unset, .unset, .unset] [(.int z23)])) (fun hc23 k23 => ?_) (fun hc23 k23 => ?_) ?_
        · refine XS.ifYes X19.here hx rfl (pc0 := 43) (pc' := 54) rfl (hb hby at_43) rfl ((if0 _ _).trans (teq hc23).1) (by decide) (by decide) ?_
          show Steps p.tables e below (T19.setTop (mkF m 54 #[.val (.int x1), .val (.int x2), .val (.int x3), .val (.int x4), .val (.int x5), .val (.ref b1), .unset, .unset, .unset] [])) _
          refine XS.iload X19.here hx rfl (hb hby at_54) rfl ?_
          show Steps p.tables e below (T19.setTop (mkF m 56 #[.val (.int x1), .val (.int x2), .val (.int x3), .val (.int x4), .val (.int x5), .val (.ref b1), .unset, .unset, .unset] [(.int x5)])) _
          refine XS.bipush X19.here hx rfl (hb hby at_56) ?_
          show Steps p.tables e below (T19.setTop (mkF m 58 #[.val (.int x1), .val (.int x2), .val (.int x3), .val (.int x4), .val (.int x5), .val (.ref b1), .unset, .unset, .unset] [(.int (7 : Int32)), (.int x5)])) _
          refine XS.iand X19.here hx rfl (hb hby at_58) rfl ?_
          exact k23
        · refine XS.ifNo X19.here hx rfl (hb hby at_43) rfl ((if0 _ _).trans (feq hc23).1) ?_
          show Steps p.tables e below (T19.setTop (mkF m 46 #[.val (.int x1), .val (.int x2), .val (.int x3), .val (.int x4), .val (.int x5), .val (.ref b1), .unset, .unset, .unset] [])) _
          refine XS.iload X19.here hx rfl (hb hby at_46) rfl ?_
          show Steps p.tables e below (T19.setTop (mkF m 48 #[.val (.int x1), .val (.int x2), .val (.int x3), .val (.int x4), .val (.int x5), .val (.ref b1), .unset, .unset, .unset] [(.int x5)])) _
          refine X19.ldcInt hx hown (mvT hZ (hw _ (List.mem_of_getElem? (i := 12) rfl))) (g := (mkF m 48 #[.val (.int x1), .val (.int x2), .val (.int x3), .val (.int x4), .val (.int x5), .val (.ref b1), .unset, .unset, .unset] [(.int x5)])) rfl (hb hby at_48) _ ?_
          show Steps p.tables e below (T19.setTop (mkF m 50 #[.val (.int x1), .val (.int x2), .val (.int x3), .val (.int x4), .val (.int x5), .val (.ref b1), .unset, .unset, .unset] [(.int (2147483647 : Int32)), (.int x5)])) _
          refine XS.iand X19.here hx rfl (hb hby at_50) rfl ?_
          show Steps p.tables e below (T19.setTop (mkF m 51 #[.val (.int x1), .val (.int x2), .val (.int x3), .val (.int x4), .val (.int x5), .val (.ref b1), .unset, .unset, .unset] [(.int (x5 &&& (2147483647 : Int32)))])) _
          refine XS.goto X19.here hx rfl (pc0 := 51) (pc' := 59) rfl (hb hby at_51) (by decide) (by decide) ?_
          exact k23
        -- meets at 59
        show Steps p.tables e below (T19.setTop (mkF m 59 #[.val (.int x1), .val (.int x2), .val (.int x3), .val (.int x4), .val (.int x5), .val (.ref b1), .unset, .unset, .unset] [(.int (if (x5 &&& (256 : Int32)) = (0 : Int32) then (x5 &&& (7 : Int32)) else (x5 &&& (2147483647 : Int32))))])) _
        refine XS.istore X19.here hx rfl (hb hby at_59) rfl (l' := #[.val (.int x1), .val (.int x2), .val (.int x3), .val (.int x4), .val (.int x5), .val (.ref b1), .val (.int (if (x5 &&& (256 : Int32)) = (0 : Int32) then (x5 &&& (7 : Int32)) else (x5 &&& (2147483647 : Int32)))), .unset, .unset]) rfl ?_
        show Steps p.tables e below (T19.setTop (mkF m 61 #[.val (.int x1), .val (.int x2), .val (.int x3), .val (.int x4), .val (.int x5), .val (.ref b1), .val (.int (if (x5 &&& (256 : Int32)) = (0 : Int32) then (x5 &&& (7 : Int32)) else (x5 &&& (2147483647 : Int32)))), .unset, .unset] [])) _
        refine XS.aload X19.here hx rfl (hb hby at_61) rfl rfl ?_
        show Steps p.tables e below (T19.setTop (mkF m 63 #[.val (.int x1), .val (.int x2), .val (.int x3), .val (.int x4), .val (.int x5), .val (.ref b1), .val (.int (if (x5 &&& (256 : Int32)) = (0 : Int32) then (x5 &&& (7 : Int32)) else (x5 &&& (2147483647 : Int32)))), .unset, .unset] [(.ref b1)])) _
        refine XS.iconst X19.here hx rfl (hb hby at_63) ?_
        show Steps p.tables e below (T19.setTop (mkF m 64 #[.val (.int x1), .val (.int x2), .val (.int x3), .val (.int x4), .val (.int x5), .val (.ref b1), .val (.int (if (x5 &&& (256 : Int32)) = (0 : Int32) then (x5 &&& (7 : Int32)) else (x5 &&& (2147483647 : Int32)))), .unset, .unset] [(.int (0 : Int32)), (.ref b1)])) _
        refine XS.iload X19.here hx rfl (hb hby at_64) rfl ?_
        show Steps p.tables e below (T19.setTop (mkF m 66 #[.val (.int x1), .val (.int x2), .val (.int x3), .val (.int x4), .val (.int x5), .val (.ref b1), .val (.int (if (x5 &&& (256 : Int32)) = (0 : Int32) then (x5 &&& (7 : Int32)) else (x5 &&& (2147483647 : Int32)))), .unset, .unset] [(.int (if (x5 &&& (256 : Int32)) = (0 : Int32) then (x5 &&& (7 : Int32)) else (x5 &&& (2147483647 : Int32)))), (.int (0 : Int32)), (.ref b1)])) _
        refine st24 _ ?_
        show Steps p.tables e below (T24.setTop (mkF m 69 #[.val (.int x1), .val (.int x2), .val (.int x3), .val (.int x4), .val (.int x5), .val (.ref b1), .val (.int (if (x5 &&& (256 : Int32)) = (0 : Int32) then (x5 &&& (7 : Int32)) else (x5 &&& (2147483647 : Int32)))), .unset, .unset] [(.int (F2 (0 : Int32) (if (x5 &&& (256 : Int32)) = (0 : Int32) then (x5 &&& (7 : Int32)) else (x5 &&& (2147483647 : Int32))) ((own_arr (nar .byte (F1 x1)) (nar .byte (F1 x2)) (nar .byte (F1 x3)) (nar .byte (F1 x4))))))])) _
        refine XS.ifYes X24.here hx rfl (pc0 := 69) (pc' := 78) rfl (hb hby at_69) rfl ((if0 _ _).trans (teq hb25).1) (by decide) (by decide) ?_
        show Steps p.tables e below (T24.setTop (mkF m 78 #[.val (.int x1), .val (.int x2), .val (.int x3), .val (.int x4), .val (.int x5), .val (.ref b1), .val (.int (if (x5 &&& (256 : Int32)) = (0 : Int32) then (x5 &&& (7 : Int32)) else (x5 &&& (2147483647 : Int32)))), .unset, .unset] [])) _
        refine XS.aload X24.here hx rfl (hb hby at_78) rfl rfl ?_
        show Steps p.tables e below (T24.setTop (mkF m 80 #[.val (.int x1), .val (.int x2), .val (.int x3), .val (.int x4), .val (.int x5), .val (.ref b1), .val (.int (if (x5 &&& (256 : Int32)) = (0 : Int32) then (x5 &&& (7 : Int32)) else (x5 &&& (2147483647 : Int32)))), .unset, .unset] [(.ref b1)])) _
        refine XS.iconst X24.here hx rfl (hb hby at_80) ?_
        show Steps p.tables e below (T24.setTop (mkF m 81 #[.val (.int x1), .val (.int x2), .val (.int x3), .val (.int x4), .val (.int x5), .val (.ref b1), .val (.int (if (x5 &&& (256 : Int32)) = (0 : Int32) then (x5 &&& (7 : Int32)) else (x5 &&& (2147483647 : Int32)))), .unset, .unset] [(.int (1 : Int32)), (.ref b1)])) _
        refine XS.iload X24.here hx rfl (hb hby at_81) rfl ?_
        show Steps p.tables e below (T24.setTop (mkF m 83 #[.val (.int x1), .val (.int x2), .val (.int x3), .val (.int x4), .val (.int x5), .val (.ref b1), .val (.int (if (x5 &&& (256 : Int32)) = (0 : Int32) then (x5 &&& (7 : Int32)) else (x5 &&& (2147483647 : Int32)))), .unset, .unset] [(.int (if (x5 &&& (256 : Int32)) = (0 : Int32) then (x5 &&& (7 : Int32)) else (x5 &&& (2147483647 : Int32)))), (.int (1 : Int32)), (.ref b1)])) _
        refine st26 _ ?_
        show Steps p.tables e below (T26.setTop (mkF m 86 #[.val (.int x1), .val (.int x2), .val (.int x3), .val (.int x4), .val (.int x5), .val (.ref b1), .val (.int (if (x5 &&& (256 : Int32)) = (0 : Int32) then (x5 &&& (7 : Int32)) else (x5 &&& (2147483647 : Int32)))), .unset, .unset] [(.int (F2 (1 : Int32) (if (x5 &&& (256 : Int32)) = (0 : Int32) then (x5 &&& (7 : Int32)) else (x5 &&& (2147483647 : Int32))) ((own_arr (nar .byte (F1 x1)) (nar .byte (F1 x2)) (nar .byte (F1 x3)) (nar .byte (F1 x4))))))])) _
        refine XS.ifNo X26.here hx rfl (hb hby at_86) rfl ((if0 _ _).trans (feq hb27).1) ?_
        show Steps p.tables e below (T26.setTop (mkF m 89 #[.val (.int x1), .val (.int x2), .val (.int x3), .val (.int x4), .val (.int x5), .val (.ref b1), .val (.int (if (x5 &&& (256 : Int32)) = (0 : Int32) then (x5 &&& (7 : Int32)) else (x5 &&& (2147483647 : Int32)))), .unset, .unset] [])) _
        refine XS.iconst X26.here hx rfl (hb hby at_89) ?_
        show Steps p.tables e below (T26.setTop (mkF m 90 #[.val (.int x1), .val (.int x2), .val (.int x3), .val (.int x4), .val (.int x5), .val (.ref b1), .val (.int (if (x5 &&& (256 : Int32)) = (0 : Int32) then (x5 &&& (7 : Int32)) else (x5 &&& (2147483647 : Int32)))), .unset, .unset] [(.int (1 : Int32))])) _
        refine XS.istore X26.here hx rfl (hb hby at_90) rfl (l' := #[.val (.int x1), .val (.int x2), .val (.int x3), .val (.int x4), .val (.int x5), .val (.ref b1), .val (.int (if (x5 &&& (256 : Int32)) = (0 : Int32) then (x5 &&& (7 : Int32)) else (x5 &&& (2147483647 : Int32)))), .val (.int (1 : Int32)), .unset]) rfl ?_
        show Steps p.tables e below (T26.setTop (mkF m 92 #[.val (.int x1), .val (.int x2), .val (.int x3), .val (.int x4), .val (.int x5), .val (.ref b1), .val (.int (if (x5 &&& (256 : Int32)) = (0 : Int32) then (x5 &&& (7 : Int32)) else (x5 &&& (2147483647 : Int32)))), .val (.int (1 : Int32)), .unset] [])) _
        refine XS.goto X26.here hx rfl (pc0 := 92) (pc' := 132) rfl (hb hby at_92) (by decide) (by decide) ?_
        show Steps p.tables e below (T26.setTop (mkF m 132 #[.val (.int x1), .val (.int x2), .val (.int x3), .val (.int x4), .val (.int x5), .val (.ref b1), .val (.int (if (x5 &&& (256 : Int32)) = (0 : Int32) then (x5 &&& (7 : Int32)) else (x5 &&& (2147483647 : Int32)))), .val (.int (1 : Int32)), .unset] [])) _
        refine XS.aload X26.here hx rfl (hb hby at_132) rfl rfl ?_
        show Steps p.tables e below (T26.setTop (mkF m 134 #[.val (.int x1), .val (.int x2), .val (.int x3), .val (.int x4), .val (.int x5), .val (.ref b1), .val (.int (if (x5 &&& (256 : Int32)) = (0 : Int32) then (x5 &&& (7 : Int32)) else (x5 &&& (2147483647 : Int32)))), .val (.int (1 : Int32)), .unset] [(.ref b1)])) _
        refine XS.iload X26.here hx rfl (hb hby at_134) rfl ?_
        show Steps p.tables e below (T26.setTop (mkF m 136 #[.val (.int x1), .val (.int x2), .val (.int x3), .val (.int x4), .val (.int x5), .val (.ref b1), .val (.int (if (x5 &&& (256 : Int32)) = (0 : Int32) then (x5 &&& (7 : Int32)) else (x5 &&& (2147483647 : Int32)))), .val (.int (1 : Int32)), .unset] [(.int (if (x5 &&& (256 : Int32)) = (0 : Int32) then (x5 &&& (7 : Int32)) else (x5 &&& (2147483647 : Int32)))), (.ref b1)])) _
        refine st36 _ ?_
        show Steps p.tables e below (T36.setTop (mkF m 139 #[.val (.int x1), .val (.int x2), .val (.int x3), .val (.int x4), .val (.int x5), .val (.ref b1), .val (.int (if (x5 &&& (256 : Int32)) = (0 : Int32) then (x5 &&& (7 : Int32)) else (x5 &&& (2147483647 : Int32)))), .val (.int (1 : Int32)), .unset] [(.int (own_le ((4 : Int32)) ((own_arr (nar .byte (F1 x1)) (nar .byte (F1 x2)) (nar .byte (F1 x3)) (nar .byte (F1 x4)))) 5 (-1) (if (x5 &&& (256 : Int32)) = (0 : Int32) then (x5 &&& (7 : Int32)) else (x5 &&& (2147483647 : Int32)))))])) _
        refine XS.istore X36.here hx rfl (hb hby at_139) rfl (l' := #[.val (.int x1), .val (.int x2), .val (.int x3), .val (.int x4), .val (.int x5), .val (.ref b1), .val (.int (if (x5 &&& (256 : Int32)) = (0 : Int32) then (x5 &&& (7 : Int32)) else (x5 &&& (2147483647 : Int32)))), .val (.int (1 : Int32)), .val (.int (own_le ((4 : Int32)) ((own_arr (nar .byte (F1 x1)) (nar .byte (F1 x2)) (nar .byte (F1 x3)) (nar .byte (F1 x4)))) 5 (-1) (if (x5 &&& (256 : Int32)) = (0 : Int32) then (x5 &&& (7 : Int32)) else (x5 &&& (2147483647 : Int32)))))]) rfl ?_
        show Steps p.tables e below (T36.setTop (mkF m 141 #[.val (.int x1), .val (.int x2), .val (.int x3), .val (.int x4), .val (.int x5), .val (.ref b1), .val (.int (if (x5 &&& (256 : Int32)) = (0 : Int32) then (x5 &&& (7 : Int32)) else (x5 &&& (2147483647 : Int32)))), .val (.int (1 : Int32)), .val (.int (own_le ((4 : Int32)) ((own_arr (nar .byte (F1 x1)) (nar .byte (F1 x2)) (nar .byte (F1 x3)) (nar .byte (F1 x4)))) 5 (-1) (if (x5 &&& (256 : Int32)) = (0 : Int32) then (x5 &&& (7 : Int32)) else (x5 &&& (2147483647 : Int32)))))] [])) _
        refine XS.iload X36.here hx rfl (hb hby at_141) rfl ?_
        show Steps p.tables e below (T36.setTop (mkF m 143 #[.val (.int x1), .val (.int x2), .val (.int x3), .val (.int x4), .val (.int x5), .val (.ref b1), .val (.int (if (x5 &&& (256 : Int32)) = (0 : Int32) then (x5 &&& (7 : Int32)) else (x5 &&& (2147483647 : Int32)))), .val (.int (1 : Int32)), .val (.int (own_le ((4 : Int32)) ((own_arr (nar .byte (F1 x1)) (nar .byte (F1 x2)) (nar .byte (F1 x3)) (nar .byte (F1 x4)))) 5 (-1) (if (x5 &&& (256 : Int32)) = (0 : Int32) then (x5 &&& (7 : Int32)) else (x5 &&& (2147483647 : Int32)))))] [(.int (own_le ((4 : Int32)) ((own_arr (nar .byte (F1 x1)) (nar .byte (F1 x2)) (nar .byte (F1 x3)) (nar .byte (F1 x4)))) 5 (-1) (if (x5 &&& (256 : Int32)) = (0 : Int32) then (x5 &&& (7 : Int32)) else (x5 &&& (2147483647 : Int32)))))])) _
        refine XS.iload X36.here hx rfl (hb hby at_143) rfl ?_
        show Steps p.tables e below (T36.setTop (mkF m 145 #[.val (.int x1), .val (.int x2), .val (.int x3), .val (.int x4), .val (.int x5), .val (.ref b1), .val (.int (if (x5 &&& (256 : Int32)) = (0 : Int32) then (x5 &&& (7 : Int32)) else (x5 &&& (2147483647 : Int32)))), .val (.int (1 : Int32)), .val (.int (own_le ((4 : Int32)) ((own_arr (nar .byte (F1 x1)) (nar .byte (F1 x2)) (nar .byte (F1 x3)) (nar .byte (F1 x4)))) 5 (-1) (if (x5 &&& (256 : Int32)) = (0 : Int32) then (x5 &&& (7 : Int32)) else (x5 &&& (2147483647 : Int32)))))] [(.int (1 : Int32)), (.int (own_le ((4 : Int32)) ((own_arr (nar .byte (F1 x1)) (nar .byte (F1 x2)) (nar .byte (F1 x3)) (nar .byte (F1 x4)))) 5 (-1) (if (x5 &&& (256 : Int32)) = (0 : Int32) then (x5 &&& (7 : Int32)) else (x5 &&& (2147483647 : Int32)))))])) _
        refine own_dia (u := ((1 : Int32) : Int32)) (v := (0 : Int32)) ((own_le ((4 : Int32)) ((own_arr (nar .byte (F1 x1)) (nar .byte (F1 x2)) (nar .byte (F1 x3)) (nar .byte (F1 x4)))) 5 (-1) (if (x5 &&& (256 : Int32)) = (0 : Int32) then (x5 &&& (7 : Int32)) else (x5 &&& (2147483647 : Int32)))) = (1 : Int32)) (fun z37 => (mkF m 153 #[.val (.int x1), .val (.int x2), .val (.int x3), .val (.int x4), .val (.int x5), .val (.ref b1), .val (.int (if (x5 &&& (256 : Int32)) = (0 : Int32) then (x5 &&& (7 : Int32)) else (x5 &&& (2147483647 : Int32)))), .val (.int (1 : Int32)), .val (.int (own_le ((4 : Int32)) ((own_arr (nar .byte (F1 x1)) (nar .byte (F1 x2)) (nar .byte (F1 x3)) (nar .byte (F1 x4)))) 5 (-1) (if (x5 &&& (256 : Int32)) = (0 : Int32) then (x5 &&& (7 : Int32)) else (x5 &&& (2147483647 : Int32)))))] [(.int z37)])) (fun hc37 k37 => ?_) (fun hc37 k37 => ?_) ?_
        · refine XS.icmpNo X36.here hx rfl (hb hby at_145) rfl (teq hc37).2 ?_
          show Steps p.tables e below (T36.setTop (mkF m 148 #[.val (.int x1), .val (.int x2), .val (.int x3), .val (.int x4), .val (.int x5), .val (.ref b1), .val (.int (if (x5 &&& (256 : Int32)) = (0 : Int32) then (x5 &&& (7 : Int32)) else (x5 &&& (2147483647 : Int32)))), .val (.int (1 : Int32)), .val (.int (own_le ((4 : Int32)) ((own_arr (nar .byte (F1 x1)) (nar .byte (F1 x2)) (nar .byte (F1 x3)) (nar .byte (F1 x4)))) 5 (-1) (if (x5 &&& (256 : Int32)) = (0 : Int32) then (x5 &&& (7 : Int32)) else (x5 &&& (2147483647 : Int32)))))] [])) _
          refine XS.iconst X36.here hx rfl (hb hby at_148) ?_
          show Steps p.tables e below (T36.setTop (mkF m 149 #[.val (.int x1), .val (.int x2), .val (.int x3), .val (.int x4), .val (.int x5), .val (.ref b1), .val (.int (if (x5 &&& (256 : Int32)) = (0 : Int32) then (x5 &&& (7 : Int32)) else (x5 &&& (2147483647 : Int32)))), .val (.int (1 : Int32)), .val (.int (own_le ((4 : Int32)) ((own_arr (nar .byte (F1 x1)) (nar .byte (F1 x2)) (nar .byte (F1 x3)) (nar .byte (F1 x4)))) 5 (-1) (if (x5 &&& (256 : Int32)) = (0 : Int32) then (x5 &&& (7 : Int32)) else (x5 &&& (2147483647 : Int32)))))] [(.int (1 : Int32))])) _
          refine XS.goto X36.here hx rfl (pc0 := 149) (pc' := 153) rfl (hb hby at_149) (by decide) (by decide) ?_
          exact k37
        · refine XS.icmpYes X36.here hx rfl (pc0 := 145) (pc' := 152) rfl (hb hby at_145) rfl (feq hc37).2 (by decide) (by decide) ?_
          show Steps p.tables e below (T36.setTop (mkF m 152 #[.val (.int x1), .val (.int x2), .val (.int x3), .val (.int x4), .val (.int x5), .val (.ref b1), .val (.int (if (x5 &&& (256 : Int32)) = (0 : Int32) then (x5 &&& (7 : Int32)) else (x5 &&& (2147483647 : Int32)))), .val (.int (1 : Int32)), .val (.int (own_le ((4 : Int32)) ((own_arr (nar .byte (F1 x1)) (nar .byte (F1 x2)) (nar .byte (F1 x3)) (nar .byte (F1 x4)))) 5 (-1) (if (x5 &&& (256 : Int32)) = (0 : Int32) then (x5 &&& (7 : Int32)) else (x5 &&& (2147483647 : Int32)))))] [])) _
          refine XS.iconst X36.here hx rfl (hb hby at_152) ?_
          exact k37
        -- meets at 153
        show Steps p.tables e below (T36.setTop (mkF m 153 #[.val (.int x1), .val (.int x2), .val (.int x3), .val (.int x4), .val (.int x5), .val (.ref b1), .val (.int (if (x5 &&& (256 : Int32)) = (0 : Int32) then (x5 &&& (7 : Int32)) else (x5 &&& (2147483647 : Int32)))), .val (.int (1 : Int32)), .val (.int (own_le ((4 : Int32)) ((own_arr (nar .byte (F1 x1)) (nar .byte (F1 x2)) (nar .byte (F1 x3)) (nar .byte (F1 x4)))) 5 (-1) (if (x5 &&& (256 : Int32)) = (0 : Int32) then (x5 &&& (7 : Int32)) else (x5 &&& (2147483647 : Int32)))))] [(.int (if (own_le ((4 : Int32)) ((own_arr (nar .byte (F1 x1)) (nar .byte (F1 x2)) (nar .byte (F1 x3)) (nar .byte (F1 x4)))) 5 (-1) (if (x5 &&& (256 : Int32)) = (0 : Int32) then (x5 &&& (7 : Int32)) else (x5 &&& (2147483647 : Int32)))) = (1 : Int32) then (1 : Int32) else (0 : Int32)))])) _
        exact retN X36 hx (t := .boolean) Bd.returns (by simp) (hb hby at_153) (by rw [own_nb (own_b01 (Or.inr rfl) (Or.inl rfl))]; exact hr)
      · show Q0 Z x1 x2 x3 x4 x5 h0 n0 _ T36.heap _
        rw [e36]
        exact ⟨(congrArg (fun z => some (Value.int z)) (Eq.symm (Eq.trans (if_pos hb25) (if_neg hb27)))), N36⟩
  · obtain ⟨_, _, ⟨T38, L38, k38, n38⟩, -, X38, ⟨Lc38, hQ38, l38, y38, z38⟩, st38⟩ := Jvm.LawKit.callS X24 hx (y := (⟨"com/example/trunkline/trunkline/message/MessageParser", "lineEnd", "([BI)I"⟩ : MethodName)) hown (mvT hZ (hw _ (List.mem_of_getElem? (i := 8) rfl))) (mvT hZ (hw _ (List.mem_of_getElem? (i := 9) rfl))) (mvT hZ (hw _ (List.mem_of_getElem? (i := 10) rfl))) (mvT hZ (hw _ (List.mem_of_getElem? (i := 11) rfl))) (by decide) (backOf (W := 0) (rm3 l Z a0 hw [] b1 (if (x5 &&& (256 : Int32)) = (0 : Int32) then (x5 &&& (7 : Int32)) else (x5 &&& (2147483647 : Int32))) ((4 : Int32)) ((own_arr (nar .byte (F1 x1)) (nar .byte (F1 x2)) (nar .byte (F1 x3)) (nar .byte (F1 x4)))) h19 n0 Z21 Vq (own_s0 x5) (own_s4 x5)) hZ (hw _ (List.mem_of_getElem? (i := 11) rfl)) (hw _ (List.mem_of_getElem? (i := 10) rfl)) (by decide) (by decide)) (g := (mkF m 136 #[.val (.int x1), .val (.int x2), .val (.int x3), .val (.int x4), .val (.int x5), .val (.ref b1), .val (.int (if (x5 &&& (256 : Int32)) = (0 : Int32) then (x5 &&& (7 : Int32)) else (x5 &&& (2147483647 : Int32)))), .val (.int (0 : Int32)), .unset] [(.int (if (x5 &&& (256 : Int32)) = (0 : Int32) then (x5 &&& (7 : Int32)) else (x5 &&& (2147483647 : Int32)))), (.ref b1)])) rfl (by rw [hml]; rfl) (argsL := [(.ref b1), (.int (if (x5 &&& (256 : Int32)) = (0 : Int32) then (x5 &&& (7 : Int32)) else (x5 &&& (2147483647 : Int32))))]) (rest := []) (lenOf pd_2 rfl) rfl (by show 2 * 0 + _ ≤ _; exact Nat.le_of_eq rfl) (hb hby at_136) (fun _ _ => ⟨rfl, e24, (by decide : 1 + 0 ≤ _), (by decide : 4 + 0 ≤ _)⟩)
    dsimp only [Pt.U, Pt.locs, Pt.cells, Pt.slots] at X38 l38 y38 z38 st38 hQ38
    subst l38 y38 z38
    obtain ⟨rfl, N38q, e38⟩ := hQ38
    have N38 := Fr.app N24 N38q
    obtain ⟨fs, hr, hrun, hended, hW, hsame⟩ := X38.leave (v := some (.int (if (own_le ((4 : Int32)) ((own_arr (nar .byte (F1 x1)) (nar .byte (F1 x2)) (nar .byte (F1 x3)) (nar .byte (F1 x4)))) 5 (-1) (if (x5 &&& (256 : Int32)) = (0 : Int32) then (x5 &&& (7 : Int32)) else (x5 &&& (2147483647 : Int32)))) = (0 : Int32) then (1 : Int32) else (0 : Int32)))) (fun h => by rw [Bd.returns] at h; cases h)
    refine ⟨_, _, pre0 _ ?_, hrun, hended, _, _, rfl, ?_, ⟨_, rfl⟩, hW, hsame.mono (by decide) (by decide)⟩
    · show Steps p.tables e below (s₁.setTop (mkF m 0 #[.val (.int x1), .val (.int x2), .val (.int x3), .val (.int x4), .val (.int x5), .unset, .unset, .unset, .unset] [])) _
      refine XS.iconst X0.here hx rfl (hb hby at_0) ?_
      show Steps p.tables e below (s₁.setTop (mkF m 1 #[.val (.int x1), .val (.int x2), .val (.int x3), .val (.int x4), .val (.int x5), .unset, .unset, .unset, .unset] [(.int (4 : Int32))])) _
      refine st1 _ ?_
      show Steps p.tables e below (T1.setTop (mkF m 3 #[.val (.int x1), .val (.int x2), .val (.int x3), .val (.int x4), .val (.int x5), .unset, .unset, .unset, .unset] [(.ref b1)])) _
      refine XS.astore X1.here hx rfl (hb hby at_3) rfl rfl (l' := #[.val (.int x1), .val (.int x2), .val (.int x3), .val (.int x4), .val (.int x5), .val (.ref b1), .unset, .unset, .unset]) rfl ?_
      show Steps p.tables e below (T1.setTop (mkF m 5 #[.val (.int x1), .val (.int x2), .val (.int x3), .val (.int x4), .val (.int x5), .val (.ref b1), .unset, .unset, .unset] [])) _
      refine XS.aload X1.here hx rfl (hb hby at_5) rfl rfl ?_
      show Steps p.tables e below (T1.setTop (mkF m 7 #[.val (.int x1), .val (.int x2), .val (.int x3), .val (.int x4), .val (.int x5), .val (.ref b1), .unset, .unset, .unset] [(.ref b1)])) _
      refine XS.iconst X1.here hx rfl (hb hby at_7) ?_
      show Steps p.tables e below (T1.setTop (mkF m 8 #[.val (.int x1), .val (.int x2), .val (.int x3), .val (.int x4), .val (.int x5), .val (.ref b1), .unset, .unset, .unset] [(.int (0 : Int32)), (.ref b1)])) _
      refine XS.iloadN X1.here hx rfl (hb hby at_8) rfl ?_
      show Steps p.tables e below (T1.setTop (mkF m 9 #[.val (.int x1), .val (.int x2), .val (.int x3), .val (.int x4), .val (.int x5), .val (.ref b1), .unset, .unset, .unset] [(.int x1), (.int (0 : Int32)), (.ref b1)])) _
      refine st3 _ ?_
      show Steps p.tables e below (T3.setTop (mkF m 12 #[.val (.int x1), .val (.int x2), .val (.int x3), .val (.int x4), .val (.int x5), .val (.ref b1), .unset, .unset, .unset] [(.int (F1 x1)), (.int (0 : Int32)), (.ref b1)])) _
      refine st4 _ ?_
      show Steps p.tables e below (T4.setTop (mkF m 13 #[.val (.int x1), .val (.int x2), .val (.int x3), .val (.int x4), .val (.int x5), .val (.ref b1), .unset, .unset, .unset] [])) _
      refine XS.aload X4.here hx rfl (hb hby at_13) rfl rfl ?_
      show Steps p.tables e below (T4.setTop (mkF m 15 #[.val (.int x1), .val (.int x2), .val (.int x3), .val (.int x4), .val (.int x5), .val (.ref b1), .unset, .unset, .unset] [(.ref b1)])) _
      refine XS.iconst X4.here hx rfl (hb hby at_15) ?_
      show Steps p.tables e below (T4.setTop (mkF m 16 #[.val (.int x1), .val (.int x2), .val (.int x3), .val (.int x4), .val (.int x5), .val (.ref b1), .unset, .unset, .unset] [(.int (1 : Int32)), (.ref b1)])) _
      refine XS.iloadN X4.here hx rfl (hb hby at_16) rfl ?_
      show Steps p.tables e below (T4.setTop (mkF m 17 #[.val (.int x1), .val (.int x2), .val (.int x3), .val (.int x4), .val (.int x5), .val (.ref b1), .unset, .unset, .unset] [(.int x2), (.int (1 : Int32)), (.ref b1)])) _
      refine st8 _ ?_
      show Steps p.tables e below (T8.setTop (mkF m 20 #[.val (.int x1), .val (.int x2), .val (.int x3), .val (.int x4), .val (.int x5), .val (.ref b1), .unset, .unset, .unset] [(.int (F1 x2)), (.int (1 : Int32)), (.ref b1)])) _
      refine st9 _ ?_
      show Steps p.tables e below (T9.setTop (mkF m 21 #[.val (.int x1), .val (.int x2), .val (.int x3), .val (.int x4), .val (.int x5), .val (.ref b1), .unset, .unset, .unset] [])) _
      refine XS.aload X9.here hx rfl (hb hby at_21) rfl rfl ?_
      show Steps p.tables e below (T9.setTop (mkF m 23 #[.val (.int x1), .val (.int x2), .val (.int x3), .val (.int x4), .val (.int x5), .val (.ref b1), .unset, .unset, .unset] [(.ref b1)])) _
      refine XS.iconst X9.here hx rfl (hb hby at_23) ?_
      show Steps p.tables e below (T9.setTop (mkF m 24 #[.val (.int x1), .val (.int x2), .val (.int x3), .val (.int x4), .val (.int x5), .val (.ref b1), .unset, .unset, .unset] [(.int (2 : Int32)), (.ref b1)])) _
      refine XS.iloadN X9.here hx rfl (hb hby at_24) rfl ?_
      show Steps p.tables e below (T9.setTop (mkF m 25 #[.val (.int x1), .val (.int x2), .val (.int x3), .val (.int x4), .val (.int x5), .val (.ref b1), .unset, .unset, .unset] [(.int x3), (.int (2 : Int32)), (.ref b1)])) _
      refine st13 _ ?_
      show Steps p.tables e below (T13.setTop (mkF m 28 #[.val (.int x1), .val (.int x2), .val (.int x3), .val (.int x4), .val (.int x5), .val (.ref b1), .unset, .unset, .unset] [(.int (F1 x3)), (.int (2 : Int32)), (.ref b1)])) _
      refine st14 _ ?_
      show Steps p.tables e below (T14.setTop (mkF m 29 #[.val (.int x1), .val (.int x2), .val (.int x3), .val (.int x4), .val (.int x5), .val (.ref b1), .unset, .unset, .unset] [])) _
      refine XS.aload X14.here hx rfl (hb hby at_29) rfl rfl ?_
      show Steps p.tables e below (T14.setTop (mkF m 31 #[.val (.int x1), .val (.int x2), .val (.int x3), .val (.int x4), .val (.int x5), .val (.ref b1), .unset, .unset, .unset] [(.ref b1)])) _
      refine XS.iconst X14.here hx rfl (hb hby at_31) ?_
      show Steps p.tables e below (T14.setTop (mkF m 32 #[.val (.int x1), .val (.int x2), .val (.int x3), .val (.int x4), .val (.int x5), .val (.ref b1), .unset, .unset, .unset] [(.int (3 : Int32)), (.ref b1)])) _
      refine XS.iloadN X14.here hx rfl (hb hby at_32) rfl ?_
      show Steps p.tables e below (T14.setTop (mkF m 33 #[.val (.int x1), .val (.int x2), .val (.int x3), .val (.int x4), .val (.int x5), .val (.ref b1), .unset, .unset, .unset] [(.int x4), (.int (3 : Int32)), (.ref b1)])) _
      refine st18 _ ?_
      show Steps p.tables e below (T18.setTop (mkF m 36 #[.val (.int x1), .val (.int x2), .val (.int x3), .val (.int x4), .val (.int x5), .val (.ref b1), .unset, .unset, .unset] [(.int (F1 x4)), (.int (3 : Int32)), (.ref b1)])) _
      refine st19 _ ?_
      show Steps p.tables e below (T19.setTop (mkF m 37 #[.val (.int x1), .val (.int x2), .val (.int x3), .val (.int x4), .val (.int x5), .val (.ref b1), .unset, .unset, .unset] [])) _
      refine XS.iload X19.here hx rfl (hb hby at_37) rfl ?_
      show Steps p.tables e below (T19.setTop (mkF m 39 #[.val (.int x1), .val (.int x2), .val (.int x3), .val (.int x4), .val (.int x5), .val (.ref b1), .unset, .unset, .unset] [(.int x5)])) _
      refine XS.sipush X19.here hx rfl (hb hby at_39) ?_
      show Steps p.tables e below (T19.setTop (mkF m 42 #[.val (.int x1), .val (.int x2), .val (.int x3), .val (.int x4), .val (.int x5), .val (.ref b1), .unset, .unset, .unset] [(.int (256 : Int32)), (.int x5)])) _
      refine XS.iand X19.here hx rfl (hb hby at_42) rfl ?_
      show Steps p.tables e below (T19.setTop (mkF m 43 #[.val (.int x1), .val (.int x2), .val (.int x3), .val (.int x4), .val (.int x5), .val (.ref b1), .unset, .unset, .unset] [(.int (x5 &&& (256 : Int32)))])) _
      refine own_dia (u := ((x5 &&& (7 : Int32)) : Int32)) (v := (x5 &&& (2147483647 : Int32))) ((x5 &&& (256 : Int32)) = (0 : Int32)) (fun z23 => (mkF m 59 #[.val (.int x1), .val (.int x2), .val (.int x3), .val (.int x4), .val (.int x5), .val (.ref b1), .unset, .unset, .unset] [(.int z23)])) (fun hc23 k23 => ?_) (fun hc23 k23 => ?_) ?_
      · refine XS.ifYes X19.here hx rfl (pc0 := 43) (pc' := 54) rfl (hb hby at_43) rfl ((if0 _ _).trans (teq hc23).1) (by decide) (by decide) ?_
        show Steps p.tables e below (T19.setTop (mkF m 54 #[.val (.int x1), .val (.int x2), .val (.int x3), .val (.int x4), .val (.int x5), .val (.ref b1), .unset, .unset, .unset] [])) _
        refine XS.iload X19.here hx rfl (hb hby at_54) rfl ?_
        show Steps p.tables e below (T19.setTop (mkF m 56 #[.val (.int x1), .val (.int x2), .val (.int x3), .val (.int x4), .val (.int x5), .val (.ref b1), .unset, .unset, .unset] [(.int x5)])) _
        refine XS.bipush X19.here hx rfl (hb hby at_56) ?_
        show Steps p.tables e below (T19.setTop (mkF m 58 #[.val (.int x1), .val (.int x2), .val (.int x3), .val (.int x4), .val (.int x5), .val (.ref b1), .unset, .unset, .unset] [(.int (7 : Int32)), (.int x5)])) _
        refine XS.iand X19.here hx rfl (hb hby at_58) rfl ?_
        exact k23
      · refine XS.ifNo X19.here hx rfl (hb hby at_43) rfl ((if0 _ _).trans (feq hc23).1) ?_
        show Steps p.tables e below (T19.setTop (mkF m 46 #[.val (.int x1), .val (.int x2), .val (.int x3), .val (.int x4), .val (.int x5), .val (.ref b1), .unset, .unset, .unset] [])) _
        refine XS.iload X19.here hx rfl (hb hby at_46) rfl ?_
        show Steps p.tables e below (T19.setTop (mkF m 48 #[.val (.int x1), .val (.int x2), .val (.int x3), .val (.int x4), .val (.int x5), .val (.ref b1), .unset, .unset, .unset] [(.int x5)])) _
        refine X19.ldcInt hx hown (mvT hZ (hw _ (List.mem_of_getElem? (i := 12) rfl))) (g := (mkF m 48 #[.val (.int x1), .val (.int x2), .val (.int x3), .val (.int x4), .val (.int x5), .val (.ref b1), .unset, .unset, .unset] [(.int x5)])) rfl (hb hby at_48) _ ?_
        show Steps p.tables e below (T19.setTop (mkF m 50 #[.val (.int x1), .val (.int x2), .val (.int x3), .val (.int x4), .val (.int x5), .val (.ref b1), .unset, .unset, .unset] [(.int (2147483647 : Int32)), (.int x5)])) _
        refine XS.iand X19.here hx rfl (hb hby at_50) rfl ?_
        show Steps p.tables e below (T19.setTop (mkF m 51 #[.val (.int x1), .val (.int x2), .val (.int x3), .val (.int x4), .val (.int x5), .val (.ref b1), .unset, .unset, .unset] [(.int (x5 &&& (2147483647 : Int32)))])) _
        refine XS.goto X19.here hx rfl (pc0 := 51) (pc' := 59) rfl (hb hby at_51) (by decide) (by decide) ?_
        exact k23
      -- meets at 59
      show Steps p.tables e below (T19.setTop (mkF m 59 #[.val (.int x1), .val (.int x2), .val (.int x3), .val (.int x4), .val (.int x5), .val (.ref b1), .unset, .unset, .unset] [(.int (if (x5 &&& (256 : Int32)) = (0 : Int32) then (x5 &&& (7 : Int32)) else (x5 &&& (2147483647 : Int32))))])) _
      refine XS.istore X19.here hx rfl (hb hby at_59) rfl (l' := #[.val (.int x1), .val (.int x2), .val (.int x3), .val (.int x4), .val (.int x5), .val (.ref b1), .val (.int (if (x5 &&& (256 : Int32)) = (0 : Int32) then (x5 &&& (7 : Int32)) else (x5 &&& (2147483647 : Int32)))), .unset, .unset]) rfl ?_
      show Steps p.tables e below (T19.setTop (mkF m 61 #[.val (.int x1), .val (.int x2), .val (.int x3), .val (.int x4), .val (.int x5), .val (.ref b1), .val (.int (if (x5 &&& (256 : Int32)) = (0 : Int32) then (x5 &&& (7 : Int32)) else (x5 &&& (2147483647 : Int32)))), .unset, .unset] [])) _
      refine XS.aload X19.here hx rfl (hb hby at_61) rfl rfl ?_
      show Steps p.tables e below (T19.setTop (mkF m 63 #[.val (.int x1), .val (.int x2), .val (.int x3), .val (.int x4), .val (.int x5), .val (.ref b1), .val (.int (if (x5 &&& (256 : Int32)) = (0 : Int32) then (x5 &&& (7 : Int32)) else (x5 &&& (2147483647 : Int32)))), .unset, .unset] [(.ref b1)])) _
      refine XS.iconst X19.here hx rfl (hb hby at_63) ?_
      show Steps p.tables e below (T19.setTop (mkF m 64 #[.val (.int x1), .val (.int x2), .val (.int x3), .val (.int x4), .val (.int x5), .val (.ref b1), .val (.int (if (x5 &&& (256 : Int32)) = (0 : Int32) then (x5 &&& (7 : Int32)) else (x5 &&& (2147483647 : Int32)))), .unset, .unset] [(.int (0 : Int32)), (.ref b1)])) _
      refine XS.iload X19.here hx rfl (hb hby at_64) rfl ?_
      show Steps p.tables e below (T19.setTop (mkF m 66 #[.val (.int x1), .val (.int x2), .val (.int x3), .val (.int x4), .val (.int x5), .val (.ref b1), .val (.int (if (x5 &&& (256 : Int32)) = (0 : Int32) then (x5 &&& (7 : Int32)) else (x5 &&& (2147483647 : Int32)))), .unset, .unset] [(.int (if (x5 &&& (256 : Int32)) = (0 : Int32) then (x5 &&& (7 : Int32)) else (x5 &&& (2147483647 : Int32)))), (.int (0 : Int32)), (.ref b1)])) _
      refine st24 _ ?_
      show Steps p.tables e below (T24.setTop (mkF m 69 #[.val (.int x1), .val (.int x2), .val (.int x3), .val (.int x4), .val (.int x5), .val (.ref b1), .val (.int (if (x5 &&& (256 : Int32)) = (0 : Int32) then (x5 &&& (7 : Int32)) else (x5 &&& (2147483647 : Int32)))), .unset, .unset] [(.int (F2 (0 : Int32) (if (x5 &&& (256 : Int32)) = (0 : Int32) then (x5 &&& (7 : Int32)) else (x5 &&& (2147483647 : Int32))) ((own_arr (nar .byte (F1 x1)) (nar .byte (F1 x2)) (nar .byte (F1 x3)) (nar .byte (F1 x4))))))])) _
      refine XS.ifNo X24.here hx rfl (hb hby at_69) rfl ((if0 _ _).trans (feq hb25).1) ?_
      show Steps p.tables e below (T24.setTop (mkF m 72 #[.val (.int x1), .val (.int x2), .val (.int x3), .val (.int x4), .val (.int x5), .val (.ref b1), .val (.int (if (x5 &&& (256 : Int32)) = (0 : Int32) then (x5 &&& (7 : Int32)) else (x5 &&& (2147483647 : Int32)))), .unset, .unset] [])) _
      refine XS.iconst X24.here hx rfl (hb hby at_72) ?_
      show Steps p.tables e below (T24.setTop (mkF m 73 #[.val (.int x1), .val (.int x2), .val (.int x3), .val (.int x4), .val (.int x5), .val (.ref b1), .val (.int (if (x5 &&& (256 : Int32)) = (0 : Int32) then (x5 &&& (7 : Int32)) else (x5 &&& (2147483647 : Int32)))), .unset, .unset] [(.int (0 : Int32))])) _
      refine XS.istore X24.here hx rfl (hb hby at_73) rfl (l' := #[.val (.int x1), .val (.int x2), .val (.int x3), .val (.int x4), .val (.int x5), .val (.ref b1), .val (.int (if (x5 &&& (256 : Int32)) = (0 : Int32) then (x5 &&& (7 : Int32)) else (x5 &&& (2147483647 : Int32)))), .val (.int (0 : Int32)), .unset]) rfl ?_
      show Steps p.tables e below (T24.setTop (mkF m 75 #[.val (.int x1), .val (.int x2), .val (.int x3), .val (.int x4), .val (.int x5), .val (.ref b1), .val (.int (if (x5 &&& (256 : Int32)) = (0 : Int32) then (x5 &&& (7 : Int32)) else (x5 &&& (2147483647 : Int32)))), .val (.int (0 : Int32)), .unset] [])) _
      refine XS.goto X24.here hx rfl (pc0 := 75) (pc' := 132) rfl (hb hby at_75) (by decide) (by decide) ?_
      show Steps p.tables e below (T24.setTop (mkF m 132 #[.val (.int x1), .val (.int x2), .val (.int x3), .val (.int x4), .val (.int x5), .val (.ref b1), .val (.int (if (x5 &&& (256 : Int32)) = (0 : Int32) then (x5 &&& (7 : Int32)) else (x5 &&& (2147483647 : Int32)))), .val (.int (0 : Int32)), .unset] [])) _
      refine XS.aload X24.here hx rfl (hb hby at_132) rfl rfl ?_
      show Steps p.tables e below (T24.setTop (mkF m 134 #[.val (.int x1), .val (.int x2), .val (.int x3), .val (.int x4), .val (.int x5), .val (.ref b1), .val (.int (if (x5 &&& (256 : Int32)) = (0 : Int32) then (x5 &&& (7 : Int32)) else (x5 &&& (2147483647 : Int32)))), .val (.int (0 : Int32)), .unset] [(.ref b1)])) _
      refine XS.iload X24.here hx rfl (hb hby at_134) rfl ?_
      show Steps p.tables e below (T24.setTop (mkF m 136 #[.val (.int x1), .val (.int x2), .val (.int x3), .val (.int x4), .val (.int x5), .val (.ref b1), .val (.int (if (x5 &&& (256 : Int32)) = (0 : Int32) then (x5 &&& (7 : Int32)) else (x5 &&& (2147483647 : Int32)))), .val (.int (0 : Int32)), .unset] [(.int (if (x5 &&& (256 : Int32)) = (0 : Int32) then (x5 &&& (7 : Int32)) else (x5 &&& (2147483647 : Int32)))), (.ref b1)])) _
      refine st38 _ ?_
      show Steps p.tables e below (T38.setTop (mkF m 139 #[.val (.int x1), .val (.int x2), .val (.int x3), .val (.int x4), .val (.int x5), .val (.ref b1), .val (.int (if (x5 &&& (256 : Int32)) = (0 : Int32) then (x5 &&& (7 : Int32)) else (x5 &&& (2147483647 : Int32)))), .val (.int (0 : Int32)), .unset] [(.int (own_le ((4 : Int32)) ((own_arr (nar .byte (F1 x1)) (nar .byte (F1 x2)) (nar .byte (F1 x3)) (nar .byte (F1 x4)))) 5 (-1) (if (x5 &&& (256 : Int32)) = (0 : Int32) then (x5 &&& (7 : Int32)) else (x5 &&& (2147483647 : Int32)))))])) _
      refine XS.istore X38.here hx rfl (hb hby at_139) rfl (l' := #[.val (.int x1), .val (.int x2), .val (.int x3), .val (.int x4), .val (.int x5), .val (.ref b1), .val (.int (if (x5 &&& (256 : Int32)) = (0 : Int32) then (x5 &&& (7 : Int32)) else (x5 &&& (2147483647 : Int32)))), .val (.int (0 : Int32)), .val (.int (own_le ((4 : Int32)) ((own_arr (nar .byte (F1 x1)) (nar .byte (F1 x2)) (nar .byte (F1 x3)) (nar .byte (F1 x4)))) 5 (-1) (if (x5 &&& (256 : Int32)) = (0 : Int32) then (x5 &&& (7 : Int32)) else (x5 &&& (2147483647 : Int32)))))]) rfl ?_
      show Steps p.tables e below (T38.setTop (mkF m 141 #[.val (.int x1), .val (.int x2), .val (.int x3), .val (.int x4), .val (.int x5), .val (.ref b1), .val (.int (if (x5 &&& (256 : Int32)) = (0 : Int32) then (x5 &&& (7 : Int32)) else (x5 &&& (2147483647 : Int32)))), .val (.int (0 : Int32)), .val (.int (own_le ((4 : Int32)) ((own_arr (nar .byte (F1 x1)) (nar .byte (F1 x2)) (nar .byte (F1 x3)) (nar .byte (F1 x4)))) 5 (-1) (if (x5 &&& (256 : Int32)) = (0 : Int32) then (x5 &&& (7 : Int32)) else (x5 &&& (2147483647 : Int32)))))] [])) _
      refine XS.iload X38.here hx rfl (hb hby at_141) rfl ?_
      show Steps p.tables e below (T38.setTop (mkF m 143 #[.val (.int x1), .val (.int x2), .val (.int x3), .val (.int x4), .val (.int x5), .val (.ref b1), .val (.int (if (x5 &&& (256 : Int32)) = (0 : Int32) then (x5 &&& (7 : Int32)) else (x5 &&& (2147483647 : Int32)))), .val (.int (0 : Int32)), .val (.int (own_le ((4 : Int32)) ((own_arr (nar .byte (F1 x1)) (nar .byte (F1 x2)) (nar .byte (F1 x3)) (nar .byte (F1 x4)))) 5 (-1) (if (x5 &&& (256 : Int32)) = (0 : Int32) then (x5 &&& (7 : Int32)) else (x5 &&& (2147483647 : Int32)))))] [(.int (own_le ((4 : Int32)) ((own_arr (nar .byte (F1 x1)) (nar .byte (F1 x2)) (nar .byte (F1 x3)) (nar .byte (F1 x4)))) 5 (-1) (if (x5 &&& (256 : Int32)) = (0 : Int32) then (x5 &&& (7 : Int32)) else (x5 &&& (2147483647 : Int32)))))])) _
      refine XS.iload X38.here hx rfl (hb hby at_143) rfl ?_
      show Steps p.tables e below (T38.setTop (mkF m 145 #[.val (.int x1), .val (.int x2), .val (.int x3), .val (.int x4), .val (.int x5), .val (.ref b1), .val (.int (if (x5 &&& (256 : Int32)) = (0 : Int32) then (x5 &&& (7 : Int32)) else (x5 &&& (2147483647 : Int32)))), .val (.int (0 : Int32)), .val (.int (own_le ((4 : Int32)) ((own_arr (nar .byte (F1 x1)) (nar .byte (F1 x2)) (nar .byte (F1 x3)) (nar .byte (F1 x4)))) 5 (-1) (if (x5 &&& (256 : Int32)) = (0 : Int32) then (x5 &&& (7 : Int32)) else (x5 &&& (2147483647 : Int32)))))] [(.int (0 : Int32)), (.int (own_le ((4 : Int32)) ((own_arr (nar .byte (F1 x1)) (nar .byte (F1 x2)) (nar .byte (F1 x3)) (nar .byte (F1 x4)))) 5 (-1) (if (x5 &&& (256 : Int32)) = (0 : Int32) then (x5 &&& (7 : Int32)) else (x5 &&& (2147483647 : Int32)))))])) _
      refine own_dia (u := ((1 : Int32) : Int32)) (v := (0 : Int32)) ((own_le ((4 : Int32)) ((own_arr (nar .byte (F1 x1)) (nar .byte (F1 x2)) (nar .byte (F1 x3)) (nar .byte (F1 x4)))) 5 (-1) (if (x5 &&& (256 : Int32)) = (0 : Int32) then (x5 &&& (7 : Int32)) else (x5 &&& (2147483647 : Int32)))) = (0 : Int32)) (fun z39 => (mkF m 153 #[.val (.int x1), .val (.int x2), .val (.int x3), .val (.int x4), .val (.int x5), .val (.ref b1), .val (.int (if (x5 &&& (256 : Int32)) = (0 : Int32) then (x5 &&& (7 : Int32)) else (x5 &&& (2147483647 : Int32)))), .val (.int (0 : Int32)), .val (.int (own_le ((4 : Int32)) ((own_arr (nar .byte (F1 x1)) (nar .byte (F1 x2)) (nar .byte (F1 x3)) (nar .byte (F1 x4)))) 5 (-1) (if (x5 &&& (256 : Int32)) = (0 : Int32) then (x5 &&& (7 : Int32)) else (x5 &&& (2147483647 : Int32)))))] [(.int z39)])) (fun hc39 k39 => ?_) (fun hc39 k39 => ?_) ?_
      · refine XS.icmpNo X38.here hx rfl (hb hby at_145) rfl (teq hc39).2 ?_
        show Steps p.tables e below (T38.setTop (mkF m 148 #[.val (.int x1), .val (.int x2), .val (.int x3), .val (.int x4), .val (.int x5), .val (.ref b1), .val (.int (if (x5 &&& (256 : Int32)) = (0 : Int32) then (x5 &&& (7 : Int32)) else (x5 &&& (2147483647 : Int32)))), .val (.int (0 : Int32)), .val (.int (own_le ((4 : Int32)) ((own_arr (nar .byte (F1 x1)) (nar .byte (F1 x2)) (nar .byte (F1 x3)) (nar .byte (F1 x4)))) 5 (-1) (if (x5 &&& (256 : Int32)) = (0 : Int32) then (x5 &&& (7 : Int32)) else (x5 &&& (2147483647 : Int32)))))] [])) _
        refine XS.iconst X38.here hx rfl (hb hby at_148) ?_
        show Steps p.tables e below (T38.setTop (mkF m 149 #[.val (.int x1), .val (.int x2), .val (.int x3), .val (.int x4), .val (.int x5), .val (.ref b1), .val (.int (if (x5 &&& (256 : Int32)) = (0 : Int32) then (x5 &&& (7 : Int32)) else (x5 &&& (2147483647 : Int32)))), .val (.int (0 : Int32)), .val (.int (own_le ((4 : Int32)) ((own_arr (nar .byte (F1 x1)) (nar .byte (F1 x2)) (nar .byte (F1 x3)) (nar .byte (F1 x4)))) 5 (-1) (if (x5 &&& (256 : Int32)) = (0 : Int32) then (x5 &&& (7 : Int32)) else (x5 &&& (2147483647 : Int32)))))] [(.int (1 : Int32))])) _
        refine XS.goto X38.here hx rfl (pc0 := 149) (pc' := 153) rfl (hb hby at_149) (by decide) (by decide) ?_
        exact k39
      · refine XS.icmpYes X38.here hx rfl (pc0 := 145) (pc' := 152) rfl (hb hby at_145) rfl (feq hc39).2 (by decide) (by decide) ?_
        show Steps p.tables e below (T38.setTop (mkF m 152 #[.val (.int x1), .val (.int x2), .val (.int x3), .val (.int x4), .val (.int x5), .val (.ref b1), .val (.int (if (x5 &&& (256 : Int32)) = (0 : Int32) then (x5 &&& (7 : Int32)) else (x5 &&& (2147483647 : Int32)))), .val (.int (0 : Int32)), .val (.int (own_le ((4 : Int32)) ((own_arr (nar .byte (F1 x1)) (nar .byte (F1 x2)) (nar .byte (F1 x3)) (nar .byte (F1 x4)))) 5 (-1) (if (x5 &&& (256 : Int32)) = (0 : Int32) then (x5 &&& (7 : Int32)) else (x5 &&& (2147483647 : Int32)))))] [])) _
        refine XS.iconst X38.here hx rfl (hb hby at_152) ?_
        exact k39
      -- meets at 153
      show Steps p.tables e below (T38.setTop (mkF m 153 #[.val (.int x1), .val (.int x2), .val (.int x3), .val (.int x4), .val (.int x5), .val (.ref b1), .val (.int (if (x5 &&& (256 : Int32)) = (0 : Int32) then (x5 &&& (7 : Int32)) else (x5 &&& (2147483647 : Int32)))), .val (.int (0 : Int32)), .val (.int (own_le ((4 : Int32)) ((own_arr (nar .byte (F1 x1)) (nar .byte (F1 x2)) (nar .byte (F1 x3)) (nar .byte (F1 x4)))) 5 (-1) (if (x5 &&& (256 : Int32)) = (0 : Int32) then (x5 &&& (7 : Int32)) else (x5 &&& (2147483647 : Int32)))))] [(.int (if (own_le ((4 : Int32)) ((own_arr (nar .byte (F1 x1)) (nar .byte (F1 x2)) (nar .byte (F1 x3)) (nar .byte (F1 x4)))) 5 (-1) (if (x5 &&& (256 : Int32)) = (0 : Int32) then (x5 &&& (7 : Int32)) else (x5 &&& (2147483647 : Int32)))) = (0 : Int32) then (1 : Int32) else (0 : Int32)))])) _
      exact retN X38 hx (t := .boolean) Bd.returns (by simp) (hb hby at_153) (by rw [own_nb (own_b01 (Or.inr rfl) (Or.inl rfl))]; exact hr)
    · show Q0 Z x1 x2 x3 x4 x5 h0 n0 _ T38.heap _
      rw [e38]
      exact ⟨(congrArg (fun z => some (Value.int z)) (Eq.symm (if_neg hb25))), N38⟩

theorem own_found (n : Int32) (f : Nat → Int32) (k : Nat) (r i : Int32) (h : ¬ r < 0) : own_le n f k r i = r := by
  cases k with
  | zero => rfl
  | succ k => rw [own_le_s, if_neg h]; split <;> rfl
theorem own_st (n : Int32) (f : Nat → Int32) (k : Nat) (i : Int32) (hi : i < n) (h0 : ¬ i < 0) : own_le n f (k + 1) (-1) i = if f i.toNatClampNeg = (10 : Int32) then i else own_le n f k (-1) (i + (1 : Int32)) := by
  rw [own_le_s, if_pos hi, if_pos (by decide)]
  by_cases h : f i.toNatClampNeg = (10 : Int32)
  · rw [if_pos h, if_pos h, own_found _ _ _ _ _ h0]
  · rw [if_neg h, if_neg h]
theorem own_end (n : Int32) (f : Nat → Int32) (k : Nat) (i : Int32) (hi : ¬ i < n) : own_le n f k (-1) i = -1 := by
  cases k with
  | zero => rfl
  | succ k => rw [own_le_s, if_neg hi]
theorem own_f3 (f : Nat → Int32) (k : Nat) : own_le 4 f (k + 1) (-1) 3 = if f 3 = (10 : Int32) then 3 else -1 := by
  rw [own_st 4 f k 3 (by decide) (by decide), own_end _ _ _ _ (by decide)]; rfl
theorem own_f2 (f : Nat → Int32) (k : Nat) : own_le 4 f (k + 2) (-1) 2 = if f 2 = (10 : Int32) then 2 else if f 3 = (10 : Int32) then 3 else -1 := by
  rw [own_st 4 f (k + 1) 2 (by decide) (by decide), ← own_f3 f k]; rfl
theorem own_f1 (f : Nat → Int32) (k : Nat) : own_le 4 f (k + 3) (-1) 1 = if f 1 = (10 : Int32) then 1 else if f 2 = (10 : Int32) then 2 else if f 3 = (10 : Int32) then 3 else -1 := by
  rw [own_st 4 f (k + 2) 1 (by decide) (by decide), ← own_f2 f k]; rfl
theorem own_f0 (f : Nat → Int32) (k : Nat) : own_le 4 f (k + 4) (-1) 0 = if f 0 = (10 : Int32) then 0 else if f 1 = (10 : Int32) then 1 else if f 2 = (10 : Int32) then 2 else if f 3 = (10 : Int32) then 3 else -1 := by
  rw [own_st 4 f (k + 3) 0 (by decide) (by decide), ← own_f1 f k]; rfl
theorem own_core (s : Int32) (f : Nat → Int32) (h0 : 0 ≤ s.toInt) : (if F2 (0 : Int32) s f = (0 : Int32) then (if F2 (1 : Int32) s f = (0 : Int32) then (if F2 (2 : Int32) s f = (0 : Int32) then (if own_le (4 : Int32) f 5 (-1) s = (if F2 (3 : Int32) s f = (0 : Int32) then (-1 : Int32) else (3 : Int32)) then (1 : Int32) else (0 : Int32)) else (if own_le (4 : Int32) f 5 (-1) s = (2 : Int32) then (1 : Int32) else (0 : Int32))) else (if own_le (4 : Int32) f 5 (-1) s = (1 : Int32) then (1 : Int32) else (0 : Int32))) else (if own_le (4 : Int32) f 5 (-1) s = (0 : Int32) then (1 : Int32) else (0 : Int32))) = 1 := by
  have g0 : F2 (0 : Int32) s f = if (0 : Int32) < s then 0 else if f 0 = (10 : Int32) then 1 else 0 := rfl
  have g1 : F2 (1 : Int32) s f = if (1 : Int32) < s then 0 else if f 1 = (10 : Int32) then 1 else 0 := rfl
  have g2 : F2 (2 : Int32) s f = if (2 : Int32) < s then 0 else if f 2 = (10 : Int32) then 1 else 0 := rfl
  have g3 : F2 (3 : Int32) s f = if (3 : Int32) < s then 0 else if f 3 = (10 : Int32) then 1 else 0 := rfl
  rw [g0, g1, g2, g3]
  have l0 : (0 : Int32).toInt = 0 := rfl
  have l1 : (1 : Int32).toInt = 1 := rfl
  have l2 : (2 : Int32).toInt = 2 := rfl
  have l3 : (3 : Int32).toInt = 3 := rfl
  have l4 : (4 : Int32).toInt = 4 := rfl
  by_cases h4 : s < 4
  · rw [Int32.lt_iff_toInt_lt, l4] at h4
    have hs : s = 0 ∨ s = 1 ∨ s = 2 ∨ s = 3 := by simp only [← Int32.toInt_inj, l0, l1, l2, l3]; omega
    by_cases d0 : f 0 = (10 : Int32) <;> by_cases d1 : f 1 = (10 : Int32) <;> by_cases d2 : f 2 = (10 : Int32) <;> by_cases d3 : f 3 = (10 : Int32) <;> rcases hs with rfl | rfl | rfl | rfl <;>
      simp only [own_f0 f 1, own_f1 f 2, own_f2 f 3, own_f3 f 4, d0, d1, d2, d3, if_true, if_false] <;> decide
  · rw [own_end _ _ _ _ h4]
    rw [Int32.lt_iff_toInt_lt, l4] at h4
    have q0 : (0 : Int32) < s := by rw [Int32.lt_iff_toInt_lt, l0]; omega
    have q1 : (1 : Int32) < s := by rw [Int32.lt_iff_toInt_lt, l1]; omega
    have q2 : (2 : Int32) < s := by rw [Int32.lt_iff_toInt_lt, l2]; omega
    have q3 : (3 : Int32) < s := by rw [Int32.lt_iff_toInt_lt, l3]; omega
    rw [if_pos q0, if_pos q1, if_pos q2, if_pos q3]; decide
theorem own_plain (x1 x2 x3 x4 x5 : Int32) : F0 x1 x2 x3 x4 x5 = 1 := own_core _ _ (own_s_v x5)

set_option maxRecDepth 65536 in
set_option maxHeartbeats 40000000 in
theorem comes_1 {Post : Tables → Env → Array Value → State → Outcome → State → Prop} (hpost : ∀ tb e args s v u, (limb_1_1.after args s (.returned v) u = true ∧ limb_1_2.after args s (.returned v) u = true ∧ True) → FrameEnd s (.returned v) u (Jvm.fieldLocs frame_1_writes args s ++ Jvm.arrayLocs frame_1_arrays args s ++ Jvm.staticLocs frame_1_statics s) 16 128 → Post tb e args s (.returned v) u) :
    ArmFor flags0 classFile x code maxLocals ret World_1 tables_1 room_1 Calls_1 rest_1 Pre_1 Post := by
  intro l hfl _ _ p e ha hc hk s m args below hf hA hF happ hP
  obtain ⟨hcalls, hrest, hpre⟩ := hP
  obtain ⟨-, -, -, hnamed, -, -, -, hat⟩ := (Spec.applies_iff hf).mp happ
  obtain ⟨hg, hn⟩ := and_e (Cond.before_iff.mp (show (Jvm.Cond.and given_1 narrow_1).before args s = true from hpre))
  obtain ⟨hcount, t0⟩ := and_e hg
  obtain ⟨k0, t1⟩ := and_e t0
  obtain ⟨k1, t2⟩ := and_e t1
  obtain ⟨k2, t3⟩ := and_e t2
  obtain ⟨k3, t4⟩ := and_e t3
  have k4 := t4
  obtain ⟨w0, w1, w2, w3, w4, rfl⟩ : ∃ w0 w1 w2 w3 w4 : Value, args = #[w0, w1, w2, w3, w4] := by
    have hs : args.size = 5 := by simpa [Cond.value, given_1] using hcount
    obtain ⟨L⟩ := args
    match L, hs with
    | [w0, w1, w2, w3, w4], _ => exact ⟨w0, w1, w2, w3, w4, rfl⟩
  have hw := fun d (hd : d ∈ tables_1) => atoms_spec (ws := Jvm.Cond.code x code maxLocals ret :: tables_1) hat d (List.mem_cons_of_mem _ hd)
  obtain ⟨i0, ei0⟩ := is_v k0
  obtain rfl : w0 = (.int i0) := Option.some.inj ei0
  obtain ⟨i1, ei1⟩ := is_v k1
  obtain rfl : w1 = (.int i1) := Option.some.inj ei1
  obtain ⟨i2, ei2⟩ := is_v k2
  obtain rfl : w2 = (.int i2) := Option.some.inj ei2
  obtain ⟨i3, ei3⟩ := is_v k3
  obtain rfl : w3 = (.int i3) := Option.some.inj ei3
  obtain ⟨i4, ei4⟩ := is_v k4
  obtain rfl : w4 = (.int i4) := Option.some.inj ei4
  obtain ⟨n, o, h1, h2, h3, _, L, rfl, ⟨hv, N⟩, hq⟩ := rm0 l s _ hw tables_1 i0 i1 i2 i3 i4 s.heap s.heap.size (Nat.le_refl _) p e ha hc hk s m _ below hf ((Spec.applies_iff_loose hf).mp happ).1 ⟨rfl, State.Warmed39.refl s, rfl⟩ trivial
  rw [own_plain i0 i1 i2 i3 i4] at hv
  subst hv
  refine ⟨n, _, h1, h2, h3, hpost _ _ _ _ _ _ ⟨Cond.after_iff.mpr rfl, Cond.after_iff.mpr (eq_i res_at (Term.int_eval (1)) rfl), trivial⟩ ⟨hq.1, hq.2.1, (hq.2.2.sift fun y hy => Or.inr (N y hy)).mono (by decide) (by decide)⟩⟩
theorem main_1_1 : Claimed_1_1 := comes_1 fun _ _ _ _ _ _ h hF => ⟨h.1, hF⟩
theorem main_1_2 : Claimed_1_2 := comes_1 fun _ _ _ _ _ _ h hF => ⟨h.2.1, hF⟩
end Jvm.Pilot.@@N@@
namespace Jvm.Pilot.@@N@@
open Jvm Jvm.ClassFile Sem Op Lib Jvm.Free Jvm.Stand Jvm.Pilot.@@N@@.Jvm.D
/-! MADE BY PROGRAM (witnessworld.py) out of the Statement's table words and the real class files: 9 classes; the members and pool entries that the words name. The judged class is class 1, her method 3. -/
namespace start1
open Jvm.ClassFile
def u (s : String) : CpInfo := .utf8 (stringToUtf16 s)
/-- a pool by its gaps: so many unusable entries, then the entry; so many at the end -/
def gap : Nat → List CpInfo → List CpInfo
  | 0, r => r
  | n + 1, r => .unusable :: gap n r
def poolList (es : List (Nat × CpInfo)) (last : Nat) : List CpInfo := es.foldr (fun e r => gap e.1 (e.2 :: r)) (gap last [])
def pool (es : List (Nat × CpInfo)) (last : Nat) : Array CpInfo := ⟨poolList es last⟩
def fileOf (pool : Array CpInfo) (this : Nat) (attrs : Array Attribute := #[]) (ms : Array MethodInfo := #[]) (fl : Nat := 33) (sup : Nat := 0) (ifs : Array Nat := #[]) (fds : Array FieldInfo := #[]) : ClassFile where
  minorVersion := 0
  majorVersion := 65
  constantPool := pool
  accessFlags := fl
  thisClass := this
  superClass := sup
  interfaces := ifs
  fields := fds
  methods := ms
  attributes := attrs
def plain (name : String) (sup : Option ClassId) : Class where
  name := name
  kind := .ordinary
  loader := none
  accessFlags := 33
  super := sup
  interfaces := #[]
  cf := none
  fields := #[]
  methods := #[]
  instanceTypes := #[]
  staticTypes := #[]
  resolved := #[]
  callSites := []
  init := .initialized
  statics := none
  mirror := none

def pool0 : Array CpInfo := pool [(5, u "<init>"), (0, u "()V"), (1, .class_ 10), (1, u "java/lang/Object")] 113

def k0m0 : Method := { name := "<init>", desc := "()V", sig := { parameters := [], returnType := none }, accessFlags := 1, code := none }
/-- java/lang/Object -/
def k0 : Class := { plain "java/lang/Object" none with
  accessFlags := 33
  interfaces := #[]
  cf := some (fileOf pool0 8 #[] #[{ accessFlags := 1, nameIndex := 5, descriptorIndex := 6, attributes := #[] }] 33 0 #[] #[])
  fields := #[]
  methods := #[k0m0]
  instanceTypes := #[]
  staticTypes := #[]
  resolved := Array.replicate 124 none
  statics := none }

def pool1 : Array CpInfo := pool [(2, .class_ 4), (1, u "java/lang/Object"), (0, u "<init>"), (0, u "()V"), (0, .methodref 8 9), (0, .class_ 10), (0, .nameAndType 11 12), (0, u "com/example/trunkline/trunkline/message/MessageParserLineEndPinLaw"), (0, u "draw"), (0, u "(I)B"), (0, .integer 2147483647), (0, .methodref 8 15), (0, .nameAndType 16 17), (0, u "isEnd"), (0, u "([BII)Z"), (0, .methodref 19 20), (0, .class_ 21), (0, .nameAndType 22 23), (0, u "com/example/trunkline/trunkline/message/MessageParser"), (0, u "lineEnd"), (0, u "([BI)I"), (3, u "law"), (0, u "(IIIII)Z")] 4

def k1m0 : Method := { name := "<init>", desc := "()V", sig := { parameters := [], returnType := none }, accessFlags := 2, code := none }
def k1c1 : Code := { maxStack := 2, maxLocals := 1, code := method_2_code, exceptionTable := #[], attributes := #[] }
def k1m1 : Method := { name := "draw", desc := "(I)B", sig := { parameters := [.int], returnType := some .byte }, accessFlags := 10, code := some k1c1 }
def k1c2 : Code := { maxStack := 2, maxLocals := 3, code := method_3_code, exceptionTable := #[], attributes := #[] }
def k1m2 : Method := { name := "isEnd", desc := "([BII)Z", sig := { parameters := [(.array .byte), .int, .int], returnType := some .boolean }, accessFlags := 10, code := some k1c2 }
def k1c3 : Code := { maxStack := 3, maxLocals := 9, code := code, exceptionTable := #[], attributes := #[] }
def k1m3 : Method := { name := "law", desc := "(IIIII)Z", sig := { parameters := [.int, .int, .int, .int, .int], returnType := some .boolean }, accessFlags := 9, code := some k1c3 }
/-- com/example/trunkline/trunkline/message/MessageParserLineEndPinLaw -/
def k1 : Class := { plain "com/example/trunkline/trunkline/message/MessageParserLineEndPinLaw" (some 0) with
  accessFlags := 49
  interfaces := #[]
  cf := some (fileOf pool1 8 #[] #[{ accessFlags := 2, nameIndex := 5, descriptorIndex := 6, attributes := #[] }, { accessFlags := 10, nameIndex := 11, descriptorIndex := 12, attributes := #[] }, { accessFlags := 10, nameIndex := 16, descriptorIndex := 17, attributes := #[] }, { accessFlags := 9, nameIndex := 27, descriptorIndex := 28, attributes := #[] }] 49 2 #[] #[])
  fields := #[]
  methods := #[k1m0, k1m1, k1m2, k1m3]
  instanceTypes := #[]
  staticTypes := #[]
  resolved := Array.replicate 33 none
  statics := none }

def pool2 : Array CpInfo := pool [(2, .class_ 4), (1, u "java/lang/Object"), (0, u "<init>"), (0, u "()V"), (8, .class_ 17), (1, u "com/example/trunkline/trunkline/message/MessageParser"), (0, u "lineEnd"), (0, u "([BI)I"), (4, .class_ 25), (0, u "com/example/trunkline/trunkline/message/MessageParser$Head"), (64, .class_ 92), (1, u "com/example/trunkline/trunkline/message/MessageParser$Fields"), (13, .class_ 107), (0, u "com/example/trunkline/trunkline/message/MessageParser$Body"), (249, u "VERSION_NAME"), (0, u "Ljava/lang/String;"), (1, u "REASON_OFFSET"), (0, u "I"), (1, u "REPLACEMENT"), (0, u "C"), (0, u "LATIN1_MASK")] 46

def k2m0 : Method := { name := "<init>", desc := "()V", sig := { parameters := [], returnType := none }, accessFlags := 2, code := none }
def k2c1 : Code := { maxStack := 2, maxLocals := 4, code := prog_25_method_11_code, exceptionTable := #[], attributes := #[] }
def k2m1 : Method := { name := "lineEnd", desc := "([BI)I", sig := { parameters := [(.array .byte), .int], returnType := some .int }, accessFlags := 8, code := some k2c1 }
/-- com/example/trunkline/trunkline/message/MessageParser -/
def k2 : Class := { plain "com/example/trunkline/trunkline/message/MessageParser" (some 0) with
  accessFlags := 33
  interfaces := #[]
  cf := some (fileOf pool2 15 #[.nestMembers #[106, 90, 24]] #[{ accessFlags := 2, nameIndex := 5, descriptorIndex := 6, attributes := #[] }, { accessFlags := 8, nameIndex := 18, descriptorIndex := 19, attributes := #[] }] 33 2 #[] #[{ accessFlags := 26, nameIndex := 357, descriptorIndex := 358, attributes := #[] }, { accessFlags := 26, nameIndex := 360, descriptorIndex := 361, attributes := #[] }, { accessFlags := 26, nameIndex := 363, descriptorIndex := 364, attributes := #[] }, { accessFlags := 26, nameIndex := 365, descriptorIndex := 361, attributes := #[] }])
  fields := #[{ name := "VERSION_NAME", type := (.object "java/lang/String"), accessFlags := 26, slot := 0, constantValue := 0 }, { name := "REASON_OFFSET", type := .int, accessFlags := 26, slot := 1, constantValue := 0 }, { name := "REPLACEMENT", type := .char, accessFlags := 26, slot := 2, constantValue := 0 }, { name := "LATIN1_MASK", type := .int, accessFlags := 26, slot := 3, constantValue := 0 }]
  methods := #[k2m0, k2m1]
  instanceTypes := #[]
  staticTypes := #[(.object "java/lang/String"), .int, .char, .int]
  resolved := Array.replicate 412 none
  statics := none }

def pool3 : Array CpInfo := pool [(1, u "java/lang/Cloneable"), (0, .class_ 1), (0, u "java/lang/Object"), (0, .class_ 3)] 3

/-- java/lang/Cloneable -/
def k3 : Class := { plain "java/lang/Cloneable" (some 0) with
  accessFlags := 1537
  interfaces := #[]
  cf := some (fileOf pool3 2 #[] #[] 1537 4 #[] #[])
  fields := #[]
  methods := #[]
  instanceTypes := #[]
  staticTypes := #[]
  resolved := Array.replicate 8 none
  statics := none }

def pool4 : Array CpInfo := pool [(1, u "java/io/Serializable"), (0, .class_ 1), (0, u "java/lang/Object"), (0, .class_ 3)] 3

/-- java/io/Serializable -/
def k4 : Class := { plain "java/io/Serializable" (some 0) with
  accessFlags := 1537
  interfaces := #[]
  cf := some (fileOf pool4 2 #[] #[] 1537 4 #[] #[])
  fields := #[]
  methods := #[]
  instanceTypes := #[]
  staticTypes := #[]
  resolved := Array.replicate 8 none
  statics := none }

/-- the primitive byte -/
def k5 : Class := { plain "byte" none with kind := .primitive 'B', accessFlags := 0x411 }
/-- [B -/
def k6 : Class := { plain "[B" (some 0) with kind := .array 5 .byte, interfaces := #[3, 4], accessFlags := 1041 }

/-- the primitive int -/
def k7 : Class := { plain "int" none with kind := .primitive 'I', accessFlags := 0x411 }
/-- [I -/
def k8 : Class := { plain "[I" (some 0) with kind := .array 7 .int, interfaces := #[3, 4], accessFlags := 1041 }

def heap : Heap := #[]
def classes : Array Class := #[k0, k1, k2, k3, k4, k5, k6, k7, k8]
def interned : List (Array UInt16 × Addr) := []
def slotsUsed : Nat := 0
def theMethod : MethodId := ⟨1, 3⟩
def args0 : Array Value := #[.int 5, .int 5, .int 5, .int 5, .int 5]
def aboutOver (below : List Frame) : State where
  vm := { classes := classes, interned := interned.toArray }
  heap := heap
  slotsUsed := slotsUsed
  threads := #[{ frames := .invoking theMethod args0 :: below }]
def below0 : List Frame := [.native { method := ⟨0, 0⟩, args := #[] }]
def about1 : State := aboutOver below0
def p0 : Program := .bare "" "" ""
def e0 : Env := launch0.env 0 0 0
theorem w_frames : about1.frames = Frame.invoking theMethod args0 :: below0 := rfl
set_option maxRecDepth 65536 in
theorem w_args : argsFit about1.vm theMethod args0 = true := by decide +kernel
set_option maxRecDepth 65536 in
theorem w_heap : heapFits about1 = true := by decide +kernel
set_option maxRecDepth 65536 in
theorem w_runnable : about1.curStatus? = some .runnable := by decide +kernel
set_option maxRecDepth 65536 in
theorem w_alone : about1.alone = true := by decide +kernel
set_option maxRecDepth 65536 in
theorem w_named : about1.methodNamed? x = some theMethod := by decide +kernel
set_option maxRecDepth 65536 in
theorem w_hears : about1.hears theMethod below0 = true := by decide +kernel
set_option maxRecDepth 65536 in
theorem w_ripe : about1.ripe theMethod args0 below0 = true := by decide +kernel
theorem w_running : about1.status = .running := rfl
set_option maxRecDepth 65536 in
theorem w_room : about1.hasRoom e0.platform room_1 = true :=
  launch0.hasRoom_least _ room_1 (by decide +kernel) (by decide +kernel) (by decide +kernel) (by decide +kernel) (by decide +kernel) (by decide +kernel)
theorem allAtoms_all (ts : List Jvm.Cond) (a : Array Jvm.Value) (st : Jvm.State) : (allAtoms ts).before a st = ts.all (fun c => c.before a st) := by
  induction ts with
  | nil => rfl
  | cons c t ih =>
    show (Jvm.Cond.and c (allAtoms t)).before a st = _
    rw [Jvm.Cond.before_and, ih, List.all_cons]
def words1 : List Jvm.Cond := Jvm.Cond.code x code maxLocals ret :: tables_1
/-- a 'code' word, met by the world's own term for the bytes: nothing is compared byte by byte -/
theorem code_word {y : MethodName} {bytes : ByteArray} {mx : Nat} {rt : Option FieldType} {a : Array Value} {s : State} {m : MethodId} {meth : Method} {c : Code} (h1 : s.methodNamed? y = some m) (h2 : s.vm.method? m = some meth) (h3 : meth.code = some c) (h4 : c.code = bytes)
    (h5 : (c.maxLocals == mx && c.exceptionTable.isEmpty && decide (c.maxStack ≤ mostOperands) && decide (meth.sig.returnType = rt) && !meth.locks && decide (parseMethodDescriptor y.desc = some meth.sig)) = true) : (Jvm.Cond.code y bytes mx rt).before a s = true := by
  simp only [Bool.and_eq_true, beq_iff_eq, Bool.not_eq_true', decide_eq_true_eq] at h5
  obtain ⟨⟨⟨⟨⟨g1, g2⟩, g3⟩, g4⟩, g5⟩, g6⟩ := h5
  simp [Cond.before, Cond.holds, Cond.value, h1, h2, h3, h4, g1, g2, g3, g4, g5, g6]
def isCode : Jvm.Cond → Bool
  | .code _ _ _ _ => true
  | _ => false
theorem all_split {L : List Jvm.Cond} {P : Jvm.Cond → Bool} (h1 : L.all (fun c => isCode c || P c) = true) (h2 : ∀ c ∈ L.filter isCode, P c = true) : L.all P = true := by
  refine List.all_eq_true.mpr fun c hc => ?_
  have h := List.all_eq_true.mp h1 c hc
  rcases Bool.eq_false_or_eq_true (isCode c) with hi | hi
  · exact h2 c (List.mem_filter.mpr ⟨hc, hi⟩)
  · simpa [hi] using h
set_option maxRecDepth 65536 in
theorem w_c0 : (Jvm.Cond.code x code maxLocals ret).before args0 about1 = true := code_word (m := ⟨1, 3⟩) (meth := k1m3) (c := k1c3) (by decide +kernel) rfl rfl rfl (by decide +kernel)
set_option maxRecDepth 65536 in
theorem w_c1 : (Jvm.Cond.code ({ cls := "com/example/trunkline/trunkline/message/MessageParserLineEndPinLaw", name := "draw", desc := "(I)B" } : Jvm.MethodName) method_2_code (1 : Nat) (Option.some Jvm.ClassFile.FieldType.byte)).before args0 about1 = true := code_word (m := ⟨1, 1⟩) (meth := k1m1) (c := k1c1) (by decide +kernel) rfl rfl rfl (by decide +kernel)
set_option maxRecDepth 65536 in
theorem w_c2 : (Jvm.Cond.code ({ cls := "com/example/trunkline/trunkline/message/MessageParserLineEndPinLaw", name := "isEnd", desc := "([BII)Z" } : Jvm.MethodName) method_3_code (3 : Nat) (Option.some Jvm.ClassFile.FieldType.boolean)).before args0 about1 = true := code_word (m := ⟨1, 2⟩) (meth := k1m2) (c := k1c2) (by decide +kernel) rfl rfl rfl (by decide +kernel)
set_option maxRecDepth 65536 in
theorem w_c3 : (Jvm.Cond.code ({ cls := "com/example/trunkline/trunkline/message/MessageParser", name := "lineEnd", desc := "([BI)I" } : Jvm.MethodName) prog_25_method_11_code (4 : Nat) (Option.some Jvm.ClassFile.FieldType.int)).before args0 about1 = true := code_word (m := ⟨2, 1⟩) (meth := k2m1) (c := k2c1) (by decide +kernel) rfl rfl rfl (by decide +kernel)
def codes1 : List Jvm.Cond := [Jvm.Cond.code x code maxLocals ret, Jvm.Cond.code ({ cls := "com/example/trunkline/trunkline/message/MessageParserLineEndPinLaw", name := "draw", desc := "(I)B" } : Jvm.MethodName) method_2_code (1 : Nat) (Option.some Jvm.ClassFile.FieldType.byte), Jvm.Cond.code ({ cls := "com/example/trunkline/trunkline/message/MessageParserLineEndPinLaw", name := "isEnd", desc := "([BII)Z" } : Jvm.MethodName) method_3_code (3 : Nat) (Option.some Jvm.ClassFile.FieldType.boolean), Jvm.Cond.code ({ cls := "com/example/trunkline/trunkline/message/MessageParser", name := "lineEnd", desc := "([BI)I" } : Jvm.MethodName) prog_25_method_11_code (4 : Nat) (Option.some Jvm.ClassFile.FieldType.int)]
set_option maxRecDepth 65536 in
theorem codes_eq : words1.filter isCode = codes1 := rfl
theorem w_codes : ∀ c ∈ words1.filter isCode, c.before args0 about1 = true := by
  rw [codes_eq]
  intro c hc
  simp only [codes1, List.mem_cons, List.not_mem_nil, or_false] at hc
  rcases hc with rfl | rfl | rfl | rfl
  · exact w_c0
  · exact w_c1
  · exact w_c2
  · exact w_c3
set_option maxRecDepth 65536 in
theorem w_t1 : words1.all (fun c => isCode c || c.before args0 about1) = true := by decide +kernel
theorem w_tables : (allAtoms (Jvm.Cond.code x code maxLocals ret :: tables_1)).before args0 about1 = true := by
  rw [allAtoms_all]
  show words1.all (fun c => c.before args0 about1) = true
  refine all_split ?_ w_codes
  rw [w_t1]
set_option maxRecDepth 65536 in
theorem w_case : (Jvm.Cond.and given_1 narrow_1).before args0 about1 = true := by decide +kernel
theorem w_applies : (headSpec (Jvm.Cond.code x code maxLocals ret :: tables_1) room_1).applies x e0.platform about1 = true :=
  (Spec.applies_iff w_frames).mpr ⟨w_running, w_runnable, w_alone, w_named, w_hears, w_ripe, w_room, w_tables⟩
theorem atStart : AtStart classFile x code maxLocals ret World_1 tables_1 room_1 Calls_1 rest_1 Pre_1 launch0 p0 e0 about1 theMethod args0 below0 :=
  ⟨lists_1, trivial, launch0.admits_env _ _ _, launch0.least_env, fairChoices_fair.cas, fairChoices_fair.clock, w_frames, w_args, w_heap, w_applies, trivial, trivial, w_case⟩
end start1
theorem witness_1 : WitnessClaimed_1 := ⟨start1.p0, start1.e0, start1.about1, start1.theMethod, start1.args0, start1.below0, start1.atStart⟩
end Jvm.Pilot.@@N@@
