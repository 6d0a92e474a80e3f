import JvmDerived
import JvmDerived.Pilot.@@N@@Statement
import JvmDerived.Pilot.@@N@@Code
set_option linter.unusedVariables false
set_option linter.unusedSimpArgs false
@@BLOCK:NumsL.lean.txt@@
namespace Jvm.RoadKit
open Sem ClassFile Op Lib Jvm.Stand Jvm.Free Jvm.LawKit
section New
variable {p : Program} {l : Launch} {e : Env} {R : Room} {s : State} {m : MethodId} {args : Array Value} {below : List Frame} {meth : Method} {c : Code} {T : State} {locs : List Loc} {cells slots : Nat}
theorem retI (X : Stand p l e R s m args below meth c T locs cells slots) (hx : p.tables.exec = Jvm.exec) {pc : Nat} {Ls : Array Slot} {z : Int32} {rest : List Value} (hret : meth.sig.returnType = some .int) (hd : decode c.code pc = .ok (.ireturn, 1)) {fs : List Frame}
    (hl : ∀ (f : JFrame) (acts : List Action), f.method = m → f.locked = none → f.entered = [] → (doReturn e (T.setTop f) acts (some (.int z))).1 = T.setFrames fs) : Steps p.tables e below (T.setTop (mkF m pc Ls (.int z :: rest))) (T.setFrames fs) := by
  have hm' : T.vm.method? m = some meth := X.method'
  have hn : narrow .int (.int z) = .int z := rfl
  show Steps p.tables e below (T.setTop { method := m, pc := pc, locals := Ls, stack := _ :: rest, locked := none }) _
  jvm_step X.here [X.here.top, hx, hd, hm', hret, hn]
  first | (intro acts; rw [hl _ acts rfl rfl rfl]) | rw [hl _ _ rfl rfl rfl]
  exact Steps.refl _
end New
theorem own_dia {tb : Tables} {e : Env} {below : List Frame} {T tgt : State} {g : JFrame} {A : Type} {u v : A} (q : Prop) [Decidable q] (f : A → JFrame)
    (h1 : q → Steps tb e below (T.setTop (f u)) tgt → Steps tb e below (T.setTop g) tgt) (h0 : ¬ q → Steps tb e below (T.setTop (f v)) tgt → Steps tb e below (T.setTop g) tgt)
    (k : Steps tb e below (T.setTop (f (if q then u else v))) tgt) : Steps tb e below (T.setTop g) tgt := by
  by_cases hq : q
  · rw [if_pos hq] at k; exact h1 hq k
  · rw [if_neg hq] at k; exact h0 hq k
theorem own_cast {tb : Tables} {e : Env} {below : List Frame} {T tgt : State} {A : Type} {u v : A} (f : A → JFrame) (h : u = v) (k : Steps tb e below (T.setTop (f v)) tgt) : Steps tb e below (T.setTop (f u)) tgt := h ▸ k
theorem own_llt {x y : Int64} (h : x < y) : ifCond.holds .lt (lcmpW x y) = true ∧ ifCond.holds .ge (lcmpW x y) = false := by
  rw [if0, if0]; exact ⟨(tlt ((lw_lt x y).mpr h)).1, (tlt ((lw_lt x y).mpr h)).2.1⟩
theorem own_lge {x y : Int64} (h : ¬ x < y) : ifCond.holds .lt (lcmpW x y) = false ∧ ifCond.holds .ge (lcmpW x y) = true := by
  rw [if0, if0]; exact ⟨(flt fun q => h ((lw_lt x y).mp q)).1, (flt fun q => h ((lw_lt x y).mp q)).2.1⟩
theorem own_lgt {x y : Int64} (h : y < x) : ifCond.holds .gt (lcmpW x y) = true ∧ ifCond.holds .le (lcmpW x y) = false := by
  rw [if0, if0]; exact ⟨(tlt ((lw_gt x y).mpr h)).2.2.1, (tlt ((lw_gt x y).mpr h)).2.2.2⟩
theorem own_lle {x y : Int64} (h : ¬ y < x) : ifCond.holds .gt (lcmpW x y) = false ∧ ifCond.holds .le (lcmpW x y) = true := by
  rw [if0, if0]; exact ⟨(flt fun q => h ((lw_gt x y).mp q)).2.2.1, (flt fun q => h ((lw_gt x y).mp q)).2.2.2⟩
theorem own_leq {x y : Int64} (h : x = y) : ifCond.holds .eq (lcmpW x y) = true ∧ ifCond.holds .ne (lcmpW x y) = false := by
  rw [if0, if0]; exact ⟨(teq ((lw_eq x y).mpr h)).1, (teq ((lw_eq x y).mpr h)).2⟩
theorem own_lne {x y : Int64} (h : ¬ x = y) : ifCond.holds .eq (lcmpW x y) = false ∧ ifCond.holds .ne (lcmpW x y) = true := by
  rw [if0, if0]; exact ⟨(feq fun q => h ((lw_eq x y).mp q)).1, (feq fun q => h ((lw_eq x y).mp q)).2⟩
theorem own_bt {q : Prop} [Decidable q] (h : q) : ifCond.holds .ne (if q then (1 : Int32) else (0 : Int32)) = true ∧ ifCond.holds .eq (if q then (1 : Int32) else (0 : Int32)) = false := by
  rw [if_pos h]; exact ⟨rfl, rfl⟩
theorem own_bf {q : Prop} [Decidable q] (h : ¬ q) : ifCond.holds .ne (if q then (1 : Int32) else (0 : Int32)) = false ∧ ifCond.holds .eq (if q then (1 : Int32) else (0 : Int32)) = true := by
  rw [if_neg h]; exact ⟨rfl, rfl⟩
theorem own_ct {q : Prop} [Decidable q] (h : q) : ifCond.holds .ne (if q then (0 : Int32) else (1 : Int32)) = false ∧ ifCond.holds .eq (if q then (0 : Int32) else (1 : Int32)) = true := by
  rw [if_pos h]; exact ⟨rfl, rfl⟩
theorem own_cf {q : Prop} [Decidable q] (h : ¬ q) : ifCond.holds .ne (if q then (0 : Int32) else (1 : Int32)) = true ∧ ifCond.holds .eq (if q then (0 : Int32) else (1 : Int32)) = false := by
  rw [if_neg h]; exact ⟨rfl, rfl⟩
theorem own_b01 {q : Prop} [Decidable q] {x y : Int32} (hx : x = 0 ∨ x = 1) (hy : y = 0 ∨ y = 1) : (if q then x else y) = 0 ∨ (if q then x else y) = 1 := by
  split <;> assumption
def Arf (Z : State) (h : Heap) (a : Addr) (ty : FieldType) (n : Int32) (f : Nat → Value) : Prop :=
  ∃ c : Cell, Arr Z h a c ty ∧ c.slots.size = n.toNatClampNeg ∧ ¬ n < 0 ∧ ∀ i, i < n.toNatClampNeg → c.slots[i]? = some (f i)
theorem Arf.lt {Z : State} {h : Heap} {a : Addr} {ty : FieldType} {n : Int32} {f : Nat → Value} (F : Arf Z h a ty n f) : a < h.size := by
  obtain ⟨c, A, -⟩ := F; exact A.lt
theorem Arf.ext {Z : State} {h h' : Heap} {a : Addr} {ty : FieldType} {n : Int32} {f : Nat → Value} (F : Arf Z h a ty n f) (E : Ext h h') : Arf Z h' a ty n f := by
  obtain ⟨c, A, r⟩ := F; exact ⟨c, A.ext E, r⟩
theorem Arf.other {Z : State} {h h' : Heap} {a b : Addr} {sl : Nat} {v : Value} {ty : FieldType} {n : Int32} {f : Nat → Value} (F : Arf Z h b ty n f) (W : Wr h h' a sl v) (q : b ≠ a) : Arf Z h' b ty n f := by
  obtain ⟨c, A, r⟩ := F; exact ⟨c, A.other W q, r⟩
theorem Arf.keep {Z : State} {h h' : Heap} {a : Addr} {ws : List Addr} {ty : FieldType} {n : Int32} {f : Nat → Value} (F : Arf Z h a ty n f) (K : Keep h h' ws) (q : a ∉ ws) : Arf Z h' a ty n f := by
  obtain ⟨c, A, r⟩ := F; exact ⟨c, ⟨K.2.1 a c A.1 q, A.2⟩, r⟩
theorem own_arf_new {Z : State} {h : Heap} {a : Addr} {k : ClassId} {ty : FieldType} {z : Int32} (A : Arr Z h a (newA k ty z) ty) (q : ¬ z < 0) : Arf Z h a ty z (fun _ => defaultValue ty) :=
  ⟨_, A, sz_new _ _ _, q, fun i hi => by simp [newA, hi]⟩
theorem own_arf_set {Z : State} {h h' : Heap} {a : Addr} {ty : FieldType} {n : Int32} {f : Nat → Value} {j : Nat} {v : Value} (F : Arf Z h a ty n f) (W : Wr h h' a j v) : Arf Z h' a ty n (fun i => if i = j then v else f i) := by
  obtain ⟨c, A, S, M, H⟩ := F
  refine ⟨_, A.same W, by rw [sz_set]; exact S, M, fun i hi => ?_⟩
  show _ = some (if i = j then v else f i)
  by_cases u : i = j
  · subst u; rw [if_pos rfl]; rw [← S] at hi; simp [Cell.setSlot, hi]
  · rw [if_neg u]; have := H i hi; simp only [Cell.setSlot]; rw [Array.getElem?_setIfInBounds_ne (Ne.symm u)]; exact this
theorem own_arf_fn {Z : State} {h : Heap} {a : Addr} {ty : FieldType} {n : Int32} {f g : Nat → Value} (F : Arf Z h a ty n f) (q : ∀ i, i < n.toNatClampNeg → f i = g i) : Arf Z h a ty n g := by
  obtain ⟨c, A, S, M, H⟩ := F
  exact ⟨c, A, S, M, fun i hi => by rw [← q i hi]; exact H i hi⟩
theorem own_arf_setI {Z : State} {h h' : Heap} {a : Addr} {ty : FieldType} {n : Int32} {f : Nat → Int32} {j : Nat} {v : Int32} (F : Arf Z h a ty n (fun i => Value.int (f i))) (W : Wr h h' a j (.int v)) : Arf Z h' a ty n (fun i => Value.int (if i = j then v else f i)) :=
  own_arf_fn (own_arf_set F W) fun i _ => by by_cases u : i = j <;> simp [u]
theorem own_arf_setL {Z : State} {h h' : Heap} {a : Addr} {ty : FieldType} {n : Int32} {f : Nat → Int64} {j : Nat} {v : Int64} (F : Arf Z h a ty n (fun i => Value.long (f i))) (W : Wr h h' a j (.long v)) : Arf Z h' a ty n (fun i => Value.long (if i = j then v else f i)) :=
  own_arf_fn (own_arf_set F W) fun i _ => by by_cases u : i = j <;> simp [u]
theorem own_arf_at {c : Cell} {n j : Int32} {f : Nat → Value} (H : ∀ i, i < n.toNatClampNeg → c.slots[i]? = some (f i)) (S : c.slots.size = n.toNatClampNeg) (q : ¬ (j < 0 ∨ c.slots.size ≤ j.toNatClampNeg)) : c.slots[j.toNatClampNeg]? = some (f j.toNatClampNeg) :=
  H _ (by rw [← S]; exact Nat.lt_of_not_le fun y => q (Or.inr y))
theorem own_nb {x : Int32} (h : x = 0 ∨ x = 1) : nar .boolean x = x := by
  rcases h with rfl | rfl <;> rfl
end Jvm.RoadKit
namespace Jvm.Pilot.@@N@@
open Jvm Jvm.ClassFile Sem Op Lib Jvm.Free Jvm.Stand Jvm.LawKit Jvm.RoadKit Bundle Jvm.Pilot.@@N@@.Jvm.D

def own_arr (d0 d1 d2 d3 : Int32) : Nat → Int32
  | 0 => d0
  | 1 => d1
  | 2 => d2
  | _ => d3
theorem own_four {f g : Nat → Value} (h0 : f 0 = g 0) (h1 : f 1 = g 1) (h2 : f 2 = g 2) (h3 : f 3 = g 3) : ∀ i, i < (4 : Int32).toNatClampNeg → f i = g i := fun i hi => by
  have hi' : i < 4 := hi
  match i, hi' with
  | 0, _ => exact h0
  | 1, _ => exact h1
  | 2, _ => exact h2
  | 3, _ => exact h3
def own_de (t : Int32) (f : Nat → Int32) : Nat → Int32 → Int32
  | 0, i => i
  | k + 1, i => if i < t then (if f i.toNatClampNeg < (48 : Int32) then i else (if (57 : Int32) < f i.toNatClampNeg then i else own_de t f k (i + (1 : Int32)))) else i
theorem own_de_s (t : Int32) (f : Nat → Int32) (k : Nat) (i : Int32) : own_de t f (k + 1) i = if i < t then (if f i.toNatClampNeg < (48 : Int32) then i else (if (57 : Int32) < f i.toNatClampNeg then i else own_de t f k (i + (1 : Int32)))) else i := rfl
theorem own_add1 {n i : Int32} (h0 : ¬ i < 0) (hc : i < n) : (i + (1 : Int32)).toInt = i.toInt + 1 := by
  have e0 : (0 : Int32).toInt = 0 := rfl
  have e1 : (1 : Int32).toInt = 1 := rfl
  have := n.toInt_lt
  rw [Int32.lt_iff_toInt_lt] at h0 hc
  have e2 : (i + (1 : Int32)).toInt = i.toInt + (1 : Int32).toInt := Jvm.Kit.i32_add (by omega) (by omega)
  rw [e2, e1]
theorem own_next {n i : Int32} {k : Nat} (hk : n.toInt - i.toInt ≤ (k + 1 : Nat)) (h0 : ¬ i < 0) (hc : i < n) : n.toInt - (i + (1 : Int32)).toInt ≤ (k : Nat) ∧ ¬ (i + (1 : Int32)) < 0 := by
  have e0 : (0 : Int32).toInt = 0 := rfl
  have e2 := own_add1 h0 hc
  rw [Int32.lt_iff_toInt_lt] at h0 hc ⊢; omega
theorem own_stop {n i : Int32} (hk : n.toInt - i.toInt ≤ (0 : Nat)) : ¬ i < n := by
  rw [Int32.lt_iff_toInt_lt]; omega
theorem own_ltle {n t i : Int32} (hc : i < t) (ht : t.toInt ≤ n.toInt) : i < n := by
  rw [Int32.lt_iff_toInt_lt] at hc ⊢; omega

theorem d3_0 : decode method_2_code 0 = .ok (.iload_n 0, 1) := by decide +kernel
theorem d3_1 : decode method_2_code 1 = .ok (.bipush 48, 2) := by decide +kernel
theorem d3_3 : decode method_2_code 3 = .ok (.if_icmp .lt 13, 3) := by decide +kernel
theorem d3_6 : decode method_2_code 6 = .ok (.iload_n 0, 1) := by decide +kernel
theorem d3_7 : decode method_2_code 7 = .ok (.bipush 57, 2) := by decide +kernel
theorem d3_9 : decode method_2_code 9 = .ok (.if_icmp .gt 7, 3) := by decide +kernel
theorem d3_12 : decode method_2_code 12 = .ok (.iconst 1, 1) := by decide +kernel
theorem d3_13 : decode method_2_code 13 = .ok (.goto 4, 3) := by decide +kernel
theorem d3_16 : decode method_2_code 16 = .ok (.iconst 0, 1) := by decide +kernel
theorem d3_17 : decode method_2_code 17 = .ok (.ireturn, 1) := by decide +kernel
theorem pn_3 : plainName "com/example/ponca/ponca/protocol/DecimalDigitsEndPinLaw" = true := by first | (simp [plainName, overriddenIn]; done) | decide +kernel
theorem ef_3 (m : MethodId) (vb : Int32) : entryFrame m #[(.int vb)] 1 = mkF m 0 #[.val (.int vb)] [] := by first | (simp [entryFrame, mkF, argsToLocals, Value.category]; done) | rfl
def F3 (vb : Int32) : Int32 := (if vb < (48 : Int32) then (0 : Int32) else (if (57 : Int32) < vb then (0 : Int32) else (1 : Int32)))
def Q3 (Z : State) (vb : Int32) (h0 : Heap) (n0 : Nat) (v : Option Value) (h : Heap) (L : List Loc) : Prop := v = some (.int (F3 vb)) ∧ Fr n0 L ∧ h = h0
set_option maxRecDepth 65536 in
set_option maxHeartbeats 40000000 in
theorem rm3 (l : Launch) (Z : State) (a0 : Array Value) (hw : ∀ d ∈ tables_1, d.before a0 Z = true) (ws : List Jvm.Cond) (vb : Int32) (h0 : Heap) (n0 : Nat) (Z0 : n0 ≤ h0.size)  :
    MetFree l (⟨"com/example/ponca/ponca/protocol/DecimalDigitsEndPinLaw", "isDigit", "(B)Z"⟩ : MethodName) (head1 (Jvm.Cond.code (⟨"com/example/ponca/ponca/protocol/DecimalDigitsEndPinLaw", "isDigit", "(B)Z"⟩ : MethodName) method_2_code 1 (some .boolean) :: ws) ({ frames := 0, cells := 0, slots := 0, locals := 0 } : Room)) (fun a U => a = #[(.int vb)] ∧ Z.Warmed39 U.vm ∧ U.heap = h0) (fun _ _ _ _ _ => True) (fun _ U o U' => ∃ v L, o = .returned v ∧ Q3 Z vb h0 n0 v U'.heap L ∧ FrameEnd U o U' L ({ frames := 0, cells := 0, slots := 0, locals := 0 } : Room).cells ({ frames := 0, cells := 0, slots := 0, locals := 0 } : Room).slots) := by
  refine MetFree.of_bodySF (plainFor_of_name pn_3) hisR ?_
  intro p e s m args below meth c s₁ Bd hml0 hP hK
  obtain ⟨rfl, hZ, hh⟩ := hP
  have hx := Bd.exec
  have hby := Bd.bytes
  have hml : c.maxLocals = 1 := hml0
  have hown : s.vm.findClass "com/example/ponca/ponca/protocol/DecimalDigitsEndPinLaw" = some m.cls := findClass_of_methodNamed Bd.named
  have hnm := (name_of_methodNamed Bd.named Bd.method).1
  have X0 : Stand p l e ({ frames := 0, cells := 0, slots := 0, locals := 0 } : Room) s m #[(.int vb)] below meth c s₁ [] 0 0 := Stand.of_body Bd
  have e0 : s₁.heap = h0 := by rw [← hh, Bd.state]; rfl
  have N0 := Fr.nil n0
  have pre0 : ∀ t, Steps p.tables e below (s₁.setTop (mkF m 0 #[.val (.int vb)] [])) t → Steps p.tables e below (s₁.setTop (entryFrame m #[(.int vb)] 1)) t := fun t k => castTop (ef_3 m vb) k
  obtain ⟨fs, hr, hrun, hended, hW, hsame⟩ := X0.leave (v := some (.int (if vb < (48 : Int32) then (0 : Int32) else (if (57 : Int32) < vb then (0 : Int32) else (1 : Int32))))) (fun h => by rw [Bd.returns] at h; cases h)
  refine ⟨_, _, pre0 _ ?_, hrun, hended, _, _, rfl, ?_, ⟨_, rfl⟩, hW, hsame.mono (by decide) (by decide)⟩
  · show Steps p.tables e below (s₁.setTop (mkF m 0 #[.val (.int vb)] [])) _
    refine XS.iloadN X0.here hx rfl (hb hby d3_0) rfl ?_
    show Steps p.tables e below (s₁.setTop (mkF m 1 #[.val (.int vb)] [(.int vb)])) _
    refine XS.bipush X0.here hx rfl (hb hby d3_1) ?_
    show Steps p.tables e below (s₁.setTop (mkF m 3 #[.val (.int vb)] [(.int (48 : Int32)), (.int vb)])) _
    refine own_dia (u := ((0 : Int32) : Int32)) (v := (if (57 : Int32) < vb then (0 : Int32) else (1 : Int32))) (vb < (48 : Int32)) (fun z1 => (mkF m 17 #[.val (.int vb)] [(.int z1)])) (fun hc1 k1 => ?_) (fun hc1 k1 => ?_) ?_
    · refine XS.icmpYes X0.here hx rfl (pc0 := 3) (pc' := 16) rfl (hb hby d3_3) rfl (tlt hc1).1 (by decide) (by decide) ?_
      show Steps p.tables e below (s₁.setTop (mkF m 16 #[.val (.int vb)] [])) _
      refine XS.iconst X0.here hx rfl (hb hby d3_16) ?_
      exact k1
    · refine XS.icmpNo X0.here hx rfl (hb hby d3_3) rfl (flt hc1).1 ?_
      show Steps p.tables e below (s₁.setTop (mkF m 6 #[.val (.int vb)] [])) _
      refine XS.iloadN X0.here hx rfl (hb hby d3_6) rfl ?_
      show Steps p.tables e below (s₁.setTop (mkF m 7 #[.val (.int vb)] [(.int vb)])) _
      refine XS.bipush X0.here hx rfl (hb hby d3_7) ?_
      show Steps p.tables e below (s₁.setTop (mkF m 9 #[.val (.int vb)] [(.int (57 : Int32)), (.int vb)])) _
      refine own_dia (u := ((0 : Int32) : Int32)) (v := (1 : Int32)) ((57 : Int32) < vb) (fun z2 => (mkF m 17 #[.val (.int vb)] [(.int z2)])) (fun hc2 k2 => ?_) (fun hc2 k2 => ?_) ?_
      · refine XS.icmpYes X0.here hx rfl (pc0 := 9) (pc' := 16) rfl (hb hby d3_9) rfl (tlt hc2).2.2.1 (by decide) (by decide) ?_
        show Steps p.tables e below (s₁.setTop (mkF m 16 #[.val (.int vb)] [])) _
        refine XS.iconst X0.here hx rfl (hb hby d3_16) ?_
        exact k2
      · refine XS.icmpNo X0.here hx rfl (hb hby d3_9) rfl (flt hc2).2.2.1 ?_
        show Steps p.tables e below (s₁.setTop (mkF m 12 #[.val (.int vb)] [])) _
        refine XS.iconst X0.here hx rfl (hb hby d3_12) ?_
        show Steps p.tables e below (s₁.setTop (mkF m 13 #[.val (.int vb)] [(.int (1 : Int32))])) _
        refine XS.goto X0.here hx rfl (pc0 := 13) (pc' := 17) rfl (hb hby d3_13) (by decide) (by decide) ?_
        exact k2
      -- meets at 17
      exact k1
    -- meets at 17
    show Steps p.tables e below (s₁.setTop (mkF m 17 #[.val (.int vb)] [(.int (if vb < (48 : Int32) then (0 : Int32) else (if (57 : Int32) < vb then (0 : Int32) else (1 : Int32))))])) _
    exact retN X0 hx (t := .boolean) Bd.returns (by simp) (hb hby d3_17) (by rw [own_nb (own_b01 (Or.inl rfl) (own_b01 (Or.inl rfl) (Or.inr rfl)))]; exact hr)
  · show Q3 Z vb h0 n0 _ s₁.heap _
    rw [e0]
    exact ⟨rfl, N0, rfl⟩
theorem d1_2 : decode prog_20_method_4_code 2 = .ok (.iload_n 3, 1) := by decide +kernel
theorem d1_3 : decode prog_20_method_4_code 3 = .ok (.iload_n 2, 1) := by decide +kernel
theorem d1_4 : decode prog_20_method_4_code 4 = .ok (.if_icmp .ge 25, 3) := by decide +kernel
theorem d1_7 : decode prog_20_method_4_code 7 = .ok (.aload_n 0, 1) := by decide +kernel
theorem d1_8 : decode prog_20_method_4_code 8 = .ok (.iload_n 3, 1) := by decide +kernel
theorem d1_9 : decode prog_20_method_4_code 9 = .ok (.baload, 1) := by decide +kernel
theorem d1_10 : decode prog_20_method_4_code 10 = .ok (.bipush 48, 2) := by decide +kernel
theorem d1_12 : decode prog_20_method_4_code 12 = .ok (.if_icmp .lt 17, 3) := by decide +kernel
theorem d1_15 : decode prog_20_method_4_code 15 = .ok (.aload_n 0, 1) := by decide +kernel
theorem d1_16 : decode prog_20_method_4_code 16 = .ok (.iload_n 3, 1) := by decide +kernel
theorem d1_17 : decode prog_20_method_4_code 17 = .ok (.baload, 1) := by decide +kernel
theorem d1_18 : decode prog_20_method_4_code 18 = .ok (.bipush 57, 2) := by decide +kernel
theorem d1_20 : decode prog_20_method_4_code 20 = .ok (.if_icmp .gt 9, 3) := by decide +kernel
theorem d1_23 : decode prog_20_method_4_code 23 = .ok (.iinc 3 1, 3) := by decide +kernel
theorem d1_26 : decode prog_20_method_4_code 26 = .ok (.goto (-24), 3) := by decide +kernel
set_option maxRecDepth 65536 in
set_option maxHeartbeats 40000000 in
theorem loop1 {p : Program} {l : Launch} {e : Env} {R : Room} {s : State} {m : MethodId} {args : Array Value} {below : List Frame} {meth : Method} {c : Code} {locs : List Loc} {cells slots : Nat} {Z : State} {a0 : Array Value} {h0 : Heap} {T0 : State} {va : Addr} {vs vt vn : Int32} {vf : Nat → Int32} (X0 : Stand p l e R s m args below meth c T0 locs cells slots) (hx : p.tables.exec = Jvm.exec) (hZ : Z.Warmed39 s.vm) (hw : ∀ d ∈ tables_1, d.before a0 Z = true) (hby : c.code = prog_20_method_4_code) (hml : c.maxLocals = 4) (hown : s.vm.findClass "com/example/ponca/ponca/protocol/Decimal" = some m.cls) (e0 : T0.heap = h0) (V_va : Arf Z h0 va .byte vn (fun i => Value.int (vf i))) (ht : vt.toInt ≤ vn.toInt) :
    ∀ (k : Nat) (vi : Int32), vt.toInt - vi.toInt ≤ (k : Nat) → ¬ vi < 0 → ∀ target, Steps p.tables e below (T0.setTop (mkF m 29 #[.val (.ref va), .val (.int vs), .val (.int vt), .val (.int (own_de vt vf k vi))] [])) target → Steps p.tables e below (T0.setTop (mkF m 2 #[.val (.ref va), .val (.int vs), .val (.int vt), .val (.int vi)] [])) target := by
  intro k
  induction k with
  | zero =>
    intro vi hk h0 target kt
    show Steps p.tables e below (T0.setTop (mkF m 2 #[.val (.ref va), .val (.int vs), .val (.int vt), .val (.int vi)] [])) _
    refine XS.iloadN X0.here hx rfl (hb hby d1_2) rfl ?_
    show Steps p.tables e below (T0.setTop (mkF m 3 #[.val (.ref va), .val (.int vs), .val (.int vt), .val (.int vi)] [(.int vi)])) _
    refine XS.iloadN X0.here hx rfl (hb hby d1_3) rfl ?_
    show Steps p.tables e below (T0.setTop (mkF m 4 #[.val (.ref va), .val (.int vs), .val (.int vt), .val (.int vi)] [(.int vt), (.int vi)])) _
    refine XS.icmpYes X0.here hx rfl (pc0 := 4) (pc' := 29) rfl (hb hby d1_4) rfl (flt (own_stop hk : ¬ (vi < vt))).2.1 (by decide) (by decide) ?_
    exact kt
  | succ k ih =>
    intro vi hk h0 target kt
    by_cases hb1 : vi < vt
    · have Vo2 := V_va
      obtain ⟨cl2, Ar2, S2, M2, H2⟩ := Vo2
      by_cases hb4 : (vf (vi).toNatClampNeg) < (48 : Int32)
      · rw [own_de_s, if_pos hb1, if_pos hb4] at kt
        show Steps p.tables e below (T0.setTop (mkF m 2 #[.val (.ref va), .val (.int vs), .val (.int vt), .val (.int vi)] [])) _
        refine XS.iloadN X0.here hx rfl (hb hby d1_2) rfl ?_
        show Steps p.tables e below (T0.setTop (mkF m 3 #[.val (.ref va), .val (.int vs), .val (.int vt), .val (.int vi)] [(.int vi)])) _
        refine XS.iloadN X0.here hx rfl (hb hby d1_3) rfl ?_
        show Steps p.tables e below (T0.setTop (mkF m 4 #[.val (.ref va), .val (.int vs), .val (.int vt), .val (.int vi)] [(.int vt), (.int vi)])) _
        refine XS.icmpNo X0.here hx rfl (hb hby d1_4) rfl (tlt hb1).2.1 ?_
        show Steps p.tables e below (T0.setTop (mkF m 7 #[.val (.ref va), .val (.int vs), .val (.int vt), .val (.int vi)] [])) _
        refine XS.aloadN X0.here hx rfl (hb hby d1_7) rfl rfl ?_
        show Steps p.tables e below (T0.setTop (mkF m 8 #[.val (.ref va), .val (.int vs), .val (.int vt), .val (.int vi)] [(.ref va)])) _
        refine XS.iloadN X0.here hx rfl (hb hby d1_8) rfl ?_
        show Steps p.tables e below (T0.setTop (mkF m 9 #[.val (.ref va), .val (.int vs), .val (.int vt), .val (.int vi)] [(.int vi), (.ref va)])) _
        have hin3 : ¬ (vi < 0 ∨ cl2.slots.size ≤ (vi).toNatClampNeg) := inb_of S2 ⟨h0, own_ltle hb1 ht⟩
        refine X0.baloadBytes hx (j := vi) (v := (.int (vf (vi).toNatClampNeg))) (by rw [e0]; exact Ar2.1) (State.isArrayOf_alike hZ.alike Ar2.2.1) Ar2.2.2 hin3 (own_arf_at H2 S2 hin3) (g := (mkF m 9 #[.val (.ref va), .val (.int vs), .val (.int vt), .val (.int vi)] [(.int vi), (.ref va)])) rfl rfl (hb hby d1_9) _ ?_
        show Steps p.tables e below (T0.setTop (mkF m 10 #[.val (.ref va), .val (.int vs), .val (.int vt), .val (.int vi)] [(.int (vf (vi).toNatClampNeg))])) _
        refine XS.bipush X0.here hx rfl (hb hby d1_10) ?_
        show Steps p.tables e below (T0.setTop (mkF m 12 #[.val (.ref va), .val (.int vs), .val (.int vt), .val (.int vi)] [(.int (48 : Int32)), (.int (vf (vi).toNatClampNeg))])) _
        refine XS.icmpYes X0.here hx rfl (pc0 := 12) (pc' := 29) rfl (hb hby d1_12) rfl (tlt hb4).1 (by decide) (by decide) ?_
        exact kt
      · by_cases hb6 : (57 : Int32) < (vf (vi).toNatClampNeg)
        · rw [own_de_s, if_pos hb1, if_neg hb4, if_pos hb6] at kt
          show Steps p.tables e below (T0.setTop (mkF m 2 #[.val (.ref va), .val (.int vs), .val (.int vt), .val (.int vi)] [])) _
          refine XS.iloadN X0.here hx rfl (hb hby d1_2) rfl ?_
          show Steps p.tables e below (T0.setTop (mkF m 3 #[.val (.ref va), .val (.int vs), .val (.int vt), .val (.int vi)] [(.int vi)])) _
          refine XS.iloadN X0.here hx rfl (hb hby d1_3) rfl ?_
          show Steps p.tables e below (T0.setTop (mkF m 4 #[.val (.ref va), .val (.int vs), .val (.int vt), .val (.int vi)] [(.int vt), (.int vi)])) _
          refine XS.icmpNo X0.here hx rfl (hb hby d1_4) rfl (tlt hb1).2.1 ?_
          show Steps p.tables e below (T0.setTop (mkF m 7 #[.val (.ref va), .val (.int vs), .val (.int vt), .val (.int vi)] [])) _
          refine XS.aloadN X0.here hx rfl (hb hby d1_7) rfl rfl ?_
          show Steps p.tables e below (T0.setTop (mkF m 8 #[.val (.ref va), .val (.int vs), .val (.int vt), .val (.int vi)] [(.ref va)])) _
          refine XS.iloadN X0.here hx rfl (hb hby d1_8) rfl ?_
          show Steps p.tables e below (T0.setTop (mkF m 9 #[.val (.ref va), .val (.int vs), .val (.int vt), .val (.int vi)] [(.int vi), (.ref va)])) _
          have hin3 : ¬ (vi < 0 ∨ cl2.slots.size ≤ (vi).toNatClampNeg) := inb_of S2 ⟨h0, own_ltle hb1 ht⟩
          refine X0.baloadBytes hx (j := vi) (v := (.int (vf (vi).toNatClampNeg))) (by rw [e0]; exact Ar2.1) (State.isArrayOf_alike hZ.alike Ar2.2.1) Ar2.2.2 hin3 (own_arf_at H2 S2 hin3) (g := (mkF m 9 #[.val (.ref va), .val (.int vs), .val (.int vt), .val (.int vi)] [(.int vi), (.ref va)])) rfl rfl (hb hby d1_9) _ ?_
          show Steps p.tables e below (T0.setTop (mkF m 10 #[.val (.ref va), .val (.int vs), .val (.int vt), .val (.int vi)] [(.int (vf (vi).toNatClampNeg))])) _
          refine XS.bipush X0.here hx rfl (hb hby d1_10) ?_
          show Steps p.tables e below (T0.setTop (mkF m 12 #[.val (.ref va), .val (.int vs), .val (.int vt), .val (.int vi)] [(.int (48 : Int32)), (.int (vf (vi).toNatClampNeg))])) _
          refine XS.icmpNo X0.here hx rfl (hb hby d1_12) rfl (flt hb4).1 ?_
          show Steps p.tables e below (T0.setTop (mkF m 15 #[.val (.ref va), .val (.int vs), .val (.int vt), .val (.int vi)] [])) _
          refine XS.aloadN X0.here hx rfl (hb hby d1_15) rfl rfl ?_
          show Steps p.tables e below (T0.setTop (mkF m 16 #[.val (.ref va), .val (.int vs), .val (.int vt), .val (.int vi)] [(.ref va)])) _
          refine XS.iloadN X0.here hx rfl (hb hby d1_16) rfl ?_
          show Steps p.tables e below (T0.setTop (mkF m 17 #[.val (.ref va), .val (.int vs), .val (.int vt), .val (.int vi)] [(.int vi), (.ref va)])) _
          have hin5 : ¬ (vi < 0 ∨ cl2.slots.size ≤ (vi).toNatClampNeg) := inb_of S2 ⟨h0, own_ltle hb1 ht⟩
          refine X0.baloadBytes hx (j := vi) (v := (.int (vf (vi).toNatClampNeg))) (by rw [e0]; exact Ar2.1) (State.isArrayOf_alike hZ.alike Ar2.2.1) Ar2.2.2 hin5 (own_arf_at H2 S2 hin5) (g := (mkF m 17 #[.val (.ref va), .val (.int vs), .val (.int vt), .val (.int vi)] [(.int vi), (.ref va)])) rfl rfl (hb hby d1_17) _ ?_
          show Steps p.tables e below (T0.setTop (mkF m 18 #[.val (.ref va), .val (.int vs), .val (.int vt), .val (.int vi)] [(.int (vf (vi).toNatClampNeg))])) _
          refine XS.bipush X0.here hx rfl (hb hby d1_18) ?_
          show Steps p.tables e below (T0.setTop (mkF m 20 #[.val (.ref va), .val (.int vs), .val (.int vt), .val (.int vi)] [(.int (57 : Int32)), (.int (vf (vi).toNatClampNeg))])) _
          refine XS.icmpYes X0.here hx rfl (pc0 := 20) (pc' := 29) rfl (hb hby d1_20) rfl (tlt hb6).2.2.1 (by decide) (by decide) ?_
          exact kt
        · rw [own_de_s, if_pos hb1, if_neg hb4, if_neg hb6] at kt
          show Steps p.tables e below (T0.setTop (mkF m 2 #[.val (.ref va), .val (.int vs), .val (.int vt), .val (.int vi)] [])) _
          refine XS.iloadN X0.here hx rfl (hb hby d1_2) rfl ?_
          show Steps p.tables e below (T0.setTop (mkF m 3 #[.val (.ref va), .val (.int vs), .val (.int vt), .val (.int vi)] [(.int vi)])) _
          refine XS.iloadN X0.here hx rfl (hb hby d1_3) rfl ?_
          show Steps p.tables e below (T0.setTop (mkF m 4 #[.val (.ref va), .val (.int vs), .val (.int vt), .val (.int vi)] [(.int vt), (.int vi)])) _
          refine XS.icmpNo X0.here hx rfl (hb hby d1_4) rfl (tlt hb1).2.1 ?_
          show Steps p.tables e below (T0.setTop (mkF m 7 #[.val (.ref va), .val (.int vs), .val (.int vt), .val (.int vi)] [])) _
          refine XS.aloadN X0.here hx rfl (hb hby d1_7) rfl rfl ?_
          show Steps p.tables e below (T0.setTop (mkF m 8 #[.val (.ref va), .val (.int vs), .val (.int vt), .val (.int vi)] [(.ref va)])) _
          refine XS.iloadN X0.here hx rfl (hb hby d1_8) rfl ?_
          show Steps p.tables e below (T0.setTop (mkF m 9 #[.val (.ref va), .val (.int vs), .val (.int vt), .val (.int vi)] [(.int vi), (.ref va)])) _
          have hin3 : ¬ (vi < 0 ∨ cl2.slots.size ≤ (vi).toNatClampNeg) := inb_of S2 ⟨h0, own_ltle hb1 ht⟩
          refine X0.baloadBytes hx (j := vi) (v := (.int (vf (vi).toNatClampNeg))) (by rw [e0]; exact Ar2.1) (State.isArrayOf_alike hZ.alike Ar2.2.1) Ar2.2.2 hin3 (own_arf_at H2 S2 hin3) (g := (mkF m 9 #[.val (.ref va), .val (.int vs), .val (.int vt), .val (.int vi)] [(.int vi), (.ref va)])) rfl rfl (hb hby d1_9) _ ?_
          show Steps p.tables e below (T0.setTop (mkF m 10 #[.val (.ref va), .val (.int vs), .val (.int vt), .val (.int vi)] [(.int (vf (vi).toNatClampNeg))])) _
          refine XS.bipush X0.here hx rfl (hb hby d1_10) ?_
          show Steps p.tables e below (T0.setTop (mkF m 12 #[.val (.ref va), .val (.int vs), .val (.int vt), .val (.int vi)] [(.int (48 : Int32)), (.int (vf (vi).toNatClampNeg))])) _
          refine XS.icmpNo X0.here hx rfl (hb hby d1_12) rfl (flt hb4).1 ?_
          show Steps p.tables e below (T0.setTop (mkF m 15 #[.val (.ref va), .val (.int vs), .val (.int vt), .val (.int vi)] [])) _
          refine XS.aloadN X0.here hx rfl (hb hby d1_15) rfl rfl ?_
          show Steps p.tables e below (T0.setTop (mkF m 16 #[.val (.ref va), .val (.int vs), .val (.int vt), .val (.int vi)] [(.ref va)])) _
          refine XS.iloadN X0.here hx rfl (hb hby d1_16) rfl ?_
          show Steps p.tables e below (T0.setTop (mkF m 17 #[.val (.ref va), .val (.int vs), .val (.int vt), .val (.int vi)] [(.int vi), (.ref va)])) _
          have hin5 : ¬ (vi < 0 ∨ cl2.slots.size ≤ (vi).toNatClampNeg) := inb_of S2 ⟨h0, own_ltle hb1 ht⟩
          refine X0.baloadBytes hx (j := vi) (v := (.int (vf (vi).toNatClampNeg))) (by rw [e0]; exact Ar2.1) (State.isArrayOf_alike hZ.alike Ar2.2.1) Ar2.2.2 hin5 (own_arf_at H2 S2 hin5) (g := (mkF m 17 #[.val (.ref va), .val (.int vs), .val (.int vt), .val (.int vi)] [(.int vi), (.ref va)])) rfl rfl (hb hby d1_17) _ ?_
          show Steps p.tables e below (T0.setTop (mkF m 18 #[.val (.ref va), .val (.int vs), .val (.int vt), .val (.int vi)] [(.int (vf (vi).toNatClampNeg))])) _
          refine XS.bipush X0.here hx rfl (hb hby d1_18) ?_
          show Steps p.tables e below (T0.setTop (mkF m 20 #[.val (.ref va), .val (.int vs), .val (.int vt), .val (.int vi)] [(.int (57 : Int32)), (.int (vf (vi).toNatClampNeg))])) _
          refine XS.icmpNo X0.here hx rfl (hb hby d1_20) rfl (flt hb6).2.2.1 ?_
          show Steps p.tables e below (T0.setTop (mkF m 23 #[.val (.ref va), .val (.int vs), .val (.int vt), .val (.int vi)] [])) _
          refine XS.iinc X0.here hx rfl (hb hby d1_23) rfl (l' := #[.val (.ref va), .val (.int vs), .val (.int vt), .val (.int (vi + (1 : Int32)))]) rfl ?_
          show Steps p.tables e below (T0.setTop (mkF m 26 #[.val (.ref va), .val (.int vs), .val (.int vt), .val (.int (vi + (1 : Int32)))] [])) _
          refine XS.goto X0.here hx rfl (pc0 := 26) (pc' := 2) rfl (hb hby d1_26) (by decide) (by decide) ?_
          exact ih (vi + (1 : Int32)) (own_next hk h0 hb1).1 (own_next hk h0 hb1).2 target kt
    · rw [own_de_s, if_neg hb1] at kt
      show Steps p.tables e below (T0.setTop (mkF m 2 #[.val (.ref va), .val (.int vs), .val (.int vt), .val (.int vi)] [])) _
      refine XS.iloadN X0.here hx rfl (hb hby d1_2) rfl ?_
      show Steps p.tables e below (T0.setTop (mkF m 3 #[.val (.ref va), .val (.int vs), .val (.int vt), .val (.int vi)] [(.int vi)])) _
      refine XS.iloadN X0.here hx rfl (hb hby d1_3) rfl ?_
      show Steps p.tables e below (T0.setTop (mkF m 4 #[.val (.ref va), .val (.int vs), .val (.int vt), .val (.int vi)] [(.int vt), (.int vi)])) _
      refine XS.icmpYes X0.here hx rfl (pc0 := 4) (pc' := 29) rfl (hb hby d1_4) rfl (flt hb1).2.1 (by decide) (by decide) ?_
      exact kt
theorem d1_0 : decode prog_20_method_4_code 0 = .ok (.iload_n 1, 1) := by decide +kernel
theorem d1_1 : decode prog_20_method_4_code 1 = .ok (.istore_n 3, 1) := by decide +kernel
theorem d1_29 : decode prog_20_method_4_code 29 = .ok (.iload_n 3, 1) := by decide +kernel
theorem d1_30 : decode prog_20_method_4_code 30 = .ok (.ireturn, 1) := by decide +kernel
theorem pn_1 : plainName "com/example/ponca/ponca/protocol/Decimal" = true := by first | (simp [plainName, overriddenIn]; done) | decide +kernel
theorem ef_1 (m : MethodId) (va : Addr) (vs : Int32) (vt : Int32) : entryFrame m #[(.ref va), (.int vs), (.int vt)] 4 = mkF m 0 #[.val (.ref va), .val (.int vs), .val (.int vt), .unset] [] := by first | (simp [entryFrame, mkF, argsToLocals, Value.category]; done) | rfl
def Q1 (Z : State) (va : Addr) (vs : Int32) (vt : Int32) (vn : Int32) (vf : Nat → Int32) (h0 : Heap) (n0 : Nat) (v : Option Value) (h : Heap) (L : List Loc) : Prop := v = some (.int (own_de vt vf 5 vs)) ∧ Fr n0 L ∧ h = h0
set_option maxRecDepth 65536 in
set_option maxHeartbeats 40000000 in
theorem rm1 (l : Launch) (Z : State) (a0 : Array Value) (hw : ∀ d ∈ tables_1, d.before a0 Z = true) (ws : List Jvm.Cond) (va : Addr) (vs : Int32) (vt : Int32) (vn : Int32) (vf : Nat → Int32) (h0 : Heap) (n0 : Nat) (Z0 : n0 ≤ h0.size) (V_va : Arf Z h0 va .byte vn (fun i => Value.int (vf i))) (hs0 : ¬ vs < 0) (ht : vt.toInt ≤ vn.toInt) (hk5 : vt.toInt - vs.toInt ≤ (5 : Nat)) :
    MetFree l (⟨"com/example/ponca/ponca/protocol/Decimal", "digitsEnd", "([BII)I"⟩ : MethodName) (head1 (Jvm.Cond.code (⟨"com/example/ponca/ponca/protocol/Decimal", "digitsEnd", "([BII)I"⟩ : MethodName) prog_20_method_4_code 4 (some .int) :: ws) ({ frames := 0, cells := 0, slots := 0, locals := 0 } : Room)) (fun a U => a = #[(.ref va), (.int vs), (.int vt)] ∧ Z.Warmed39 U.vm ∧ U.heap = h0) (fun _ _ _ _ _ => True) (fun _ U o U' => ∃ v L, o = .returned v ∧ Q1 Z va vs vt vn vf h0 n0 v U'.heap L ∧ FrameEnd U o U' L ({ frames := 0, cells := 0, slots := 0, locals := 0 } : Room).cells ({ frames := 0, cells := 0, slots := 0, locals := 0 } : Room).slots) := by
  refine MetFree.of_bodySF (plainFor_of_name pn_1) hisR ?_
  intro p e s m args below meth c s₁ Bd hml0 hP hK
  obtain ⟨rfl, hZ, hh⟩ := hP
  have hx := Bd.exec
  have hby := Bd.bytes
  have hml : c.maxLocals = 4 := hml0
  have hown : s.vm.findClass "com/example/ponca/ponca/protocol/Decimal" = some m.cls := findClass_of_methodNamed Bd.named
  have hnm := (name_of_methodNamed Bd.named Bd.method).1
  have X0 : Stand p l e ({ frames := 0, cells := 0, slots := 0, locals := 0 } : Room) s m #[(.ref va), (.int vs), (.int vt)] below meth c s₁ [] 0 0 := Stand.of_body Bd
  have e0 : s₁.heap = h0 := by rw [← hh, Bd.state]; rfl
  have N0 := Fr.nil n0
  have pre0 : ∀ t, Steps p.tables e below (s₁.setTop (mkF m 0 #[.val (.ref va), .val (.int vs), .val (.int vt), .unset] [])) t → Steps p.tables e below (s₁.setTop (entryFrame m #[(.ref va), (.int vs), (.int vt)] 4)) t := fun t k => castTop (ef_1 m va vs vt) k
  obtain ⟨fs, hr, hrun, hended, hW, hsame⟩ := X0.leave (v := some (.int (own_de vt vf 5 vs))) (fun h => by rw [Bd.returns] at h; cases h)
  refine ⟨_, _, pre0 _ ?_, hrun, hended, _, _, rfl, ?_, ⟨_, rfl⟩, hW, hsame.mono (by decide) (by decide)⟩
  · show Steps p.tables e below (s₁.setTop (mkF m 0 #[.val (.ref va), .val (.int vs), .val (.int vt), .unset] [])) _
    refine XS.iloadN X0.here hx rfl (hb hby d1_0) rfl ?_
    show Steps p.tables e below (s₁.setTop (mkF m 1 #[.val (.ref va), .val (.int vs), .val (.int vt), .unset] [(.int vs)])) _
    refine XS.istoreN X0.here hx rfl (hb hby d1_1) rfl (l' := #[.val (.ref va), .val (.int vs), .val (.int vt), .val (.int vs)]) rfl ?_
    show Steps p.tables e below (s₁.setTop (mkF m 2 #[.val (.ref va), .val (.int vs), .val (.int vt), .val (.int vs)] [])) _
    refine loop1 (vs := vs) X0 hx hZ hw hby hml hown e0 V_va ht 5 vs hk5 hs0 _ ?_
    show Steps p.tables e below (s₁.setTop (mkF m 29 #[.val (.ref va), .val (.int vs), .val (.int vt), .val (.int (own_de vt vf 5 vs))] [])) _
    refine XS.iloadN X0.here hx rfl (hb hby d1_29) rfl ?_
    show Steps p.tables e below (s₁.setTop (mkF m 30 #[.val (.ref va), .val (.int vs), .val (.int vt), .val (.int (own_de vt vf 5 vs))] [(.int (own_de vt vf 5 vs))])) _
    exact retI X0 hx Bd.returns (hb hby d1_30) hr
  · show Q1 Z va vs vt vn vf h0 n0 _ s₁.heap _
    rw [e0]
    exact ⟨rfl, N0, rfl⟩
theorem pd_0 : parseMethodDescriptor "(B)Z" = some ⟨[.byte], some .boolean⟩ := by decide +kernel
theorem d2_0 : decode method_3_code 0 = .ok (.iload_n 1, 1) := by decide +kernel
theorem d2_1 : decode method_3_code 1 = .ok (.iload_n 2, 1) := by decide +kernel
theorem d2_2 : decode method_3_code 2 = .ok (.if_icmp .lt 17, 3) := by decide +kernel
theorem d2_5 : decode method_3_code 5 = .ok (.iload_n 1, 1) := by decide +kernel
theorem d2_6 : decode method_3_code 6 = .ok (.iload_n 3, 1) := by decide +kernel
theorem d2_7 : decode method_3_code 7 = .ok (.if_icmp .ge 12, 3) := by decide +kernel
theorem d2_10 : decode method_3_code 10 = .ok (.aload_n 0, 1) := by decide +kernel
theorem d2_11 : decode method_3_code 11 = .ok (.iload_n 1, 1) := by decide +kernel
theorem d2_12 : decode method_3_code 12 = .ok (.baload, 1) := by decide +kernel
theorem d2_13 : decode method_3_code 13 = .ok (.invokestatic 7, 3) := by decide +kernel
theorem d2_16 : decode method_3_code 16 = .ok (.ifCond .eq 7, 3) := by decide +kernel
theorem d2_19 : decode method_3_code 19 = .ok (.iconst 1, 1) := by decide +kernel
theorem d2_20 : decode method_3_code 20 = .ok (.goto 4, 3) := by decide +kernel
theorem d2_23 : decode method_3_code 23 = .ok (.iconst 0, 1) := by decide +kernel
theorem d2_24 : decode method_3_code 24 = .ok (.ireturn, 1) := by decide +kernel
theorem pn_2 : plainName "com/example/ponca/ponca/protocol/DecimalDigitsEndPinLaw" = true := by first | (simp [plainName, overriddenIn]; done) | decide +kernel
theorem ef_2 (m : MethodId) (va : Addr) (vi : Int32) (vs : Int32) (vr : Int32) : entryFrame m #[(.ref va), (.int vi), (.int vs), (.int vr)] 4 = mkF m 0 #[.val (.ref va), .val (.int vi), .val (.int vs), .val (.int vr)] [] := by first | (simp [entryFrame, mkF, argsToLocals, Value.category]; done) | rfl
def F2 (vi : Int32) (vs : Int32) (vr : Int32) (vf : Nat → Int32) : Int32 := (if vi < vs then (1 : Int32) else (if vi < vr then (if (F3 (vf (vi).toNatClampNeg)) = (0 : Int32) then (0 : Int32) else (1 : Int32)) else (1 : Int32)))
def Q2 (Z : State) (va : Addr) (vi : Int32) (vs : Int32) (vr : Int32) (vn : Int32) (vf : Nat → Int32) (h0 : Heap) (n0 : Nat) (v : Option Value) (h : Heap) (L : List Loc) : Prop := v = some (.int (F2 vi vs vr vf)) ∧ Fr n0 L ∧ h = h0
set_option maxRecDepth 65536 in
set_option maxHeartbeats 40000000 in
theorem rm2 (l : Launch) (Z : State) (a0 : Array Value) (hw : ∀ d ∈ tables_1, d.before a0 Z = true) (ws : List Jvm.Cond) (va : Addr) (vi : Int32) (vs : Int32) (vr : Int32) (vn : Int32) (vf : Nat → Int32) (h0 : Heap) (n0 : Nat) (Z0 : n0 ≤ h0.size) (V_va : Arf Z h0 va .byte vn (fun i => Value.int (vf i))) (hi0 : ¬ vi < 0) (hi1 : vi < vn) :
    MetFree l (⟨"com/example/ponca/ponca/protocol/DecimalDigitsEndPinLaw", "digitIfInside", "([BIII)Z"⟩ : MethodName) (head1 (Jvm.Cond.code (⟨"com/example/ponca/ponca/protocol/DecimalDigitsEndPinLaw", "digitIfInside", "([BIII)Z"⟩ : MethodName) method_3_code 4 (some .boolean) :: ws) ({ frames := 1, cells := 0, slots := 0, locals := 12 } : Room)) (fun a U => a = #[(.ref va), (.int vi), (.int vs), (.int vr)] ∧ Z.Warmed39 U.vm ∧ U.heap = h0) (fun _ _ _ _ _ => True) (fun _ U o U' => ∃ v L, o = .returned v ∧ Q2 Z va vi vs vr vn vf h0 n0 v U'.heap L ∧ FrameEnd U o U' L ({ frames := 1, cells := 0, slots := 0, locals := 12 } : Room).cells ({ frames := 1, cells := 0, slots := 0, locals := 12 } : Room).slots) := by
  refine MetFree.of_bodySF (plainFor_of_name pn_2) hisR ?_
  intro p e s m args below meth c s₁ Bd hml0 hP hK
  obtain ⟨rfl, hZ, hh⟩ := hP
  have hx := Bd.exec
  have hby := Bd.bytes
  have hml : c.maxLocals = 4 := hml0
  have hown : s.vm.findClass "com/example/ponca/ponca/protocol/DecimalDigitsEndPinLaw" = some m.cls := findClass_of_methodNamed Bd.named
  have hnm := (name_of_methodNamed Bd.named Bd.method).1
  have X0 : Stand p l e ({ frames := 1, cells := 0, slots := 0, locals := 12 } : Room) s m #[(.ref va), (.int vi), (.int vs), (.int vr)] below meth c s₁ [] 0 0 := Stand.of_body Bd
  have e0 : s₁.heap = h0 := by rw [← hh, Bd.state]; rfl
  have N0 := Fr.nil n0
  have pre0 : ∀ t, Steps p.tables e below (s₁.setTop (mkF m 0 #[.val (.ref va), .val (.int vi), .val (.int vs), .val (.int vr)] [])) t → Steps p.tables e below (s₁.setTop (entryFrame m #[(.ref va), (.int vi), (.int vs), (.int vr)] 4)) t := fun t k => castTop (ef_2 m va vi vs vr) k
  by_cases hb1 : vi < vs
  · obtain ⟨fs, hr, hrun, hended, hW, hsame⟩ := X0.leave (v := some (.int (1 : Int32))) (fun h => by rw [Bd.returns] at h; cases h)
    refine ⟨_, _, pre0 _ ?_, hrun, hended, _, _, rfl, ?_, ⟨_, rfl⟩, hW, hsame.mono (by decide) (by decide)⟩
    · show Steps p.tables e below (s₁.setTop (mkF m 0 #[.val (.ref va), .val (.int vi), .val (.int vs), .val (.int vr)] [])) _
      refine XS.iloadN X0.here hx rfl (hb hby d2_0) rfl ?_
      show Steps p.tables e below (s₁.setTop (mkF m 1 #[.val (.ref va), .val (.int vi), .val (.int vs), .val (.int vr)] [(.int vi)])) _
      refine XS.iloadN X0.here hx rfl (hb hby d2_1) rfl ?_
      show Steps p.tables e below (s₁.setTop (mkF m 2 #[.val (.ref va), .val (.int vi), .val (.int vs), .val (.int vr)] [(.int vs), (.int vi)])) _
      refine XS.icmpYes X0.here hx rfl (pc0 := 2) (pc' := 19) rfl (hb hby d2_2) rfl (tlt hb1).1 (by decide) (by decide) ?_
      show Steps p.tables e below (s₁.setTop (mkF m 19 #[.val (.ref va), .val (.int vi), .val (.int vs), .val (.int vr)] [])) _
      refine XS.iconst X0.here hx rfl (hb hby d2_19) ?_
      show Steps p.tables e below (s₁.setTop (mkF m 20 #[.val (.ref va), .val (.int vi), .val (.int vs), .val (.int vr)] [(.int (1 : Int32))])) _
      refine XS.goto X0.here hx rfl (pc0 := 20) (pc' := 24) rfl (hb hby d2_20) (by decide) (by decide) ?_
      show Steps p.tables e below (s₁.setTop (mkF m 24 #[.val (.ref va), .val (.int vi), .val (.int vs), .val (.int vr)] [(.int (1 : Int32))])) _
      exact retN X0 hx (t := .boolean) Bd.returns (by simp) (hb hby d2_24) hr
    · show Q2 Z va vi vs vr vn vf h0 n0 _ s₁.heap _
      rw [e0]
      exact ⟨(congrArg (fun z => some (Value.int z)) (Eq.symm (if_pos hb1))), N0, rfl⟩
  · by_cases hb2 : vi < vr
    · have Vo3 := V_va
      obtain ⟨cl3, Ar3, S3, M3, H3⟩ := Vo3
      obtain ⟨_, _, ⟨T5, L5, k5, n5⟩, -, X5, ⟨Lc5, hQ5, l5, y5, z5⟩, st5⟩ := Jvm.LawKit.callS X0 hx (y := (⟨"com/example/ponca/ponca/protocol/DecimalDigitsEndPinLaw", "isDigit", "(B)Z"⟩ : MethodName)) hown (mvT hZ (hw _ (List.mem_of_getElem? (i := 10) rfl))) (mvT hZ (hw _ (List.mem_of_getElem? (i := 11) rfl))) (mvT hZ (hw _ (List.mem_of_getElem? (i := 8) rfl))) (mvT hZ (hw _ (List.mem_of_getElem? (i := 12) rfl))) (by decide) (backOf (W := 0) (rm3 l Z a0 hw [] (vf (vi).toNatClampNeg)  h0 n0 Z0 ) hZ (hw _ (List.mem_of_getElem? (i := 12) rfl)) (hw _ (List.mem_of_getElem? (i := 8) rfl)) (by decide) (by decide)) (g := (mkF m 13 #[.val (.ref va), .val (.int vi), .val (.int vs), .val (.int vr)] [(.int (vf (vi).toNatClampNeg))])) rfl (by rw [hml]; rfl) (argsL := [(.int (vf (vi).toNatClampNeg))]) (rest := []) (lenOf pd_0 rfl) rfl (by show 2 * 0 + _ ≤ _; exact Nat.le_of_eq rfl) (hb hby d2_13) (fun _ _ => ⟨rfl, e0, (by decide : 0 + 0 ≤ _), (by decide : 0 + 0 ≤ _)⟩)
      dsimp only [Pt.U, Pt.locs, Pt.cells, Pt.slots] at X5 l5 y5 z5 st5 hQ5
      subst l5 y5 z5
      obtain ⟨rfl, N5q, e5⟩ := hQ5
      have N5 := Fr.app N0 N5q
      obtain ⟨fs, hr, hrun, hended, hW, hsame⟩ := X5.leave (v := some (.int (if (F3 (vf (vi).toNatClampNeg)) = (0 : Int32) then (0 : Int32) else (1 : Int32)))) (fun h => by rw [Bd.returns] at h; cases h)
      refine ⟨_, _, pre0 _ ?_, hrun, hended, _, _, rfl, ?_, ⟨_, rfl⟩, hW, hsame.mono (by decide) (by decide)⟩
      · show Steps p.tables e below (s₁.setTop (mkF m 0 #[.val (.ref va), .val (.int vi), .val (.int vs), .val (.int vr)] [])) _
        refine XS.iloadN X0.here hx rfl (hb hby d2_0) rfl ?_
        show Steps p.tables e below (s₁.setTop (mkF m 1 #[.val (.ref va), .val (.int vi), .val (.int vs), .val (.int vr)] [(.int vi)])) _
        refine XS.iloadN X0.here hx rfl (hb hby d2_1) rfl ?_
        show Steps p.tables e below (s₁.setTop (mkF m 2 #[.val (.ref va), .val (.int vi), .val (.int vs), .val (.int vr)] [(.int vs), (.int vi)])) _
        refine XS.icmpNo X0.here hx rfl (hb hby d2_2) rfl (flt hb1).1 ?_
        show Steps p.tables e below (s₁.setTop (mkF m 5 #[.val (.ref va), .val (.int vi), .val (.int vs), .val (.int vr)] [])) _
        refine XS.iloadN X0.here hx rfl (hb hby d2_5) rfl ?_
        show Steps p.tables e below (s₁.setTop (mkF m 6 #[.val (.ref va), .val (.int vi), .val (.int vs), .val (.int vr)] [(.int vi)])) _
        refine XS.iloadN X0.here hx rfl (hb hby d2_6) rfl ?_
        show Steps p.tables e below (s₁.setTop (mkF m 7 #[.val (.ref va), .val (.int vi), .val (.int vs), .val (.int vr)] [(.int vr), (.int vi)])) _
        refine XS.icmpNo X0.here hx rfl (hb hby d2_7) rfl (tlt hb2).2.1 ?_
        show Steps p.tables e below (s₁.setTop (mkF m 10 #[.val (.ref va), .val (.int vi), .val (.int vs), .val (.int vr)] [])) _
        refine XS.aloadN X0.here hx rfl (hb hby d2_10) rfl rfl ?_
        show Steps p.tables e below (s₁.setTop (mkF m 11 #[.val (.ref va), .val (.int vi), .val (.int vs), .val (.int vr)] [(.ref va)])) _
        refine XS.iloadN X0.here hx rfl (hb hby d2_11) rfl ?_
        show Steps p.tables e below (s₁.setTop (mkF m 12 #[.val (.ref va), .val (.int vi), .val (.int vs), .val (.int vr)] [(.int vi), (.ref va)])) _
        have hin4 : ¬ (vi < 0 ∨ cl3.slots.size ≤ (vi).toNatClampNeg) := inb_of S3 ⟨hi0, hi1⟩
        refine X0.baloadBytes hx (j := vi) (v := (.int (vf (vi).toNatClampNeg))) (by rw [e0]; exact Ar3.1) (State.isArrayOf_alike hZ.alike Ar3.2.1) Ar3.2.2 hin4 (own_arf_at H3 S3 hin4) (g := (mkF m 12 #[.val (.ref va), .val (.int vi), .val (.int vs), .val (.int vr)] [(.int vi), (.ref va)])) rfl rfl (hb hby d2_12) _ ?_
        show Steps p.tables e below (s₁.setTop (mkF m 13 #[.val (.ref va), .val (.int vi), .val (.int vs), .val (.int vr)] [(.int (vf (vi).toNatClampNeg))])) _
        refine st5 _ ?_
        show Steps p.tables e below (T5.setTop (mkF m 16 #[.val (.ref va), .val (.int vi), .val (.int vs), .val (.int vr)] [(.int (F3 (vf (vi).toNatClampNeg)))])) _
        refine own_dia (u := ((0 : Int32) : Int32)) (v := (1 : Int32)) ((F3 (vf (vi).toNatClampNeg)) = (0 : Int32)) (fun z6 => (mkF m 24 #[.val (.ref va), .val (.int vi), .val (.int vs), .val (.int vr)] [(.int z6)])) (fun hc6 k6 => ?_) (fun hc6 k6 => ?_) ?_
        · refine XS.ifYes X5.here hx rfl (pc0 := 16) (pc' := 23) rfl (hb hby d2_16) rfl ((if0 _ _).trans (teq hc6).1) (by decide) (by decide) ?_
          show Steps p.tables e below (T5.setTop (mkF m 23 #[.val (.ref va), .val (.int vi), .val (.int vs), .val (.int vr)] [])) _
          refine XS.iconst X5.here hx rfl (hb hby d2_23) ?_
          exact k6
        · refine XS.ifNo X5.here hx rfl (hb hby d2_16) rfl ((if0 _ _).trans (feq hc6).1) ?_
          show Steps p.tables e below (T5.setTop (mkF m 19 #[.val (.ref va), .val (.int vi), .val (.int vs), .val (.int vr)] [])) _
          refine XS.iconst X5.here hx rfl (hb hby d2_19) ?_
          show Steps p.tables e below (T5.setTop (mkF m 20 #[.val (.ref va), .val (.int vi), .val (.int vs), .val (.int vr)] [(.int (1 : Int32))])) _
          refine XS.goto X5.here hx rfl (pc0 := 20) (pc' := 24) rfl (hb hby d2_20) (by decide) (by decide) ?_
          exact k6
        -- meets at 24
        show Steps p.tables e below (T5.setTop (mkF m 24 #[.val (.ref va), .val (.int vi), .val (.int vs), .val (.int vr)] [(.int (if (F3 (vf (vi).toNatClampNeg)) = (0 : Int32) then (0 : Int32) else (1 : Int32)))])) _
        exact retN X5 hx (t := .boolean) Bd.returns (by simp) (hb hby d2_24) (by rw [own_nb (own_b01 (Or.inl rfl) (Or.inr rfl))]; exact hr)
      · show Q2 Z va vi vs vr vn vf h0 n0 _ T5.heap _
        rw [e5]
        exact ⟨(congrArg (fun z => some (Value.int z)) (Eq.symm (Eq.trans (if_neg hb1) (if_pos hb2)))), N5, rfl⟩
    · obtain ⟨fs, hr, hrun, hended, hW, hsame⟩ := X0.leave (v := some (.int (1 : Int32))) (fun h => by rw [Bd.returns] at h; cases h)
      refine ⟨_, _, pre0 _ ?_, hrun, hended, _, _, rfl, ?_, ⟨_, rfl⟩, hW, hsame.mono (by decide) (by decide)⟩
      · show Steps p.tables e below (s₁.setTop (mkF m 0 #[.val (.ref va), .val (.int vi), .val (.int vs), .val (.int vr)] [])) _
        refine XS.iloadN X0.here hx rfl (hb hby d2_0) rfl ?_
        show Steps p.tables e below (s₁.setTop (mkF m 1 #[.val (.ref va), .val (.int vi), .val (.int vs), .val (.int vr)] [(.int vi)])) _
        refine XS.iloadN X0.here hx rfl (hb hby d2_1) rfl ?_
        show Steps p.tables e below (s₁.setTop (mkF m 2 #[.val (.ref va), .val (.int vi), .val (.int vs), .val (.int vr)] [(.int vs), (.int vi)])) _
        refine XS.icmpNo X0.here hx rfl (hb hby d2_2) rfl (flt hb1).1 ?_
        show Steps p.tables e below (s₁.setTop (mkF m 5 #[.val (.ref va), .val (.int vi), .val (.int vs), .val (.int vr)] [])) _
        refine XS.iloadN X0.here hx rfl (hb hby d2_5) rfl ?_
        show Steps p.tables e below (s₁.setTop (mkF m 6 #[.val (.ref va), .val (.int vi), .val (.int vs), .val (.int vr)] [(.int vi)])) _
        refine XS.iloadN X0.here hx rfl (hb hby d2_6) rfl ?_
        show Steps p.tables e below (s₁.setTop (mkF m 7 #[.val (.ref va), .val (.int vi), .val (.int vs), .val (.int vr)] [(.int vr), (.int vi)])) _
        refine XS.icmpYes X0.here hx rfl (pc0 := 7) (pc' := 19) rfl (hb hby d2_7) rfl (flt hb2).2.1 (by decide) (by decide) ?_
        show Steps p.tables e below (s₁.setTop (mkF m 19 #[.val (.ref va), .val (.int vi), .val (.int vs), .val (.int vr)] [])) _
        refine XS.iconst X0.here hx rfl (hb hby d2_19) ?_
        show Steps p.tables e below (s₁.setTop (mkF m 20 #[.val (.ref va), .val (.int vi), .val (.int vs), .val (.int vr)] [(.int (1 : Int32))])) _
        refine XS.goto X0.here hx rfl (pc0 := 20) (pc' := 24) rfl (hb hby d2_20) (by decide) (by decide) ?_
        show Steps p.tables e below (s₁.setTop (mkF m 24 #[.val (.ref va), .val (.int vi), .val (.int vs), .val (.int vr)] [(.int (1 : Int32))])) _
        exact retN X0 hx (t := .boolean) Bd.returns (by simp) (hb hby d2_24) hr
      · show Q2 Z va vi vs vr vn vf h0 n0 _ s₁.heap _
        rw [e0]
        exact ⟨(congrArg (fun z => some (Value.int z)) (Eq.symm (Eq.trans (if_neg hb1) (if_neg hb2)))), N0, rfl⟩

def own_a (x1 x2 x3 x4 : Int32) : Nat → Int32 := own_arr (nar .byte (x1.toInt8.toInt32)) (nar .byte (x2.toInt8.toInt32)) (nar .byte (x3.toInt8.toInt32)) (nar .byte (x4.toInt8.toInt32))
def own_m5 (x5 : Int32) : Int32 := ((x5 &&& (2147483647 : Int32)) % (5 : Int32))
theorem own_m5_v (x5 : Int32) : 0 ≤ (own_m5 x5).toInt ∧ (own_m5 x5).toInt ≤ 4 := by
  have e1 : (x5 &&& (2147483647 : Int32)).toInt = x5.toInt % 2 ^ 31 := Jvm.Kit.i32_mask x5 2147483647 (by decide) (by decide)
  have e2 : (own_m5 x5).toInt = (x5 &&& (2147483647 : Int32)).toInt % (5 : Int32).toInt := Jvm.Kit.i32_rem_nonneg (by rw [e1]; omega)
  have e3 : (5 : Int32).toInt = 5 := rfl
  rw [e2, e1, e3]; omega
theorem own_m50 (x5 : Int32) : ¬ own_m5 x5 < 0 := by
  have := own_m5_v x5
  rw [Int32.lt_iff_toInt_lt]; show ¬ _ < (0 : Int); omega
theorem own_m54 (x6 : Int32) : (own_m5 x6).toInt ≤ (4 : Int32).toInt := (own_m5_v x6).2
theorem own_m55 (x5 x6 : Int32) : (own_m5 x6).toInt - (own_m5 x5).toInt ≤ (5 : Nat) := by
  have := own_m5_v x5; have := own_m5_v x6; omega
def own_r (x1 x2 x3 x4 x5 x6 : Int32) : Int32 := own_de (own_m5 x6) (own_a x1 x2 x3 x4) 5 (own_m5 x5)
-- what the loop finds
theorem own_de_spec (t : Int32) (f : Nat → Int32) : ∀ (k : Nat) (i : Int32), t.toInt - i.toInt ≤ (k : Nat) → ¬ i < 0 →
    i.toInt ≤ (own_de t f k i).toInt ∧ ((own_de t f k i).toInt ≤ t.toInt ∨ own_de t f k i = i) ∧
    (∀ j : Int32, ¬ j < i → j < own_de t f k i → ¬ f j.toNatClampNeg < (48 : Int32) ∧ ¬ (57 : Int32) < f j.toNatClampNeg) ∧
    (own_de t f k i < t → f (own_de t f k i).toNatClampNeg < (48 : Int32) ∨ (57 : Int32) < f (own_de t f k i).toNatClampNeg) := by
  intro k
  induction k with
  | zero =>
    intro i hk h0
    refine ⟨by exact Int.le_refl _, Or.inr rfl, fun j h1 h2 => absurd h2 h1, fun h => absurd h (own_stop hk)⟩
  | succ k ih =>
    intro i hk h0
    rw [own_de_s]
    by_cases hc : i < t
    · rw [if_pos hc]
      by_cases ha : f i.toNatClampNeg < (48 : Int32)
      · rw [if_pos ha]
        exact ⟨Int.le_refl _, Or.inr rfl, fun j h1 h2 => absurd h2 h1, fun _ => Or.inl ha⟩
      · rw [if_neg ha]
        by_cases hb : (57 : Int32) < f i.toNatClampNeg
        · rw [if_pos hb]
          exact ⟨Int.le_refl _, Or.inr rfl, fun j h1 h2 => absurd h2 h1, fun _ => Or.inr hb⟩
        · rw [if_neg hb]
          obtain ⟨i1, i2, i3, i4⟩ := ih (i + 1) (own_next hk h0 hc).1 (own_next hk h0 hc).2
          have e := own_add1 h0 hc
          refine ⟨by omega, Or.inl ?_, fun j h1 h2 => ?_, i4⟩
          · rcases i2 with h | h
            · exact h
            · rw [h]; rw [Int32.lt_iff_toInt_lt] at hc; omega
          · by_cases hj : j = i
            · subst hj; exact ⟨ha, hb⟩
            · refine i3 j ?_ h2
              rw [← Int32.toInt_inj] at hj
              rw [Int32.lt_iff_toInt_lt] at h1 ⊢; omega
    · rw [if_neg hc]
      exact ⟨Int.le_refl _, Or.inr rfl, fun j h1 h2 => absurd h2 h1, fun h => absurd h hc⟩
theorem own_r_spec (x1 x2 x3 x4 x5 x6 : Int32) : (own_m5 x5).toInt ≤ (own_r x1 x2 x3 x4 x5 x6).toInt ∧ ((own_r x1 x2 x3 x4 x5 x6).toInt ≤ (own_m5 x6).toInt ∨ own_r x1 x2 x3 x4 x5 x6 = own_m5 x5) ∧
    (∀ j : Int32, ¬ j < own_m5 x5 → j < own_r x1 x2 x3 x4 x5 x6 → ¬ own_a x1 x2 x3 x4 j.toNatClampNeg < (48 : Int32) ∧ ¬ (57 : Int32) < own_a x1 x2 x3 x4 j.toNatClampNeg) ∧
    (own_r x1 x2 x3 x4 x5 x6 < own_m5 x6 → own_a x1 x2 x3 x4 (own_r x1 x2 x3 x4 x5 x6).toNatClampNeg < (48 : Int32) ∨ (57 : Int32) < own_a x1 x2 x3 x4 (own_r x1 x2 x3 x4 x5 x6).toNatClampNeg) := own_de_spec (own_m5 x6) (own_a x1 x2 x3 x4) 5 (own_m5 x5) (own_m55 x5 x6) (own_m50 x5)
theorem own_82 (x1 x2 x3 x4 x5 x6 : Int32) : ¬ own_r x1 x2 x3 x4 x5 x6 < own_m5 x5 := by
  have := (own_r_spec x1 x2 x3 x4 x5 x6).1
  rw [Int32.lt_iff_toInt_lt]; omega
theorem own_89 (x1 x2 x3 x4 x5 x6 : Int32) (h : own_m5 x5 < own_m5 x6) : ¬ own_m5 x6 < own_r x1 x2 x3 x4 x5 x6 := by
  have := (own_r_spec x1 x2 x3 x4 x5 x6).2.1
  rw [Int32.lt_iff_toInt_lt] at h ⊢
  rcases this with h1 | h1
  · omega
  · rw [h1]; omega
theorem own_in (x1 x2 x3 x4 x5 x6 k : Int32) : ¬ F2 k (own_m5 x5) (own_r x1 x2 x3 x4 x5 x6) (own_a x1 x2 x3 x4) = 0 := by
  have hs := (own_r_spec x1 x2 x3 x4 x5 x6).2.2.1 k
  unfold F2
  by_cases h1 : k < own_m5 x5
  · rw [if_pos h1]; decide
  · rw [if_neg h1]
    by_cases h2 : k < own_r x1 x2 x3 x4 x5 x6
    · rw [if_pos h2]
      obtain ⟨a, b⟩ := hs h1 h2
      unfold F3
      rw [if_neg a, if_neg b]; decide
    · rw [if_neg h2]; decide
theorem own_r0 (x1 x2 x3 x4 x5 x6 : Int32) : ¬ own_r x1 x2 x3 x4 x5 x6 < 0 := by
  have := (own_r_spec x1 x2 x3 x4 x5 x6).1
  have h5 := own_m5_v x5
  rw [Int32.lt_iff_toInt_lt]; show ¬ _ < (0 : Int); omega
theorem own_r4 (x1 x2 x3 x4 x5 x6 : Int32) (h : own_m5 x5 < own_m5 x6) (h2 : ¬ own_r x1 x2 x3 x4 x5 x6 = own_m5 x6) : own_r x1 x2 x3 x4 x5 x6 < own_m5 x6 := by
  have := own_89 x1 x2 x3 x4 x5 x6 h
  rw [← Int32.toInt_inj] at h2
  rw [Int32.lt_iff_toInt_lt] at this ⊢; omega
theorem own_r4' (x1 x2 x3 x4 x5 x6 : Int32) (h : own_m5 x5 < own_m5 x6) (h2 : ¬ own_r x1 x2 x3 x4 x5 x6 = own_m5 x6) : own_r x1 x2 x3 x4 x5 x6 < 4 := by
  have := own_r4 x1 x2 x3 x4 x5 x6 h h2
  have h6 := own_m5_v x6
  rw [Int32.lt_iff_toInt_lt] at this ⊢; show _ < (4 : Int); omega
theorem own_last (x1 x2 x3 x4 x5 x6 : Int32) (h : own_m5 x5 < own_m5 x6) (h2 : ¬ own_r x1 x2 x3 x4 x5 x6 = own_m5 x6) : F3 (own_a x1 x2 x3 x4 (own_r x1 x2 x3 x4 x5 x6).toNatClampNeg) = 0 := by
  have hs := (own_r_spec x1 x2 x3 x4 x5 x6).2.2.2 (own_r4 x1 x2 x3 x4 x5 x6 h h2)
  unfold F3
  by_cases a : own_a x1 x2 x3 x4 (own_r x1 x2 x3 x4 x5 x6).toNatClampNeg < (48 : Int32)
  · rw [if_pos a]
  · rw [if_neg a]
    rcases hs with q | q
    · exact absurd q a
    · exact if_pos q
theorem own_low (x1 x2 x3 x4 x5 x6 : Int32) (h : ¬ own_m5 x5 < own_m5 x6) : own_r x1 x2 x3 x4 x5 x6 = own_m5 x5 := by
  unfold own_r; rw [own_de_s, if_neg h]

theorem pd_1 : parseMethodDescriptor "([BII)I" = some ⟨[(.array .byte), .int, .int], some .int⟩ := by decide +kernel
theorem pd_2 : parseMethodDescriptor "([BIII)Z" = some ⟨[(.array .byte), .int, .int, .int], some .boolean⟩ := by decide +kernel
theorem pn_0 : plainName "com/example/ponca/ponca/protocol/DecimalDigitsEndPinLaw" = true := by first | (simp [plainName, overriddenIn]; done) | decide +kernel
theorem ef_0 (m : MethodId) (x1 : Int32) (x2 : Int32) (x3 : Int32) (x4 : Int32) (x5 : Int32) (x6 : Int32) : entryFrame m #[(.int x1), (.int x2), (.int x3), (.int x4), (.int x5), (.int x6)] maxLocals = mkF m 0 #[.val (.int x1), .val (.int x2), .val (.int x3), .val (.int x4), .val (.int x5), .val (.int x6), .unset, .unset, .unset, .unset, .unset] [] := by first | (simp [entryFrame, mkF, argsToLocals, Value.category, maxLocals]; done) | rfl
def F0 (x1 : Int32) (x2 : Int32) (x3 : Int32) (x4 : Int32) (x5 : Int32) (x6 : Int32) : Int32 := (if ((x5 &&& (2147483647 : Int32)) % (5 : Int32)) < ((x6 &&& (2147483647 : Int32)) % (5 : Int32)) then (if (own_de ((x6 &&& (2147483647 : Int32)) % (5 : Int32)) ((own_a x1 x2 x3 x4)) 5 ((x5 &&& (2147483647 : Int32)) % (5 : Int32))) = ((x6 &&& (2147483647 : Int32)) % (5 : Int32)) then (1 : Int32) else (if (F3 ((own_a x1 x2 x3 x4) ((own_de ((x6 &&& (2147483647 : Int32)) % (5 : Int32)) ((own_a x1 x2 x3 x4)) 5 ((x5 &&& (2147483647 : Int32)) % (5 : Int32)))).toNatClampNeg)) = (0 : Int32) then (1 : Int32) else (0 : Int32))) else (if (own_de ((x6 &&& (2147483647 : Int32)) % (5 : Int32)) ((own_a x1 x2 x3 x4)) 5 ((x5 &&& (2147483647 : Int32)) % (5 : Int32))) = ((x5 &&& (2147483647 : Int32)) % (5 : Int32)) then (1 : Int32) else (0 : Int32)))
def Q0 (Z : State) (x1 : Int32) (x2 : Int32) (x3 : Int32) (x4 : Int32) (x5 : Int32) (x6 : Int32) (h0 : Heap) (n0 : Nat) (v : Option Value) (h : Heap) (L : List Loc) : Prop := v = some (.int (F0 x1 x2 x3 x4 x5 x6)) ∧ Fr n0 L
set_option maxRecDepth 65536 in
set_option maxHeartbeats 40000000 in
theorem rm0 (l : Launch) (Z : State) (a0 : Array Value) (hw : ∀ d ∈ tables_1, d.before a0 Z = true) (ws : List Jvm.Cond) (x1 : Int32) (x2 : Int32) (x3 : Int32) (x4 : Int32) (x5 : Int32) (x6 : Int32) (h0 : Heap) (n0 : Nat) (Z0 : n0 ≤ h0.size)  :
    MetFree l x (head1 (Jvm.Cond.code x code maxLocals ret :: ws) room_1) (fun a U => a = #[(.int x1), (.int x2), (.int x3), (.int x4), (.int x5), (.int x6)] ∧ Z.Warmed39 U.vm ∧ U.heap = h0) (fun _ _ _ _ _ => True) (fun _ U o U' => ∃ v L, o = .returned v ∧ Q0 Z x1 x2 x3 x4 x5 x6 h0 n0 v U'.heap L ∧ FrameEnd U o U' L room_1.cells room_1.slots) := by
  refine MetFree.of_bodySF (plainFor_of_name pn_0) hisR ?_
  intro p e s m args below meth c s₁ Bd hml0 hP hK
  obtain ⟨rfl, hZ, hh⟩ := hP
  have hx := Bd.exec
  have hby := Bd.bytes
  have hml : c.maxLocals = 11 := hml0
  have hown : s.vm.findClass "com/example/ponca/ponca/protocol/DecimalDigitsEndPinLaw" = some m.cls := findClass_of_methodNamed Bd.named
  have hnm := (name_of_methodNamed Bd.named Bd.method).1
  have X0 : Stand p l e room_1 s m #[(.int x1), (.int x2), (.int x3), (.int x4), (.int x5), (.int x6)] below meth c s₁ [] 0 0 := Stand.of_body Bd
  have e0 : s₁.heap = h0 := by rw [← hh, Bd.state]; rfl
  have N0 := Fr.nil n0
  have pre0 : ∀ t, Steps p.tables e below (s₁.setTop (mkF m 0 #[.val (.int x1), .val (.int x2), .val (.int x3), .val (.int x4), .val (.int x5), .val (.int x6), .unset, .unset, .unset, .unset, .unset] [])) t → Steps p.tables e below (s₁.setTop (entryFrame m #[(.int x1), (.int x2), (.int x3), (.int x4), (.int x5), (.int x6)] maxLocals)) t := fun t k => castTop (ef_0 m x1 x2 x3 x4 x5 x6) k
  obtain ⟨T1, h1, k1, X1, e1, E1, A1, st1⟩ := newP X0 hx hZ (hw _ (List.mem_of_getElem? (i := 0) rfl)) e0 (g := (mkF m 1 #[.val (.int x1), .val (.int x2), .val (.int x3), .val (.int x4), .val (.int x5), .val (.int x6), .unset, .unset, .unset, .unset, .unset] [(.int (4 : Int32))])) rfl (hb hby at_1) rfl (by decide) (cap := 4) (by decide) (by decide) (by decide) (by decide)
  obtain ⟨b1, g1⟩ : ∃ z, z = h0.size := ⟨_, rfl⟩
  rw [← g1] at A1 st1
  have g_b1 : n0 ≤ b1 := Nat.le_trans Z0 (Nat.le_of_eq g1.symm)
  have Z2 : n0 ≤ h1.size := Nat.le_trans Z0 E1.1
  have V_b1 : Arf Z h1 b1 .byte (4 : Int32) (fun _ => Value.int (0 : Int32)) := own_arf_new A1 (by decide)
  have Vo4 := V_b1
  obtain ⟨cl4, Ar4, S4, M4, H4⟩ := Vo4
  have hin3 : ¬ ((0 : Int32) < 0 ∨ cl4.slots.size ≤ ((0 : Int32)).toNatClampNeg) := inb_of S4 ⟨by decide, by decide⟩
  obtain ⟨T3, h3, X3, e3, W3, st3⟩ := stB X1 hx hZ e1 Ar4 (j := (0 : Int32)) hin3 (g := (mkF m 10 #[.val (.int x1), .val (.int x2), .val (.int x3), .val (.int x4), .val (.int x5), .val (.int x6), .val (.ref b1), .unset, .unset, .unset, .unset] [(.int (x1.toInt8.toInt32)), (.int (0 : Int32)), (.ref b1)])) rfl rfl (hb hby at_10)
  have Z5 : n0 ≤ h3.size := Nat.le_trans Z2 (Keep.of_wr W3).1
  have V3 := own_arf_setI V_b1 W3
  have N3 := Fr.snoc X3 N0 g_b1
  have Vo8 := V3
  obtain ⟨cl8, Ar8, S8, M8, H8⟩ := Vo8
  have hin7 : ¬ ((1 : Int32) < 0 ∨ cl8.slots.size ≤ ((1 : Int32)).toNatClampNeg) := inb_of S8 ⟨by decide, by decide⟩
  obtain ⟨T7, h7, X7, e7, W7, st7⟩ := stB X3 hx hZ e3 Ar8 (j := (1 : Int32)) hin7 (g := (mkF m 16 #[.val (.int x1), .val (.int x2), .val (.int x3), .val (.int x4), .val (.int x5), .val (.int x6), .val (.ref b1), .unset, .unset, .unset, .unset] [(.int (x2.toInt8.toInt32)), (.int (1 : Int32)), (.ref b1)])) rfl rfl (hb hby at_16)
  have Z9 : n0 ≤ h7.size := Nat.le_trans Z5 (Keep.of_wr W7).1
  have V7 := own_arf_setI V3 W7
  have N7 := Fr.snoc X7 N3 g_b1
  have Vo12 := V7
  obtain ⟨cl12, Ar12, S12, M12, H12⟩ := Vo12
  have hin11 : ¬ ((2 : Int32) < 0 ∨ cl12.slots.size ≤ ((2 : Int32)).toNatClampNeg) := inb_of S12 ⟨by decide, by decide⟩
  obtain ⟨T11, h11, X11, e11, W11, st11⟩ := stB X7 hx hZ e7 Ar12 (j := (2 : Int32)) hin11 (g := (mkF m 22 #[.val (.int x1), .val (.int x2), .val (.int x3), .val (.int x4), .val (.int x5), .val (.int x6), .val (.ref b1), .unset, .unset, .unset, .unset] [(.int (x3.toInt8.toInt32)), (.int (2 : Int32)), (.ref b1)])) rfl rfl (hb hby at_22)
  have Z13 : n0 ≤ h11.size := Nat.le_trans Z9 (Keep.of_wr W11).1
  have V11 := own_arf_setI V7 W11
  have N11 := Fr.snoc X11 N7 g_b1
  have Vo16 := V11
  obtain ⟨cl16, Ar16, S16, M16, H16⟩ := Vo16
  have hin15 : ¬ ((3 : Int32) < 0 ∨ cl16.slots.size ≤ ((3 : Int32)).toNatClampNeg) := inb_of S16 ⟨by decide, by decide⟩
  obtain ⟨T15, h15, X15, e15, W15, st15⟩ := stB X11 hx hZ e11 Ar16 (j := (3 : Int32)) hin15 (g := (mkF m 28 #[.val (.int x1), .val (.int x2), .val (.int x3), .val (.int x4), .val (.int x5), .val (.int x6), .val (.ref b1), .unset, .unset, .unset, .unset] [(.int (x4.toInt8.toInt32)), (.int (3 : Int32)), (.ref b1)])) rfl rfl (hb hby at_28)
  have Z17 : n0 ≤ h15.size := Nat.le_trans Z13 (Keep.of_wr W15).1
  have V15 := own_arf_setI V11 W15
  have N15 := Fr.snoc X15 N11 g_b1
  have Vq : Arf Z h15 b1 .byte (4 : Int32) (fun i => Value.int ((own_a x1 x2 x3 x4) i)) := own_arf_fn V15 (own_four rfl rfl rfl rfl)
  obtain ⟨_, _, ⟨T19, L19, k19, n19⟩, -, X19, ⟨Lc19, hQ19, l19, y19, z19⟩, st19⟩ := Jvm.LawKit.callS X15 hx (y := (⟨"com/example/ponca/ponca/protocol/Decimal", "digitsEnd", "([BII)I"⟩ : MethodName)) hown (mvT hZ (hw _ (List.mem_of_getElem? (i := 2) rfl))) (mvT hZ (hw _ (List.mem_of_getElem? (i := 3) rfl))) (mvT hZ (hw _ (List.mem_of_getElem? (i := 4) rfl))) (mvT hZ (hw _ (List.mem_of_getElem? (i := 5) rfl))) (by decide) (backOf (W := 0) (rm1 l Z a0 hw [] b1 ((x5 &&& (2147483647 : Int32)) % (5 : Int32)) ((x6 &&& (2147483647 : Int32)) % (5 : Int32)) ((4 : Int32)) ((own_a x1 x2 x3 x4)) h15 n0 Z17 Vq (own_m50 x5) (own_m54 x6) (own_m55 x5 x6)) hZ (hw _ (List.mem_of_getElem? (i := 5) rfl)) (hw _ (List.mem_of_getElem? (i := 4) rfl)) (by decide) (by decide)) (g := (mkF m 53 #[.val (.int x1), .val (.int x2), .val (.int x3), .val (.int x4), .val (.int x5), .val (.int x6), .val (.ref b1), .val (.int ((x5 &&& (2147483647 : Int32)) % (5 : Int32))), .val (.int ((x6 &&& (2147483647 : Int32)) % (5 : Int32))), .unset, .unset] [(.int ((x6 &&& (2147483647 : Int32)) % (5 : Int32))), (.int ((x5 &&& (2147483647 : Int32)) % (5 : Int32))), (.ref b1)])) rfl (by rw [hml]; rfl) (argsL := [(.ref b1), (.int ((x5 &&& (2147483647 : Int32)) % (5 : Int32))), (.int ((x6 &&& (2147483647 : Int32)) % (5 : Int32)))]) (rest := []) (lenOf pd_1 rfl) rfl (by show 2 * 0 + _ ≤ _; exact Nat.le_of_eq rfl) (hb hby at_53) (fun _ _ => ⟨rfl, e15, (by decide : 1 + 0 ≤ _), (by decide : 4 + 0 ≤ _)⟩)
  dsimp only [Pt.U, Pt.locs, Pt.cells, Pt.slots] at X19 l19 y19 z19 st19 hQ19
  subst l19 y19 z19
  obtain ⟨rfl, N19q, e19⟩ := hQ19
  have N19 := Fr.app N15 N19q
  by_cases hb20 : ((x5 &&& (2147483647 : Int32)) % (5 : Int32)) < ((x6 &&& (2147483647 : Int32)) % (5 : Int32))
  · obtain ⟨_, _, ⟨T21, L21, k21, n21⟩, -, X21, ⟨Lc21, hQ21, l21, y21, z21⟩, st21⟩ := Jvm.LawKit.callS X19 hx (y := (⟨"com/example/ponca/ponca/protocol/DecimalDigitsEndPinLaw", "digitIfInside", "([BIII)Z"⟩ : MethodName)) hown (mvT hZ (hw _ (List.mem_of_getElem? (i := 6) rfl))) (mvT hZ (hw _ (List.mem_of_getElem? (i := 7) rfl))) (mvT hZ (hw _ (List.mem_of_getElem? (i := 8) rfl))) (mvT hZ (hw _ (List.mem_of_getElem? (i := 9) rfl))) (by decide) (backOf (W := 0) (rm2 l Z a0 hw [] b1 (0 : Int32) ((x5 &&& (2147483647 : Int32)) % (5 : Int32)) (own_de ((x6 &&& (2147483647 : Int32)) % (5 : Int32)) ((own_a x1 x2 x3 x4)) 5 ((x5 &&& (2147483647 : Int32)) % (5 : Int32))) ((4 : Int32)) ((own_a x1 x2 x3 x4)) h15 n0 Z17 Vq (by decide) (by decide)) hZ (hw _ (List.mem_of_getElem? (i := 9) rfl)) (hw _ (List.mem_of_getElem? (i := 8) rfl)) (by decide) (by decide)) (g := (mkF m 101 #[.val (.int x1), .val (.int x2), .val (.int x3), .val (.int x4), .val (.int x5), .val (.int x6), .val (.ref b1), .val (.int ((x5 &&& (2147483647 : Int32)) % (5 : Int32))), .val (.int ((x6 &&& (2147483647 : Int32)) % (5 : Int32))), .val (.int (own_de ((x6 &&& (2147483647 : Int32)) % (5 : Int32)) ((own_a x1 x2 x3 x4)) 5 ((x5 &&& (2147483647 : Int32)) % (5 : Int32)))), .unset] [(.int (own_de ((x6 &&& (2147483647 : Int32)) % (5 : Int32)) ((own_a x1 x2 x3 x4)) 5 ((x5 &&& (2147483647 : Int32)) % (5 : Int32)))), (.int ((x5 &&& (2147483647 : Int32)) % (5 : Int32))), (.int (0 : Int32)), (.ref b1)])) rfl (by rw [hml]; rfl) (argsL := [(.ref b1), (.int (0 : Int32)), (.int ((x5 &&& (2147483647 : Int32)) % (5 : Int32))), (.int (own_de ((x6 &&& (2147483647 : Int32)) % (5 : Int32)) ((own_a x1 x2 x3 x4)) 5 ((x5 &&& (2147483647 : Int32)) % (5 : Int32))))]) (rest := []) (lenOf pd_2 rfl) rfl (by show 2 * 0 + _ ≤ _; exact Nat.le_of_eq rfl) (hb hby at_101) (fun _ _ => ⟨rfl, e19, (by decide : 1 + 0 ≤ _), (by decide : 4 + 0 ≤ _)⟩)
    dsimp only [Pt.U, Pt.locs, Pt.cells, Pt.slots] at X21 l21 y21 z21 st21 hQ21
    subst l21 y21 z21
    obtain ⟨rfl, N21q, e21⟩ := hQ21
    have N21 := Fr.app N19 N21q
    obtain ⟨_, _, ⟨T22, L22, k22, n22⟩, -, X22, ⟨Lc22, hQ22, l22, y22, z22⟩, st22⟩ := Jvm.LawKit.callS X21 hx (y := (⟨"com/example/ponca/ponca/protocol/DecimalDigitsEndPinLaw", "digitIfInside", "([BIII)Z"⟩ : MethodName)) hown (mvT hZ (hw _ (List.mem_of_getElem? (i := 6) rfl))) (mvT hZ (hw _ (List.mem_of_getElem? (i := 7) rfl))) (mvT hZ (hw _ (List.mem_of_getElem? (i := 8) rfl))) (mvT hZ (hw _ (List.mem_of_getElem? (i := 9) rfl))) (by decide) (backOf (W := 0) (rm2 l Z a0 hw [] b1 (1 : Int32) ((x5 &&& (2147483647 : Int32)) % (5 : Int32)) (own_de ((x6 &&& (2147483647 : Int32)) % (5 : Int32)) ((own_a x1 x2 x3 x4)) 5 ((x5 &&& (2147483647 : Int32)) % (5 : Int32))) ((4 : Int32)) ((own_a x1 x2 x3 x4)) h15 n0 Z17 Vq (by decide) (by decide)) hZ (hw _ (List.mem_of_getElem? (i := 9) rfl)) (hw _ (List.mem_of_getElem? (i := 8) rfl)) (by decide) (by decide)) (g := (mkF m 114 #[.val (.int x1), .val (.int x2), .val (.int x3), .val (.int x4), .val (.int x5), .val (.int x6), .val (.ref b1), .val (.int ((x5 &&& (2147483647 : Int32)) % (5 : Int32))), .val (.int ((x6 &&& (2147483647 : Int32)) % (5 : Int32))), .val (.int (own_de ((x6 &&& (2147483647 : Int32)) % (5 : Int32)) ((own_a x1 x2 x3 x4)) 5 ((x5 &&& (2147483647 : Int32)) % (5 : Int32)))), .unset] [(.int (own_de ((x6 &&& (2147483647 : Int32)) % (5 : Int32)) ((own_a x1 x2 x3 x4)) 5 ((x5 &&& (2147483647 : Int32)) % (5 : Int32)))), (.int ((x5 &&& (2147483647 : Int32)) % (5 : Int32))), (.int (1 : Int32)), (.ref b1)])) rfl (by rw [hml]; rfl) (argsL := [(.ref b1), (.int (1 : Int32)), (.int ((x5 &&& (2147483647 : Int32)) % (5 : Int32))), (.int (own_de ((x6 &&& (2147483647 : Int32)) % (5 : Int32)) ((own_a x1 x2 x3 x4)) 5 ((x5 &&& (2147483647 : Int32)) % (5 : Int32))))]) (rest := []) (lenOf pd_2 rfl) rfl (by show 2 * 0 + _ ≤ _; exact Nat.le_of_eq rfl) (hb hby at_114) (fun _ _ => ⟨rfl, e21, (by decide : 1 + 0 ≤ _), (by decide : 4 + 0 ≤ _)⟩)
    dsimp only [Pt.U, Pt.locs, Pt.cells, Pt.slots] at X22 l22 y22 z22 st22 hQ22
    subst l22 y22 z22
    obtain ⟨rfl, N22q, e22⟩ := hQ22
    have N22 := Fr.app N21 N22q
    obtain ⟨_, _, ⟨T23, L23, k23, n23⟩, -, X23, ⟨Lc23, hQ23, l23, y23, z23⟩, st23⟩ := Jvm.LawKit.callS X22 hx (y := (⟨"com/example/ponca/ponca/protocol/DecimalDigitsEndPinLaw", "digitIfInside", "([BIII)Z"⟩ : MethodName)) hown (mvT hZ (hw _ (List.mem_of_getElem? (i := 6) rfl))) (mvT hZ (hw _ (List.mem_of_getElem? (i := 7) rfl))) (mvT hZ (hw _ (List.mem_of_getElem? (i := 8) rfl))) (mvT hZ (hw _ (List.mem_of_getElem? (i := 9) rfl))) (by decide) (backOf (W := 0) (rm2 l Z a0 hw [] b1 (2 : Int32) ((x5 &&& (2147483647 : Int32)) % (5 : Int32)) (own_de ((x6 &&& (2147483647 : Int32)) % (5 : Int32)) ((own_a x1 x2 x3 x4)) 5 ((x5 &&& (2147483647 : Int32)) % (5 : Int32))) ((4 : Int32)) ((own_a x1 x2 x3 x4)) h15 n0 Z17 Vq (by decide) (by decide)) hZ (hw _ (List.mem_of_getElem? (i := 9) rfl)) (hw _ (List.mem_of_getElem? (i := 8) rfl)) (by decide) (by decide)) (g := (mkF m 127 #[.val (.int x1), .val (.int x2), .val (.int x3), .val (.int x4), .val (.int x5), .val (.int x6), .val (.ref b1), .val (.int ((x5 &&& (2147483647 : Int32)) % (5 : Int32))), .val (.int ((x6 &&& (2147483647 : Int32)) % (5 : Int32))), .val (.int (own_de ((x6 &&& (2147483647 : Int32)) % (5 : Int32)) ((own_a x1 x2 x3 x4)) 5 ((x5 &&& (2147483647 : Int32)) % (5 : Int32)))), .unset] [(.int (own_de ((x6 &&& (2147483647 : Int32)) % (5 : Int32)) ((own_a x1 x2 x3 x4)) 5 ((x5 &&& (2147483647 : Int32)) % (5 : Int32)))), (.int ((x5 &&& (2147483647 : Int32)) % (5 : Int32))), (.int (2 : Int32)), (.ref b1)])) rfl (by rw [hml]; rfl) (argsL := [(.ref b1), (.int (2 : Int32)), (.int ((x5 &&& (2147483647 : Int32)) % (5 : Int32))), (.int (own_de ((x6 &&& (2147483647 : Int32)) % (5 : Int32)) ((own_a x1 x2 x3 x4)) 5 ((x5 &&& (2147483647 : Int32)) % (5 : Int32))))]) (rest := []) (lenOf pd_2 rfl) rfl (by show 2 * 0 + _ ≤ _; exact Nat.le_of_eq rfl) (hb hby at_127) (fun _ _ => ⟨rfl, e22, (by decide : 1 + 0 ≤ _), (by decide : 4 + 0 ≤ _)⟩)
    dsimp only [Pt.U, Pt.locs, Pt.cells, Pt.slots] at X23 l23 y23 z23 st23 hQ23
    subst l23 y23 z23
    obtain ⟨rfl, N23q, e23⟩ := hQ23
    have N23 := Fr.app N22 N23q
    obtain ⟨_, _, ⟨T24, L24, k24, n24⟩, -, X24, ⟨Lc24, hQ24, l24, y24, z24⟩, st24⟩ := Jvm.LawKit.callS X23 hx (y := (⟨"com/example/ponca/ponca/protocol/DecimalDigitsEndPinLaw", "digitIfInside", "([BIII)Z"⟩ : MethodName)) hown (mvT hZ (hw _ (List.mem_of_getElem? (i := 6) rfl))) (mvT hZ (hw _ (List.mem_of_getElem? (i := 7) rfl))) (mvT hZ (hw _ (List.mem_of_getElem? (i := 8) rfl))) (mvT hZ (hw _ (List.mem_of_getElem? (i := 9) rfl))) (by decide) (backOf (W := 0) (rm2 l Z a0 hw [] b1 (3 : Int32) ((x5 &&& (2147483647 : Int32)) % (5 : Int32)) (own_de ((x6 &&& (2147483647 : Int32)) % (5 : Int32)) ((own_a x1 x2 x3 x4)) 5 ((x5 &&& (2147483647 : Int32)) % (5 : Int32))) ((4 : Int32)) ((own_a x1 x2 x3 x4)) h15 n0 Z17 Vq (by decide) (by decide)) hZ (hw _ (List.mem_of_getElem? (i := 9) rfl)) (hw _ (List.mem_of_getElem? (i := 8) rfl)) (by decide) (by decide)) (g := (mkF m 140 #[.val (.int x1), .val (.int x2), .val (.int x3), .val (.int x4), .val (.int x5), .val (.int x6), .val (.ref b1), .val (.int ((x5 &&& (2147483647 : Int32)) % (5 : Int32))), .val (.int ((x6 &&& (2147483647 : Int32)) % (5 : Int32))), .val (.int (own_de ((x6 &&& (2147483647 : Int32)) % (5 : Int32)) ((own_a x1 x2 x3 x4)) 5 ((x5 &&& (2147483647 : Int32)) % (5 : Int32)))), .unset] [(.int (own_de ((x6 &&& (2147483647 : Int32)) % (5 : Int32)) ((own_a x1 x2 x3 x4)) 5 ((x5 &&& (2147483647 : Int32)) % (5 : Int32)))), (.int ((x5 &&& (2147483647 : Int32)) % (5 : Int32))), (.int (3 : Int32)), (.ref b1)])) rfl (by rw [hml]; rfl) (argsL := [(.ref b1), (.int (3 : Int32)), (.int ((x5 &&& (2147483647 : Int32)) % (5 : Int32))), (.int (own_de ((x6 &&& (2147483647 : Int32)) % (5 : Int32)) ((own_a x1 x2 x3 x4)) 5 ((x5 &&& (2147483647 : Int32)) % (5 : Int32))))]) (rest := []) (lenOf pd_2 rfl) rfl (by show 2 * 0 + _ ≤ _; exact Nat.le_of_eq rfl) (hb hby at_140) (fun _ _ => ⟨rfl, e23, (by decide : 1 + 0 ≤ _), (by decide : 4 + 0 ≤ _)⟩)
    dsimp only [Pt.U, Pt.locs, Pt.cells, Pt.slots] at X24 l24 y24 z24 st24 hQ24
    subst l24 y24 z24
    obtain ⟨rfl, N24q, e24⟩ := hQ24
    have N24 := Fr.app N23 N24q
    by_cases hb25 : (own_de ((x6 &&& (2147483647 : Int32)) % (5 : Int32)) ((own_a x1 x2 x3 x4)) 5 ((x5 &&& (2147483647 : Int32)) % (5 : Int32))) = ((x6 &&& (2147483647 : Int32)) % (5 : Int32))
    · obtain ⟨fs, hr, hrun, hended, hW, hsame⟩ := X24.leave (v := some (.int (1 : Int32))) (fun h => by rw [Bd.returns] at h; cases h)
      refine ⟨_, _, pre0 _ ?_, hrun, hended, _, _, rfl, ?_, ⟨_, rfl⟩, hW, hsame.mono (by decide) (by decide)⟩
      · show Steps p.tables e below (s₁.setTop (mkF m 0 #[.val (.int x1), .val (.int x2), .val (.int x3), .val (.int x4), .val (.int x5), .val (.int x6), .unset, .unset, .unset, .unset, .unset] [])) _
        refine XS.iconst X0.here hx rfl (hb hby at_0) ?_
        show Steps p.tables e below (s₁.setTop (mkF m 1 #[.val (.int x1), .val (.int x2), .val (.int x3), .val (.int x4), .val (.int x5), .val (.int x6), .unset, .unset, .unset, .unset, .unset] [(.int (4 : Int32))])) _
        refine st1 _ ?_
        show Steps p.tables e below (T1.setTop (mkF m 3 #[.val (.int x1), .val (.int x2), .val (.int x3), .val (.int x4), .val (.int x5), .val (.int x6), .unset, .unset, .unset, .unset, .unset] [(.ref b1)])) _
        refine XS.astore X1.here hx rfl (hb hby at_3) rfl rfl (l' := #[.val (.int x1), .val (.int x2), .val (.int x3), .val (.int x4), .val (.int x5), .val (.int x6), .val (.ref b1), .unset, .unset, .unset, .unset]) rfl ?_
        show Steps p.tables e below (T1.setTop (mkF m 5 #[.val (.int x1), .val (.int x2), .val (.int x3), .val (.int x4), .val (.int x5), .val (.int x6), .val (.ref b1), .unset, .unset, .unset, .unset] [])) _
        refine XS.aload X1.here hx rfl (hb hby at_5) rfl rfl ?_
        show Steps p.tables e below (T1.setTop (mkF m 7 #[.val (.int x1), .val (.int x2), .val (.int x3), .val (.int x4), .val (.int x5), .val (.int x6), .val (.ref b1), .unset, .unset, .unset, .unset] [(.ref b1)])) _
        refine XS.iconst X1.here hx rfl (hb hby at_7) ?_
        show Steps p.tables e below (T1.setTop (mkF m 8 #[.val (.int x1), .val (.int x2), .val (.int x3), .val (.int x4), .val (.int x5), .val (.int x6), .val (.ref b1), .unset, .unset, .unset, .unset] [(.int (0 : Int32)), (.ref b1)])) _
        refine XS.iloadN X1.here hx rfl (hb hby at_8) rfl ?_
        show Steps p.tables e below (T1.setTop (mkF m 9 #[.val (.int x1), .val (.int x2), .val (.int x3), .val (.int x4), .val (.int x5), .val (.int x6), .val (.ref b1), .unset, .unset, .unset, .unset] [(.int x1), (.int (0 : Int32)), (.ref b1)])) _
        refine XS.i2b X1.here hx rfl (hb hby at_9) rfl ?_
        show Steps p.tables e below (T1.setTop (mkF m 10 #[.val (.int x1), .val (.int x2), .val (.int x3), .val (.int x4), .val (.int x5), .val (.int x6), .val (.ref b1), .unset, .unset, .unset, .unset] [(.int (x1.toInt8.toInt32)), (.int (0 : Int32)), (.ref b1)])) _
        refine st3 _ ?_
        show Steps p.tables e below (T3.setTop (mkF m 11 #[.val (.int x1), .val (.int x2), .val (.int x3), .val (.int x4), .val (.int x5), .val (.int x6), .val (.ref b1), .unset, .unset, .unset, .unset] [])) _
        refine XS.aload X3.here hx rfl (hb hby at_11) rfl rfl ?_
        show Steps p.tables e below (T3.setTop (mkF m 13 #[.val (.int x1), .val (.int x2), .val (.int x3), .val (.int x4), .val (.int x5), .val (.int x6), .val (.ref b1), .unset, .unset, .unset, .unset] [(.ref b1)])) _
        refine XS.iconst X3.here hx rfl (hb hby at_13) ?_
        show Steps p.tables e below (T3.setTop (mkF m 14 #[.val (.int x1), .val (.int x2), .val (.int x3), .val (.int x4), .val (.int x5), .val (.int x6), .val (.ref b1), .unset, .unset, .unset, .unset] [(.int (1 : Int32)), (.ref b1)])) _
        refine XS.iloadN X3.here hx rfl (hb hby at_14) rfl ?_
        show Steps p.tables e below (T3.setTop (mkF m 15 #[.val (.int x1), .val (.int x2), .val (.int x3), .val (.int x4), .val (.int x5), .val (.int x6), .val (.ref b1), .unset, .unset, .unset, .unset] [(.int x2), (.int (1 : Int32)), (.ref b1)])) _
        refine XS.i2b X3.here hx rfl (hb hby at_15) rfl ?_
        show Steps p.tables e below (T3.setTop (mkF m 16 #[.val (.int x1), .val (.int x2), .val (.int x3), .val (.int x4), .val (.int x5), .val (.int x6), .val (.ref b1), .unset, .unset, .unset, .unset] [(.int (x2.toInt8.toInt32)), (.int (1 : Int32)), (.ref b1)])) _
        refine st7 _ ?_
        show Steps p.tables e below (T7.setTop (mkF m 17 #[.val (.int x1), .val (.int x2), .val (.int x3), .val (.int x4), .val (.int x5), .val (.int x6), .val (.ref b1), .unset, .unset, .unset, .unset] [])) _
        refine XS.aload X7.here hx rfl (hb hby at_17) rfl rfl ?_
        show Steps p.tables e below (T7.setTop (mkF m 19 #[.val (.int x1), .val (.int x2), .val (.int x3), .val (.int x4), .val (.int x5), .val (.int x6), .val (.ref b1), .unset, .unset, .unset, .unset] [(.ref b1)])) _
        refine XS.iconst X7.here hx rfl (hb hby at_19) ?_
        show Steps p.tables e below (T7.setTop (mkF m 20 #[.val (.int x1), .val (.int x2), .val (.int x3), .val (.int x4), .val (.int x5), .val (.int x6), .val (.ref b1), .unset, .unset, .unset, .unset] [(.int (2 : Int32)), (.ref b1)])) _
        refine XS.iloadN X7.here hx rfl (hb hby at_20) rfl ?_
        show Steps p.tables e below (T7.setTop (mkF m 21 #[.val (.int x1), .val (.int x2), .val (.int x3), .val (.int x4), .val (.int x5), .val (.int x6), .val (.ref b1), .unset, .unset, .unset, .unset] [(.int x3), (.int (2 : Int32)), (.ref b1)])) _
        refine XS.i2b X7.here hx rfl (hb hby at_21) rfl ?_
        show Steps p.tables e below (T7.setTop (mkF m 22 #[.val (.int x1), .val (.int x2), .val (.int x3), .val (.int x4), .val (.int x5), .val (.int x6), .val (.ref b1), .unset, .unset, .unset, .unset] [(.int (x3.toInt8.toInt32)), (.int (2 : Int32)), (.ref b1)])) _
        refine st11 _ ?_
        show Steps p.tables e below (T11.setTop (mkF m 23 #[.val (.int x1), .val (.int x2), .val (.int x3), .val (.int x4), .val (.int x5), .val (.int x6), .val (.ref b1), .unset, .unset, .unset, .unset] [])) _
        refine XS.aload X11.here hx rfl (hb hby at_23) rfl rfl ?_
        show Steps p.tables e below (T11.setTop (mkF m 25 #[.val (.int x1), .val (.int x2), .val (.int x3), .val (.int x4), .val (.int x5), .val (.int x6), .val (.ref b1), .unset, .unset, .unset, .unset] [(.ref b1)])) _
        refine XS.iconst X11.here hx rfl (hb hby at_25) ?_
        show Steps p.tables e below (T11.setTop (mkF m 26 #[.val (.int x1), .val (.int x2), .val (.int x3), .val (.int x4), .val (.int x5), .val (.int x6), .val (.ref b1), .unset, .unset, .unset, .unset] [(.int (3 : Int32)), (.ref b1)])) _
        refine XS.iloadN X11.here hx rfl (hb hby at_26) rfl ?_
        show Steps p.tables e below (T11.setTop (mkF m 27 #[.val (.int x1), .val (.int x2), .val (.int x3), .val (.int x4), .val (.int x5), .val (.int x6), .val (.ref b1), .unset, .unset, .unset, .unset] [(.int x4), (.int (3 : Int32)), (.ref b1)])) _
        refine XS.i2b X11.here hx rfl (hb hby at_27) rfl ?_
        show Steps p.tables e below (T11.setTop (mkF m 28 #[.val (.int x1), .val (.int x2), .val (.int x3), .val (.int x4), .val (.int x5), .val (.int x6), .val (.ref b1), .unset, .unset, .unset, .unset] [(.int (x4.toInt8.toInt32)), (.int (3 : Int32)), (.ref b1)])) _
        refine st15 _ ?_
        show Steps p.tables e below (T15.setTop (mkF m 29 #[.val (.int x1), .val (.int x2), .val (.int x3), .val (.int x4), .val (.int x5), .val (.int x6), .val (.ref b1), .unset, .unset, .unset, .unset] [])) _
        refine XS.iload X15.here hx rfl (hb hby at_29) rfl ?_
        show Steps p.tables e below (T15.setTop (mkF m 31 #[.val (.int x1), .val (.int x2), .val (.int x3), .val (.int x4), .val (.int x5), .val (.int x6), .val (.ref b1), .unset, .unset, .unset, .unset] [(.int x5)])) _
        refine X15.ldcInt hx hown (mvT hZ (hw _ (List.mem_of_getElem? (i := 1) rfl))) (g := (mkF m 31 #[.val (.int x1), .val (.int x2), .val (.int x3), .val (.int x4), .val (.int x5), .val (.int x6), .val (.ref b1), .unset, .unset, .unset, .unset] [(.int x5)])) rfl (hb hby at_31) _ ?_
        show Steps p.tables e below (T15.setTop (mkF m 33 #[.val (.int x1), .val (.int x2), .val (.int x3), .val (.int x4), .val (.int x5), .val (.int x6), .val (.ref b1), .unset, .unset, .unset, .unset] [(.int (2147483647 : Int32)), (.int x5)])) _
        refine XS.iand X15.here hx rfl (hb hby at_33) rfl ?_
        show Steps p.tables e below (T15.setTop (mkF m 34 #[.val (.int x1), .val (.int x2), .val (.int x3), .val (.int x4), .val (.int x5), .val (.int x6), .val (.ref b1), .unset, .unset, .unset, .unset] [(.int (x5 &&& (2147483647 : Int32)))])) _
        refine XS.iconst X15.here hx rfl (hb hby at_34) ?_
        show Steps p.tables e below (T15.setTop (mkF m 35 #[.val (.int x1), .val (.int x2), .val (.int x3), .val (.int x4), .val (.int x5), .val (.int x6), .val (.ref b1), .unset, .unset, .unset, .unset] [(.int (5 : Int32)), (.int (x5 &&& (2147483647 : Int32)))])) _
        refine iremM X15 hx rfl (hb hby at_35) rfl (by decide) ?_
        show Steps p.tables e below (T15.setTop (mkF m 36 #[.val (.int x1), .val (.int x2), .val (.int x3), .val (.int x4), .val (.int x5), .val (.int x6), .val (.ref b1), .unset, .unset, .unset, .unset] [(.int ((x5 &&& (2147483647 : Int32)) % (5 : Int32)))])) _
        refine XS.istore X15.here hx rfl (hb hby at_36) rfl (l' := #[.val (.int x1), .val (.int x2), .val (.int x3), .val (.int x4), .val (.int x5), .val (.int x6), .val (.ref b1), .val (.int ((x5 &&& (2147483647 : Int32)) % (5 : Int32))), .unset, .unset, .unset]) rfl ?_
        show Steps p.tables e below (T15.setTop (mkF m 38 #[.val (.int x1), .val (.int x2), .val (.int x3), .val (.int x4), .val (.int x5), .val (.int x6), .val (.ref b1), .val (.int ((x5 &&& (2147483647 : Int32)) % (5 : Int32))), .unset, .unset, .unset] [])) _
        refine XS.iload X15.here hx rfl (hb hby at_38) rfl ?_
        show Steps p.tables e below (T15.setTop (mkF m 40 #[.val (.int x1), .val (.int x2), .val (.int x3), .val (.int x4), .val (.int x5), .val (.int x6), .val (.ref b1), .val (.int ((x5 &&& (2147483647 : Int32)) % (5 : Int32))), .unset, .unset, .unset] [(.int x6)])) _
        refine X15.ldcInt hx hown (mvT hZ (hw _ (List.mem_of_getElem? (i := 1) rfl))) (g := (mkF m 40 #[.val (.int x1), .val (.int x2), .val (.int x3), .val (.int x4), .val (.int x5), .val (.int x6), .val (.ref b1), .val (.int ((x5 &&& (2147483647 : Int32)) % (5 : Int32))), .unset, .unset, .unset] [(.int x6)])) rfl (hb hby at_40) _ ?_
        show Steps p.tables e below (T15.setTop (mkF m 42 #[.val (.int x1), .val (.int x2), .val (.int x3), .val (.int x4), .val (.int x5), .val (.int x6), .val (.ref b1), .val (.int ((x5 &&& (2147483647 : Int32)) % (5 : Int32))), .unset, .unset, .unset] [(.int (2147483647 : Int32)), (.int x6)])) _
        refine XS.iand X15.here hx rfl (hb hby at_42) rfl ?_
        show Steps p.tables e below (T15.setTop (mkF m 43 #[.val (.int x1), .val (.int x2), .val (.int x3), .val (.int x4), .val (.int x5), .val (.int x6), .val (.ref b1), .val (.int ((x5 &&& (2147483647 : Int32)) % (5 : Int32))), .unset, .unset, .unset] [(.int (x6 &&& (2147483647 : Int32)))])) _
        refine XS.iconst X15.here hx rfl (hb hby at_43) ?_
        show Steps p.tables e below (T15.setTop (mkF m 44 #[.val (.int x1), .val (.int x2), .val (.int x3), .val (.int x4), .val (.int x5), .val (.int x6), .val (.ref b1), .val (.int ((x5 &&& (2147483647 : Int32)) % (5 : Int32))), .unset, .unset, .unset] [(.int (5 : Int32)), (.int (x6 &&& (2147483647 : Int32)))])) _
        refine iremM X15 hx rfl (hb hby at_44) rfl (by decide) ?_
        show Steps p.tables e below (T15.setTop (mkF m 45 #[.val (.int x1), .val (.int x2), .val (.int x3), .val (.int x4), .val (.int x5), .val (.int x6), .val (.ref b1), .val (.int ((x5 &&& (2147483647 : Int32)) % (5 : Int32))), .unset, .unset, .unset] [(.int ((x6 &&& (2147483647 : Int32)) % (5 : Int32)))])) _
        refine XS.istore X15.here hx rfl (hb hby at_45) rfl (l' := #[.val (.int x1), .val (.int x2), .val (.int x3), .val (.int x4), .val (.int x5), .val (.int x6), .val (.ref b1), .val (.int ((x5 &&& (2147483647 : Int32)) % (5 : Int32))), .val (.int ((x6 &&& (2147483647 : Int32)) % (5 : Int32))), .unset, .unset]) rfl ?_
        show Steps p.tables e below (T15.setTop (mkF m 47 #[.val (.int x1), .val (.int x2), .val (.int x3), .val (.int x4), .val (.int x5), .val (.int x6), .val (.ref b1), .val (.int ((x5 &&& (2147483647 : Int32)) % (5 : Int32))), .val (.int ((x6 &&& (2147483647 : Int32)) % (5 : Int32))), .unset, .unset] [])) _
        refine XS.aload X15.here hx rfl (hb hby at_47) rfl rfl ?_
        show Steps p.tables e below (T15.setTop (mkF m 49 #[.val (.int x1), .val (.int x2), .val (.int x3), .val (.int x4), .val (.int x5), .val (.int x6), .val (.ref b1), .val (.int ((x5 &&& (2147483647 : Int32)) % (5 : Int32))), .val (.int ((x6 &&& (2147483647 : Int32)) % (5 : Int32))), .unset, .unset] [(.ref b1)])) _
        refine XS.iload X15.here hx rfl (hb hby at_49) rfl ?_
        show Steps p.tables e below (T15.setTop (mkF m 51 #[.val (.int x1), .val (.int x2), .val (.int x3), .val (.int x4), .val (.int x5), .val (.int x6), .val (.ref b1), .val (.int ((x5 &&& (2147483647 : Int32)) % (5 : Int32))), .val (.int ((x6 &&& (2147483647 : Int32)) % (5 : Int32))), .unset, .unset] [(.int ((x5 &&& (2147483647 : Int32)) % (5 : Int32))), (.ref b1)])) _
        refine XS.iload X15.here hx rfl (hb hby at_51) rfl ?_
        show Steps p.tables e below (T15.setTop (mkF m 53 #[.val (.int x1), .val (.int x2), .val (.int x3), .val (.int x4), .val (.int x5), .val (.int x6), .val (.ref b1), .val (.int ((x5 &&& (2147483647 : Int32)) % (5 : Int32))), .val (.int ((x6 &&& (2147483647 : Int32)) % (5 : Int32))), .unset, .unset] [(.int ((x6 &&& (2147483647 : Int32)) % (5 : Int32))), (.int ((x5 &&& (2147483647 : Int32)) % (5 : Int32))), (.ref b1)])) _
        refine st19 _ ?_
        show Steps p.tables e below (T19.setTop (mkF m 56 #[.val (.int x1), .val (.int x2), .val (.int x3), .val (.int x4), .val (.int x5), .val (.int x6), .val (.ref b1), .val (.int ((x5 &&& (2147483647 : Int32)) % (5 : Int32))), .val (.int ((x6 &&& (2147483647 : Int32)) % (5 : Int32))), .unset, .unset] [(.int (own_de ((x6 &&& (2147483647 : Int32)) % (5 : Int32)) ((own_a x1 x2 x3 x4)) 5 ((x5 &&& (2147483647 : Int32)) % (5 : Int32))))])) _
        refine XS.istore X19.here hx rfl (hb hby at_56) rfl (l' := #[.val (.int x1), .val (.int x2), .val (.int x3), .val (.int x4), .val (.int x5), .val (.int x6), .val (.ref b1), .val (.int ((x5 &&& (2147483647 : Int32)) % (5 : Int32))), .val (.int ((x6 &&& (2147483647 : Int32)) % (5 : Int32))), .val (.int (own_de ((x6 &&& (2147483647 : Int32)) % (5 : Int32)) ((own_a x1 x2 x3 x4)) 5 ((x5 &&& (2147483647 : Int32)) % (5 : Int32)))), .unset]) rfl ?_
        show Steps p.tables e below (T19.setTop (mkF m 58 #[.val (.int x1), .val (.int x2), .val (.int x3), .val (.int x4), .val (.int x5), .val (.int x6), .val (.ref b1), .val (.int ((x5 &&& (2147483647 : Int32)) % (5 : Int32))), .val (.int ((x6 &&& (2147483647 : Int32)) % (5 : Int32))), .val (.int (own_de ((x6 &&& (2147483647 : Int32)) % (5 : Int32)) ((own_a x1 x2 x3 x4)) 5 ((x5 &&& (2147483647 : Int32)) % (5 : Int32)))), .unset] [])) _
        refine XS.iload X19.here hx rfl (hb hby at_58) rfl ?_
        show Steps p.tables e below (T19.setTop (mkF m 60 #[.val (.int x1), .val (.int x2), .val (.int x3), .val (.int x4), .val (.int x5), .val (.int x6), .val (.ref b1), .val (.int ((x5 &&& (2147483647 : Int32)) % (5 : Int32))), .val (.int ((x6 &&& (2147483647 : Int32)) % (5 : Int32))), .val (.int (own_de ((x6 &&& (2147483647 : Int32)) % (5 : Int32)) ((own_a x1 x2 x3 x4)) 5 ((x5 &&& (2147483647 : Int32)) % (5 : Int32)))), .unset] [(.int ((x5 &&& (2147483647 : Int32)) % (5 : Int32)))])) _
        refine XS.iload X19.here hx rfl (hb hby at_60) rfl ?_
        show Steps p.tables e below (T19.setTop (mkF m 62 #[.val (.int x1), .val (.int x2), .val (.int x3), .val (.int x4), .val (.int x5), .val (.int x6), .val (.ref b1), .val (.int ((x5 &&& (2147483647 : Int32)) % (5 : Int32))), .val (.int ((x6 &&& (2147483647 : Int32)) % (5 : Int32))), .val (.int (own_de ((x6 &&& (2147483647 : Int32)) % (5 : Int32)) ((own_a x1 x2 x3 x4)) 5 ((x5 &&& (2147483647 : Int32)) % (5 : Int32)))), .unset] [(.int ((x6 &&& (2147483647 : Int32)) % (5 : Int32))), (.int ((x5 &&& (2147483647 : Int32)) % (5 : Int32)))])) _
        refine XS.icmpYes X19.here hx rfl (pc0 := 62) (pc' := 78) rfl (hb hby at_62) rfl (tlt hb20).1 (by decide) (by decide) ?_
        show Steps p.tables e below (T19.setTop (mkF m 78 #[.val (.int x1), .val (.int x2), .val (.int x3), .val (.int x4), .val (.int x5), .val (.int x6), .val (.ref b1), .val (.int ((x5 &&& (2147483647 : Int32)) % (5 : Int32))), .val (.int ((x6 &&& (2147483647 : Int32)) % (5 : Int32))), .val (.int (own_de ((x6 &&& (2147483647 : Int32)) % (5 : Int32)) ((own_a x1 x2 x3 x4)) 5 ((x5 &&& (2147483647 : Int32)) % (5 : Int32)))), .unset] [])) _
        refine XS.iload X19.here hx rfl (hb hby at_78) rfl ?_
        show Steps p.tables e below (T19.setTop (mkF m 80 #[.val (.int x1), .val (.int x2), .val (.int x3), .val (.int x4), .val (.int x5), .val (.int x6), .val (.ref b1), .val (.int ((x5 &&& (2147483647 : Int32)) % (5 : Int32))), .val (.int ((x6 &&& (2147483647 : Int32)) % (5 : Int32))), .val (.int (own_de ((x6 &&& (2147483647 : Int32)) % (5 : Int32)) ((own_a x1 x2 x3 x4)) 5 ((x5 &&& (2147483647 : Int32)) % (5 : Int32)))), .unset] [(.int (own_de ((x6 &&& (2147483647 : Int32)) % (5 : Int32)) ((own_a x1 x2 x3 x4)) 5 ((x5 &&& (2147483647 : Int32)) % (5 : Int32))))])) _
        refine XS.iload X19.here hx rfl (hb hby at_80) rfl ?_
        show Steps p.tables e below (T19.setTop (mkF m 82 #[.val (.int x1), .val (.int x2), .val (.int x3), .val (.int x4), .val (.int x5), .val (.int x6), .val (.ref b1), .val (.int ((x5 &&& (2147483647 : Int32)) % (5 : Int32))), .val (.int ((x6 &&& (2147483647 : Int32)) % (5 : Int32))), .val (.int (own_de ((x6 &&& (2147483647 : Int32)) % (5 : Int32)) ((own_a x1 x2 x3 x4)) 5 ((x5 &&& (2147483647 : Int32)) % (5 : Int32)))), .unset] [(.int ((x5 &&& (2147483647 : Int32)) % (5 : Int32))), (.int (own_de ((x6 &&& (2147483647 : Int32)) % (5 : Int32)) ((own_a x1 x2 x3 x4)) 5 ((x5 &&& (2147483647 : Int32)) % (5 : Int32))))])) _
        refine XS.icmpNo X19.here hx rfl (hb hby at_82) rfl (flt (own_82 x1 x2 x3 x4 x5 x6 : ¬ ((own_de ((x6 &&& (2147483647 : Int32)) % (5 : Int32)) ((own_a x1 x2 x3 x4)) 5 ((x5 &&& (2147483647 : Int32)) % (5 : Int32))) < ((x5 &&& (2147483647 : Int32)) % (5 : Int32))))).1 ?_
        show Steps p.tables e below (T19.setTop (mkF m 85 #[.val (.int x1), .val (.int x2), .val (.int x3), .val (.int x4), .val (.int x5), .val (.int x6), .val (.ref b1), .val (.int ((x5 &&& (2147483647 : Int32)) % (5 : Int32))), .val (.int ((x6 &&& (2147483647 : Int32)) % (5 : Int32))), .val (.int (own_de ((x6 &&& (2147483647 : Int32)) % (5 : Int32)) ((own_a x1 x2 x3 x4)) 5 ((x5 &&& (2147483647 : Int32)) % (5 : Int32)))), .unset] [])) _
        refine XS.iload X19.here hx rfl (hb hby at_85) rfl ?_
        show Steps p.tables e below (T19.setTop (mkF m 87 #[.val (.int x1), .val (.int x2), .val (.int x3), .val (.int x4), .val (.int x5), .val (.int x6), .val (.ref b1), .val (.int ((x5 &&& (2147483647 : Int32)) % (5 : Int32))), .val (.int ((x6 &&& (2147483647 : Int32)) % (5 : Int32))), .val (.int (own_de ((x6 &&& (2147483647 : Int32)) % (5 : Int32)) ((own_a x1 x2 x3 x4)) 5 ((x5 &&& (2147483647 : Int32)) % (5 : Int32)))), .unset] [(.int (own_de ((x6 &&& (2147483647 : Int32)) % (5 : Int32)) ((own_a x1 x2 x3 x4)) 5 ((x5 &&& (2147483647 : Int32)) % (5 : Int32))))])) _
        refine XS.iload X19.here hx rfl (hb hby at_87) rfl ?_
        show Steps p.tables e below (T19.setTop (mkF m 89 #[.val (.int x1), .val (.int x2), .val (.int x3), .val (.int x4), .val (.int x5), .val (.int x6), .val (.ref b1), .val (.int ((x5 &&& (2147483647 : Int32)) % (5 : Int32))), .val (.int ((x6 &&& (2147483647 : Int32)) % (5 : Int32))), .val (.int (own_de ((x6 &&& (2147483647 : Int32)) % (5 : Int32)) ((own_a x1 x2 x3 x4)) 5 ((x5 &&& (2147483647 : Int32)) % (5 : Int32)))), .unset] [(.int ((x6 &&& (2147483647 : Int32)) % (5 : Int32))), (.int (own_de ((x6 &&& (2147483647 : Int32)) % (5 : Int32)) ((own_a x1 x2 x3 x4)) 5 ((x5 &&& (2147483647 : Int32)) % (5 : Int32))))])) _
        refine XS.icmpYes X19.here hx rfl (pc0 := 89) (pc' := 94) rfl (hb hby at_89) rfl (flt (own_89 x1 x2 x3 x4 x5 x6 hb20 : ¬ (((x6 &&& (2147483647 : Int32)) % (5 : Int32)) < (own_de ((x6 &&& (2147483647 : Int32)) % (5 : Int32)) ((own_a x1 x2 x3 x4)) 5 ((x5 &&& (2147483647 : Int32)) % (5 : Int32)))))).2.2.2 (by decide) (by decide) ?_
        show Steps p.tables e below (T19.setTop (mkF m 94 #[.val (.int x1), .val (.int x2), .val (.int x3), .val (.int x4), .val (.int x5), .val (.int x6), .val (.ref b1), .val (.int ((x5 &&& (2147483647 : Int32)) % (5 : Int32))), .val (.int ((x6 &&& (2147483647 : Int32)) % (5 : Int32))), .val (.int (own_de ((x6 &&& (2147483647 : Int32)) % (5 : Int32)) ((own_a x1 x2 x3 x4)) 5 ((x5 &&& (2147483647 : Int32)) % (5 : Int32)))), .unset] [])) _
        refine XS.aload X19.here hx rfl (hb hby at_94) rfl rfl ?_
        show Steps p.tables e below (T19.setTop (mkF m 96 #[.val (.int x1), .val (.int x2), .val (.int x3), .val (.int x4), .val (.int x5), .val (.int x6), .val (.ref b1), .val (.int ((x5 &&& (2147483647 : Int32)) % (5 : Int32))), .val (.int ((x6 &&& (2147483647 : Int32)) % (5 : Int32))), .val (.int (own_de ((x6 &&& (2147483647 : Int32)) % (5 : Int32)) ((own_a x1 x2 x3 x4)) 5 ((x5 &&& (2147483647 : Int32)) % (5 : Int32)))), .unset] [(.ref b1)])) _
        refine XS.iconst X19.here hx rfl (hb hby at_96) ?_
        show Steps p.tables e below (T19.setTop (mkF m 97 #[.val (.int x1), .val (.int x2), .val (.int x3), .val (.int x4), .val (.int x5), .val (.int x6), .val (.ref b1), .val (.int ((x5 &&& (2147483647 : Int32)) % (5 : Int32))), .val (.int ((x6 &&& (2147483647 : Int32)) % (5 : Int32))), .val (.int (own_de ((x6 &&& (2147483647 : Int32)) % (5 : Int32)) ((own_a x1 x2 x3 x4)) 5 ((x5 &&& (2147483647 : Int32)) % (5 : Int32)))), .unset] [(.int (0 : Int32)), (.ref b1)])) _
        refine XS.iload X19.here hx rfl (hb hby at_97) rfl ?_
        show Steps p.tables e below (T19.setTop (mkF m 99 #[.val (.int x1), .val (.int x2), .val (.int x3), .val (.int x4), .val (.int x5), .val (.int x6), .val (.ref b1), .val (.int ((x5 &&& (2147483647 : Int32)) % (5 : Int32))), .val (.int ((x6 &&& (2147483647 : Int32)) % (5 : Int32))), .val (.int (own_de ((x6 &&& (2147483647 : Int32)) % (5 : Int32)) ((own_a x1 x2 x3 x4)) 5 ((x5 &&& (2147483647 : Int32)) % (5 : Int32)))), .unset] [(.int ((x5 &&& (2147483647 : Int32)) % (5 : Int32))), (.int (0 : Int32)), (.ref b1)])) _
        refine XS.iload X19.here hx rfl (hb hby at_99) rfl ?_
        show Steps p.tables e below (T19.setTop (mkF m 101 #[.val (.int x1), .val (.int x2), .val (.int x3), .val (.int x4), .val (.int x5), .val (.int x6), .val (.ref b1), .val (.int ((x5 &&& (2147483647 : Int32)) % (5 : Int32))), .val (.int ((x6 &&& (2147483647 : Int32)) % (5 : Int32))), .val (.int (own_de ((x6 &&& (2147483647 : Int32)) % (5 : Int32)) ((own_a x1 x2 x3 x4)) 5 ((x5 &&& (2147483647 : Int32)) % (5 : Int32)))), .unset] [(.int (own_de ((x6 &&& (2147483647 : Int32)) % (5 : Int32)) ((own_a x1 x2 x3 x4)) 5 ((x5 &&& (2147483647 : Int32)) % (5 : Int32)))), (.int ((x5 &&& (2147483647 : Int32)) % (5 : Int32))), (.int (0 : Int32)), (.ref b1)])) _
        refine st21 _ ?_
        show Steps p.tables e below (T21.setTop (mkF m 104 #[.val (.int x1), .val (.int x2), .val (.int x3), .val (.int x4), .val (.int x5), .val (.int x6), .val (.ref b1), .val (.int ((x5 &&& (2147483647 : Int32)) % (5 : Int32))), .val (.int ((x6 &&& (2147483647 : Int32)) % (5 : Int32))), .val (.int (own_de ((x6 &&& (2147483647 : Int32)) % (5 : Int32)) ((own_a x1 x2 x3 x4)) 5 ((x5 &&& (2147483647 : Int32)) % (5 : Int32)))), .unset] [(.int (F2 (0 : Int32) ((x5 &&& (2147483647 : Int32)) % (5 : Int32)) (own_de ((x6 &&& (2147483647 : Int32)) % (5 : Int32)) ((own_a x1 x2 x3 x4)) 5 ((x5 &&& (2147483647 : Int32)) % (5 : Int32))) ((own_a x1 x2 x3 x4))))])) _
        refine XS.ifNo X21.here hx rfl (hb hby at_104) rfl ((if0 _ _).trans (feq (own_in x1 x2 x3 x4 x5 x6 0 : ¬ ((F2 (0 : Int32) ((x5 &&& (2147483647 : Int32)) % (5 : Int32)) (own_de ((x6 &&& (2147483647 : Int32)) % (5 : Int32)) ((own_a x1 x2 x3 x4)) 5 ((x5 &&& (2147483647 : Int32)) % (5 : Int32))) ((own_a x1 x2 x3 x4))) = (0 : Int32)))).1) ?_
        show Steps p.tables e below (T21.setTop (mkF m 107 #[.val (.int x1), .val (.int x2), .val (.int x3), .val (.int x4), .val (.int x5), .val (.int x6), .val (.ref b1), .val (.int ((x5 &&& (2147483647 : Int32)) % (5 : Int32))), .val (.int ((x6 &&& (2147483647 : Int32)) % (5 : Int32))), .val (.int (own_de ((x6 &&& (2147483647 : Int32)) % (5 : Int32)) ((own_a x1 x2 x3 x4)) 5 ((x5 &&& (2147483647 : Int32)) % (5 : Int32)))), .unset] [])) _
        refine XS.aload X21.here hx rfl (hb hby at_107) rfl rfl ?_
        show Steps p.tables e below (T21.setTop (mkF m 109 #[.val (.int x1), .val (.int x2), .val (.int x3), .val (.int x4), .val (.int x5), .val (.int x6), .val (.ref b1), .val (.int ((x5 &&& (2147483647 : Int32)) % (5 : Int32))), .val (.int ((x6 &&& (2147483647 : Int32)) % (5 : Int32))), .val (.int (own_de ((x6 &&& (2147483647 : Int32)) % (5 : Int32)) ((own_a x1 x2 x3 x4)) 5 ((x5 &&& (2147483647 : Int32)) % (5 : Int32)))), .unset] [(.ref b1)])) _
        refine XS.iconst X21.here hx rfl (hb hby at_109) ?_
        show Steps p.tables e below (T21.setTop (mkF m 110 #[.val (.int x1), .val (.int x2), .val (.int x3), .val (.int x4), .val (.int x5), .val (.int x6), .val (.ref b1), .val (.int ((x5 &&& (2147483647 : Int32)) % (5 : Int32))), .val (.int ((x6 &&& (2147483647 : Int32)) % (5 : Int32))), .val (.int (own_de ((x6 &&& (2147483647 : Int32)) % (5 : Int32)) ((own_a x1 x2 x3 x4)) 5 ((x5 &&& (2147483647 : Int32)) % (5 : Int32)))), .unset] [(.int (1 : Int32)), (.ref b1)])) _
        refine XS.iload X21.here hx rfl (hb hby at_110) rfl ?_
        show Steps p.tables e below (T21.setTop (mkF m 112 #[.val (.int x1), .val (.int x2), .val (.int x3), .val (.int x4), .val (.int x5), .val (.int x6), .val (.ref b1), .val (.int ((x5 &&& (2147483647 : Int32)) % (5 : Int32))), .val (.int ((x6 &&& (2147483647 : Int32)) % (5 : Int32))), .val (.int (own_de ((x6 &&& (2147483647 : Int32)) % (5 : Int32)) ((own_a x1 x2 x3 x4)) 5 ((x5 &&& (2147483647 : Int32)) % (5 : Int32)))), .unset] [(.int ((x5 &&& (2147483647 : Int32)) % (5 : Int32))), (.int (1 : Int32)), (.ref b1)])) _
        refine XS.iload X21.here hx rfl (hb hby at_112) rfl ?_
        show Steps p.tables e below (T21.setTop (mkF m 114 #[.val (.int x1), .val (.int x2), .val (.int x3), .val (.int x4), .val (.int x5), .val (.int x6), .val (.ref b1), .val (.int ((x5 &&& (2147483647 : Int32)) % (5 : Int32))), .val (.int ((x6 &&& (2147483647 : Int32)) % (5 : Int32))), .val (.int (own_de ((x6 &&& (2147483647 : Int32)) % (5 : Int32)) ((own_a x1 x2 x3 x4)) 5 ((x5 &&& (2147483647 : Int32)) % (5 : Int32)))), .unset] [(.int (own_de ((x6 &&& (2147483647 : Int32)) % (5 : Int32)) ((own_a x1 x2 x3 x4)) 5 ((x5 &&& (2147483647 : Int32)) % (5 : Int32)))), (.int ((x5 &&& (2147483647 : Int32)) % (5 : Int32))), (.int (1 : Int32)), (.ref b1)])) _
        refine st22 _ ?_
        show Steps p.tables e below (T22.setTop (mkF m 117 #[.val (.int x1), .val (.int x2), .val (.int x3), .val (.int x4), .val (.int x5), .val (.int x6), .val (.ref b1), .val (.int ((x5 &&& (2147483647 : Int32)) % (5 : Int32))), .val (.int ((x6 &&& (2147483647 : Int32)) % (5 : Int32))), .val (.int (own_de ((x6 &&& (2147483647 : Int32)) % (5 : Int32)) ((own_a x1 x2 x3 x4)) 5 ((x5 &&& (2147483647 : Int32)) % (5 : Int32)))), .unset] [(.int (F2 (1 : Int32) ((x5 &&& (2147483647 : Int32)) % (5 : Int32)) (own_de ((x6 &&& (2147483647 : Int32)) % (5 : Int32)) ((own_a x1 x2 x3 x4)) 5 ((x5 &&& (2147483647 : Int32)) % (5 : Int32))) ((own_a x1 x2 x3 x4))))])) _
        refine XS.ifNo X22.here hx rfl (hb hby at_117) rfl ((if0 _ _).trans (feq (own_in x1 x2 x3 x4 x5 x6 1 : ¬ ((F2 (1 : Int32) ((x5 &&& (2147483647 : Int32)) % (5 : Int32)) (own_de ((x6 &&& (2147483647 : Int32)) % (5 : Int32)) ((own_a x1 x2 x3 x4)) 5 ((x5 &&& (2147483647 : Int32)) % (5 : Int32))) ((own_a x1 x2 x3 x4))) = (0 : Int32)))).1) ?_
        show Steps p.tables e below (T22.setTop (mkF m 120 #[.val (.int x1), .val (.int x2), .val (.int x3), .val (.int x4), .val (.int x5), .val (.int x6), .val (.ref b1), .val (.int ((x5 &&& (2147483647 : Int32)) % (5 : Int32))), .val (.int ((x6 &&& (2147483647 : Int32)) % (5 : Int32))), .val (.int (own_de ((x6 &&& (2147483647 : Int32)) % (5 : Int32)) ((own_a x1 x2 x3 x4)) 5 ((x5 &&& (2147483647 : Int32)) % (5 : Int32)))), .unset] [])) _
        refine XS.aload X22.here hx rfl (hb hby at_120) rfl rfl ?_
        show Steps p.tables e below (T22.setTop (mkF m 122 #[.val (.int x1), .val (.int x2), .val (.int x3), .val (.int x4), .val (.int x5), .val (.int x6), .val (.ref b1), .val (.int ((x5 &&& (2147483647 : Int32)) % (5 : Int32))), .val (.int ((x6 &&& (2147483647 : Int32)) % (5 : Int32))), .val (.int (own_de ((x6 &&& (2147483647 : Int32)) % (5 : Int32)) ((own_a x1 x2 x3 x4)) 5 ((x5 &&& (2147483647 : Int32)) % (5 : Int32)))), .unset] [(.ref b1)])) _
        refine XS.iconst X22.here hx rfl (hb hby at_122) ?_
        show Steps p.tables e below (T22.setTop (mkF m 123 #[.val (.int x1), .val (.int x2), .val (.int x3), .val (.int x4), .val (.int x5), .val (.int x6), .val (.ref b1), .val (.int ((x5 &&& (2147483647 : Int32)) % (5 : Int32))), .val (.int ((x6 &&& (2147483647 : Int32)) % (5 : Int32))), .val (.int (own_de ((x6 &&& (2147483647 : Int32)) % (5 : Int32)) ((own_a x1 x2 x3 x4)) 5 ((x5 &&& (2147483647 : Int32)) % (5 : Int32)))), .unset] [(.int (2 : Int32)), (.ref b1)])) _
        refine XS.iload X22.here hx rfl (hb hby at_123) rfl ?_
        show Steps p.tables e below (T22.setTop (mkF m 125 #[.val (.int x1), .val (.int x2), .val (.int x3), .val (.int x4), .val (.int x5), .val (.int x6), .val (.ref b1), .val (.int ((x5 &&& (2147483647 : Int32)) % (5 : Int32))), .val (.int ((x6 &&& (2147483647 : Int32)) % (5 : Int32))), .val (.int (own_de ((x6 &&& (2147483647 : Int32)) % (5 : Int32)) ((own_a x1 x2 x3 x4)) 5 ((x5 &&& (2147483647 : Int32)) % (5 : Int32)))), .unset] [(.int ((x5 &&& (2147483647 : Int32)) % (5 : Int32))), (.int (2 : Int32)), (.ref b1)])) _
        refine XS.iload X22.here hx rfl (hb hby at_125) rfl ?_
        show Steps p.tables e below (T22.setTop (mkF m 127 #[.val (.int x1), .val (.int x2), .val (.int x3), .val (.int x4), .val (.int x5), .val (.int x6), .val (.ref b1), .val (.int ((x5 &&& (2147483647 : Int32)) % (5 : Int32))), .val (.int ((x6 &&& (2147483647 : Int32)) % (5 : Int32))), .val (.int (own_de ((x6 &&& (2147483647 : Int32)) % (5 : Int32)) ((own_a x1 x2 x3 x4)) 5 ((x5 &&& (2147483647 : Int32)) % (5 : Int32)))), .unset] [(.int (own_de ((x6 &&& (2147483647 : Int32)) % (5 : Int32)) ((own_a x1 x2 x3 x4)) 5 ((x5 &&& (2147483647 : Int32)) % (5 : Int32)))), (.int ((x5 &&& (2147483647 : Int32)) % (5 : Int32))), (.int (2 : Int32)), (.ref b1)])) _
        refine st23 _ ?_
        show Steps p.tables e below (T23.setTop (mkF m 130 #[.val (.int x1), .val (.int x2), .val (.int x3), .val (.int x4), .val (.int x5), .val (.int x6), .val (.ref b1), .val (.int ((x5 &&& (2147483647 : Int32)) % (5 : Int32))), .val (.int ((x6 &&& (2147483647 : Int32)) % (5 : Int32))), .val (.int (own_de ((x6 &&& (2147483647 : Int32)) % (5 : Int32)) ((own_a x1 x2 x3 x4)) 5 ((x5 &&& (2147483647 : Int32)) % (5 : Int32)))), .unset] [(.int (F2 (2 : Int32) ((x5 &&& (2147483647 : Int32)) % (5 : Int32)) (own_de ((x6 &&& (2147483647 : Int32)) % (5 : Int32)) ((own_a x1 x2 x3 x4)) 5 ((x5 &&& (2147483647 : Int32)) % (5 : Int32))) ((own_a x1 x2 x3 x4))))])) _
        refine XS.ifNo X23.here hx rfl (hb hby at_130) rfl ((if0 _ _).trans (feq (own_in x1 x2 x3 x4 x5 x6 2 : ¬ ((F2 (2 : Int32) ((x5 &&& (2147483647 : Int32)) % (5 : Int32)) (own_de ((x6 &&& (2147483647 : Int32)) % (5 : Int32)) ((own_a x1 x2 x3 x4)) 5 ((x5 &&& (2147483647 : Int32)) % (5 : Int32))) ((own_a x1 x2 x3 x4))) = (0 : Int32)))).1) ?_
        show Steps p.tables e below (T23.setTop (mkF m 133 #[.val (.int x1), .val (.int x2), .val (.int x3), .val (.int x4), .val (.int x5), .val (.int x6), .val (.ref b1), .val (.int ((x5 &&& (2147483647 : Int32)) % (5 : Int32))), .val (.int ((x6 &&& (2147483647 : Int32)) % (5 : Int32))), .val (.int (own_de ((x6 &&& (2147483647 : Int32)) % (5 : Int32)) ((own_a x1 x2 x3 x4)) 5 ((x5 &&& (2147483647 : Int32)) % (5 : Int32)))), .unset] [])) _
        refine XS.aload X23.here hx rfl (hb hby at_133) rfl rfl ?_
        show Steps p.tables e below (T23.setTop (mkF m 135 #[.val (.int x1), .val (.int x2), .val (.int x3), .val (.int x4), .val (.int x5), .val (.int x6), .val (.ref b1), .val (.int ((x5 &&& (2147483647 : Int32)) % (5 : Int32))), .val (.int ((x6 &&& (2147483647 : Int32)) % (5 : Int32))), .val (.int (own_de ((x6 &&& (2147483647 : Int32)) % (5 : Int32)) ((own_a x1 x2 x3 x4)) 5 ((x5 &&& (2147483647 : Int32)) % (5 : Int32)))), .unset] [(.ref b1)])) _
        refine XS.iconst X23.here hx rfl (hb hby at_135) ?_
        show Steps p.tables e below (T23.setTop (mkF m 136 #[.val (.int x1), .val (.int x2), .val (.int x3), .val (.int x4), .val (.int x5), .val (.int x6), .val (.ref b1), .val (.int ((x5 &&& (2147483647 : Int32)) % (5 : Int32))), .val (.int ((x6 &&& (2147483647 : Int32)) % (5 : Int32))), .val (.int (own_de ((x6 &&& (2147483647 : Int32)) % (5 : Int32)) ((own_a x1 x2 x3 x4)) 5 ((x5 &&& (2147483647 : Int32)) % (5 : Int32)))), .unset] [(.int (3 : Int32)), (.ref b1)])) _
        refine XS.iload X23.here hx rfl (hb hby at_136) rfl ?_
        show Steps p.tables e below (T23.setTop (mkF m 138 #[.val (.int x1), .val (.int x2), .val (.int x3), .val (.int x4), .val (.int x5), .val (.int x6), .val (.ref b1), .val (.int ((x5 &&& (2147483647 : Int32)) % (5 : Int32))), .val (.int ((x6 &&& (2147483647 : Int32)) % (5 : Int32))), .val (.int (own_de ((x6 &&& (2147483647 : Int32)) % (5 : Int32)) ((own_a x1 x2 x3 x4)) 5 ((x5 &&& (2147483647 : Int32)) % (5 : Int32)))), .unset] [(.int ((x5 &&& (2147483647 : Int32)) % (5 : Int32))), (.int (3 : Int32)), (.ref b1)])) _
        refine XS.iload X23.here hx rfl (hb hby at_138) rfl ?_
        show Steps p.tables e below (T23.setTop (mkF m 140 #[.val (.int x1), .val (.int x2), .val (.int x3), .val (.int x4), .val (.int x5), .val (.int x6), .val (.ref b1), .val (.int ((x5 &&& (2147483647 : Int32)) % (5 : Int32))), .val (.int ((x6 &&& (2147483647 : Int32)) % (5 : Int32))), .val (.int (own_de ((x6 &&& (2147483647 : Int32)) % (5 : Int32)) ((own_a x1 x2 x3 x4)) 5 ((x5 &&& (2147483647 : Int32)) % (5 : Int32)))), .unset] [(.int (own_de ((x6 &&& (2147483647 : Int32)) % (5 : Int32)) ((own_a x1 x2 x3 x4)) 5 ((x5 &&& (2147483647 : Int32)) % (5 : Int32)))), (.int ((x5 &&& (2147483647 : Int32)) % (5 : Int32))), (.int (3 : Int32)), (.ref b1)])) _
        refine st24 _ ?_
        show Steps p.tables e below (T24.setTop (mkF m 143 #[.val (.int x1), .val (.int x2), .val (.int x3), .val (.int x4), .val (.int x5), .val (.int x6), .val (.ref b1), .val (.int ((x5 &&& (2147483647 : Int32)) % (5 : Int32))), .val (.int ((x6 &&& (2147483647 : Int32)) % (5 : Int32))), .val (.int (own_de ((x6 &&& (2147483647 : Int32)) % (5 : Int32)) ((own_a x1 x2 x3 x4)) 5 ((x5 &&& (2147483647 : Int32)) % (5 : Int32)))), .unset] [(.int (F2 (3 : Int32) ((x5 &&& (2147483647 : Int32)) % (5 : Int32)) (own_de ((x6 &&& (2147483647 : Int32)) % (5 : Int32)) ((own_a x1 x2 x3 x4)) 5 ((x5 &&& (2147483647 : Int32)) % (5 : Int32))) ((own_a x1 x2 x3 x4))))])) _
        refine XS.ifNo X24.here hx rfl (hb hby at_143) rfl ((if0 _ _).trans (feq (own_in x1 x2 x3 x4 x5 x6 3 : ¬ ((F2 (3 : Int32) ((x5 &&& (2147483647 : Int32)) % (5 : Int32)) (own_de ((x6 &&& (2147483647 : Int32)) % (5 : Int32)) ((own_a x1 x2 x3 x4)) 5 ((x5 &&& (2147483647 : Int32)) % (5 : Int32))) ((own_a x1 x2 x3 x4))) = (0 : Int32)))).1) ?_
        show Steps p.tables e below (T24.setTop (mkF m 146 #[.val (.int x1), .val (.int x2), .val (.int x3), .val (.int x4), .val (.int x5), .val (.int x6), .val (.ref b1), .val (.int ((x5 &&& (2147483647 : Int32)) % (5 : Int32))), .val (.int ((x6 &&& (2147483647 : Int32)) % (5 : Int32))), .val (.int (own_de ((x6 &&& (2147483647 : Int32)) % (5 : Int32)) ((own_a x1 x2 x3 x4)) 5 ((x5 &&& (2147483647 : Int32)) % (5 : Int32)))), .unset] [])) _
        refine XS.iconst X24.here hx rfl (hb hby at_146) ?_
        show Steps p.tables e below (T24.setTop (mkF m 147 #[.val (.int x1), .val (.int x2), .val (.int x3), .val (.int x4), .val (.int x5), .val (.int x6), .val (.ref b1), .val (.int ((x5 &&& (2147483647 : Int32)) % (5 : Int32))), .val (.int ((x6 &&& (2147483647 : Int32)) % (5 : Int32))), .val (.int (own_de ((x6 &&& (2147483647 : Int32)) % (5 : Int32)) ((own_a x1 x2 x3 x4)) 5 ((x5 &&& (2147483647 : Int32)) % (5 : Int32)))), .unset] [(.int (1 : Int32))])) _
        refine XS.goto X24.here hx rfl (pc0 := 147) (pc' := 151) rfl (hb hby at_147) (by decide) (by decide) ?_
        show Steps p.tables e below (T24.setTop (mkF m 151 #[.val (.int x1), .val (.int x2), .val (.int x3), .val (.int x4), .val (.int x5), .val (.int x6), .val (.ref b1), .val (.int ((x5 &&& (2147483647 : Int32)) % (5 : Int32))), .val (.int ((x6 &&& (2147483647 : Int32)) % (5 : Int32))), .val (.int (own_de ((x6 &&& (2147483647 : Int32)) % (5 : Int32)) ((own_a x1 x2 x3 x4)) 5 ((x5 &&& (2147483647 : Int32)) % (5 : Int32)))), .unset] [(.int (1 : Int32))])) _
        refine XS.istore X24.here hx rfl (hb hby at_151) rfl (l' := #[.val (.int x1), .val (.int x2), .val (.int x3), .val (.int x4), .val (.int x5), .val (.int x6), .val (.ref b1), .val (.int ((x5 &&& (2147483647 : Int32)) % (5 : Int32))), .val (.int ((x6 &&& (2147483647 : Int32)) % (5 : Int32))), .val (.int (own_de ((x6 &&& (2147483647 : Int32)) % (5 : Int32)) ((own_a x1 x2 x3 x4)) 5 ((x5 &&& (2147483647 : Int32)) % (5 : Int32)))), .val (.int (1 : Int32))]) rfl ?_
        show Steps p.tables e below (T24.setTop (mkF m 153 #[.val (.int x1), .val (.int x2), .val (.int x3), .val (.int x4), .val (.int x5), .val (.int x6), .val (.ref b1), .val (.int ((x5 &&& (2147483647 : Int32)) % (5 : Int32))), .val (.int ((x6 &&& (2147483647 : Int32)) % (5 : Int32))), .val (.int (own_de ((x6 &&& (2147483647 : Int32)) % (5 : Int32)) ((own_a x1 x2 x3 x4)) 5 ((x5 &&& (2147483647 : Int32)) % (5 : Int32)))), .val (.int (1 : Int32))] [])) _
        refine XS.iload X24.here hx rfl (hb hby at_153) rfl ?_
        show Steps p.tables e below (T24.setTop (mkF m 155 #[.val (.int x1), .val (.int x2), .val (.int x3), .val (.int x4), .val (.int x5), .val (.int x6), .val (.ref b1), .val (.int ((x5 &&& (2147483647 : Int32)) % (5 : Int32))), .val (.int ((x6 &&& (2147483647 : Int32)) % (5 : Int32))), .val (.int (own_de ((x6 &&& (2147483647 : Int32)) % (5 : Int32)) ((own_a x1 x2 x3 x4)) 5 ((x5 &&& (2147483647 : Int32)) % (5 : Int32)))), .val (.int (1 : Int32))] [(.int (1 : Int32))])) _
        refine XS.ifYes X24.here hx rfl (pc0 := 155) (pc' := 160) rfl (hb hby at_155) rfl ((if0 _ _).trans (feq (by decide : ¬ ((1 : Int32) = (0 : Int32)))).2) (by decide) (by decide) ?_
        show Steps p.tables e below (T24.setTop (mkF m 160 #[.val (.int x1), .val (.int x2), .val (.int x3), .val (.int x4), .val (.int x5), .val (.int x6), .val (.ref b1), .val (.int ((x5 &&& (2147483647 : Int32)) % (5 : Int32))), .val (.int ((x6 &&& (2147483647 : Int32)) % (5 : Int32))), .val (.int (own_de ((x6 &&& (2147483647 : Int32)) % (5 : Int32)) ((own_a x1 x2 x3 x4)) 5 ((x5 &&& (2147483647 : Int32)) % (5 : Int32)))), .val (.int (1 : Int32))] [])) _
        refine XS.iload X24.here hx rfl (hb hby at_160) rfl ?_
        show Steps p.tables e below (T24.setTop (mkF m 162 #[.val (.int x1), .val (.int x2), .val (.int x3), .val (.int x4), .val (.int x5), .val (.int x6), .val (.ref b1), .val (.int ((x5 &&& (2147483647 : Int32)) % (5 : Int32))), .val (.int ((x6 &&& (2147483647 : Int32)) % (5 : Int32))), .val (.int (own_de ((x6 &&& (2147483647 : Int32)) % (5 : Int32)) ((own_a x1 x2 x3 x4)) 5 ((x5 &&& (2147483647 : Int32)) % (5 : Int32)))), .val (.int (1 : Int32))] [(.int (own_de ((x6 &&& (2147483647 : Int32)) % (5 : Int32)) ((own_a x1 x2 x3 x4)) 5 ((x5 &&& (2147483647 : Int32)) % (5 : Int32))))])) _
        refine XS.iload X24.here hx rfl (hb hby at_162) rfl ?_
        show Steps p.tables e below (T24.setTop (mkF m 164 #[.val (.int x1), .val (.int x2), .val (.int x3), .val (.int x4), .val (.int x5), .val (.int x6), .val (.ref b1), .val (.int ((x5 &&& (2147483647 : Int32)) % (5 : Int32))), .val (.int ((x6 &&& (2147483647 : Int32)) % (5 : Int32))), .val (.int (own_de ((x6 &&& (2147483647 : Int32)) % (5 : Int32)) ((own_a x1 x2 x3 x4)) 5 ((x5 &&& (2147483647 : Int32)) % (5 : Int32)))), .val (.int (1 : Int32))] [(.int ((x6 &&& (2147483647 : Int32)) % (5 : Int32))), (.int (own_de ((x6 &&& (2147483647 : Int32)) % (5 : Int32)) ((own_a x1 x2 x3 x4)) 5 ((x5 &&& (2147483647 : Int32)) % (5 : Int32))))])) _
        refine XS.icmpNo X24.here hx rfl (hb hby at_164) rfl (teq hb25).2 ?_
        show Steps p.tables e below (T24.setTop (mkF m 167 #[.val (.int x1), .val (.int x2), .val (.int x3), .val (.int x4), .val (.int x5), .val (.int x6), .val (.ref b1), .val (.int ((x5 &&& (2147483647 : Int32)) % (5 : Int32))), .val (.int ((x6 &&& (2147483647 : Int32)) % (5 : Int32))), .val (.int (own_de ((x6 &&& (2147483647 : Int32)) % (5 : Int32)) ((own_a x1 x2 x3 x4)) 5 ((x5 &&& (2147483647 : Int32)) % (5 : Int32)))), .val (.int (1 : Int32))] [])) _
        refine XS.iconst X24.here hx rfl (hb hby at_167) ?_
        show Steps p.tables e below (T24.setTop (mkF m 168 #[.val (.int x1), .val (.int x2), .val (.int x3), .val (.int x4), .val (.int x5), .val (.int x6), .val (.ref b1), .val (.int ((x5 &&& (2147483647 : Int32)) % (5 : Int32))), .val (.int ((x6 &&& (2147483647 : Int32)) % (5 : Int32))), .val (.int (own_de ((x6 &&& (2147483647 : Int32)) % (5 : Int32)) ((own_a x1 x2 x3 x4)) 5 ((x5 &&& (2147483647 : Int32)) % (5 : Int32)))), .val (.int (1 : Int32))] [(.int (1 : Int32))])) _
        exact retN X24 hx (t := .boolean) Bd.returns (by simp) (hb hby at_168) hr
      · show Q0 Z x1 x2 x3 x4 x5 x6 h0 n0 _ T24.heap _
        rw [e24]
        exact ⟨(congrArg (fun z => some (Value.int z)) (Eq.symm (Eq.trans (if_pos hb20) (if_pos hb25)))), N24⟩
    · have Vo26 := Vq
      obtain ⟨cl26, Ar26, S26, M26, H26⟩ := Vo26
      obtain ⟨_, _, ⟨T28, L28, k28, n28⟩, -, X28, ⟨Lc28, hQ28, l28, y28, z28⟩, st28⟩ := Jvm.LawKit.callS X24 hx (y := (⟨"com/example/ponca/ponca/protocol/DecimalDigitsEndPinLaw", "isDigit", "(B)Z"⟩ : MethodName)) hown (mvT hZ (hw _ (List.mem_of_getElem? (i := 10) rfl))) (mvT hZ (hw _ (List.mem_of_getElem? (i := 11) rfl))) (mvT hZ (hw _ (List.mem_of_getElem? (i := 8) rfl))) (mvT hZ (hw _ (List.mem_of_getElem? (i := 12) rfl))) (by decide) (backOf (W := 0) (rm3 l Z a0 hw [] ((own_a x1 x2 x3 x4) ((own_de ((x6 &&& (2147483647 : Int32)) % (5 : Int32)) ((own_a x1 x2 x3 x4)) 5 ((x5 &&& (2147483647 : Int32)) % (5 : Int32)))).toNatClampNeg)  h15 n0 Z17 ) hZ (hw _ (List.mem_of_getElem? (i := 12) rfl)) (hw _ (List.mem_of_getElem? (i := 8) rfl)) (by decide) (by decide)) (g := (mkF m 174 #[.val (.int x1), .val (.int x2), .val (.int x3), .val (.int x4), .val (.int x5), .val (.int x6), .val (.ref b1), .val (.int ((x5 &&& (2147483647 : Int32)) % (5 : Int32))), .val (.int ((x6 &&& (2147483647 : Int32)) % (5 : Int32))), .val (.int (own_de ((x6 &&& (2147483647 : Int32)) % (5 : Int32)) ((own_a x1 x2 x3 x4)) 5 ((x5 &&& (2147483647 : Int32)) % (5 : Int32)))), .val (.int (1 : Int32))] [(.int ((own_a x1 x2 x3 x4) ((own_de ((x6 &&& (2147483647 : Int32)) % (5 : Int32)) ((own_a x1 x2 x3 x4)) 5 ((x5 &&& (2147483647 : Int32)) % (5 : Int32)))).toNatClampNeg))])) rfl (by rw [hml]; rfl) (argsL := [(.int ((own_a x1 x2 x3 x4) ((own_de ((x6 &&& (2147483647 : Int32)) % (5 : Int32)) ((own_a x1 x2 x3 x4)) 5 ((x5 &&& (2147483647 : Int32)) % (5 : Int32)))).toNatClampNeg))]) (rest := []) (lenOf pd_0 rfl) rfl (by show 2 * 0 + _ ≤ _; exact Nat.le_of_eq rfl) (hb hby at_174) (fun _ _ => ⟨rfl, e24, (by decide : 1 + 0 ≤ _), (by decide : 4 + 0 ≤ _)⟩)
      dsimp only [Pt.U, Pt.locs, Pt.cells, Pt.slots] at X28 l28 y28 z28 st28 hQ28
      subst l28 y28 z28
      obtain ⟨rfl, N28q, e28⟩ := hQ28
      have N28 := Fr.app N24 N28q
      obtain ⟨fs, hr, hrun, hended, hW, hsame⟩ := X28.leave (v := some (.int (if (F3 ((own_a x1 x2 x3 x4) ((own_de ((x6 &&& (2147483647 : Int32)) % (5 : Int32)) ((own_a x1 x2 x3 x4)) 5 ((x5 &&& (2147483647 : Int32)) % (5 : Int32)))).toNatClampNeg)) = (0 : Int32) then (1 : Int32) else (0 : Int32)))) (fun h => by rw [Bd.returns] at h; cases h)
      refine ⟨_, _, pre0 _ ?_, hrun, hended, _, _, rfl, ?_, ⟨_, rfl⟩, hW, hsame.mono (by decide) (by decide)⟩
      · show Steps p.tables e below (s₁.setTop (mkF m 0 #[.val (.int x1), .val (.int x2), .val (.int x3), .val (.int x4), .val (.int x5), .val (.int x6), .unset, .unset, .unset, .unset, .unset] [])) _
        refine XS.iconst X0.here hx rfl (hb hby at_0) ?_
        show Steps p.tables e below (s₁.setTop (mkF m 1 #[.val (.int x1), .val (.int x2), .val (.int x3), .val (.int x4), .val (.int x5), .val (.int x6), .unset, .unset, .unset, .unset, .unset] [(.int (4 : Int32))])) _
        refine st1 _ ?_
        show Steps p.tables e below (T1.setTop (mkF m 3 #[.val (.int x1), .val (.int x2), .val (.int x3), .val (.int x4), .val (.int x5), .val (.int x6), .unset, .unset, .unset, .unset, .unset] [(.ref b1)])) _
        refine XS.astore X1.here hx rfl (hb hby at_3) rfl rfl (l' := #[.val (.int x1), .val (.int x2), .val (.int x3), .val (.int x4), .val (.int x5), .val (.int x6), .val (.ref b1), .unset, .unset, .unset, .unset]) rfl ?_
        show Steps p.tables e below (T1.setTop (mkF m 5 #[.val (.int x1), .val (.int x2), .val (.int x3), .val (.int x4), .val (.int x5), .val (.int x6), .val (.ref b1), .unset, .unset, .unset, .unset] [])) _
        refine XS.aload X1.here hx rfl (hb hby at_5) rfl rfl ?_
        show Steps p.tables e below (T1.setTop (mkF m 7 #[.val (.int x1), .val (.int x2), .val (.int x3), .val (.int x4), .val (.int x5), .val (.int x6), .val (.ref b1), .unset, .unset, .unset, .unset] [(.ref b1)])) _
        refine XS.iconst X1.here hx rfl (hb hby at_7) ?_
        show Steps p.tables e below (T1.setTop (mkF m 8 #[.val (.int x1), .val (.int x2), .val (.int x3), .val (.int x4), .val (.int x5), .val (.int x6), .val (.ref b1), .unset, .unset, .unset, .unset] [(.int (0 : Int32)), (.ref b1)])) _
        refine XS.iloadN X1.here hx rfl (hb hby at_8) rfl ?_
        show Steps p.tables e below (T1.setTop (mkF m 9 #[.val (.int x1), .val (.int x2), .val (.int x3), .val (.int x4), .val (.int x5), .val (.int x6), .val (.ref b1), .unset, .unset, .unset, .unset] [(.int x1), (.int (0 : Int32)), (.ref b1)])) _
        refine XS.i2b X1.here hx rfl (hb hby at_9) rfl ?_
        show Steps p.tables e below (T1.setTop (mkF m 10 #[.val (.int x1), .val (.int x2), .val (.int x3), .val (.int x4), .val (.int x5), .val (.int x6), .val (.ref b1), .unset, .unset, .unset, .unset] [(.int (x1.toInt8.toInt32)), (.int (0 : Int32)), (.ref b1)])) _
        refine st3 _ ?_
        show Steps p.tables e below (T3.setTop (mkF m 11 #[.val (.int x1), .val (.int x2), .val (.int x3), .val (.int x4), .val (.int x5), .val (.int x6), .val (.ref b1), .unset, .unset, .unset, .unset] [])) _
        refine XS.aload X3.here hx rfl (hb hby at_11) rfl rfl ?_
        show Steps p.tables e below (T3.setTop (mkF m 13 #[.val (.int x1), .val (.int x2), .val (.int x3), .val (.int x4), .val (.int x5), .val (.int x6), .val (.ref b1), .unset, .unset, .unset, .unset] [(.ref b1)])) _
        refine XS.iconst X3.here hx rfl (hb hby at_13) ?_
        show Steps p.tables e below (T3.setTop (mkF m 14 #[.val (.int x1), .val (.int x2), .val (.int x3), .val (.int x4), .val (.int x5), .val (.int x6), .val (.ref b1), .unset, .unset, .unset, .unset] [(.int (1 : Int32)), (.ref b1)])) _
        refine XS.iloadN X3.here hx rfl (hb hby at_14) rfl ?_
        show Steps p.tables e below (T3.setTop (mkF m 15 #[.val (.int x1), .val (.int x2), .val (.int x3), .val (.int x4), .val (.int x5), .val (.int x6), .val (.ref b1), .unset, .unset, .unset, .unset] [(.int x2), (.int (1 : Int32)), (.ref b1)])) _
        refine XS.i2b X3.here hx rfl (hb hby at_15) rfl ?_
        show Steps p.tables e below (T3.setTop (mkF m 16 #[.val (.int x1), .val (.int x2), .val (.int x3), .val (.int x4), .val (.int x5), .val (.int x6), .val (.ref b1), .unset, .unset, .unset, .unset] [(.int (x2.toInt8.toInt32)), (.int (1 : Int32)), (.ref b1)])) _
        refine st7 _ ?_
        show Steps p.tables e below (T7.setTop (mkF m 17 #[.val (.int x1), .val (.int x2), .val (.int x3), .val (.int x4), .val (.int x5), .val (.int x6), .val (.ref b1), .unset, .unset, .unset, .unset] [])) _
        refine XS.aload X7.here hx rfl (hb hby at_17) rfl rfl ?_
        show Steps p.tables e below (T7.setTop (mkF m 19 #[.val (.int x1), .val (.int x2), .val (.int x3), .val (.int x4), .val (.int x5), .val (.int x6), .val (.ref b1), .unset, .unset, .unset, .unset] [(.ref b1)])) _
        refine XS.iconst X7.here hx rfl (hb hby at_19) ?_
        show Steps p.tables e below (T7.setTop (mkF m 20 #[.val (.int x1), .val (.int x2), .val (.int x3), .val (.int x4), .val (.int x5), .val (.int x6), .val (.ref b1), .unset, .unset, .unset, .unset] [(.int (2 : Int32)), (.ref b1)])) _
        refine XS.iloadN X7.here hx rfl (hb hby at_20) rfl ?_
        show Steps p.tables e below (T7.setTop (mkF m 21 #[.val (.int x1), .val (.int x2), .val (.int x3), .val (.int x4), .val (.int x5), .val (.int x6), .val (.ref b1), .unset, .unset, .unset, .unset] [(.int x3), (.int (2 : Int32)), (.ref b1)])) _
        refine XS.i2b X7.here hx rfl (hb hby at_21) rfl ?_
        show Steps p.tables e below (T7.setTop (mkF m 22 #[.val (.int x1), .val (.int x2), .val (.int x3), .val (.int x4), .val (.int x5), .val (.int x6), .val (.ref b1), .unset, .unset, .unset, .unset] [(.int (x3.toInt8.toInt32)), (.int (2 : Int32)), (.ref b1)])) _
        refine st11 _ ?_
        show Steps p.tables e below (T11.setTop (mkF m 23 #[.val (.int x1), .val (.int x2), .val (.int x3), .val (.int x4), .val (.int x5), .val (.int x6), .val (.ref b1), .unset, .unset, .unset, .unset] [])) _
        refine XS.aload X11.here hx rfl (hb hby at_23) rfl rfl ?_
        show Steps p.tables e below (T11.setTop (mkF m 25 #[.val (.int x1), .val (.int x2), .val (.int x3), .val (.int x4), .val (.int x5), .val (.int x6), .val (.ref b1), .unset, .unset, .unset, .unset] [(.ref b1)])) _
        refine XS.iconst X11.here hx rfl (hb hby at_25) ?_
        show Steps p.tables e below (T11.setTop (mkF m 26 #[.val (.int x1), .val (.int x2), .val (.int x3), .val (.int x4), .val (.int x5), .val (.int x6), .val (.ref b1), .unset, .unset, .unset, .unset] [(.int (3 : Int32)), (.ref b1)])) _
        refine XS.iloadN X11.here hx rfl (hb hby at_26) rfl ?_
        show Steps p.tables e below (T11.setTop (mkF m 27 #[.val (.int x1), .val (.int x2), .val (.int x3), .val (.int x4), .val (.int x5), .val (.int x6), .val (.ref b1), .unset, .unset, .unset, .unset] [(.int x4), (.int (3 : Int32)), (.ref b1)])) _
        refine XS.i2b X11.here hx rfl (hb hby at_27) rfl ?_
        show Steps p.tables e below (T11.setTop (mkF m 28 #[.val (.int x1), .val (.int x2), .val (.int x3), .val (.int x4), .val (.int x5), .val (.int x6), .val (.ref b1), .unset, .unset, .unset, .unset] [(.int (x4.toInt8.toInt32)), (.int (3 : Int32)), (.ref b1)])) _
        refine st15 _ ?_
        show Steps p.tables e below (T15.setTop (mkF m 29 #[.val (.int x1), .val (.int x2), .val (.int x3), .val (.int x4), .val (.int x5), .val (.int x6), .val (.ref b1), .unset, .unset, .unset, .unset] [])) _
        refine XS.iload X15.here hx rfl (hb hby at_29) rfl ?_
        show Steps p.tables e below (T15.setTop (mkF m 31 #[.val (.int x1), .val (.int x2), .val (.int x3), .val (.int x4), .val (.int x5), .val (.int x6), .val (.ref b1), .unset, .unset, .unset, .unset] [(.int x5)])) _
        refine X15.ldcInt hx hown (mvT hZ (hw _ (List.mem_of_getElem? (i := 1) rfl))) (g := (mkF m 31 #[.val (.int x1), .val (.int x2), .val (.int x3), .val (.int x4), .val (.int x5), .val (.int x6), .val (.ref b1), .unset, .unset, .unset, .unset] [(.int x5)])) rfl (hb hby at_31) _ ?_
        show Steps p.tables e below (T15.setTop (mkF m 33 #[.val (.int x1), .val (.int x2), .val (.int x3), .val (.int x4), .val (.int x5), .val (.int x6), .val (.ref b1), .unset, .unset, .unset, .unset] [(.int (2147483647 : Int32)), (.int x5)])) _
        refine XS.iand X15.here hx rfl (hb hby at_33) rfl ?_
        show Steps p.tables e below (T15.setTop (mkF m 34 #[.val (.int x1), .val (.int x2), .val (.int x3), .val (.int x4), .val (.int x5), .val (.int x6), .val (.ref b1), .unset, .unset, .unset, .unset] [(.int (x5 &&& (2147483647 : Int32)))])) _
        refine XS.iconst X15.here hx rfl (hb hby at_34) ?_
        show Steps p.tables e below (T15.setTop (mkF m 35 #[.val (.int x1), .val (.int x2), .val (.int x3), .val (.int x4), .val (.int x5), .val (.int x6), .val (.ref b1), .unset, .unset, .unset, .unset] [(.int (5 : Int32)), (.int (x5 &&& (2147483647 : Int32)))])) _
        refine iremM X15 hx rfl (hb hby at_35) rfl (by decide) ?_
        show Steps p.tables e below (T15.setTop (mkF m 36 #[.val (.int x1), .val (.int x2), .val (.int x3), .val (.int x4), .val (.int x5), .val (.int x6), .val (.ref b1), .unset, .unset, .unset, .unset] [(.int ((x5 &&& (2147483647 : Int32)) % (5 : Int32)))])) _
        refine XS.istore X15.here hx rfl (hb hby at_36) rfl (l' := #[.val (.int x1), .val (.int x2), .val (.int x3), .val (.int x4), .val (.int x5), .val (.int x6), .val (.ref b1), .val (.int ((x5 &&& (2147483647 : Int32)) % (5 : Int32))), .unset, .unset, .unset]) rfl ?_
        show Steps p.tables e below (T15.setTop (mkF m 38 #[.val (.int x1), .val (.int x2), .val (.int x3), .val (.int x4), .val (.int x5), .val (.int x6), .val (.ref b1), .val (.int ((x5 &&& (2147483647 : Int32)) % (5 : Int32))), .unset, .unset, .unset] [])) _
        refine XS.iload X15.here hx rfl (hb hby at_38) rfl ?_
        show Steps p.tables e below (T15.setTop (mkF m 40 #[.val (.int x1), .val (.int x2), .val (.int x3), .val (.int x4), .val (.int x5), .val (.int x6), .val (.ref b1), .val (.int ((x5 &&& (2147483647 : Int32)) % (5 : Int32))), .unset, .unset, .unset] [(.int x6)])) _
        refine X15.ldcInt hx hown (mvT hZ (hw _ (List.mem_of_getElem? (i := 1) rfl))) (g := (mkF m 40 #[.val (.int x1), .val (.int x2), .val (.int x3), .val (.int x4), .val (.int x5), .val (.int x6), .val (.ref b1), .val (.int ((x5 &&& (2147483647 : Int32)) % (5 : Int32))), .unset, .unset, .unset] [(.int x6)])) rfl (hb hby at_40) _ ?_
        show Steps p.tables e below (T15.setTop (mkF m 42 #[.val (.int x1), .val (.int x2), .val (.int x3), .val (.int x4), .val (.int x5), .val (.int x6), .val (.ref b1), .val (.int ((x5 &&& (2147483647 : Int32)) % (5 : Int32))), .unset, .unset, .unset] [(.int (2147483647 : Int32)), (.int x6)])) _
        refine XS.iand X15.here hx rfl (hb hby at_42) rfl ?_
        show Steps p.tables e below (T15.setTop (mkF m 43 #[.val (.int x1), .val (.int x2), .val (.int x3), .val (.int x4), .val (.int x5), .val (.int x6), .val (.ref b1), .val (.int ((x5 &&& (2147483647 : Int32)) % (5 : Int32))), .unset, .unset, .unset] [(.int (x6 &&& (2147483647 : Int32)))])) _
        refine XS.iconst X15.here hx rfl (hb hby at_43) ?_
        show Steps p.tables e below (T15.setTop (mkF m 44 #[.val (.int x1), .val (.int x2), .val (.int x3), .val (.int x4), .val (.int x5), .val (.int x6), .val (.ref b1), .val (.int ((x5 &&& (2147483647 : Int32)) % (5 : Int32))), .unset, .unset, .unset] [(.int (5 : Int32)), (.int (x6 &&& (2147483647 : Int32)))])) _
        refine iremM X15 hx rfl (hb hby at_44) rfl (by decide) ?_
        show Steps p.tables e below (T15.setTop (mkF m 45 #[.val (.int x1), .val (.int x2), .val (.int x3), .val (.int x4), .val (.int x5), .val (.int x6), .val (.ref b1), .val (.int ((x5 &&& (2147483647 : Int32)) % (5 : Int32))), .unset, .unset, .unset] [(.int ((x6 &&& (2147483647 : Int32)) % (5 : Int32)))])) _
        refine XS.istore X15.here hx rfl (hb hby at_45) rfl (l' := #[.val (.int x1), .val (.int x2), .val (.int x3), .val (.int x4), .val (.int x5), .val (.int x6), .val (.ref b1), .val (.int ((x5 &&& (2147483647 : Int32)) % (5 : Int32))), .val (.int ((x6 &&& (2147483647 : Int32)) % (5 : Int32))), .unset, .unset]) rfl ?_
        show Steps p.tables e below (T15.setTop (mkF m 47 #[.val (.int x1), .val (.int x2), .val (.int x3), .val (.int x4), .val (.int x5), .val (.int x6), .val (.ref b1), .val (.int ((x5 &&& (2147483647 : Int32)) % (5 : Int32))), .val (.int ((x6 &&& (2147483647 : Int32)) % (5 : Int32))), .unset, .unset] [])) _
        refine XS.aload X15.here hx rfl (hb hby at_47) rfl rfl ?_
        show Steps p.tables e below (T15.setTop (mkF m 49 #[.val (.int x1), .val (.int x2), .val (.int x3), .val (.int x4), .val (.int x5), .val (.int x6), .val (.ref b1), .val (.int ((x5 &&& (2147483647 : Int32)) % (5 : Int32))), .val (.int ((x6 &&& (2147483647 : Int32)) % (5 : Int32))), .unset, .unset] [(.ref b1)])) _
        refine XS.iload X15.here hx rfl (hb hby at_49) rfl ?_
        show Steps p.tables e below (T15.setTop (mkF m 51 #[.val (.int x1), .val (.int x2), .val (.int x3), .val (.int x4), .val (.int x5), .val (.int x6), .val (.ref b1), .val (.int ((x5 &&& (2147483647 : Int32)) % (5 : Int32))), .val (.int ((x6 &&& (2147483647 : Int32)) % (5 : Int32))), .unset, .unset] [(.int ((x5 &&& (2147483647 : Int32)) % (5 : Int32))), (.ref b1)])) _
        refine XS.iload X15.here hx rfl (hb hby at_51) rfl ?_
        show Steps p.tables e below (T15.setTop (mkF m 53 #[.val (.int x1), .val (.int x2), .val (.int x3), .val (.int x4), .val (.int x5), .val (.int x6), .val (.ref b1), .val (.int ((x5 &&& (2147483647 : Int32)) % (5 : Int32))), .val (.int ((x6 &&& (2147483647 : Int32)) % (5 : Int32))), .unset, .unset] [(.int ((x6 &&& (2147483647 : Int32)) % (5 : Int32))), (.int ((x5 &&& (2147483647 : Int32)) % (5 : Int32))), (.ref b1)])) _
        refine st19 _ ?_
        show Steps p.tables e below (T19.setTop (mkF m 56 #[.val (.int x1), .val (.int x2), .val (.int x3), .val (.int x4), .val (.int x5), .val (.int x6), .val (.ref b1), .val (.int ((x5 &&& (2147483647 : Int32)) % (5 : Int32))), .val (.int ((x6 &&& (2147483647 : Int32)) % (5 : Int32))), .unset, .unset] [(.int (own_de ((x6 &&& (2147483647 : Int32)) % (5 : Int32)) ((own_a x1 x2 x3 x4)) 5 ((x5 &&& (2147483647 : Int32)) % (5 : Int32))))])) _
        refine XS.istore X19.here hx rfl (hb hby at_56) rfl (l' := #[.val (.int x1), .val (.int x2), .val (.int x3), .val (.int x4), .val (.int x5), .val (.int x6), .val (.ref b1), .val (.int ((x5 &&& (2147483647 : Int32)) % (5 : Int32))), .val (.int ((x6 &&& (2147483647 : Int32)) % (5 : Int32))), .val (.int (own_de ((x6 &&& (2147483647 : Int32)) % (5 : Int32)) ((own_a x1 x2 x3 x4)) 5 ((x5 &&& (2147483647 : Int32)) % (5 : Int32)))), .unset]) rfl ?_
        show Steps p.tables e below (T19.setTop (mkF m 58 #[.val (.int x1), .val (.int x2), .val (.int x3), .val (.int x4), .val (.int x5), .val (.int x6), .val (.ref b1), .val (.int ((x5 &&& (2147483647 : Int32)) % (5 : Int32))), .val (.int ((x6 &&& (2147483647 : Int32)) % (5 : Int32))), .val (.int (own_de ((x6 &&& (2147483647 : Int32)) % (5 : Int32)) ((own_a x1 x2 x3 x4)) 5 ((x5 &&& (2147483647 : Int32)) % (5 : Int32)))), .unset] [])) _
        refine XS.iload X19.here hx rfl (hb hby at_58) rfl ?_
        show Steps p.tables e below (T19.setTop (mkF m 60 #[.val (.int x1), .val (.int x2), .val (.int x3), .val (.int x4), .val (.int x5), .val (.int x6), .val (.ref b1), .val (.int ((x5 &&& (2147483647 : Int32)) % (5 : Int32))), .val (.int ((x6 &&& (2147483647 : Int32)) % (5 : Int32))), .val (.int (own_de ((x6 &&& (2147483647 : Int32)) % (5 : Int32)) ((own_a x1 x2 x3 x4)) 5 ((x5 &&& (2147483647 : Int32)) % (5 : Int32)))), .unset] [(.int ((x5 &&& (2147483647 : Int32)) % (5 : Int32)))])) _
        refine XS.iload X19.here hx rfl (hb hby at_60) rfl ?_
        show Steps p.tables e below (T19.setTop (mkF m 62 #[.val (.int x1), .val (.int x2), .val (.int x3), .val (.int x4), .val (.int x5), .val (.int x6), .val (.ref b1), .val (.int ((x5 &&& (2147483647 : Int32)) % (5 : Int32))), .val (.int ((x6 &&& (2147483647 : Int32)) % (5 : Int32))), .val (.int (own_de ((x6 &&& (2147483647 : Int32)) % (5 : Int32)) ((own_a x1 x2 x3 x4)) 5 ((x5 &&& (2147483647 : Int32)) % (5 : Int32)))), .unset] [(.int ((x6 &&& (2147483647 : Int32)) % (5 : Int32))), (.int ((x5 &&& (2147483647 : Int32)) % (5 : Int32)))])) _
        refine XS.icmpYes X19.here hx rfl (pc0 := 62) (pc' := 78) rfl (hb hby at_62) rfl (tlt hb20).1 (by decide) (by decide) ?_
        show Steps p.tables e below (T19.setTop (mkF m 78 #[.val (.int x1), .val (.int x2), .val (.int x3), .val (.int x4), .val (.int x5), .val (.int x6), .val (.ref b1), .val (.int ((x5 &&& (2147483647 : Int32)) % (5 : Int32))), .val (.int ((x6 &&& (2147483647 : Int32)) % (5 : Int32))), .val (.int (own_de ((x6 &&& (2147483647 : Int32)) % (5 : Int32)) ((own_a x1 x2 x3 x4)) 5 ((x5 &&& (2147483647 : Int32)) % (5 : Int32)))), .unset] [])) _
        refine XS.iload X19.here hx rfl (hb hby at_78) rfl ?_
        show Steps p.tables e below (T19.setTop (mkF m 80 #[.val (.int x1), .val (.int x2), .val (.int x3), .val (.int x4), .val (.int x5), .val (.int x6), .val (.ref b1), .val (.int ((x5 &&& (2147483647 : Int32)) % (5 : Int32))), .val (.int ((x6 &&& (2147483647 : Int32)) % (5 : Int32))), .val (.int (own_de ((x6 &&& (2147483647 : Int32)) % (5 : Int32)) ((own_a x1 x2 x3 x4)) 5 ((x5 &&& (2147483647 : Int32)) % (5 : Int32)))), .unset] [(.int (own_de ((x6 &&& (2147483647 : Int32)) % (5 : Int32)) ((own_a x1 x2 x3 x4)) 5 ((x5 &&& (2147483647 : Int32)) % (5 : Int32))))])) _
        refine XS.iload X19.here hx rfl (hb hby at_80) rfl ?_
        show Steps p.tables e below (T19.setTop (mkF m 82 #[.val (.int x1), .val (.int x2), .val (.int x3), .val (.int x4), .val (.int x5), .val (.int x6), .val (.ref b1), .val (.int ((x5 &&& (2147483647 : Int32)) % (5 : Int32))), .val (.int ((x6 &&& (2147483647 : Int32)) % (5 : Int32))), .val (.int (own_de ((x6 &&& (2147483647 : Int32)) % (5 : Int32)) ((own_a x1 x2 x3 x4)) 5 ((x5 &&& (2147483647 : Int32)) % (5 : Int32)))), .unset] [(.int ((x5 &&& (2147483647 : Int32)) % (5 : Int32))), (.int (own_de ((x6 &&& (2147483647 : Int32)) % (5 : Int32)) ((own_a x1 x2 x3 x4)) 5 ((x5 &&& (2147483647 : Int32)) % (5 : Int32))))])) _
        refine XS.icmpNo X19.here hx rfl (hb hby at_82) rfl (flt (own_82 x1 x2 x3 x4 x5 x6 : ¬ ((own_de ((x6 &&& (2147483647 : Int32)) % (5 : Int32)) ((own_a x1 x2 x3 x4)) 5 ((x5 &&& (2147483647 : Int32)) % (5 : Int32))) < ((x5 &&& (2147483647 : Int32)) % (5 : Int32))))).1 ?_
        show Steps p.tables e below (T19.setTop (mkF m 85 #[.val (.int x1), .val (.int x2), .val (.int x3), .val (.int x4), .val (.int x5), .val (.int x6), .val (.ref b1), .val (.int ((x5 &&& (2147483647 : Int32)) % (5 : Int32))), .val (.int ((x6 &&& (2147483647 : Int32)) % (5 : Int32))), .val (.int (own_de ((x6 &&& (2147483647 : Int32)) % (5 : Int32)) ((own_a x1 x2 x3 x4)) 5 ((x5 &&& (2147483647 : Int32)) % (5 : Int32)))), .unset] [])) _
        refine XS.iload X19.here hx rfl (hb hby at_85) rfl ?_
        show Steps p.tables e below (T19.setTop (mkF m 87 #[.val (.int x1), .val (.int x2), .val (.int x3), .val (.int x4), .val (.int x5), .val (.int x6), .val (.ref b1), .val (.int ((x5 &&& (2147483647 : Int32)) % (5 : Int32))), .val (.int ((x6 &&& (2147483647 : Int32)) % (5 : Int32))), .val (.int (own_de ((x6 &&& (2147483647 : Int32)) % (5 : Int32)) ((own_a x1 x2 x3 x4)) 5 ((x5 &&& (2147483647 : Int32)) % (5 : Int32)))), .unset] [(.int (own_de ((x6 &&& (2147483647 : Int32)) % (5 : Int32)) ((own_a x1 x2 x3 x4)) 5 ((x5 &&& (2147483647 : Int32)) % (5 : Int32))))])) _
        refine XS.iload X19.here hx rfl (hb hby at_87) rfl ?_
        show Steps p.tables e below (T19.setTop (mkF m 89 #[.val (.int x1), .val (.int x2), .val (.int x3), .val (.int x4), .val (.int x5), .val (.int x6), .val (.ref b1), .val (.int ((x5 &&& (2147483647 : Int32)) % (5 : Int32))), .val (.int ((x6 &&& (2147483647 : Int32)) % (5 : Int32))), .val (.int (own_de ((x6 &&& (2147483647 : Int32)) % (5 : Int32)) ((own_a x1 x2 x3 x4)) 5 ((x5 &&& (2147483647 : Int32)) % (5 : Int32)))), .unset] [(.int ((x6 &&& (2147483647 : Int32)) % (5 : Int32))), (.int (own_de ((x6 &&& (2147483647 : Int32)) % (5 : Int32)) ((own_a x1 x2 x3 x4)) 5 ((x5 &&& (2147483647 : Int32)) % (5 : Int32))))])) _
        refine XS.icmpYes X19.here hx rfl (pc0 := 89) (pc' := 94) rfl (hb hby at_89) rfl (flt (own_89 x1 x2 x3 x4 x5 x6 hb20 : ¬ (((x6 &&& (2147483647 : Int32)) % (5 : Int32)) < (own_de ((x6 &&& (2147483647 : Int32)) % (5 : Int32)) ((own_a x1 x2 x3 x4)) 5 ((x5 &&& (2147483647 : Int32)) % (5 : Int32)))))).2.2.2 (by decide) (by decide) ?_
        show Steps p.tables e below (T19.setTop (mkF m 94 #[.val (.int x1), .val (.int x2), .val (.int x3), .val (.int x4), .val (.int x5), .val (.int x6), .val (.ref b1), .val (.int ((x5 &&& (2147483647 : Int32)) % (5 : Int32))), .val (.int ((x6 &&& (2147483647 : Int32)) % (5 : Int32))), .val (.int (own_de ((x6 &&& (2147483647 : Int32)) % (5 : Int32)) ((own_a x1 x2 x3 x4)) 5 ((x5 &&& (2147483647 : Int32)) % (5 : Int32)))), .unset] [])) _
        refine XS.aload X19.here hx rfl (hb hby at_94) rfl rfl ?_
        show Steps p.tables e below (T19.setTop (mkF m 96 #[.val (.int x1), .val (.int x2), .val (.int x3), .val (.int x4), .val (.int x5), .val (.int x6), .val (.ref b1), .val (.int ((x5 &&& (2147483647 : Int32)) % (5 : Int32))), .val (.int ((x6 &&& (2147483647 : Int32)) % (5 : Int32))), .val (.int (own_de ((x6 &&& (2147483647 : Int32)) % (5 : Int32)) ((own_a x1 x2 x3 x4)) 5 ((x5 &&& (2147483647 : Int32)) % (5 : Int32)))), .unset] [(.ref b1)])) _
        refine XS.iconst X19.here hx rfl (hb hby at_96) ?_
        show Steps p.tables e below (T19.setTop (mkF m 97 #[.val (.int x1), .val (.int x2), .val (.int x3), .val (.int x4), .val (.int x5), .val (.int x6), .val (.ref b1), .val (.int ((x5 &&& (2147483647 : Int32)) % (5 : Int32))), .val (.int ((x6 &&& (2147483647 : Int32)) % (5 : Int32))), .val (.int (own_de ((x6 &&& (2147483647 : Int32)) % (5 : Int32)) ((own_a x1 x2 x3 x4)) 5 ((x5 &&& (2147483647 : Int32)) % (5 : Int32)))), .unset] [(.int (0 : Int32)), (.ref b1)])) _
        refine XS.iload X19.here hx rfl (hb hby at_97) rfl ?_
        show Steps p.tables e below (T19.setTop (mkF m 99 #[.val (.int x1), .val (.int x2), .val (.int x3), .val (.int x4), .val (.int x5), .val (.int x6), .val (.ref b1), .val (.int ((x5 &&& (2147483647 : Int32)) % (5 : Int32))), .val (.int ((x6 &&& (2147483647 : Int32)) % (5 : Int32))), .val (.int (own_de ((x6 &&& (2147483647 : Int32)) % (5 : Int32)) ((own_a x1 x2 x3 x4)) 5 ((x5 &&& (2147483647 : Int32)) % (5 : Int32)))), .unset] [(.int ((x5 &&& (2147483647 : Int32)) % (5 : Int32))), (.int (0 : Int32)), (.ref b1)])) _
        refine XS.iload X19.here hx rfl (hb hby at_99) rfl ?_
        show Steps p.tables e below (T19.setTop (mkF m 101 #[.val (.int x1), .val (.int x2), .val (.int x3), .val (.int x4), .val (.int x5), .val (.int x6), .val (.ref b1), .val (.int ((x5 &&& (2147483647 : Int32)) % (5 : Int32))), .val (.int ((x6 &&& (2147483647 : Int32)) % (5 : Int32))), .val (.int (own_de ((x6 &&& (2147483647 : Int32)) % (5 : Int32)) ((own_a x1 x2 x3 x4)) 5 ((x5 &&& (2147483647 : Int32)) % (5 : Int32)))), .unset] [(.int (own_de ((x6 &&& (2147483647 : Int32)) % (5 : Int32)) ((own_a x1 x2 x3 x4)) 5 ((x5 &&& (2147483647 : Int32)) % (5 : Int32)))), (.int ((x5 &&& (2147483647 : Int32)) % (5 : Int32))), (.int (0 : Int32)), (.ref b1)])) _
        refine st21 _ ?_
        show Steps p.tables e below (T21.setTop (mkF m 104 #[.val (.int x1), .val (.int x2), .val (.int x3), .val (.int x4), .val (.int x5), .val (.int x6), .val (.ref b1), .val (.int ((x5 &&& (2147483647 : Int32)) % (5 : Int32))), .val (.int ((x6 &&& (2147483647 : Int32)) % (5 : Int32))), .val (.int (own_de ((x6 &&& (2147483647 : Int32)) % (5 : Int32)) ((own_a x1 x2 x3 x4)) 5 ((x5 &&& (2147483647 : Int32)) % (5 : Int32)))), .unset] [(.int (F2 (0 : Int32) ((x5 &&& (2147483647 : Int32)) % (5 : Int32)) (own_de ((x6 &&& (2147483647 : Int32)) % (5 : Int32)) ((own_a x1 x2 x3 x4)) 5 ((x5 &&& (2147483647 : Int32)) % (5 : Int32))) ((own_a x1 x2 x3 x4))))])) _
        refine XS.ifNo X21.here hx rfl (hb hby at_104) rfl ((if0 _ _).trans (feq (own_in x1 x2 x3 x4 x5 x6 0 : ¬ ((F2 (0 : Int32) ((x5 &&& (2147483647 : Int32)) % (5 : Int32)) (own_de ((x6 &&& (2147483647 : Int32)) % (5 : Int32)) ((own_a x1 x2 x3 x4)) 5 ((x5 &&& (2147483647 : Int32)) % (5 : Int32))) ((own_a x1 x2 x3 x4))) = (0 : Int32)))).1) ?_
        show Steps p.tables e below (T21.setTop (mkF m 107 #[.val (.int x1), .val (.int x2), .val (.int x3), .val (.int x4), .val (.int x5), .val (.int x6), .val (.ref b1), .val (.int ((x5 &&& (2147483647 : Int32)) % (5 : Int32))), .val (.int ((x6 &&& (2147483647 : Int32)) % (5 : Int32))), .val (.int (own_de ((x6 &&& (2147483647 : Int32)) % (5 : Int32)) ((own_a x1 x2 x3 x4)) 5 ((x5 &&& (2147483647 : Int32)) % (5 : Int32)))), .unset] [])) _
        refine XS.aload X21.here hx rfl (hb hby at_107) rfl rfl ?_
        show Steps p.tables e below (T21.setTop (mkF m 109 #[.val (.int x1), .val (.int x2), .val (.int x3), .val (.int x4), .val (.int x5), .val (.int x6), .val (.ref b1), .val (.int ((x5 &&& (2147483647 : Int32)) % (5 : Int32))), .val (.int ((x6 &&& (2147483647 : Int32)) % (5 : Int32))), .val (.int (own_de ((x6 &&& (2147483647 : Int32)) % (5 : Int32)) ((own_a x1 x2 x3 x4)) 5 ((x5 &&& (2147483647 : Int32)) % (5 : Int32)))), .unset] [(.ref b1)])) _
        refine XS.iconst X21.here hx rfl (hb hby at_109) ?_
        show Steps p.tables e below (T21.setTop (mkF m 110 #[.val (.int x1), .val (.int x2), .val (.int x3), .val (.int x4), .val (.int x5), .val (.int x6), .val (.ref b1), .val (.int ((x5 &&& (2147483647 : Int32)) % (5 : Int32))), .val (.int ((x6 &&& (2147483647 : Int32)) % (5 : Int32))), .val (.int (own_de ((x6 &&& (2147483647 : Int32)) % (5 : Int32)) ((own_a x1 x2 x3 x4)) 5 ((x5 &&& (2147483647 : Int32)) % (5 : Int32)))), .unset] [(.int (1 : Int32)), (.ref b1)])) _
        refine XS.iload X21.here hx rfl (hb hby at_110) rfl ?_
        show Steps p.tables e below (T21.setTop (mkF m 112 #[.val (.int x1), .val (.int x2), .val (.int x3), .val (.int x4), .val (.int x5), .val (.int x6), .val (.ref b1), .val (.int ((x5 &&& (2147483647 : Int32)) % (5 : Int32))), .val (.int ((x6 &&& (2147483647 : Int32)) % (5 : Int32))), .val (.int (own_de ((x6 &&& (2147483647 : Int32)) % (5 : Int32)) ((own_a x1 x2 x3 x4)) 5 ((x5 &&& (2147483647 : Int32)) % (5 : Int32)))), .unset] [(.int ((x5 &&& (2147483647 : Int32)) % (5 : Int32))), (.int (1 : Int32)), (.ref b1)])) _
        refine XS.iload X21.here hx rfl (hb hby at_112) rfl ?_
        show Steps p.tables e below (T21.setTop (mkF m 114 #[.val (.int x1), .val (.int x2), .val (.int x3), .val (.int x4), .val (.int x5), .val (.int x6), .val (.ref b1), .val (.int ((x5 &&& (2147483647 : Int32)) % (5 : Int32))), .val (.int ((x6 &&& (2147483647 : Int32)) % (5 : Int32))), .val (.int (own_de ((x6 &&& (2147483647 : Int32)) % (5 : Int32)) ((own_a x1 x2 x3 x4)) 5 ((x5 &&& (2147483647 : Int32)) % (5 : Int32)))), .unset] [(.int (own_de ((x6 &&& (2147483647 : Int32)) % (5 : Int32)) ((own_a x1 x2 x3 x4)) 5 ((x5 &&& (2147483647 : Int32)) % (5 : Int32)))), (.int ((x5 &&& (2147483647 : Int32)) % (5 : Int32))), (.int (1 : Int32)), (.ref b1)])) _
        refine st22 _ ?_
        show Steps p.tables e below (T22.setTop (mkF m 117 #[.val (.int x1), .val (.int x2), .val (.int x3), .val (.int x4), .val (.int x5), .val (.int x6), .val (.ref b1), .val (.int ((x5 &&& (2147483647 : Int32)) % (5 : Int32))), .val (.int ((x6 &&& (2147483647 : Int32)) % (5 : Int32))), .val (.int (own_de ((x6 &&& (2147483647 : Int32)) % (5 : Int32)) ((own_a x1 x2 x3 x4)) 5 ((x5 &&& (2147483647 : Int32)) % (5 : Int32)))), .unset] [(.int (F2 (1 : Int32) ((x5 &&& (2147483647 : Int32)) % (5 : Int32)) (own_de ((x6 &&& (2147483647 : Int32)) % (5 : Int32)) ((own_a x1 x2 x3 x4)) 5 ((x5 &&& (2147483647 : Int32)) % (5 : Int32))) ((own_a x1 x2 x3 x4))))])) _
        refine XS.ifNo X22.here hx rfl (hb hby at_117) rfl ((if0 _ _).trans (feq (own_in x1 x2 x3 x4 x5 x6 1 : ¬ ((F2 (1 : Int32) ((x5 &&& (2147483647 : Int32)) % (5 : Int32)) (own_de ((x6 &&& (2147483647 : Int32)) % (5 : Int32)) ((own_a x1 x2 x3 x4)) 5 ((x5 &&& (2147483647 : Int32)) % (5 : Int32))) ((own_a x1 x2 x3 x4))) = (0 : Int32)))).1) ?_
        show Steps p.tables e below (T22.setTop (mkF m 120 #[.val (.int x1), .val (.int x2), .val (.int x3), .val (.int x4), .val (.int x5), .val (.int x6), .val (.ref b1), .val (.int ((x5 &&& (2147483647 : Int32)) % (5 : Int32))), .val (.int ((x6 &&& (2147483647 : Int32)) % (5 : Int32))), .val (.int (own_de ((x6 &&& (2147483647 : Int32)) % (5 : Int32)) ((own_a x1 x2 x3 x4)) 5 ((x5 &&& (2147483647 : Int32)) % (5 : Int32)))), .unset] [])) _
        refine XS.aload X22.here hx rfl (hb hby at_120) rfl rfl ?_
        show Steps p.tables e below (T22.setTop (mkF m 122 #[.val (.int x1), .val (.int x2), .val (.int x3), .val (.int x4), .val (.int x5), .val (.int x6), .val (.ref b1), .val (.int ((x5 &&& (2147483647 : Int32)) % (5 : Int32))), .val (.int ((x6 &&& (2147483647 : Int32)) % (5 : Int32))), .val (.int (own_de ((x6 &&& (2147483647 : Int32)) % (5 : Int32)) ((own_a x1 x2 x3 x4)) 5 ((x5 &&& (2147483647 : Int32)) % (5 : Int32)))), .unset] [(.ref b1)])) _
        refine XS.iconst X22.here hx rfl (hb hby at_122) ?_
        show Steps p.tables e below (T22.setTop (mkF m 123 #[.val (.int x1), .val (.int x2), .val (.int x3), .val (.int x4), .val (.int x5), .val (.int x6), .val (.ref b1), .val (.int ((x5 &&& (2147483647 : Int32)) % (5 : Int32))), .val (.int ((x6 &&& (2147483647 : Int32)) % (5 : Int32))), .val (.int (own_de ((x6 &&& (2147483647 : Int32)) % (5 : Int32)) ((own_a x1 x2 x3 x4)) 5 ((x5 &&& (2147483647 : Int32)) % (5 : Int32)))), .unset] [(.int (2 : Int32)), (.ref b1)])) _
        refine XS.iload X22.here hx rfl (hb hby at_123) rfl ?_
        show Steps p.tables e below (T22.setTop (mkF m 125 #[.val (.int x1), .val (.int x2), .val (.int x3), .val (.int x4), .val (.int x5), .val (.int x6), .val (.ref b1), .val (.int ((x5 &&& (2147483647 : Int32)) % (5 : Int32))), .val (.int ((x6 &&& (2147483647 : Int32)) % (5 : Int32))), .val (.int (own_de ((x6 &&& (2147483647 : Int32)) % (5 : Int32)) ((own_a x1 x2 x3 x4)) 5 ((x5 &&& (2147483647 : Int32)) % (5 : Int32)))), .unset] [(.int ((x5 &&& (2147483647 : Int32)) % (5 : Int32))), (.int (2 : Int32)), (.ref b1)])) _
        refine XS.iload X22.here hx rfl (hb hby at_125) rfl ?_
        show Steps p.tables e below (T22.setTop (mkF m 127 #[.val (.int x1), .val (.int x2), .val (.int x3), .val (.int x4), .val (.int x5), .val (.int x6), .val (.ref b1), .val (.int ((x5 &&& (2147483647 : Int32)) % (5 : Int32))), .val (.int ((x6 &&& (2147483647 : Int32)) % (5 : Int32))), .val (.int (own_de ((x6 &&& (2147483647 : Int32)) % (5 : Int32)) ((own_a x1 x2 x3 x4)) 5 ((x5 &&& (2147483647 : Int32)) % (5 : Int32)))), .unset] [(.int (own_de ((x6 &&& (2147483647 : Int32)) % (5 : Int32)) ((own_a x1 x2 x3 x4)) 5 ((x5 &&& (2147483647 : Int32)) % (5 : Int32)))), (.int ((x5 &&& (2147483647 : Int32)) % (5 : Int32))), (.int (2 : Int32)), (.ref b1)])) _
        refine st23 _ ?_
        show Steps p.tables e below (T23.setTop (mkF m 130 #[.val (.int x1), .val (.int x2), .val (.int x3), .val (.int x4), .val (.int x5), .val (.int x6), .val (.ref b1), .val (.int ((x5 &&& (2147483647 : Int32)) % (5 : Int32))), .val (.int ((x6 &&& (2147483647 : Int32)) % (5 : Int32))), .val (.int (own_de ((x6 &&& (2147483647 : Int32)) % (5 : Int32)) ((own_a x1 x2 x3 x4)) 5 ((x5 &&& (2147483647 : Int32)) % (5 : Int32)))), .unset] [(.int (F2 (2 : Int32) ((x5 &&& (2147483647 : Int32)) % (5 : Int32)) (own_de ((x6 &&& (2147483647 : Int32)) % (5 : Int32)) ((own_a x1 x2 x3 x4)) 5 ((x5 &&& (2147483647 : Int32)) % (5 : Int32))) ((own_a x1 x2 x3 x4))))])) _
        refine XS.ifNo X23.here hx rfl (hb hby at_130) rfl ((if0 _ _).trans (feq (own_in x1 x2 x3 x4 x5 x6 2 : ¬ ((F2 (2 : Int32) ((x5 &&& (2147483647 : Int32)) % (5 : Int32)) (own_de ((x6 &&& (2147483647 : Int32)) % (5 : Int32)) ((own_a x1 x2 x3 x4)) 5 ((x5 &&& (2147483647 : Int32)) % (5 : Int32))) ((own_a x1 x2 x3 x4))) = (0 : Int32)))).1) ?_
        show Steps p.tables e below (T23.setTop (mkF m 133 #[.val (.int x1), .val (.int x2), .val (.int x3), .val (.int x4), .val (.int x5), .val (.int x6), .val (.ref b1), .val (.int ((x5 &&& (2147483647 : Int32)) % (5 : Int32))), .val (.int ((x6 &&& (2147483647 : Int32)) % (5 : Int32))), .val (.int (own_de ((x6 &&& (2147483647 : Int32)) % (5 : Int32)) ((own_a x1 x2 x3 x4)) 5 ((x5 &&& (2147483647 : Int32)) % (5 : Int32)))), .unset] [])) _
        refine XS.aload X23.here hx rfl (hb hby at_133) rfl rfl ?_
        show Steps p.tables e below (T23.setTop (mkF m 135 #[.val (.int x1), .val (.int x2), .val (.int x3), .val (.int x4), .val (.int x5), .val (.int x6), .val (.ref b1), .val (.int ((x5 &&& (2147483647 : Int32)) % (5 : Int32))), .val (.int ((x6 &&& (2147483647 : Int32)) % (5 : Int32))), .val (.int (own_de ((x6 &&& (2147483647 : Int32)) % (5 : Int32)) ((own_a x1 x2 x3 x4)) 5 ((x5 &&& (2147483647 : Int32)) % (5 : Int32)))), .unset] [(.ref b1)])) _
        refine XS.iconst X23.here hx rfl (hb hby at_135) ?_
        show Steps p.tables e below (T23.setTop (mkF m 136 #[.val (.int x1), .val (.int x2), .val (.int x3), .val (.int x4), .val (.int x5), .val (.int x6), .val (.ref b1), .val (.int ((x5 &&& (2147483647 : Int32)) % (5 : Int32))), .val (.int ((x6 &&& (2147483647 : Int32)) % (5 : Int32))), .val (.int (own_de ((x6 &&& (2147483647 : Int32)) % (5 : Int32)) ((own_a x1 x2 x3 x4)) 5 ((x5 &&& (2147483647 : Int32)) % (5 : Int32)))), .unset] [(.int (3 : Int32)), (.ref b1)])) _
        refine XS.iload X23.here hx rfl (hb hby at_136) rfl ?_
        show Steps p.tables e below (T23.setTop (mkF m 138 #[.val (.int x1), .val (.int x2), .val (.int x3), .val (.int x4), .val (.int x5), .val (.int x6), .val (.ref b1), .val (.int ((x5 &&& (2147483647 : Int32)) % (5 : Int32))), .val (.int ((x6 &&& (2147483647 : Int32)) % (5 : Int32))), .val (.int (own_de ((x6 &&& (2147483647 : Int32)) % (5 : Int32)) ((own_a x1 x2 x3 x4)) 5 ((x5 &&& (2147483647 : Int32)) % (5 : Int32)))), .unset] [(.int ((x5 &&& (2147483647 : Int32)) % (5 : Int32))), (.int (3 : Int32)), (.ref b1)])) _
        refine XS.iload X23.here hx rfl (hb hby at_138) rfl ?_
        show Steps p.tables e below (T23.setTop (mkF m 140 #[.val (.int x1), .val (.int x2), .val (.int x3), .val (.int x4), .val (.int x5), .val (.int x6), .val (.ref b1), .val (.int ((x5 &&& (2147483647 : Int32)) % (5 : Int32))), .val (.int ((x6 &&& (2147483647 : Int32)) % (5 : Int32))), .val (.int (own_de ((x6 &&& (2147483647 : Int32)) % (5 : Int32)) ((own_a x1 x2 x3 x4)) 5 ((x5 &&& (2147483647 : Int32)) % (5 : Int32)))), .unset] [(.int (own_de ((x6 &&& (2147483647 : Int32)) % (5 : Int32)) ((own_a x1 x2 x3 x4)) 5 ((x5 &&& (2147483647 : Int32)) % (5 : Int32)))), (.int ((x5 &&& (2147483647 : Int32)) % (5 : Int32))), (.int (3 : Int32)), (.ref b1)])) _
        refine st24 _ ?_
        show Steps p.tables e below (T24.setTop (mkF m 143 #[.val (.int x1), .val (.int x2), .val (.int x3), .val (.int x4), .val (.int x5), .val (.int x6), .val (.ref b1), .val (.int ((x5 &&& (2147483647 : Int32)) % (5 : Int32))), .val (.int ((x6 &&& (2147483647 : Int32)) % (5 : Int32))), .val (.int (own_de ((x6 &&& (2147483647 : Int32)) % (5 : Int32)) ((own_a x1 x2 x3 x4)) 5 ((x5 &&& (2147483647 : Int32)) % (5 : Int32)))), .unset] [(.int (F2 (3 : Int32) ((x5 &&& (2147483647 : Int32)) % (5 : Int32)) (own_de ((x6 &&& (2147483647 : Int32)) % (5 : Int32)) ((own_a x1 x2 x3 x4)) 5 ((x5 &&& (2147483647 : Int32)) % (5 : Int32))) ((own_a x1 x2 x3 x4))))])) _
        refine XS.ifNo X24.here hx rfl (hb hby at_143) rfl ((if0 _ _).trans (feq (own_in x1 x2 x3 x4 x5 x6 3 : ¬ ((F2 (3 : Int32) ((x5 &&& (2147483647 : Int32)) % (5 : Int32)) (own_de ((x6 &&& (2147483647 : Int32)) % (5 : Int32)) ((own_a x1 x2 x3 x4)) 5 ((x5 &&& (2147483647 : Int32)) % (5 : Int32))) ((own_a x1 x2 x3 x4))) = (0 : Int32)))).1) ?_
        show Steps p.tables e below (T24.setTop (mkF m 146 #[.val (.int x1), .val (.int x2), .val (.int x3), .val (.int x4), .val (.int x5), .val (.int x6), .val (.ref b1), .val (.int ((x5 &&& (2147483647 : Int32)) % (5 : Int32))), .val (.int ((x6 &&& (2147483647 : Int32)) % (5 : Int32))), .val (.int (own_de ((x6 &&& (2147483647 : Int32)) % (5 : Int32)) ((own_a x1 x2 x3 x4)) 5 ((x5 &&& (2147483647 : Int32)) % (5 : Int32)))), .unset] [])) _
        refine XS.iconst X24.here hx rfl (hb hby at_146) ?_
        show Steps p.tables e below (T24.setTop (mkF m 147 #[.val (.int x1), .val (.int x2), .val (.int x3), .val (.int x4), .val (.int x5), .val (.int x6), .val (.ref b1), .val (.int ((x5 &&& (2147483647 : Int32)) % (5 : Int32))), .val (.int ((x6 &&& (2147483647 : Int32)) % (5 : Int32))), .val (.int (own_de ((x6 &&& (2147483647 : Int32)) % (5 : Int32)) ((own_a x1 x2 x3 x4)) 5 ((x5 &&& (2147483647 : Int32)) % (5 : Int32)))), .unset] [(.int (1 : Int32))])) _
        refine XS.goto X24.here hx rfl (pc0 := 147) (pc' := 151) rfl (hb hby at_147) (by decide) (by decide) ?_
        show Steps p.tables e below (T24.setTop (mkF m 151 #[.val (.int x1), .val (.int x2), .val (.int x3), .val (.int x4), .val (.int x5), .val (.int x6), .val (.ref b1), .val (.int ((x5 &&& (2147483647 : Int32)) % (5 : Int32))), .val (.int ((x6 &&& (2147483647 : Int32)) % (5 : Int32))), .val (.int (own_de ((x6 &&& (2147483647 : Int32)) % (5 : Int32)) ((own_a x1 x2 x3 x4)) 5 ((x5 &&& (2147483647 : Int32)) % (5 : Int32)))), .unset] [(.int (1 : Int32))])) _
        refine XS.istore X24.here hx rfl (hb hby at_151) rfl (l' := #[.val (.int x1), .val (.int x2), .val (.int x3), .val (.int x4), .val (.int x5), .val (.int x6), .val (.ref b1), .val (.int ((x5 &&& (2147483647 : Int32)) % (5 : Int32))), .val (.int ((x6 &&& (2147483647 : Int32)) % (5 : Int32))), .val (.int (own_de ((x6 &&& (2147483647 : Int32)) % (5 : Int32)) ((own_a x1 x2 x3 x4)) 5 ((x5 &&& (2147483647 : Int32)) % (5 : Int32)))), .val (.int (1 : Int32))]) rfl ?_
        show Steps p.tables e below (T24.setTop (mkF m 153 #[.val (.int x1), .val (.int x2), .val (.int x3), .val (.int x4), .val (.int x5), .val (.int x6), .val (.ref b1), .val (.int ((x5 &&& (2147483647 : Int32)) % (5 : Int32))), .val (.int ((x6 &&& (2147483647 : Int32)) % (5 : Int32))), .val (.int (own_de ((x6 &&& (2147483647 : Int32)) % (5 : Int32)) ((own_a x1 x2 x3 x4)) 5 ((x5 &&& (2147483647 : Int32)) % (5 : Int32)))), .val (.int (1 : Int32))] [])) _
        refine XS.iload X24.here hx rfl (hb hby at_153) rfl ?_
        show Steps p.tables e below (T24.setTop (mkF m 155 #[.val (.int x1), .val (.int x2), .val (.int x3), .val (.int x4), .val (.int x5), .val (.int x6), .val (.ref b1), .val (.int ((x5 &&& (2147483647 : Int32)) % (5 : Int32))), .val (.int ((x6 &&& (2147483647 : Int32)) % (5 : Int32))), .val (.int (own_de ((x6 &&& (2147483647 : Int32)) % (5 : Int32)) ((own_a x1 x2 x3 x4)) 5 ((x5 &&& (2147483647 : Int32)) % (5 : Int32)))), .val (.int (1 : Int32))] [(.int (1 : Int32))])) _
        refine XS.ifYes X24.here hx rfl (pc0 := 155) (pc' := 160) rfl (hb hby at_155) rfl ((if0 _ _).trans (feq (by decide : ¬ ((1 : Int32) = (0 : Int32)))).2) (by decide) (by decide) ?_
        show Steps p.tables e below (T24.setTop (mkF m 160 #[.val (.int x1), .val (.int x2), .val (.int x3), .val (.int x4), .val (.int x5), .val (.int x6), .val (.ref b1), .val (.int ((x5 &&& (2147483647 : Int32)) % (5 : Int32))), .val (.int ((x6 &&& (2147483647 : Int32)) % (5 : Int32))), .val (.int (own_de ((x6 &&& (2147483647 : Int32)) % (5 : Int32)) ((own_a x1 x2 x3 x4)) 5 ((x5 &&& (2147483647 : Int32)) % (5 : Int32)))), .val (.int (1 : Int32))] [])) _
        refine XS.iload X24.here hx rfl (hb hby at_160) rfl ?_
        show Steps p.tables e below (T24.setTop (mkF m 162 #[.val (.int x1), .val (.int x2), .val (.int x3), .val (.int x4), .val (.int x5), .val (.int x6), .val (.ref b1), .val (.int ((x5 &&& (2147483647 : Int32)) % (5 : Int32))), .val (.int ((x6 &&& (2147483647 : Int32)) % (5 : Int32))), .val (.int (own_de ((x6 &&& (2147483647 : Int32)) % (5 : Int32)) ((own_a x1 x2 x3 x4)) 5 ((x5 &&& (2147483647 : Int32)) % (5 : Int32)))), .val (.int (1 : Int32))] [(.int (own_de ((x6 &&& (2147483647 : Int32)) % (5 : Int32)) ((own_a x1 x2 x3 x4)) 5 ((x5 &&& (2147483647 : Int32)) % (5 : Int32))))])) _
        refine XS.iload X24.here hx rfl (hb hby at_162) rfl ?_
        show Steps p.tables e below (T24.setTop (mkF m 164 #[.val (.int x1), .val (.int x2), .val (.int x3), .val (.int x4), .val (.int x5), .val (.int x6), .val (.ref b1), .val (.int ((x5 &&& (2147483647 : Int32)) % (5 : Int32))), .val (.int ((x6 &&& (2147483647 : Int32)) % (5 : Int32))), .val (.int (own_de ((x6 &&& (2147483647 : Int32)) % (5 : Int32)) ((own_a x1 x2 x3 x4)) 5 ((x5 &&& (2147483647 : Int32)) % (5 : Int32)))), .val (.int (1 : Int32))] [(.int ((x6 &&& (2147483647 : Int32)) % (5 : Int32))), (.int (own_de ((x6 &&& (2147483647 : Int32)) % (5 : Int32)) ((own_a x1 x2 x3 x4)) 5 ((x5 &&& (2147483647 : Int32)) % (5 : Int32))))])) _
        refine XS.icmpYes X24.here hx rfl (pc0 := 164) (pc' := 169) rfl (hb hby at_164) rfl (feq hb25).2 (by decide) (by decide) ?_
        show Steps p.tables e below (T24.setTop (mkF m 169 #[.val (.int x1), .val (.int x2), .val (.int x3), .val (.int x4), .val (.int x5), .val (.int x6), .val (.ref b1), .val (.int ((x5 &&& (2147483647 : Int32)) % (5 : Int32))), .val (.int ((x6 &&& (2147483647 : Int32)) % (5 : Int32))), .val (.int (own_de ((x6 &&& (2147483647 : Int32)) % (5 : Int32)) ((own_a x1 x2 x3 x4)) 5 ((x5 &&& (2147483647 : Int32)) % (5 : Int32)))), .val (.int (1 : Int32))] [])) _
        refine XS.aload X24.here hx rfl (hb hby at_169) rfl rfl ?_
        show Steps p.tables e below (T24.setTop (mkF m 171 #[.val (.int x1), .val (.int x2), .val (.int x3), .val (.int x4), .val (.int x5), .val (.int x6), .val (.ref b1), .val (.int ((x5 &&& (2147483647 : Int32)) % (5 : Int32))), .val (.int ((x6 &&& (2147483647 : Int32)) % (5 : Int32))), .val (.int (own_de ((x6 &&& (2147483647 : Int32)) % (5 : Int32)) ((own_a x1 x2 x3 x4)) 5 ((x5 &&& (2147483647 : Int32)) % (5 : Int32)))), .val (.int (1 : Int32))] [(.ref b1)])) _
        refine XS.iload X24.here hx rfl (hb hby at_171) rfl ?_
        show Steps p.tables e below (T24.setTop (mkF m 173 #[.val (.int x1), .val (.int x2), .val (.int x3), .val (.int x4), .val (.int x5), .val (.int x6), .val (.ref b1), .val (.int ((x5 &&& (2147483647 : Int32)) % (5 : Int32))), .val (.int ((x6 &&& (2147483647 : Int32)) % (5 : Int32))), .val (.int (own_de ((x6 &&& (2147483647 : Int32)) % (5 : Int32)) ((own_a x1 x2 x3 x4)) 5 ((x5 &&& (2147483647 : Int32)) % (5 : Int32)))), .val (.int (1 : Int32))] [(.int (own_de ((x6 &&& (2147483647 : Int32)) % (5 : Int32)) ((own_a x1 x2 x3 x4)) 5 ((x5 &&& (2147483647 : Int32)) % (5 : Int32)))), (.ref b1)])) _
        have hin27 : ¬ ((own_de ((x6 &&& (2147483647 : Int32)) % (5 : Int32)) ((own_a x1 x2 x3 x4)) 5 ((x5 &&& (2147483647 : Int32)) % (5 : Int32))) < 0 ∨ cl26.slots.size ≤ ((own_de ((x6 &&& (2147483647 : Int32)) % (5 : Int32)) ((own_a x1 x2 x3 x4)) 5 ((x5 &&& (2147483647 : Int32)) % (5 : Int32)))).toNatClampNeg) := inb_of S26 ⟨own_r0 x1 x2 x3 x4 x5 x6, own_r4' x1 x2 x3 x4 x5 x6 hb20 hb25⟩
        refine X24.baloadBytes hx (j := (own_de ((x6 &&& (2147483647 : Int32)) % (5 : Int32)) ((own_a x1 x2 x3 x4)) 5 ((x5 &&& (2147483647 : Int32)) % (5 : Int32)))) (v := (.int ((own_a x1 x2 x3 x4) ((own_de ((x6 &&& (2147483647 : Int32)) % (5 : Int32)) ((own_a x1 x2 x3 x4)) 5 ((x5 &&& (2147483647 : Int32)) % (5 : Int32)))).toNatClampNeg))) (by rw [e24]; exact Ar26.1) (State.isArrayOf_alike hZ.alike Ar26.2.1) Ar26.2.2 hin27 (own_arf_at H26 S26 hin27) (g := (mkF m 173 #[.val (.int x1), .val (.int x2), .val (.int x3), .val (.int x4), .val (.int x5), .val (.int x6), .val (.ref b1), .val (.int ((x5 &&& (2147483647 : Int32)) % (5 : Int32))), .val (.int ((x6 &&& (2147483647 : Int32)) % (5 : Int32))), .val (.int (own_de ((x6 &&& (2147483647 : Int32)) % (5 : Int32)) ((own_a x1 x2 x3 x4)) 5 ((x5 &&& (2147483647 : Int32)) % (5 : Int32)))), .val (.int (1 : Int32))] [(.int (own_de ((x6 &&& (2147483647 : Int32)) % (5 : Int32)) ((own_a x1 x2 x3 x4)) 5 ((x5 &&& (2147483647 : Int32)) % (5 : Int32)))), (.ref b1)])) rfl rfl (hb hby at_173) _ ?_
        show Steps p.tables e below (T24.setTop (mkF m 174 #[.val (.int x1), .val (.int x2), .val (.int x3), .val (.int x4), .val (.int x5), .val (.int x6), .val (.ref b1), .val (.int ((x5 &&& (2147483647 : Int32)) % (5 : Int32))), .val (.int ((x6 &&& (2147483647 : Int32)) % (5 : Int32))), .val (.int (own_de ((x6 &&& (2147483647 : Int32)) % (5 : Int32)) ((own_a x1 x2 x3 x4)) 5 ((x5 &&& (2147483647 : Int32)) % (5 : Int32)))), .val (.int (1 : Int32))] [(.int ((own_a x1 x2 x3 x4) ((own_de ((x6 &&& (2147483647 : Int32)) % (5 : Int32)) ((own_a x1 x2 x3 x4)) 5 ((x5 &&& (2147483647 : Int32)) % (5 : Int32)))).toNatClampNeg))])) _
        refine st28 _ ?_
        show Steps p.tables e below (T28.setTop (mkF m 177 #[.val (.int x1), .val (.int x2), .val (.int x3), .val (.int x4), .val (.int x5), .val (.int x6), .val (.ref b1), .val (.int ((x5 &&& (2147483647 : Int32)) % (5 : Int32))), .val (.int ((x6 &&& (2147483647 : Int32)) % (5 : Int32))), .val (.int (own_de ((x6 &&& (2147483647 : Int32)) % (5 : Int32)) ((own_a x1 x2 x3 x4)) 5 ((x5 &&& (2147483647 : Int32)) % (5 : Int32)))), .val (.int (1 : Int32))] [(.int (F3 ((own_a x1 x2 x3 x4) ((own_de ((x6 &&& (2147483647 : Int32)) % (5 : Int32)) ((own_a x1 x2 x3 x4)) 5 ((x5 &&& (2147483647 : Int32)) % (5 : Int32)))).toNatClampNeg)))])) _
        refine own_dia (u := ((1 : Int32) : Int32)) (v := (0 : Int32)) ((F3 ((own_a x1 x2 x3 x4) ((own_de ((x6 &&& (2147483647 : Int32)) % (5 : Int32)) ((own_a x1 x2 x3 x4)) 5 ((x5 &&& (2147483647 : Int32)) % (5 : Int32)))).toNatClampNeg)) = (0 : Int32)) (fun z29 => (mkF m 185 #[.val (.int x1), .val (.int x2), .val (.int x3), .val (.int x4), .val (.int x5), .val (.int x6), .val (.ref b1), .val (.int ((x5 &&& (2147483647 : Int32)) % (5 : Int32))), .val (.int ((x6 &&& (2147483647 : Int32)) % (5 : Int32))), .val (.int (own_de ((x6 &&& (2147483647 : Int32)) % (5 : Int32)) ((own_a x1 x2 x3 x4)) 5 ((x5 &&& (2147483647 : Int32)) % (5 : Int32)))), .val (.int (1 : Int32))] [(.int z29)])) (fun hc29 k29 => ?_) (fun hc29 k29 => ?_) ?_
        · refine XS.ifNo X28.here hx rfl (hb hby at_177) rfl ((if0 _ _).trans (teq hc29).2) ?_
          show Steps p.tables e below (T28.setTop (mkF m 180 #[.val (.int x1), .val (.int x2), .val (.int x3), .val (.int x4), .val (.int x5), .val (.int x6), .val (.ref b1), .val (.int ((x5 &&& (2147483647 : Int32)) % (5 : Int32))), .val (.int ((x6 &&& (2147483647 : Int32)) % (5 : Int32))), .val (.int (own_de ((x6 &&& (2147483647 : Int32)) % (5 : Int32)) ((own_a x1 x2 x3 x4)) 5 ((x5 &&& (2147483647 : Int32)) % (5 : Int32)))), .val (.int (1 : Int32))] [])) _
          refine XS.iconst X28.here hx rfl (hb hby at_180) ?_
          show Steps p.tables e below (T28.setTop (mkF m 181 #[.val (.int x1), .val (.int x2), .val (.int x3), .val (.int x4), .val (.int x5), .val (.int x6), .val (.ref b1), .val (.int ((x5 &&& (2147483647 : Int32)) % (5 : Int32))), .val (.int ((x6 &&& (2147483647 : Int32)) % (5 : Int32))), .val (.int (own_de ((x6 &&& (2147483647 : Int32)) % (5 : Int32)) ((own_a x1 x2 x3 x4)) 5 ((x5 &&& (2147483647 : Int32)) % (5 : Int32)))), .val (.int (1 : Int32))] [(.int (1 : Int32))])) _
          refine XS.goto X28.here hx rfl (pc0 := 181) (pc' := 185) rfl (hb hby at_181) (by decide) (by decide) ?_
          exact k29
        · refine XS.ifYes X28.here hx rfl (pc0 := 177) (pc' := 184) rfl (hb hby at_177) rfl ((if0 _ _).trans (feq hc29).2) (by decide) (by decide) ?_
          show Steps p.tables e below (T28.setTop (mkF m 184 #[.val (.int x1), .val (.int x2), .val (.int x3), .val (.int x4), .val (.int x5), .val (.int x6), .val (.ref b1), .val (.int ((x5 &&& (2147483647 : Int32)) % (5 : Int32))), .val (.int ((x6 &&& (2147483647 : Int32)) % (5 : Int32))), .val (.int (own_de ((x6 &&& (2147483647 : Int32)) % (5 : Int32)) ((own_a x1 x2 x3 x4)) 5 ((x5 &&& (2147483647 : Int32)) % (5 : Int32)))), .val (.int (1 : Int32))] [])) _
          refine XS.iconst X28.here hx rfl (hb hby at_184) ?_
          exact k29
        -- meets at 185
        show Steps p.tables e below (T28.setTop (mkF m 185 #[.val (.int x1), .val (.int x2), .val (.int x3), .val (.int x4), .val (.int x5), .val (.int x6), .val (.ref b1), .val (.int ((x5 &&& (2147483647 : Int32)) % (5 : Int32))), .val (.int ((x6 &&& (2147483647 : Int32)) % (5 : Int32))), .val (.int (own_de ((x6 &&& (2147483647 : Int32)) % (5 : Int32)) ((own_a x1 x2 x3 x4)) 5 ((x5 &&& (2147483647 : Int32)) % (5 : Int32)))), .val (.int (1 : Int32))] [(.int (if (F3 ((own_a x1 x2 x3 x4) ((own_de ((x6 &&& (2147483647 : Int32)) % (5 : Int32)) ((own_a x1 x2 x3 x4)) 5 ((x5 &&& (2147483647 : Int32)) % (5 : Int32)))).toNatClampNeg)) = (0 : Int32) then (1 : Int32) else (0 : Int32)))])) _
        exact retN X28 hx (t := .boolean) Bd.returns (by simp) (hb hby at_185) (by rw [own_nb (own_b01 (Or.inr rfl) (Or.inl rfl))]; exact hr)
      · show Q0 Z x1 x2 x3 x4 x5 x6 h0 n0 _ T28.heap _
        rw [e28]
        exact ⟨(congrArg (fun z => some (Value.int z)) (Eq.symm (Eq.trans (if_pos hb20) (if_neg hb25)))), N28⟩
  · obtain ⟨fs, hr, hrun, hended, hW, hsame⟩ := X19.leave (v := some (.int (if (own_de ((x6 &&& (2147483647 : Int32)) % (5 : Int32)) ((own_a x1 x2 x3 x4)) 5 ((x5 &&& (2147483647 : Int32)) % (5 : Int32))) = ((x5 &&& (2147483647 : Int32)) % (5 : Int32)) then (1 : Int32) else (0 : Int32)))) (fun h => by rw [Bd.returns] at h; cases h)
    refine ⟨_, _, pre0 _ ?_, hrun, hended, _, _, rfl, ?_, ⟨_, rfl⟩, hW, hsame.mono (by decide) (by decide)⟩
    · show Steps p.tables e below (s₁.setTop (mkF m 0 #[.val (.int x1), .val (.int x2), .val (.int x3), .val (.int x4), .val (.int x5), .val (.int x6), .unset, .unset, .unset, .unset, .unset] [])) _
      refine XS.iconst X0.here hx rfl (hb hby at_0) ?_
      show Steps p.tables e below (s₁.setTop (mkF m 1 #[.val (.int x1), .val (.int x2), .val (.int x3), .val (.int x4), .val (.int x5), .val (.int x6), .unset, .unset, .unset, .unset, .unset] [(.int (4 : Int32))])) _
      refine st1 _ ?_
      show Steps p.tables e below (T1.setTop (mkF m 3 #[.val (.int x1), .val (.int x2), .val (.int x3), .val (.int x4), .val (.int x5), .val (.int x6), .unset, .unset, .unset, .unset, .unset] [(.ref b1)])) _
      refine XS.astore X1.here hx rfl (hb hby at_3) rfl rfl (l' := #[.val (.int x1), .val (.int x2), .val (.int x3), .val (.int x4), .val (.int x5), .val (.int x6), .val (.ref b1), .unset, .unset, .unset, .unset]) rfl ?_
      show Steps p.tables e below (T1.setTop (mkF m 5 #[.val (.int x1), .val (.int x2), .val (.int x3), .val (.int x4), .val (.int x5), .val (.int x6), .val (.ref b1), .unset, .unset, .unset, .unset] [])) _
      refine XS.aload X1.here hx rfl (hb hby at_5) rfl rfl ?_
      show Steps p.tables e below (T1.setTop (mkF m 7 #[.val (.int x1), .val (.int x2), .val (.int x3), .val (.int x4), .val (.int x5), .val (.int x6), .val (.ref b1), .unset, .unset, .unset, .unset] [(.ref b1)])) _
      refine XS.iconst X1.here hx rfl (hb hby at_7) ?_
      show Steps p.tables e below (T1.setTop (mkF m 8 #[.val (.int x1), .val (.int x2), .val (.int x3), .val (.int x4), .val (.int x5), .val (.int x6), .val (.ref b1), .unset, .unset, .unset, .unset] [(.int (0 : Int32)), (.ref b1)])) _
      refine XS.iloadN X1.here hx rfl (hb hby at_8) rfl ?_
      show Steps p.tables e below (T1.setTop (mkF m 9 #[.val (.int x1), .val (.int x2), .val (.int x3), .val (.int x4), .val (.int x5), .val (.int x6), .val (.ref b1), .unset, .unset, .unset, .unset] [(.int x1), (.int (0 : Int32)), (.ref b1)])) _
      refine XS.i2b X1.here hx rfl (hb hby at_9) rfl ?_
      show Steps p.tables e below (T1.setTop (mkF m 10 #[.val (.int x1), .val (.int x2), .val (.int x3), .val (.int x4), .val (.int x5), .val (.int x6), .val (.ref b1), .unset, .unset, .unset, .unset] [(.int (x1.toInt8.toInt32)), (.int (0 : Int32)), (.ref b1)])) _
      refine st3 _ ?_
      show Steps p.tables e below (T3.setTop (mkF m 11 #[.val (.int x1), .val (.int x2), .val (.int x3), .val (.int x4), .val (.int x5), .val (.int x6), .val (.ref b1), .unset, .unset, .unset, .unset] [])) _
      refine XS.aload X3.here hx rfl (hb hby at_11) rfl rfl ?_
      show Steps p.tables e below (T3.setTop (mkF m 13 #[.val (.int x1), .val (.int x2), .val (.int x3), .val (.int x4), .val (.int x5), .val (.int x6), .val (.ref b1), .unset, .unset, .unset, .unset] [(.ref b1)])) _
      refine XS.iconst X3.here hx rfl (hb hby at_13) ?_
      show Steps p.tables e below (T3.setTop (mkF m 14 #[.val (.int x1), .val (.int x2), .val (.int x3), .val (.int x4), .val (.int x5), .val (.int x6), .val (.ref b1), .unset, .unset, .unset, .unset] [(.int (1 : Int32)), (.ref b1)])) _
      refine XS.iloadN X3.here hx rfl (hb hby at_14) rfl ?_
      show Steps p.tables e below (T3.setTop (mkF m 15 #[.val (.int x1), .val (.int x2), .val (.int x3), .val (.int x4), .val (.int x5), .val (.int x6), .val (.ref b1), .unset, .unset, .unset, .unset] [(.int x2), (.int (1 : Int32)), (.ref b1)])) _
      refine XS.i2b X3.here hx rfl (hb hby at_15) rfl ?_
      show Steps p.tables e below (T3.setTop (mkF m 16 #[.val (.int x1), .val (.int x2), .val (.int x3), .val (.int x4), .val (.int x5), .val (.int x6), .val (.ref b1), .unset, .unset, .unset, .unset] [(.int (x2.toInt8.toInt32)), (.int (1 : Int32)), (.ref b1)])) _
      refine st7 _ ?_
      show Steps p.tables e below (T7.setTop (mkF m 17 #[.val (.int x1), .val (.int x2), .val (.int x3), .val (.int x4), .val (.int x5), .val (.int x6), .val (.ref b1), .unset, .unset, .unset, .unset] [])) _
      refine XS.aload X7.here hx rfl (hb hby at_17) rfl rfl ?_
      show Steps p.tables e below (T7.setTop (mkF m 19 #[.val (.int x1), .val (.int x2), .val (.int x3), .val (.int x4), .val (.int x5), .val (.int x6), .val (.ref b1), .unset, .unset, .unset, .unset] [(.ref b1)])) _
      refine XS.iconst X7.here hx rfl (hb hby at_19) ?_
      show Steps p.tables e below (T7.setTop (mkF m 20 #[.val (.int x1), .val (.int x2), .val (.int x3), .val (.int x4), .val (.int x5), .val (.int x6), .val (.ref b1), .unset, .unset, .unset, .unset] [(.int (2 : Int32)), (.ref b1)])) _
      refine XS.iloadN X7.here hx rfl (hb hby at_20) rfl ?_
      show Steps p.tables e below (T7.setTop (mkF m 21 #[.val (.int x1), .val (.int x2), .val (.int x3), .val (.int x4), .val (.int x5), .val (.int x6), .val (.ref b1), .unset, .unset, .unset, .unset] [(.int x3), (.int (2 : Int32)), (.ref b1)])) _
      refine XS.i2b X7.here hx rfl (hb hby at_21) rfl ?_
      show Steps p.tables e below (T7.setTop (mkF m 22 #[.val (.int x1), .val (.int x2), .val (.int x3), .val (.int x4), .val (.int x5), .val (.int x6), .val (.ref b1), .unset, .unset, .unset, .unset] [(.int (x3.toInt8.toInt32)), (.int (2 : Int32)), (.ref b1)])) _
      refine st11 _ ?_
      show Steps p.tables e below (T11.setTop (mkF m 23 #[.val (.int x1), .val (.int x2), .val (.int x3), .val (.int x4), .val (.int x5), .val (.int x6), .val (.ref b1), .unset, .unset, .unset, .unset] [])) _
      refine XS.aload X11.here hx rfl (hb hby at_23) rfl rfl ?_
      show Steps p.tables e below (T11.setTop (mkF m 25 #[.val (.int x1), .val (.int x2), .val (.int x3), .val (.int x4), .val (.int x5), .val (.int x6), .val (.ref b1), .unset, .unset, .unset, .unset] [(.ref b1)])) _
      refine XS.iconst X11.here hx rfl (hb hby at_25) ?_
      show Steps p.tables e below (T11.setTop (mkF m 26 #[.val (.int x1), .val (.int x2), .val (.int x3), .val (.int x4), .val (.int x5), .val (.int x6), .val (.ref b1), .unset, .unset, .unset, .unset] [(.int (3 : Int32)), (.ref b1)])) _
      refine XS.iloadN X11.here hx rfl (hb hby at_26) rfl ?_
      show Steps p.tables e below (T11.setTop (mkF m 27 #[.val (.int x1), .val (.int x2), .val (.int x3), .val (.int x4), .val (.int x5), .val (.int x6), .val (.ref b1), .unset, .unset, .unset, .unset] [(.int x4), (.int (3 : Int32)), (.ref b1)])) _
      refine XS.i2b X11.here hx rfl (hb hby at_27) rfl ?_
      show Steps p.tables e below (T11.setTop (mkF m 28 #[.val (.int x1), .val (.int x2), .val (.int x3), .val (.int x4), .val (.int x5), .val (.int x6), .val (.ref b1), .unset, .unset, .unset, .unset] [(.int (x4.toInt8.toInt32)), (.int (3 : Int32)), (.ref b1)])) _
      refine st15 _ ?_
      show Steps p.tables e below (T15.setTop (mkF m 29 #[.val (.int x1), .val (.int x2), .val (.int x3), .val (.int x4), .val (.int x5), .val (.int x6), .val (.ref b1), .unset, .unset, .unset, .unset] [])) _
      refine XS.iload X15.here hx rfl (hb hby at_29) rfl ?_
      show Steps p.tables e below (T15.setTop (mkF m 31 #[.val (.int x1), .val (.int x2), .val (.int x3), .val (.int x4), .val (.int x5), .val (.int x6), .val (.ref b1), .unset, .unset, .unset, .unset] [(.int x5)])) _
      refine X15.ldcInt hx hown (mvT hZ (hw _ (List.mem_of_getElem? (i := 1) rfl))) (g := (mkF m 31 #[.val (.int x1), .val (.int x2), .val (.int x3), .val (.int x4), .val (.int x5), .val (.int x6), .val (.ref b1), .unset, .unset, .unset, .unset] [(.int x5)])) rfl (hb hby at_31) _ ?_
      show Steps p.tables e below (T15.setTop (mkF m 33 #[.val (.int x1), .val (.int x2), .val (.int x3), .val (.int x4), .val (.int x5), .val (.int x6), .val (.ref b1), .unset, .unset, .unset, .unset] [(.int (2147483647 : Int32)), (.int x5)])) _
      refine XS.iand X15.here hx rfl (hb hby at_33) rfl ?_
      show Steps p.tables e below (T15.setTop (mkF m 34 #[.val (.int x1), .val (.int x2), .val (.int x3), .val (.int x4), .val (.int x5), .val (.int x6), .val (.ref b1), .unset, .unset, .unset, .unset] [(.int (x5 &&& (2147483647 : Int32)))])) _
      refine XS.iconst X15.here hx rfl (hb hby at_34) ?_
      show Steps p.tables e below (T15.setTop (mkF m 35 #[.val (.int x1), .val (.int x2), .val (.int x3), .val (.int x4), .val (.int x5), .val (.int x6), .val (.ref b1), .unset, .unset, .unset, .unset] [(.int (5 : Int32)), (.int (x5 &&& (2147483647 : Int32)))])) _
      refine iremM X15 hx rfl (hb hby at_35) rfl (by decide) ?_
      show Steps p.tables e below (T15.setTop (mkF m 36 #[.val (.int x1), .val (.int x2), .val (.int x3), .val (.int x4), .val (.int x5), .val (.int x6), .val (.ref b1), .unset, .unset, .unset, .unset] [(.int ((x5 &&& (2147483647 : Int32)) % (5 : Int32)))])) _
      refine XS.istore X15.here hx rfl (hb hby at_36) rfl (l' := #[.val (.int x1), .val (.int x2), .val (.int x3), .val (.int x4), .val (.int x5), .val (.int x6), .val (.ref b1), .val (.int ((x5 &&& (2147483647 : Int32)) % (5 : Int32))), .unset, .unset, .unset]) rfl ?_
      show Steps p.tables e below (T15.setTop (mkF m 38 #[.val (.int x1), .val (.int x2), .val (.int x3), .val (.int x4), .val (.int x5), .val (.int x6), .val (.ref b1), .val (.int ((x5 &&& (2147483647 : Int32)) % (5 : Int32))), .unset, .unset, .unset] [])) _
      refine XS.iload X15.here hx rfl (hb hby at_38) rfl ?_
      show Steps p.tables e below (T15.setTop (mkF m 40 #[.val (.int x1), .val (.int x2), .val (.int x3), .val (.int x4), .val (.int x5), .val (.int x6), .val (.ref b1), .val (.int ((x5 &&& (2147483647 : Int32)) % (5 : Int32))), .unset, .unset, .unset] [(.int x6)])) _
      refine X15.ldcInt hx hown (mvT hZ (hw _ (List.mem_of_getElem? (i := 1) rfl))) (g := (mkF m 40 #[.val (.int x1), .val (.int x2), .val (.int x3), .val (.int x4), .val (.int x5), .val (.int x6), .val (.ref b1), .val (.int ((x5 &&& (2147483647 : Int32)) % (5 : Int32))), .unset, .unset, .unset] [(.int x6)])) rfl (hb hby at_40) _ ?_
      show Steps p.tables e below (T15.setTop (mkF m 42 #[.val (.int x1), .val (.int x2), .val (.int x3), .val (.int x4), .val (.int x5), .val (.int x6), .val (.ref b1), .val (.int ((x5 &&& (2147483647 : Int32)) % (5 : Int32))), .unset, .unset, .unset] [(.int (2147483647 : Int32)), (.int x6)])) _
      refine XS.iand X15.here hx rfl (hb hby at_42) rfl ?_
      show Steps p.tables e below (T15.setTop (mkF m 43 #[.val (.int x1), .val (.int x2), .val (.int x3), .val (.int x4), .val (.int x5), .val (.int x6), .val (.ref b1), .val (.int ((x5 &&& (2147483647 : Int32)) % (5 : Int32))), .unset, .unset, .unset] [(.int (x6 &&& (2147483647 : Int32)))])) _
      refine XS.iconst X15.here hx rfl (hb hby at_43) ?_
      show Steps p.tables e below (T15.setTop (mkF m 44 #[.val (.int x1), .val (.int x2), .val (.int x3), .val (.int x4), .val (.int x5), .val (.int x6), .val (.ref b1), .val (.int ((x5 &&& (2147483647 : Int32)) % (5 : Int32))), .unset, .unset, .unset] [(.int (5 : Int32)), (.int (x6 &&& (2147483647 : Int32)))])) _
      refine iremM X15 hx rfl (hb hby at_44) rfl (by decide) ?_
      show Steps p.tables e below (T15.setTop (mkF m 45 #[.val (.int x1), .val (.int x2), .val (.int x3), .val (.int x4), .val (.int x5), .val (.int x6), .val (.ref b1), .val (.int ((x5 &&& (2147483647 : Int32)) % (5 : Int32))), .unset, .unset, .unset] [(.int ((x6 &&& (2147483647 : Int32)) % (5 : Int32)))])) _
      refine XS.istore X15.here hx rfl (hb hby at_45) rfl (l' := #[.val (.int x1), .val (.int x2), .val (.int x3), .val (.int x4), .val (.int x5), .val (.int x6), .val (.ref b1), .val (.int ((x5 &&& (2147483647 : Int32)) % (5 : Int32))), .val (.int ((x6 &&& (2147483647 : Int32)) % (5 : Int32))), .unset, .unset]) rfl ?_
      show Steps p.tables e below (T15.setTop (mkF m 47 #[.val (.int x1), .val (.int x2), .val (.int x3), .val (.int x4), .val (.int x5), .val (.int x6), .val (.ref b1), .val (.int ((x5 &&& (2147483647 : Int32)) % (5 : Int32))), .val (.int ((x6 &&& (2147483647 : Int32)) % (5 : Int32))), .unset, .unset] [])) _
      refine XS.aload X15.here hx rfl (hb hby at_47) rfl rfl ?_
      show Steps p.tables e below (T15.setTop (mkF m 49 #[.val (.int x1), .val (.int x2), .val (.int x3), .val (.int x4), .val (.int x5), .val (.int x6), .val (.ref b1), .val (.int ((x5 &&& (2147483647 : Int32)) % (5 : Int32))), .val (.int ((x6 &&& (2147483647 : Int32)) % (5 : Int32))), .unset, .unset] [(.ref b1)])) _
      refine XS.iload X15.here hx rfl (hb hby at_49) rfl ?_
      show Steps p.tables e below (T15.setTop (mkF m 51 #[.val (.int x1), .val (.int x2), .val (.int x3), .val (.int x4), .val (.int x5), .val (.int x6), .val (.ref b1), .val (.int ((x5 &&& (2147483647 : Int32)) % (5 : Int32))), .val (.int ((x6 &&& (2147483647 : Int32)) % (5 : Int32))), .unset, .unset] [(.int ((x5 &&& (2147483647 : Int32)) % (5 : Int32))), (.ref b1)])) _
      refine XS.iload X15.here hx rfl (hb hby at_51) rfl ?_
      show Steps p.tables e below (T15.setTop (mkF m 53 #[.val (.int x1), .val (.int x2), .val (.int x3), .val (.int x4), .val (.int x5), .val (.int x6), .val (.ref b1), .val (.int ((x5 &&& (2147483647 : Int32)) % (5 : Int32))), .val (.int ((x6 &&& (2147483647 : Int32)) % (5 : Int32))), .unset, .unset] [(.int ((x6 &&& (2147483647 : Int32)) % (5 : Int32))), (.int ((x5 &&& (2147483647 : Int32)) % (5 : Int32))), (.ref b1)])) _
      refine st19 _ ?_
      show Steps p.tables e below (T19.setTop (mkF m 56 #[.val (.int x1), .val (.int x2), .val (.int x3), .val (.int x4), .val (.int x5), .val (.int x6), .val (.ref b1), .val (.int ((x5 &&& (2147483647 : Int32)) % (5 : Int32))), .val (.int ((x6 &&& (2147483647 : Int32)) % (5 : Int32))), .unset, .unset] [(.int (own_de ((x6 &&& (2147483647 : Int32)) % (5 : Int32)) ((own_a x1 x2 x3 x4)) 5 ((x5 &&& (2147483647 : Int32)) % (5 : Int32))))])) _
      refine XS.istore X19.here hx rfl (hb hby at_56) rfl (l' := #[.val (.int x1), .val (.int x2), .val (.int x3), .val (.int x4), .val (.int x5), .val (.int x6), .val (.ref b1), .val (.int ((x5 &&& (2147483647 : Int32)) % (5 : Int32))), .val (.int ((x6 &&& (2147483647 : Int32)) % (5 : Int32))), .val (.int (own_de ((x6 &&& (2147483647 : Int32)) % (5 : Int32)) ((own_a x1 x2 x3 x4)) 5 ((x5 &&& (2147483647 : Int32)) % (5 : Int32)))), .unset]) rfl ?_
      show Steps p.tables e below (T19.setTop (mkF m 58 #[.val (.int x1), .val (.int x2), .val (.int x3), .val (.int x4), .val (.int x5), .val (.int x6), .val (.ref b1), .val (.int ((x5 &&& (2147483647 : Int32)) % (5 : Int32))), .val (.int ((x6 &&& (2147483647 : Int32)) % (5 : Int32))), .val (.int (own_de ((x6 &&& (2147483647 : Int32)) % (5 : Int32)) ((own_a x1 x2 x3 x4)) 5 ((x5 &&& (2147483647 : Int32)) % (5 : Int32)))), .unset] [])) _
      refine XS.iload X19.here hx rfl (hb hby at_58) rfl ?_
      show Steps p.tables e below (T19.setTop (mkF m 60 #[.val (.int x1), .val (.int x2), .val (.int x3), .val (.int x4), .val (.int x5), .val (.int x6), .val (.ref b1), .val (.int ((x5 &&& (2147483647 : Int32)) % (5 : Int32))), .val (.int ((x6 &&& (2147483647 : Int32)) % (5 : Int32))), .val (.int (own_de ((x6 &&& (2147483647 : Int32)) % (5 : Int32)) ((own_a x1 x2 x3 x4)) 5 ((x5 &&& (2147483647 : Int32)) % (5 : Int32)))), .unset] [(.int ((x5 &&& (2147483647 : Int32)) % (5 : Int32)))])) _
      refine XS.iload X19.here hx rfl (hb hby at_60) rfl ?_
      show Steps p.tables e below (T19.setTop (mkF m 62 #[.val (.int x1), .val (.int x2), .val (.int x3), .val (.int x4), .val (.int x5), .val (.int x6), .val (.ref b1), .val (.int ((x5 &&& (2147483647 : Int32)) % (5 : Int32))), .val (.int ((x6 &&& (2147483647 : Int32)) % (5 : Int32))), .val (.int (own_de ((x6 &&& (2147483647 : Int32)) % (5 : Int32)) ((own_a x1 x2 x3 x4)) 5 ((x5 &&& (2147483647 : Int32)) % (5 : Int32)))), .unset] [(.int ((x6 &&& (2147483647 : Int32)) % (5 : Int32))), (.int ((x5 &&& (2147483647 : Int32)) % (5 : Int32)))])) _
      refine XS.icmpNo X19.here hx rfl (hb hby at_62) rfl (flt hb20).1 ?_
      show Steps p.tables e below (T19.setTop (mkF m 65 #[.val (.int x1), .val (.int x2), .val (.int x3), .val (.int x4), .val (.int x5), .val (.int x6), .val (.ref b1), .val (.int ((x5 &&& (2147483647 : Int32)) % (5 : Int32))), .val (.int ((x6 &&& (2147483647 : Int32)) % (5 : Int32))), .val (.int (own_de ((x6 &&& (2147483647 : Int32)) % (5 : Int32)) ((own_a x1 x2 x3 x4)) 5 ((x5 &&& (2147483647 : Int32)) % (5 : Int32)))), .unset] [])) _
      refine XS.iload X19.here hx rfl (hb hby at_65) rfl ?_
      show Steps p.tables e below (T19.setTop (mkF m 67 #[.val (.int x1), .val (.int x2), .val (.int x3), .val (.int x4), .val (.int x5), .val (.int x6), .val (.ref b1), .val (.int ((x5 &&& (2147483647 : Int32)) % (5 : Int32))), .val (.int ((x6 &&& (2147483647 : Int32)) % (5 : Int32))), .val (.int (own_de ((x6 &&& (2147483647 : Int32)) % (5 : Int32)) ((own_a x1 x2 x3 x4)) 5 ((x5 &&& (2147483647 : Int32)) % (5 : Int32)))), .unset] [(.int (own_de ((x6 &&& (2147483647 : Int32)) % (5 : Int32)) ((own_a x1 x2 x3 x4)) 5 ((x5 &&& (2147483647 : Int32)) % (5 : Int32))))])) _
      refine XS.iload X19.here hx rfl (hb hby at_67) rfl ?_
      show Steps p.tables e below (T19.setTop (mkF m 69 #[.val (.int x1), .val (.int x2), .val (.int x3), .val (.int x4), .val (.int x5), .val (.int x6), .val (.ref b1), .val (.int ((x5 &&& (2147483647 : Int32)) % (5 : Int32))), .val (.int ((x6 &&& (2147483647 : Int32)) % (5 : Int32))), .val (.int (own_de ((x6 &&& (2147483647 : Int32)) % (5 : Int32)) ((own_a x1 x2 x3 x4)) 5 ((x5 &&& (2147483647 : Int32)) % (5 : Int32)))), .unset] [(.int ((x5 &&& (2147483647 : Int32)) % (5 : Int32))), (.int (own_de ((x6 &&& (2147483647 : Int32)) % (5 : Int32)) ((own_a x1 x2 x3 x4)) 5 ((x5 &&& (2147483647 : Int32)) % (5 : Int32))))])) _
      refine own_dia (u := ((1 : Int32) : Int32)) (v := (0 : Int32)) ((own_de ((x6 &&& (2147483647 : Int32)) % (5 : Int32)) ((own_a x1 x2 x3 x4)) 5 ((x5 &&& (2147483647 : Int32)) % (5 : Int32))) = ((x5 &&& (2147483647 : Int32)) % (5 : Int32))) (fun z30 => (mkF m 77 #[.val (.int x1), .val (.int x2), .val (.int x3), .val (.int x4), .val (.int x5), .val (.int x6), .val (.ref b1), .val (.int ((x5 &&& (2147483647 : Int32)) % (5 : Int32))), .val (.int ((x6 &&& (2147483647 : Int32)) % (5 : Int32))), .val (.int (own_de ((x6 &&& (2147483647 : Int32)) % (5 : Int32)) ((own_a x1 x2 x3 x4)) 5 ((x5 &&& (2147483647 : Int32)) % (5 : Int32)))), .unset] [(.int z30)])) (fun hc30 k30 => ?_) (fun hc30 k30 => ?_) ?_
      · refine XS.icmpNo X19.here hx rfl (hb hby at_69) rfl (teq hc30).2 ?_
        show Steps p.tables e below (T19.setTop (mkF m 72 #[.val (.int x1), .val (.int x2), .val (.int x3), .val (.int x4), .val (.int x5), .val (.int x6), .val (.ref b1), .val (.int ((x5 &&& (2147483647 : Int32)) % (5 : Int32))), .val (.int ((x6 &&& (2147483647 : Int32)) % (5 : Int32))), .val (.int (own_de ((x6 &&& (2147483647 : Int32)) % (5 : Int32)) ((own_a x1 x2 x3 x4)) 5 ((x5 &&& (2147483647 : Int32)) % (5 : Int32)))), .unset] [])) _
        refine XS.iconst X19.here hx rfl (hb hby at_72) ?_
        show Steps p.tables e below (T19.setTop (mkF m 73 #[.val (.int x1), .val (.int x2), .val (.int x3), .val (.int x4), .val (.int x5), .val (.int x6), .val (.ref b1), .val (.int ((x5 &&& (2147483647 : Int32)) % (5 : Int32))), .val (.int ((x6 &&& (2147483647 : Int32)) % (5 : Int32))), .val (.int (own_de ((x6 &&& (2147483647 : Int32)) % (5 : Int32)) ((own_a x1 x2 x3 x4)) 5 ((x5 &&& (2147483647 : Int32)) % (5 : Int32)))), .unset] [(.int (1 : Int32))])) _
        refine XS.goto X19.here hx rfl (pc0 := 73) (pc' := 77) rfl (hb hby at_73) (by decide) (by decide) ?_
        exact k30
      · refine XS.icmpYes X19.here hx rfl (pc0 := 69) (pc' := 76) rfl (hb hby at_69) rfl (feq hc30).2 (by decide) (by decide) ?_
        show Steps p.tables e below (T19.setTop (mkF m 76 #[.val (.int x1), .val (.int x2), .val (.int x3), .val (.int x4), .val (.int x5), .val (.int x6), .val (.ref b1), .val (.int ((x5 &&& (2147483647 : Int32)) % (5 : Int32))), .val (.int ((x6 &&& (2147483647 : Int32)) % (5 : Int32))), .val (.int (own_de ((x6 &&& (2147483647 : Int32)) % (5 : Int32)) ((own_a x1 x2 x3 x4)) 5 ((x5 &&& (2147483647 : Int32)) % (5 : Int32)))), .unset] [])) _
        refine XS.iconst X19.here hx rfl (hb hby at_76) ?_
        exact k30
      -- meets at 77
      show Steps p.tables e below (T19.setTop (mkF m 77 #[.val (.int x1), .val (.int x2), .val (.int x3), .val (.int x4), .val (.int x5), .val (.int x6), .val (.ref b1), .val (.int ((x5 &&& (2147483647 : Int32)) % (5 : Int32))), .val (.int ((x6 &&& (2147483647 : Int32)) % (5 : Int32))), .val (.int (own_de ((x6 &&& (2147483647 : Int32)) % (5 : Int32)) ((own_a x1 x2 x3 x4)) 5 ((x5 &&& (2147483647 : Int32)) % (5 : Int32)))), .unset] [(.int (if (own_de ((x6 &&& (2147483647 : Int32)) % (5 : Int32)) ((own_a x1 x2 x3 x4)) 5 ((x5 &&& (2147483647 : Int32)) % (5 : Int32))) = ((x5 &&& (2147483647 : Int32)) % (5 : Int32)) then (1 : Int32) else (0 : Int32)))])) _
      exact retN X19 hx (t := .boolean) Bd.returns (by simp) (hb hby at_77) (by rw [own_nb (own_b01 (Or.inr rfl) (Or.inl rfl))]; exact hr)
    · show Q0 Z x1 x2 x3 x4 x5 x6 h0 n0 _ T19.heap _
      rw [e19]
      exact ⟨(congrArg (fun z => some (Value.int z)) (Eq.symm (if_neg hb20))), N19⟩

theorem own_plain (x1 x2 x3 x4 x5 x6 : Int32) : F0 x1 x2 x3 x4 x5 x6 = 1 := by
  show (if own_m5 x5 < own_m5 x6 then (if own_r x1 x2 x3 x4 x5 x6 = own_m5 x6 then (1 : Int32) else (if F3 (own_a x1 x2 x3 x4 (own_r x1 x2 x3 x4 x5 x6).toNatClampNeg) = (0 : Int32) then (1 : Int32) else (0 : Int32))) else (if own_r x1 x2 x3 x4 x5 x6 = own_m5 x5 then (1 : Int32) else (0 : Int32))) = 1
  by_cases h : own_m5 x5 < own_m5 x6
  · rw [if_pos h]
    by_cases h2 : own_r x1 x2 x3 x4 x5 x6 = own_m5 x6
    · rw [if_pos h2]
    · rw [if_neg h2, if_pos (own_last x1 x2 x3 x4 x5 x6 h h2)]
  · rw [if_neg h, if_pos (own_low x1 x2 x3 x4 x5 x6 h)]

set_option maxRecDepth 65536 in
set_option maxHeartbeats 40000000 in
theorem comes_1 {Post : Tables → Env → Array Value → State → Outcome → State → Prop} (hpost : ∀ tb e args s v u, (limb_1_1.after args s (.returned v) u = true ∧ limb_1_2.after args s (.returned v) u = true ∧ True) → FrameEnd s (.returned v) u (Jvm.fieldLocs frame_1_writes args s ++ Jvm.arrayLocs frame_1_arrays args s ++ Jvm.staticLocs frame_1_statics s) 16 128 → Post tb e args s (.returned v) u) :
    ArmFor flags0 classFile x code maxLocals ret World_1 tables_1 room_1 Calls_1 rest_1 Pre_1 Post := by
  intro l hfl _ _ p e ha hc hk s m args below hf hA hF happ hP
  obtain ⟨hcalls, hrest, hpre⟩ := hP
  obtain ⟨-, -, -, hnamed, -, -, -, hat⟩ := (Spec.applies_iff hf).mp happ
  obtain ⟨hg, hn⟩ := and_e (Cond.before_iff.mp (show (Jvm.Cond.and given_1 narrow_1).before args s = true from hpre))
  obtain ⟨hcount, t0⟩ := and_e hg
  obtain ⟨k0, t1⟩ := and_e t0
  obtain ⟨k1, t2⟩ := and_e t1
  obtain ⟨k2, t3⟩ := and_e t2
  obtain ⟨k3, t4⟩ := and_e t3
  obtain ⟨k4, t5⟩ := and_e t4
  have k5 := t5
  obtain ⟨w0, w1, w2, w3, w4, w5, rfl⟩ : ∃ w0 w1 w2 w3 w4 w5 : Value, args = #[w0, w1, w2, w3, w4, w5] := by
    have hs : args.size = 6 := by simpa [Cond.value, given_1] using hcount
    obtain ⟨L⟩ := args
    match L, hs with
    | [w0, w1, w2, w3, w4, w5], _ => exact ⟨w0, w1, w2, w3, w4, w5, rfl⟩
  have hw := fun d (hd : d ∈ tables_1) => atoms_spec (ws := Jvm.Cond.code x code maxLocals ret :: tables_1) hat d (List.mem_cons_of_mem _ hd)
  obtain ⟨i0, ei0⟩ := is_v k0
  obtain rfl : w0 = (.int i0) := Option.some.inj ei0
  obtain ⟨i1, ei1⟩ := is_v k1
  obtain rfl : w1 = (.int i1) := Option.some.inj ei1
  obtain ⟨i2, ei2⟩ := is_v k2
  obtain rfl : w2 = (.int i2) := Option.some.inj ei2
  obtain ⟨i3, ei3⟩ := is_v k3
  obtain rfl : w3 = (.int i3) := Option.some.inj ei3
  obtain ⟨i4, ei4⟩ := is_v k4
  obtain rfl : w4 = (.int i4) := Option.some.inj ei4
  obtain ⟨i5, ei5⟩ := is_v k5
  obtain rfl : w5 = (.int i5) := Option.some.inj ei5
  obtain ⟨n, o, h1, h2, h3, _, L, rfl, ⟨hv, N⟩, hq⟩ := rm0 l s _ hw tables_1 i0 i1 i2 i3 i4 i5 s.heap s.heap.size (Nat.le_refl _) p e ha hc hk s m _ below hf ((Spec.applies_iff_loose hf).mp happ).1 ⟨rfl, State.Warmed39.refl s, rfl⟩ trivial
  rw [own_plain i0 i1 i2 i3 i4 i5] at hv
  subst hv
  refine ⟨n, _, h1, h2, h3, hpost _ _ _ _ _ _ ⟨Cond.after_iff.mpr rfl, Cond.after_iff.mpr (eq_i res_at (Term.int_eval (1)) rfl), trivial⟩ ⟨hq.1, hq.2.1, (hq.2.2.sift fun y hy => Or.inr (N y hy)).mono (by decide) (by decide)⟩⟩
theorem main_1_1 : Claimed_1_1 := comes_1 fun _ _ _ _ _ _ h hF => ⟨h.1, hF⟩
theorem main_1_2 : Claimed_1_2 := comes_1 fun _ _ _ _ _ _ h hF => ⟨h.2.1, hF⟩
end Jvm.Pilot.@@N@@
namespace Jvm.Pilot.@@N@@
open Jvm Jvm.ClassFile Sem Op Lib Jvm.Free Jvm.Stand Jvm.Pilot.@@N@@.Jvm.D
/-! MADE BY PROGRAM (witnessworld.py) out of the Statement's table words and the real class files: 9 classes; the members and pool entries that the words name. The judged class is class 1, her method 3. -/
namespace start1
open Jvm.ClassFile
def u (s : String) : CpInfo := .utf8 (stringToUtf16 s)
/-- a pool by its gaps: so many unusable entries, then the entry; so many at the end -/
def gap : Nat → List CpInfo → List CpInfo
  | 0, r => r
  | n + 1, r => .unusable :: gap n r
def poolList (es : List (Nat × CpInfo)) (last : Nat) : List CpInfo := es.foldr (fun e r => gap e.1 (e.2 :: r)) (gap last [])
def pool (es : List (Nat × CpInfo)) (last : Nat) : Array CpInfo := ⟨poolList es last⟩
def fileOf (pool : Array CpInfo) (this : Nat) (attrs : Array Attribute := #[]) (ms : Array MethodInfo := #[]) (fl : Nat := 33) (sup : Nat := 0) (ifs : Array Nat := #[]) (fds : Array FieldInfo := #[]) : ClassFile where
  minorVersion := 0
  majorVersion := 65
  constantPool := pool
  accessFlags := fl
  thisClass := this
  superClass := sup
  interfaces := ifs
  fields := fds
  methods := ms
  attributes := attrs
def plain (name : String) (sup : Option ClassId) : Class where
  name := name
  kind := .ordinary
  loader := none
  accessFlags := 33
  super := sup
  interfaces := #[]
  cf := none
  fields := #[]
  methods := #[]
  instanceTypes := #[]
  staticTypes := #[]
  resolved := #[]
  callSites := []
  init := .initialized
  statics := none
  mirror := none

def pool0 : Array CpInfo := pool [(5, u "<init>"), (0, u "()V"), (1, .class_ 10), (1, u "java/lang/Object")] 113

def k0m0 : Method := { name := "<init>", desc := "()V", sig := { parameters := [], returnType := none }, accessFlags := 1, code := none }
/-- java/lang/Object -/
def k0 : Class := { plain "java/lang/Object" none with
  accessFlags := 33
  interfaces := #[]
  cf := some (fileOf pool0 8 #[] #[{ accessFlags := 1, nameIndex := 5, descriptorIndex := 6, attributes := #[] }] 33 0 #[] #[])
  fields := #[]
  methods := #[k0m0]
  instanceTypes := #[]
  staticTypes := #[]
  resolved := Array.replicate 124 none
  statics := none }

def pool1 : Array CpInfo := pool [(2, .class_ 4), (1, u "java/lang/Object"), (0, u "<init>"), (0, u "()V"), (0, .methodref 8 9), (0, .class_ 10), (0, .nameAndType 11 12), (0, u "com/example/ponca/ponca/protocol/DecimalDigitsEndPinLaw"), (0, u "isDigit"), (0, u "(B)Z"), (0, .integer 2147483647), (0, .methodref 15 16), (0, .class_ 17), (0, .nameAndType 18 19), (0, u "com/example/ponca/ponca/protocol/Decimal"), (0, u "digitsEnd"), (0, u "([BII)I"), (0, .methodref 8 21), (0, .nameAndType 22 23), (0, u "digitIfInside"), (0, u "([BIII)Z"), (3, u "law"), (0, u "(IIIIII)Z")] 4

def k1m0 : Method := { name := "<init>", desc := "()V", sig := { parameters := [], returnType := none }, accessFlags := 1, code := none }
def k1c1 : Code := { maxStack := 2, maxLocals := 1, code := method_2_code, exceptionTable := #[], attributes := #[] }
def k1m1 : Method := { name := "isDigit", desc := "(B)Z", sig := { parameters := [.byte], returnType := some .boolean }, accessFlags := 10, code := some k1c1 }
def k1c2 : Code := { maxStack := 2, maxLocals := 4, code := method_3_code, exceptionTable := #[], attributes := #[] }
def k1m2 : Method := { name := "digitIfInside", desc := "([BIII)Z", sig := { parameters := [(.array .byte), .int, .int, .int], returnType := some .boolean }, accessFlags := 10, code := some k1c2 }
def k1c3 : Code := { maxStack := 4, maxLocals := 11, code := code, exceptionTable := #[], attributes := #[] }
def k1m3 : Method := { name := "law", desc := "(IIIIII)Z", sig := { parameters := [.int, .int, .int, .int, .int, .int], returnType := some .boolean }, accessFlags := 9, code := some k1c3 }
/-- com/example/ponca/ponca/protocol/DecimalDigitsEndPinLaw -/
def k1 : Class := { plain "com/example/ponca/ponca/protocol/DecimalDigitsEndPinLaw" (some 0) with
  accessFlags := 49
  interfaces := #[]
  cf := some (fileOf pool1 8 #[] #[{ accessFlags := 1, nameIndex := 5, descriptorIndex := 6, attributes := #[] }, { accessFlags := 10, nameIndex := 11, descriptorIndex := 12, attributes := #[] }, { accessFlags := 10, nameIndex := 22, descriptorIndex := 23, attributes := #[] }, { accessFlags := 9, nameIndex := 27, descriptorIndex := 28, attributes := #[] }] 49 2 #[] #[])
  fields := #[]
  methods := #[k1m0, k1m1, k1m2, k1m3]
  instanceTypes := #[]
  staticTypes := #[]
  resolved := Array.replicate 33 none
  statics := none }

def pool2 : Array CpInfo := pool [(2, .class_ 4), (1, u "java/lang/Object"), (0, u "<init>"), (0, u "()V"), (13, .class_ 22), (1, u "com/example/ponca/ponca/protocol/Decimal"), (10, u "digitsEnd"), (0, u "([BII)I"), (66, u "DIGITS_THAT_FIT"), (0, u "I")] 27

def k2m0 : Method := { name := "<init>", desc := "()V", sig := { parameters := [], returnType := none }, accessFlags := 2, code := none }
def k2c1 : Code := { maxStack := 2, maxLocals := 4, code := prog_20_method_4_code, exceptionTable := #[], attributes := #[] }
def k2m1 : Method := { name := "digitsEnd", desc := "([BII)I", sig := { parameters := [(.array .byte), .int, .int], returnType := some .int }, accessFlags := 8, code := some k2c1 }
/-- com/example/ponca/ponca/protocol/Decimal -/
def k2 : Class := { plain "com/example/ponca/ponca/protocol/Decimal" (some 0) with
  accessFlags := 49
  interfaces := #[]
  cf := some (fileOf pool2 20 #[] #[{ accessFlags := 2, nameIndex := 5, descriptorIndex := 6, attributes := #[] }, { accessFlags := 8, nameIndex := 33, descriptorIndex := 34, attributes := #[] }] 49 2 #[] #[{ accessFlags := 26, nameIndex := 101, descriptorIndex := 102, attributes := #[] }])
  fields := #[{ name := "DIGITS_THAT_FIT", type := .int, accessFlags := 26, slot := 0, constantValue := 0 }]
  methods := #[k2m0, k2m1]
  instanceTypes := #[]
  staticTypes := #[.int]
  resolved := Array.replicate 130 none
  statics := none }

def pool3 : Array CpInfo := pool [(1, u "java/lang/Cloneable"), (0, .class_ 1), (0, u "java/lang/Object"), (0, .class_ 3)] 3

/-- java/lang/Cloneable -/
def k3 : Class := { plain "java/lang/Cloneable" (some 0) with
  accessFlags := 1537
  interfaces := #[]
  cf := some (fileOf pool3 2 #[] #[] 1537 4 #[] #[])
  fields := #[]
  methods := #[]
  instanceTypes := #[]
  staticTypes := #[]
  resolved := Array.replicate 8 none
  statics := none }

def pool4 : Array CpInfo := pool [(1, u "java/io/Serializable"), (0, .class_ 1), (0, u "java/lang/Object"), (0, .class_ 3)] 3

/-- java/io/Serializable -/
def k4 : Class := { plain "java/io/Serializable" (some 0) with
  accessFlags := 1537
  interfaces := #[]
  cf := some (fileOf pool4 2 #[] #[] 1537 4 #[] #[])
  fields := #[]
  methods := #[]
  instanceTypes := #[]
  staticTypes := #[]
  resolved := Array.replicate 8 none
  statics := none }

/-- the primitive byte -/
def k5 : Class := { plain "byte" none with kind := .primitive 'B', accessFlags := 0x411 }
/-- [B -/
def k6 : Class := { plain "[B" (some 0) with kind := .array 5 .byte, interfaces := #[3, 4], accessFlags := 1041 }

/-- the primitive int -/
def k7 : Class := { plain "int" none with kind := .primitive 'I', accessFlags := 0x411 }
/-- [I -/
def k8 : Class := { plain "[I" (some 0) with kind := .array 7 .int, interfaces := #[3, 4], accessFlags := 1041 }

def heap : Heap := #[]
def classes : Array Class := #[k0, k1, k2, k3, k4, k5, k6, k7, k8]
def interned : List (Array UInt16 × Addr) := []
def slotsUsed : Nat := 0
def theMethod : MethodId := ⟨1, 3⟩
def args0 : Array Value := #[.int 5, .int 5, .int 5, .int 5, .int 5, .int 5]
def aboutOver (below : List Frame) : State where
  vm := { classes := classes, interned := interned.toArray }
  heap := heap
  slotsUsed := slotsUsed
  threads := #[{ frames := .invoking theMethod args0 :: below }]
def below0 : List Frame := [.native { method := ⟨0, 0⟩, args := #[] }]
def about1 : State := aboutOver below0
def p0 : Program := .bare "" "" ""
def e0 : Env := launch0.env 0 0 0
theorem w_frames : about1.frames = Frame.invoking theMethod args0 :: below0 := rfl
set_option maxRecDepth 65536 in
theorem w_args : argsFit about1.vm theMethod args0 = true := by decide +kernel
set_option maxRecDepth 65536 in
theorem w_heap : heapFits about1 = true := by decide +kernel
set_option maxRecDepth 65536 in
theorem w_runnable : about1.curStatus? = some .runnable := by decide +kernel
set_option maxRecDepth 65536 in
theorem w_alone : about1.alone = true := by decide +kernel
set_option maxRecDepth 65536 in
theorem w_named : about1.methodNamed? x = some theMethod := by decide +kernel
set_option maxRecDepth 65536 in
theorem w_hears : about1.hears theMethod below0 = true := by decide +kernel
set_option maxRecDepth 65536 in
theorem w_ripe : about1.ripe theMethod args0 below0 = true := by decide +kernel
theorem w_running : about1.status = .running := rfl
set_option maxRecDepth 65536 in
theorem w_room : about1.hasRoom e0.platform room_1 = true :=
  launch0.hasRoom_least _ room_1 (by decide +kernel) (by decide +kernel) (by decide +kernel) (by decide +kernel) (by decide +kernel) (by decide +kernel)
theorem allAtoms_all (ts : List Jvm.Cond) (a : Array Jvm.Value) (st : Jvm.State) : (allAtoms ts).before a st = ts.all (fun c => c.before a st) := by
  induction ts with
  | nil => rfl
  | cons c t ih =>
    show (Jvm.Cond.and c (allAtoms t)).before a st = _
    rw [Jvm.Cond.before_and, ih, List.all_cons]
def words1 : List Jvm.Cond := Jvm.Cond.code x code maxLocals ret :: tables_1
/-- a 'code' word, met by the world's own term for the bytes: nothing is compared byte by byte -/
theorem code_word {y : MethodName} {bytes : ByteArray} {mx : Nat} {rt : Option FieldType} {a : Array Value} {s : State} {m : MethodId} {meth : Method} {c : Code} (h1 : s.methodNamed? y = some m) (h2 : s.vm.method? m = some meth) (h3 : meth.code = some c) (h4 : c.code = bytes)
    (h5 : (c.maxLocals == mx && c.exceptionTable.isEmpty && decide (c.maxStack ≤ mostOperands) && decide (meth.sig.returnType = rt) && !meth.locks && decide (parseMethodDescriptor y.desc = some meth.sig)) = true) : (Jvm.Cond.code y bytes mx rt).before a s = true := by
  simp only [Bool.and_eq_true, beq_iff_eq, Bool.not_eq_true', decide_eq_true_eq] at h5
  obtain ⟨⟨⟨⟨⟨g1, g2⟩, g3⟩, g4⟩, g5⟩, g6⟩ := h5
  simp [Cond.before, Cond.holds, Cond.value, h1, h2, h3, h4, g1, g2, g3, g4, g5, g6]
def isCode : Jvm.Cond → Bool
  | .code _ _ _ _ => true
  | _ => false
theorem all_split {L : List Jvm.Cond} {P : Jvm.Cond → Bool} (h1 : L.all (fun c => isCode c || P c) = true) (h2 : ∀ c ∈ L.filter isCode, P c = true) : L.all P = true := by
  refine List.all_eq_true.mpr fun c hc => ?_
  have h := List.all_eq_true.mp h1 c hc
  rcases Bool.eq_false_or_eq_true (isCode c) with hi | hi
  · exact h2 c (List.mem_filter.mpr ⟨hc, hi⟩)
  · simpa [hi] using h
set_option maxRecDepth 65536 in
theorem w_c0 : (Jvm.Cond.code x code maxLocals ret).before args0 about1 = true := code_word (m := ⟨1, 3⟩) (meth := k1m3) (c := k1c3) (by decide +kernel) rfl rfl rfl (by decide +kernel)
set_option maxRecDepth 65536 in
theorem w_c1 : (Jvm.Cond.code ({ cls := "com/example/ponca/ponca/protocol/Decimal", name := "digitsEnd", desc := "([BII)I" } : Jvm.MethodName) prog_20_method_4_code (4 : Nat) (Option.some Jvm.ClassFile.FieldType.int)).before args0 about1 = true := code_word (m := ⟨2, 1⟩) (meth := k2m1) (c := k2c1) (by decide +kernel) rfl rfl rfl (by decide +kernel)
set_option maxRecDepth 65536 in
theorem w_c2 : (Jvm.Cond.code ({ cls := "com/example/ponca/ponca/protocol/DecimalDigitsEndPinLaw", name := "digitIfInside", desc := "([BIII)Z" } : Jvm.MethodName) method_3_code (4 : Nat) (Option.some Jvm.ClassFile.FieldType.boolean)).before args0 about1 = true := code_word (m := ⟨1, 2⟩) (meth := k1m2) (c := k1c2) (by decide +kernel) rfl rfl rfl (by decide +kernel)
set_option maxRecDepth 65536 in
theorem w_c3 : (Jvm.Cond.code ({ cls := "com/example/ponca/ponca/protocol/DecimalDigitsEndPinLaw", name := "isDigit", desc := "(B)Z" } : Jvm.MethodName) method_2_code (1 : Nat) (Option.some Jvm.ClassFile.FieldType.boolean)).before args0 about1 = true := code_word (m := ⟨1, 1⟩) (meth := k1m1) (c := k1c1) (by decide +kernel) rfl rfl rfl (by decide +kernel)
def codes1 : List Jvm.Cond := [Jvm.Cond.code x code maxLocals ret, Jvm.Cond.code ({ cls := "com/example/ponca/ponca/protocol/Decimal", name := "digitsEnd", desc := "([BII)I" } : Jvm.MethodName) prog_20_method_4_code (4 : Nat) (Option.some Jvm.ClassFile.FieldType.int), Jvm.Cond.code ({ cls := "com/example/ponca/ponca/protocol/DecimalDigitsEndPinLaw", name := "digitIfInside", desc := "([BIII)Z" } : Jvm.MethodName) method_3_code (4 : Nat) (Option.some Jvm.ClassFile.FieldType.boolean), Jvm.Cond.code ({ cls := "com/example/ponca/ponca/protocol/DecimalDigitsEndPinLaw", name := "isDigit", desc := "(B)Z" } : Jvm.MethodName) method_2_code (1 : Nat) (Option.some Jvm.ClassFile.FieldType.boolean)]
set_option maxRecDepth 65536 in
theorem codes_eq : words1.filter isCode = codes1 := rfl
theorem w_codes : ∀ c ∈ words1.filter isCode, c.before args0 about1 = true := by
  rw [codes_eq]
  intro c hc
  simp only [codes1, List.mem_cons, List.not_mem_nil, or_false] at hc
  rcases hc with rfl | rfl | rfl | rfl
  · exact w_c0
  · exact w_c1
  · exact w_c2
  · exact w_c3
set_option maxRecDepth 65536 in
theorem w_t1 : words1.all (fun c => isCode c || c.before args0 about1) = true := by decide +kernel
theorem w_tables : (allAtoms (Jvm.Cond.code x code maxLocals ret :: tables_1)).before args0 about1 = true := by
  rw [allAtoms_all]
  show words1.all (fun c => c.before args0 about1) = true
  refine all_split ?_ w_codes
  rw [w_t1]
set_option maxRecDepth 65536 in
theorem w_case : (Jvm.Cond.and given_1 narrow_1).before args0 about1 = true := by decide +kernel
theorem w_applies : (headSpec (Jvm.Cond.code x code maxLocals ret :: tables_1) room_1).applies x e0.platform about1 = true :=
  (Spec.applies_iff w_frames).mpr ⟨w_running, w_runnable, w_alone, w_named, w_hears, w_ripe, w_room, w_tables⟩
theorem atStart : AtStart classFile x code maxLocals ret World_1 tables_1 room_1 Calls_1 rest_1 Pre_1 launch0 p0 e0 about1 theMethod args0 below0 :=
  ⟨lists_1, trivial, launch0.admits_env _ _ _, launch0.least_env, fairChoices_fair.cas, fairChoices_fair.clock, w_frames, w_args, w_heap, w_applies, trivial, trivial, w_case⟩
end start1
theorem witness_1 : WitnessClaimed_1 := ⟨start1.p0, start1.e0, start1.about1, start1.theMethod, start1.args0, start1.below0, start1.atStart⟩
end Jvm.Pilot.@@N@@
