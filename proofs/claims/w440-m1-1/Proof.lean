import JvmDerived
import JvmDerived.Pilot.@@N@@Statement
import JvmDerived.Pilot.@@N@@Code
set_option linter.unusedVariables false
set_option linter.unusedSimpArgs false
@@BLOCK:NumsL.lean.txt@@
namespace Jvm.RoadKit
open Sem ClassFile Op Lib Jvm.Stand Jvm.Free Jvm.LawKit
section New
variable {p : Program} {l : Launch} {e : Env} {R : Room} {s : State} {m : MethodId} {args : Array Value} {below : List Frame} {meth : Method} {c : Code} {T : State} {locs : List Loc} {cells slots : Nat}
theorem retI (X : Stand p l e R s m args below meth c T locs cells slots) (hx : p.tables.exec = Jvm.exec) {pc : Nat} {Ls : Array Slot} {z : Int32} {rest : List Value} (hret : meth.sig.returnType = some .int) (hd : decode c.code pc = .ok (.ireturn, 1)) {fs : List Frame}
    (hl : ∀ (f : JFrame) (acts : List Action), f.method = m → f.locked = none → f.entered = [] → (doReturn e (T.setTop f) acts (some (.int z))).1 = T.setFrames fs) : Steps p.tables e below (T.setTop (mkF m pc Ls (.int z :: rest))) (T.setFrames fs) := by
  have hm' : T.vm.method? m = some meth := X.method'
  have hn : narrow .int (.int z) = .int z := rfl
  show Steps p.tables e below (T.setTop { method := m, pc := pc, locals := Ls, stack := _ :: rest, locked := none }) _
  jvm_step X.here [X.here.top, hx, hd, hm', hret, hn]
  first | (intro acts; rw [hl _ acts rfl rfl rfl]) | rw [hl _ _ rfl rfl rfl]
  exact Steps.refl _
end New
theorem own_dia {tb : Tables} {e : Env} {below : List Frame} {T tgt : State} {g : JFrame} {A : Type} {u v : A} (q : Prop) [Decidable q] (f : A → JFrame)
    (h1 : q → Steps tb e below (T.setTop (f u)) tgt → Steps tb e below (T.setTop g) tgt) (h0 : ¬ q → Steps tb e below (T.setTop (f v)) tgt → Steps tb e below (T.setTop g) tgt)
    (k : Steps tb e below (T.setTop (f (if q then u else v))) tgt) : Steps tb e below (T.setTop g) tgt := by
  by_cases hq : q
  · rw [if_pos hq] at k; exact h1 hq k
  · rw [if_neg hq] at k; exact h0 hq k
theorem own_cast {tb : Tables} {e : Env} {below : List Frame} {T tgt : State} {A : Type} {u v : A} (f : A → JFrame) (h : u = v) (k : Steps tb e below (T.setTop (f v)) tgt) : Steps tb e below (T.setTop (f u)) tgt := h ▸ k
theorem own_llt {x y : Int64} (h : x < y) : ifCond.holds .lt (lcmpW x y) = true ∧ ifCond.holds .ge (lcmpW x y) = false := by
  rw [if0, if0]; exact ⟨(tlt ((lw_lt x y).mpr h)).1, (tlt ((lw_lt x y).mpr h)).2.1⟩
theorem own_lge {x y : Int64} (h : ¬ x < y) : ifCond.holds .lt (lcmpW x y) = false ∧ ifCond.holds .ge (lcmpW x y) = true := by
  rw [if0, if0]; exact ⟨(flt fun q => h ((lw_lt x y).mp q)).1, (flt fun q => h ((lw_lt x y).mp q)).2.1⟩
theorem own_lgt {x y : Int64} (h : y < x) : ifCond.holds .gt (lcmpW x y) = true ∧ ifCond.holds .le (lcmpW x y) = false := by
  rw [if0, if0]; exact ⟨(tlt ((lw_gt x y).mpr h)).2.2.1, (tlt ((lw_gt x y).mpr h)).2.2.2⟩
theorem own_lle {x y : Int64} (h : ¬ y < x) : ifCond.holds .gt (lcmpW x y) = false ∧ ifCond.holds .le (lcmpW x y) = true := by
  rw [if0, if0]; exact ⟨(flt fun q => h ((lw_gt x y).mp q)).2.2.1, (flt fun q => h ((lw_gt x y).mp q)).2.2.2⟩
theorem own_leq {x y : Int64} (h : x = y) : ifCond.holds .eq (lcmpW x y) = true ∧ ifCond.holds .ne (lcmpW x y) = false := by
  rw [if0, if0]; exact ⟨(teq ((lw_eq x y).mpr h)).1, (teq ((lw_eq x y).mpr h)).2⟩
theorem own_lne {x y : Int64} (h : ¬ x = y) : ifCond.holds .eq (lcmpW x y) = false ∧ ifCond.holds .ne (lcmpW x y) = true := by
  rw [if0, if0]; exact ⟨(feq fun q => h ((lw_eq x y).mp q)).1, (feq fun q => h ((lw_eq x y).mp q)).2⟩
theorem own_bt {q : Prop} [Decidable q] (h : q) : ifCond.holds .ne (if q then (1 : Int32) else (0 : Int32)) = true ∧ ifCond.holds .eq (if q then (1 : Int32) else (0 : Int32)) = false := by
  rw [if_pos h]; exact ⟨rfl, rfl⟩
theorem own_bf {q : Prop} [Decidable q] (h : ¬ q) : ifCond.holds .ne (if q then (1 : Int32) else (0 : Int32)) = false ∧ ifCond.holds .eq (if q then (1 : Int32) else (0 : Int32)) = true := by
  rw [if_neg h]; exact ⟨rfl, rfl⟩
theorem own_ct {q : Prop} [Decidable q] (h : q) : ifCond.holds .ne (if q then (0 : Int32) else (1 : Int32)) = false ∧ ifCond.holds .eq (if q then (0 : Int32) else (1 : Int32)) = true := by
  rw [if_pos h]; exact ⟨rfl, rfl⟩
theorem own_cf {q : Prop} [Decidable q] (h : ¬ q) : ifCond.holds .ne (if q then (0 : Int32) else (1 : Int32)) = true ∧ ifCond.holds .eq (if q then (0 : Int32) else (1 : Int32)) = false := by
  rw [if_neg h]; exact ⟨rfl, rfl⟩
theorem own_b01 {q : Prop} [Decidable q] {x y : Int32} (hx : x = 0 ∨ x = 1) (hy : y = 0 ∨ y = 1) : (if q then x else y) = 0 ∨ (if q then x else y) = 1 := by
  split <;> assumption
def Arf (Z : State) (h : Heap) (a : Addr) (ty : FieldType) (n : Int32) (f : Nat → Value) : Prop :=
  ∃ c : Cell, Arr Z h a c ty ∧ c.slots.size = n.toNatClampNeg ∧ ¬ n < 0 ∧ ∀ i, i < n.toNatClampNeg → c.slots[i]? = some (f i)
theorem Arf.lt {Z : State} {h : Heap} {a : Addr} {ty : FieldType} {n : Int32} {f : Nat → Value} (F : Arf Z h a ty n f) : a < h.size := by
  obtain ⟨c, A, -⟩ := F; exact A.lt
theorem Arf.ext {Z : State} {h h' : Heap} {a : Addr} {ty : FieldType} {n : Int32} {f : Nat → Value} (F : Arf Z h a ty n f) (E : Ext h h') : Arf Z h' a ty n f := by
  obtain ⟨c, A, r⟩ := F; exact ⟨c, A.ext E, r⟩
theorem Arf.other {Z : State} {h h' : Heap} {a b : Addr} {sl : Nat} {v : Value} {ty : FieldType} {n : Int32} {f : Nat → Value} (F : Arf Z h b ty n f) (W : Wr h h' a sl v) (q : b ≠ a) : Arf Z h' b ty n f := by
  obtain ⟨c, A, r⟩ := F; exact ⟨c, A.other W q, r⟩
theorem Arf.keep {Z : State} {h h' : Heap} {a : Addr} {ws : List Addr} {ty : FieldType} {n : Int32} {f : Nat → Value} (F : Arf Z h a ty n f) (K : Keep h h' ws) (q : a ∉ ws) : Arf Z h' a ty n f := by
  obtain ⟨c, A, r⟩ := F; exact ⟨c, ⟨K.2.1 a c A.1 q, A.2⟩, r⟩
theorem own_arf_new {Z : State} {h : Heap} {a : Addr} {k : ClassId} {ty : FieldType} {z : Int32} (A : Arr Z h a (newA k ty z) ty) (q : ¬ z < 0) : Arf Z h a ty z (fun _ => defaultValue ty) :=
  ⟨_, A, sz_new _ _ _, q, fun i hi => by simp [newA, hi]⟩
theorem own_arf_set {Z : State} {h h' : Heap} {a : Addr} {ty : FieldType} {n : Int32} {f : Nat → Value} {j : Nat} {v : Value} (F : Arf Z h a ty n f) (W : Wr h h' a j v) : Arf Z h' a ty n (fun i => if i = j then v else f i) := by
  obtain ⟨c, A, S, M, H⟩ := F
  refine ⟨_, A.same W, by rw [sz_set]; exact S, M, fun i hi => ?_⟩
  show _ = some (if i = j then v else f i)
  by_cases u : i = j
  · subst u; rw [if_pos rfl]; rw [← S] at hi; simp [Cell.setSlot, hi]
  · rw [if_neg u]; have := H i hi; simp only [Cell.setSlot]; rw [Array.getElem?_setIfInBounds_ne (Ne.symm u)]; exact this
theorem own_arf_fn {Z : State} {h : Heap} {a : Addr} {ty : FieldType} {n : Int32} {f g : Nat → Value} (F : Arf Z h a ty n f) (q : ∀ i, i < n.toNatClampNeg → f i = g i) : Arf Z h a ty n g := by
  obtain ⟨c, A, S, M, H⟩ := F
  exact ⟨c, A, S, M, fun i hi => by rw [← q i hi]; exact H i hi⟩
theorem own_arf_setI {Z : State} {h h' : Heap} {a : Addr} {ty : FieldType} {n : Int32} {f : Nat → Int32} {j : Nat} {v : Int32} (F : Arf Z h a ty n (fun i => Value.int (f i))) (W : Wr h h' a j (.int v)) : Arf Z h' a ty n (fun i => Value.int (if i = j then v else f i)) :=
  own_arf_fn (own_arf_set F W) fun i _ => by by_cases u : i = j <;> simp [u]
theorem own_arf_setL {Z : State} {h h' : Heap} {a : Addr} {ty : FieldType} {n : Int32} {f : Nat → Int64} {j : Nat} {v : Int64} (F : Arf Z h a ty n (fun i => Value.long (f i))) (W : Wr h h' a j (.long v)) : Arf Z h' a ty n (fun i => Value.long (if i = j then v else f i)) :=
  own_arf_fn (own_arf_set F W) fun i _ => by by_cases u : i = j <;> simp [u]
theorem own_arf_at {c : Cell} {n j : Int32} {f : Nat → Value} (H : ∀ i, i < n.toNatClampNeg → c.slots[i]? = some (f i)) (S : c.slots.size = n.toNatClampNeg) (q : ¬ (j < 0 ∨ c.slots.size ≤ j.toNatClampNeg)) : c.slots[j.toNatClampNeg]? = some (f j.toNatClampNeg) :=
  H _ (by rw [← S]; exact Nat.lt_of_not_le fun y => q (Or.inr y))
theorem own_nb {x : Int32} (h : x = 0 ∨ x = 1) : nar .boolean x = x := by
  rcases h with rfl | rfl <;> rfl
end Jvm.RoadKit
namespace Jvm.Pilot.@@N@@
open Jvm Jvm.ClassFile Sem Op Lib Jvm.Free Jvm.Stand Jvm.LawKit Jvm.RoadKit Bundle Jvm.Pilot.@@N@@.Jvm.D

def own_run (vl : Int64) (vn : Int32) : Nat → Int64 → Int32 → Int64
  | 0, ms, _ => ms
  | k + 1, ms, i => if i < vn then (if ms < vl then (if (vl / (2 : Int64)) < ms then own_run vl vn k vl (i + (1 : Int32)) else own_run vl vn k (ms * (2 : Int64)) (i + (1 : Int32))) else ms) else ms
theorem own_run_s (vl : Int64) (vn : Int32) (k : Nat) (ms : Int64) (i : Int32) : own_run vl vn (k + 1) ms i = if i < vn then (if ms < vl then (if (vl / (2 : Int64)) < ms then own_run vl vn k vl (i + (1 : Int32)) else own_run vl vn k (ms * (2 : Int64)) (i + (1 : Int32))) else ms) else ms := rfl
theorem own_add1 {n i : Int32} (h0 : ¬ i < 0) (hc : i < n) : (i + (1 : Int32)).toInt = i.toInt + 1 := by
  have e0 : (0 : Int32).toInt = 0 := rfl
  have e1 : (1 : Int32).toInt = 1 := rfl
  have := n.toInt_lt
  rw [Int32.lt_iff_toInt_lt] at h0 hc
  have e2 : (i + (1 : Int32)).toInt = i.toInt + (1 : Int32).toInt := Jvm.Kit.i32_add (by omega) (by omega)
  rw [e2, e1]
theorem own_next {n i : Int32} {k : Nat} (hk : n.toInt - i.toInt ≤ (k + 1 : Nat)) (h0 : ¬ i < 0) (hc : i < n) : n.toInt - (i + (1 : Int32)).toInt ≤ (k : Nat) ∧ ¬ (i + (1 : Int32)) < 0 := by
  have e0 : (0 : Int32).toInt = 0 := rfl
  have e2 := own_add1 h0 hc
  rw [Int32.lt_iff_toInt_lt] at h0 hc ⊢; omega
theorem own_stop {n i : Int32} (hk : n.toInt - i.toInt ≤ (0 : Nat)) : ¬ i < n := by
  rw [Int32.lt_iff_toInt_lt]; omega
theorem own_fuel (vn : Int32) : vn.toInt - (0 : Int32).toInt ≤ (vn.toNatClampNeg : Nat) := by
  have e0 : (0 : Int32).toInt = 0 := rfl
  simp only [Int32.toNatClampNeg]; omega

theorem d1_0 : decode jdk_29_method_70_code 0 = .ok (.lload_n 0, 1) := by decide +kernel
theorem d1_1 : decode jdk_29_method_70_code 1 = .ok (.lload_n 2, 1) := by decide +kernel
theorem d1_2 : decode jdk_29_method_70_code 2 = .ok (.lcmp, 1) := by decide +kernel
theorem d1_3 : decode jdk_29_method_70_code 3 = .ok (.ifCond .gt 7, 3) := by decide +kernel
theorem d1_6 : decode jdk_29_method_70_code 6 = .ok (.lload_n 0, 1) := by decide +kernel
theorem d1_7 : decode jdk_29_method_70_code 7 = .ok (.goto 4, 3) := by decide +kernel
theorem d1_10 : decode jdk_29_method_70_code 10 = .ok (.lload_n 2, 1) := by decide +kernel
theorem d1_11 : decode jdk_29_method_70_code 11 = .ok (.lreturn, 1) := by decide +kernel
theorem ef_1 (m : MethodId) (va : Int64) (vb : Int64) : entryFrame m #[(.long va), (.long vb)] 4 = mkF m 0 #[.val (.long va), .second, .val (.long vb), .second] [] := by first | (simp [entryFrame, mkF, argsToLocals, Value.category]; done) | rfl
def F1 (va : Int64) (vb : Int64) : Int64 := (if vb < va then vb else va)
def Q1 (Z : State) (va : Int64) (vb : Int64) (h0 : Heap) (n0 : Nat) (v : Option Value) (h : Heap) (L : List Loc) : Prop := v = some (.long (F1 va vb)) ∧ Fr n0 L ∧ h = h0
set_option maxRecDepth 65536 in
set_option maxHeartbeats 40000000 in
theorem rm1 (l : Launch) (Z : State) (a0 : Array Value) (hw : ∀ d ∈ tables_1, d.before a0 Z = true) (ws : List Jvm.Cond) (va : Int64) (vb : Int64) (h0 : Heap) (n0 : Nat) (Z0 : n0 ≤ h0.size)  :
    MetFree l (⟨"java/lang/Math", "min", "(JJ)J"⟩ : MethodName) (head1 (Jvm.Cond.code (⟨"java/lang/Math", "min", "(JJ)J"⟩ : MethodName) jdk_29_method_70_code 4 (some .long) :: ws) ({ frames := 0, cells := 0, slots := 0, locals := 0 } : Room)) (fun a U => a = #[(.long va), (.long vb)] ∧ Z.Warmed39 U.vm ∧ U.heap = h0) (fun _ _ _ _ _ => True) (fun _ U o U' => ∃ v L, o = .returned v ∧ Q1 Z va vb h0 n0 v U'.heap L ∧ FrameEnd U o U' L ({ frames := 0, cells := 0, slots := 0, locals := 0 } : Room).cells ({ frames := 0, cells := 0, slots := 0, locals := 0 } : Room).slots) := by
  refine MetFree.of_bodySF (Jvm.Free.JP.mathPlain rfl (by decide +kernel)) hisR ?_
  intro p e s m args below meth c s₁ Bd hml0 hP hK
  obtain ⟨rfl, hZ, hh⟩ := hP
  have hx := Bd.exec
  have hby := Bd.bytes
  have hml : c.maxLocals = 4 := hml0
  have hown : s.vm.findClass "java/lang/Math" = some m.cls := findClass_of_methodNamed Bd.named
  have hnm := (name_of_methodNamed Bd.named Bd.method).1
  have X0 : Stand p l e ({ frames := 0, cells := 0, slots := 0, locals := 0 } : Room) s m #[(.long va), (.long vb)] below meth c s₁ [] 0 0 := Stand.of_body Bd
  have e0 : s₁.heap = h0 := by rw [← hh, Bd.state]; rfl
  have N0 := Fr.nil n0
  have pre0 : ∀ t, Steps p.tables e below (s₁.setTop (mkF m 0 #[.val (.long va), .second, .val (.long vb), .second] [])) t → Steps p.tables e below (s₁.setTop (entryFrame m #[(.long va), (.long vb)] 4)) t := fun t k => castTop (ef_1 m va vb) k
  obtain ⟨fs, hr, hrun, hended, hW, hsame⟩ := X0.leave (v := some (.long (if vb < va then vb else va))) (fun h => by rw [Bd.returns] at h; cases h)
  refine ⟨_, _, pre0 _ ?_, hrun, hended, _, _, rfl, ?_, ⟨_, rfl⟩, hW, hsame.mono (by decide) (by decide)⟩
  · show Steps p.tables e below (s₁.setTop (mkF m 0 #[.val (.long va), .second, .val (.long vb), .second] [])) _
    refine XS.lloadN X0.here hx rfl (hb hby d1_0) rfl ?_
    show Steps p.tables e below (s₁.setTop (mkF m 1 #[.val (.long va), .second, .val (.long vb), .second] [(.long va)])) _
    refine XS.lloadN X0.here hx rfl (hb hby d1_1) rfl ?_
    show Steps p.tables e below (s₁.setTop (mkF m 2 #[.val (.long va), .second, .val (.long vb), .second] [(.long vb), (.long va)])) _
    refine XS.lcmp X0.here hx rfl (hb hby d1_2) rfl ?_
    show Steps p.tables e below (s₁.setTop (mkF m 3 #[.val (.long va), .second, .val (.long vb), .second] [(.int (lcmpW va vb))])) _
    refine own_dia (u := (vb : Int64)) (v := va) (vb < va) (fun z1 => (mkF m 11 #[.val (.long va), .second, .val (.long vb), .second] [(.long z1)])) (fun hc1 k1 => ?_) (fun hc1 k1 => ?_) ?_
    · refine XS.ifYes X0.here hx rfl (pc0 := 3) (pc' := 10) rfl (hb hby d1_3) rfl (own_lgt hc1).1 (by decide) (by decide) ?_
      show Steps p.tables e below (s₁.setTop (mkF m 10 #[.val (.long va), .second, .val (.long vb), .second] [])) _
      refine XS.lloadN X0.here hx rfl (hb hby d1_10) rfl ?_
      exact k1
    · refine XS.ifNo X0.here hx rfl (hb hby d1_3) rfl (own_lle hc1).1 ?_
      show Steps p.tables e below (s₁.setTop (mkF m 6 #[.val (.long va), .second, .val (.long vb), .second] [])) _
      refine XS.lloadN X0.here hx rfl (hb hby d1_6) rfl ?_
      show Steps p.tables e below (s₁.setTop (mkF m 7 #[.val (.long va), .second, .val (.long vb), .second] [(.long va)])) _
      refine XS.goto X0.here hx rfl (pc0 := 7) (pc' := 11) rfl (hb hby d1_7) (by decide) (by decide) ?_
      exact k1
    -- meets at 11
    show Steps p.tables e below (s₁.setTop (mkF m 11 #[.val (.long va), .second, .val (.long vb), .second] [(.long (if vb < va then vb else va))])) _
    exact X0.lreturnOut hx Bd.returns (hb hby d1_11) hr
  · show Q1 Z va vb h0 n0 _ s₁.heap _
    rw [e0]
    exact ⟨rfl, N0, rfl⟩
theorem d2_0 : decode jdk_29_method_66_code 0 = .ok (.lload_n 0, 1) := by decide +kernel
theorem d2_1 : decode jdk_29_method_66_code 1 = .ok (.lload_n 2, 1) := by decide +kernel
theorem d2_2 : decode jdk_29_method_66_code 2 = .ok (.lcmp, 1) := by decide +kernel
theorem d2_3 : decode jdk_29_method_66_code 3 = .ok (.ifCond .lt 7, 3) := by decide +kernel
theorem d2_6 : decode jdk_29_method_66_code 6 = .ok (.lload_n 0, 1) := by decide +kernel
theorem d2_7 : decode jdk_29_method_66_code 7 = .ok (.goto 4, 3) := by decide +kernel
theorem d2_10 : decode jdk_29_method_66_code 10 = .ok (.lload_n 2, 1) := by decide +kernel
theorem d2_11 : decode jdk_29_method_66_code 11 = .ok (.lreturn, 1) := by decide +kernel
theorem ef_2 (m : MethodId) (va : Int64) (vb : Int64) : entryFrame m #[(.long va), (.long vb)] 4 = mkF m 0 #[.val (.long va), .second, .val (.long vb), .second] [] := by first | (simp [entryFrame, mkF, argsToLocals, Value.category]; done) | rfl
def F2 (va : Int64) (vb : Int64) : Int64 := (if va < vb then vb else va)
def Q2 (Z : State) (va : Int64) (vb : Int64) (h0 : Heap) (n0 : Nat) (v : Option Value) (h : Heap) (L : List Loc) : Prop := v = some (.long (F2 va vb)) ∧ Fr n0 L ∧ h = h0
set_option maxRecDepth 65536 in
set_option maxHeartbeats 40000000 in
theorem rm2 (l : Launch) (Z : State) (a0 : Array Value) (hw : ∀ d ∈ tables_1, d.before a0 Z = true) (ws : List Jvm.Cond) (va : Int64) (vb : Int64) (h0 : Heap) (n0 : Nat) (Z0 : n0 ≤ h0.size)  :
    MetFree l (⟨"java/lang/Math", "max", "(JJ)J"⟩ : MethodName) (head1 (Jvm.Cond.code (⟨"java/lang/Math", "max", "(JJ)J"⟩ : MethodName) jdk_29_method_66_code 4 (some .long) :: ws) ({ frames := 0, cells := 0, slots := 0, locals := 0 } : Room)) (fun a U => a = #[(.long va), (.long vb)] ∧ Z.Warmed39 U.vm ∧ U.heap = h0) (fun _ _ _ _ _ => True) (fun _ U o U' => ∃ v L, o = .returned v ∧ Q2 Z va vb h0 n0 v U'.heap L ∧ FrameEnd U o U' L ({ frames := 0, cells := 0, slots := 0, locals := 0 } : Room).cells ({ frames := 0, cells := 0, slots := 0, locals := 0 } : Room).slots) := by
  refine MetFree.of_bodySF (Jvm.Free.JP.mathPlain rfl (by decide +kernel)) hisR ?_
  intro p e s m args below meth c s₁ Bd hml0 hP hK
  obtain ⟨rfl, hZ, hh⟩ := hP
  have hx := Bd.exec
  have hby := Bd.bytes
  have hml : c.maxLocals = 4 := hml0
  have hown : s.vm.findClass "java/lang/Math" = some m.cls := findClass_of_methodNamed Bd.named
  have hnm := (name_of_methodNamed Bd.named Bd.method).1
  have X0 : Stand p l e ({ frames := 0, cells := 0, slots := 0, locals := 0 } : Room) s m #[(.long va), (.long vb)] below meth c s₁ [] 0 0 := Stand.of_body Bd
  have e0 : s₁.heap = h0 := by rw [← hh, Bd.state]; rfl
  have N0 := Fr.nil n0
  have pre0 : ∀ t, Steps p.tables e below (s₁.setTop (mkF m 0 #[.val (.long va), .second, .val (.long vb), .second] [])) t → Steps p.tables e below (s₁.setTop (entryFrame m #[(.long va), (.long vb)] 4)) t := fun t k => castTop (ef_2 m va vb) k
  obtain ⟨fs, hr, hrun, hended, hW, hsame⟩ := X0.leave (v := some (.long (if va < vb then vb else va))) (fun h => by rw [Bd.returns] at h; cases h)
  refine ⟨_, _, pre0 _ ?_, hrun, hended, _, _, rfl, ?_, ⟨_, rfl⟩, hW, hsame.mono (by decide) (by decide)⟩
  · show Steps p.tables e below (s₁.setTop (mkF m 0 #[.val (.long va), .second, .val (.long vb), .second] [])) _
    refine XS.lloadN X0.here hx rfl (hb hby d2_0) rfl ?_
    show Steps p.tables e below (s₁.setTop (mkF m 1 #[.val (.long va), .second, .val (.long vb), .second] [(.long va)])) _
    refine XS.lloadN X0.here hx rfl (hb hby d2_1) rfl ?_
    show Steps p.tables e below (s₁.setTop (mkF m 2 #[.val (.long va), .second, .val (.long vb), .second] [(.long vb), (.long va)])) _
    refine XS.lcmp X0.here hx rfl (hb hby d2_2) rfl ?_
    show Steps p.tables e below (s₁.setTop (mkF m 3 #[.val (.long va), .second, .val (.long vb), .second] [(.int (lcmpW va vb))])) _
    refine own_dia (u := (vb : Int64)) (v := va) (va < vb) (fun z1 => (mkF m 11 #[.val (.long va), .second, .val (.long vb), .second] [(.long z1)])) (fun hc1 k1 => ?_) (fun hc1 k1 => ?_) ?_
    · refine XS.ifYes X0.here hx rfl (pc0 := 3) (pc' := 10) rfl (hb hby d2_3) rfl (own_llt hc1).1 (by decide) (by decide) ?_
      show Steps p.tables e below (s₁.setTop (mkF m 10 #[.val (.long va), .second, .val (.long vb), .second] [])) _
      refine XS.lloadN X0.here hx rfl (hb hby d2_10) rfl ?_
      exact k1
    · refine XS.ifNo X0.here hx rfl (hb hby d2_3) rfl (own_lge hc1).1 ?_
      show Steps p.tables e below (s₁.setTop (mkF m 6 #[.val (.long va), .second, .val (.long vb), .second] [])) _
      refine XS.lloadN X0.here hx rfl (hb hby d2_6) rfl ?_
      show Steps p.tables e below (s₁.setTop (mkF m 7 #[.val (.long va), .second, .val (.long vb), .second] [(.long va)])) _
      refine XS.goto X0.here hx rfl (pc0 := 7) (pc' := 11) rfl (hb hby d2_7) (by decide) (by decide) ?_
      exact k1
    -- meets at 11
    show Steps p.tables e below (s₁.setTop (mkF m 11 #[.val (.long va), .second, .val (.long vb), .second] [(.long (if va < vb then vb else va))])) _
    exact X0.lreturnOut hx Bd.returns (hb hby d2_11) hr
  · show Q2 Z va vb h0 n0 _ s₁.heap _
    rw [e0]
    exact ⟨rfl, N0, rfl⟩
theorem d4_0 : decode jdk_30_method_1_code 0 = .ok (.aload_n 0, 1) := by decide +kernel
theorem d4_1 : decode jdk_30_method_1_code 1 = .ok (.invokespecial 1, 3) := by decide +kernel
theorem d4_4 : decode jdk_30_method_1_code 4 = .ok (.return_, 1) := by decide +kernel
theorem pn_4 : plainName "java/lang/Record" = true := by first | (simp [plainName, overriddenIn]; done) | decide +kernel
theorem ef_4 (m : MethodId) (va : Addr) : entryFrame m #[(.ref va)] 1 = mkF m 0 #[.val (.ref va)] [] := by first | (simp [entryFrame, mkF, argsToLocals, Value.category]; done) | rfl
def Q4 (Z : State) (va : Addr) (h0 : Heap) (n0 : Nat) (v : Option Value) (h : Heap) (L : List Loc) : Prop := v = none ∧ Fr n0 L ∧ h = h0
set_option maxRecDepth 65536 in
set_option maxHeartbeats 40000000 in
theorem rm4 (l : Launch) (Z : State) (a0 : Array Value) (hw : ∀ d ∈ tables_1, d.before a0 Z = true) (ws : List Jvm.Cond) (va : Addr) (h0 : Heap) (n0 : Nat) (Z0 : n0 ≤ h0.size)  :
    MetFree l (⟨"java/lang/Record", "<init>", "()V"⟩ : MethodName) (head1 (Jvm.Cond.code (⟨"java/lang/Record", "<init>", "()V"⟩ : MethodName) jdk_30_method_1_code 1 none :: ws) ({ frames := 1, cells := 0, slots := 0, locals := 12 } : Room)) (fun a U => a = #[(.ref va)] ∧ Z.Warmed39 U.vm ∧ U.heap = h0) (fun _ _ _ _ _ => True) (fun _ U o U' => ∃ v L, o = .returned v ∧ Q4 Z va h0 n0 v U'.heap L ∧ FrameEnd U o U' L ({ frames := 1, cells := 0, slots := 0, locals := 12 } : Room).cells ({ frames := 1, cells := 0, slots := 0, locals := 12 } : Room).slots) := by
  refine MetFree.of_bodySF (plainFor_of_name pn_4) hisR ?_
  intro p e s m args below meth c s₁ Bd hml0 hP hK
  obtain ⟨rfl, hZ, hh⟩ := hP
  have hx := Bd.exec
  have hby := Bd.bytes
  have hml : c.maxLocals = 1 := hml0
  have hown : s.vm.findClass "java/lang/Record" = some m.cls := findClass_of_methodNamed Bd.named
  have hnm := (name_of_methodNamed Bd.named Bd.method).1
  have X0 : Stand p l e ({ frames := 1, cells := 0, slots := 0, locals := 12 } : Room) s m #[(.ref va)] below meth c s₁ [] 0 0 := Stand.of_body Bd
  have e0 : s₁.heap = h0 := by rw [← hh, Bd.state]; rfl
  have N0 := Fr.nil n0
  have pre0 : ∀ t, Steps p.tables e below (s₁.setTop (mkF m 0 #[.val (.ref va)] [])) t → Steps p.tables e below (s₁.setTop (entryFrame m #[(.ref va)] 1)) t := fun t k => castTop (ef_4 m va) k
  obtain ⟨T1, X1, e1, st1⟩ := initO X0 hx hZ hown (hw _ (List.mem_of_getElem? (i := 19) rfl)) (hw _ (List.mem_of_getElem? (i := 20) rfl)) (hw _ (List.mem_of_getElem? (i := 21) rfl)) e0 (g := (mkF m 1 #[.val (.ref va)] [(.ref va)])) rfl (by rw [hml]; rfl) rfl (hb hby d4_1) (by decide) (W := 0) (by show 2 * 0 + _ ≤ _; exact Nat.le_of_eq rfl) (by decide)
  obtain ⟨fs, hr, hrun, hended, hW, hsame⟩ := X1.leave (v := none) (fun _ => rfl)
  refine ⟨_, _, pre0 _ ?_, hrun, hended, _, _, rfl, ?_, ⟨_, rfl⟩, hW, hsame.mono (by decide) (by decide)⟩
  · show Steps p.tables e below (s₁.setTop (mkF m 0 #[.val (.ref va)] [])) _
    refine XS.aloadN X0.here hx rfl (hb hby d4_0) rfl rfl ?_
    show Steps p.tables e below (s₁.setTop (mkF m 1 #[.val (.ref va)] [(.ref va)])) _
    refine st1 _ ?_
    show Steps p.tables e below (T1.setTop (mkF m 4 #[.val (.ref va)] [])) _
    exact X1.returnOut hx Bd.returns (hb hby d4_4) hr
  · show Q4 Z va h0 n0 _ T1.heap _
    rw [e1]
    exact ⟨rfl, N0, rfl⟩
theorem pd_0 : parseMethodDescriptor "()V" = some ⟨[], none⟩ := by decide +kernel
theorem d3_0 : decode prog_15_method_1_code 0 = .ok (.aload_n 0, 1) := by decide +kernel
theorem d3_1 : decode prog_15_method_1_code 1 = .ok (.invokespecial 1, 3) := by decide +kernel
theorem d3_4 : decode prog_15_method_1_code 4 = .ok (.lload_n 1, 1) := by decide +kernel
theorem d3_5 : decode prog_15_method_1_code 5 = .ok (.lconst 1, 1) := by decide +kernel
theorem d3_6 : decode prog_15_method_1_code 6 = .ok (.lcmp, 1) := by decide +kernel
theorem d3_7 : decode prog_15_method_1_code 7 = .ok (.ifCond .lt 9, 3) := by decide +kernel
theorem d3_10 : decode prog_15_method_1_code 10 = .ok (.lload_n 3, 1) := by decide +kernel
theorem d3_11 : decode prog_15_method_1_code 11 = .ok (.lload_n 1, 1) := by decide +kernel
theorem d3_12 : decode prog_15_method_1_code 12 = .ok (.lcmp, 1) := by decide +kernel
theorem d3_13 : decode prog_15_method_1_code 13 = .ok (.ifCond .ge 18, 3) := by decide +kernel
theorem d3_31 : decode prog_15_method_1_code 31 = .ok (.aload_n 0, 1) := by decide +kernel
theorem d3_32 : decode prog_15_method_1_code 32 = .ok (.lload_n 1, 1) := by decide +kernel
theorem d3_33 : decode prog_15_method_1_code 33 = .ok (.putfield 16, 3) := by decide +kernel
theorem d3_36 : decode prog_15_method_1_code 36 = .ok (.aload_n 0, 1) := by decide +kernel
theorem d3_37 : decode prog_15_method_1_code 37 = .ok (.lload_n 3, 1) := by decide +kernel
theorem d3_38 : decode prog_15_method_1_code 38 = .ok (.putfield 22, 3) := by decide +kernel
theorem d3_41 : decode prog_15_method_1_code 41 = .ok (.return_, 1) := by decide +kernel
theorem pn_3 : plainName "com/example/ponca/ponca/mqtt/Backoff" = true := by first | (simp [plainName, overriddenIn]; done) | decide +kernel
theorem ef_3 (m : MethodId) (va : Addr) (vf : Int64) (vl : Int64) : entryFrame m #[(.ref va), (.long vf), (.long vl)] 5 = mkF m 0 #[.val (.ref va), .val (.long vf), .second, .val (.long vl), .second] [] := by first | (simp [entryFrame, mkF, argsToLocals, Value.category]; done) | rfl
def Q3 (Z : State) (va : Addr) (vf : Int64) (vl : Int64) (h0 : Heap) (n0 : Nat) (v : Option Value) (h : Heap) (L : List Loc) : Prop := v = none ∧ Fr n0 L ∧ Keep h0 h [va] ∧ Exa Z h va "com/example/ponca/ponca/mqtt/Backoff" ∧ Fld Z h va "com/example/ponca/ponca/mqtt/Backoff" "firstMillis" "J" (.long vf) ∧ Fld Z h va "com/example/ponca/ponca/mqtt/Backoff" "lastMillis" "J" (.long vl)
set_option maxRecDepth 65536 in
set_option maxHeartbeats 40000000 in
theorem rm3 (l : Launch) (Z : State) (a0 : Array Value) (hw : ∀ d ∈ tables_1, d.before a0 Z = true) (ws : List Jvm.Cond) (va : Addr) (vf : Int64) (vl : Int64) (h0 : Heap) (n0 : Nat) (Z0 : n0 ≤ h0.size) (E_va : Exa Z h0 va "com/example/ponca/ponca/mqtt/Backoff") (g_va : n0 ≤ va) (F_va_firstMillis : Fld Z h0 va "com/example/ponca/ponca/mqtt/Backoff" "firstMillis" "J" (.long (0 : Int64))) (F_va_lastMillis : Fld Z h0 va "com/example/ponca/ponca/mqtt/Backoff" "lastMillis" "J" (.long (0 : Int64))) (hf1 : ¬ vf < (1 : Int64)) (hlf : ¬ vl < vf) :
    MetFree l (⟨"com/example/ponca/ponca/mqtt/Backoff", "<init>", "(JJ)V"⟩ : MethodName) (head1 (Jvm.Cond.code (⟨"com/example/ponca/ponca/mqtt/Backoff", "<init>", "(JJ)V"⟩ : MethodName) prog_15_method_1_code 5 none :: ws) ({ frames := 2, cells := 0, slots := 0, locals := 24 } : Room)) (fun a U => a = #[(.ref va), (.long vf), (.long vl)] ∧ Z.Warmed39 U.vm ∧ U.heap = h0) (fun _ _ _ _ _ => True) (fun _ U o U' => ∃ v L, o = .returned v ∧ Q3 Z va vf vl h0 n0 v U'.heap L ∧ FrameEnd U o U' L ({ frames := 2, cells := 0, slots := 0, locals := 24 } : Room).cells ({ frames := 2, cells := 0, slots := 0, locals := 24 } : Room).slots) := by
  refine MetFree.of_bodySF (plainFor_of_name pn_3) hisR ?_
  intro p e s m args below meth c s₁ Bd hml0 hP hK
  obtain ⟨rfl, hZ, hh⟩ := hP
  have hx := Bd.exec
  have hby := Bd.bytes
  have hml : c.maxLocals = 5 := hml0
  have hown : s.vm.findClass "com/example/ponca/ponca/mqtt/Backoff" = some m.cls := findClass_of_methodNamed Bd.named
  have hnm := (name_of_methodNamed Bd.named Bd.method).1
  have X0 : Stand p l e ({ frames := 2, cells := 0, slots := 0, locals := 24 } : Room) s m #[(.ref va), (.long vf), (.long vl)] below meth c s₁ [] 0 0 := Stand.of_body Bd
  have e0 : s₁.heap = h0 := by rw [← hh, Bd.state]; rfl
  have N0 := Fr.nil n0
  have pre0 : ∀ t, Steps p.tables e below (s₁.setTop (mkF m 0 #[.val (.ref va), .val (.long vf), .second, .val (.long vl), .second] [])) t → Steps p.tables e below (s₁.setTop (entryFrame m #[(.ref va), (.long vf), (.long vl)] 5)) t := fun t k => castTop (ef_3 m va vf vl) k
  have K0 := Keep.refl h0 [va]
  obtain ⟨_, _, ⟨T1, L1, k1, n1⟩, -, X1, ⟨Lc1, hQ1, l1, y1, z1⟩, st1⟩ := X0.specialBack hx (y := (⟨"java/lang/Record", "<init>", "()V"⟩ : MethodName)) rfl hown (mvT hZ (hw _ (List.mem_of_getElem? (i := 14) rfl))) (mvT hZ (hw _ (List.mem_of_getElem? (i := 15) rfl))) (mvT hZ (hw _ (List.mem_of_getElem? (i := 18) rfl))) (by decide) (backOf (W := 0) (rm4 l Z a0 hw [] va  h0 n0 Z0 ) hZ (hw _ (List.mem_of_getElem? (i := 18) rfl)) (hw _ (List.mem_of_getElem? (i := 17) rfl)) (by decide) (by decide)) (g := (mkF m 1 #[.val (.ref va), .val (.long vf), .second, .val (.long vl), .second] [(.ref va)])) rfl (by rw [hml]; rfl) (Steps.refl _) (a := va) (argsL := []) (rest := []) (lenOf pd_0 rfl) rfl (by show 2 * 0 + _ ≤ _; exact Nat.le_of_eq rfl) (hb hby d3_1) (fun _ _ => ⟨rfl, e0, (by decide : 0 + 0 ≤ _), (by decide : 0 + 0 ≤ _)⟩)
  dsimp only [Pt.U, Pt.locs, Pt.cells, Pt.slots] at X1 l1 y1 z1 st1 hQ1
  subst l1 y1 z1
  obtain ⟨rfl, N1q, e1⟩ := hQ1
  have N1 := Fr.app N0 N1q
  obtain ⟨T2, h2, X2, e2, W2, st2⟩ := putF X1 hx hZ hown (host := "") (Or.inl (hw _ (List.mem_of_getElem? (i := 22) rfl))) Via.refl e1 F_va_firstMillis E_va (Or.inr ⟨(hw _ (List.mem_of_getElem? (i := 23) rfl)), rfl, hnm⟩) (hw _ (List.mem_of_getElem? (i := 9) rfl)) (ty := .long) (by decide) rfl rfl (g := (mkF m 33 #[.val (.ref va), .val (.long vf), .second, .val (.long vl), .second] [(.long vf), (.ref va)])) rfl rfl (hb hby d3_33)
  have Z3 : n0 ≤ h2.size := Nat.le_trans Z0 (Keep.of_wr W2).1
  have E4_va := E_va.wr W2
  have F6_va_lastMillis := F_va_lastMillis.other W2 (Or.inr (slot_ne (Or.inr (hw _ (List.mem_of_getElem? (i := 25) rfl))) (Or.inr (hw _ (List.mem_of_getElem? (i := 23) rfl))) (by decide) (t := .long) (t' := .long) (by decide) (by decide)))
  have Fw2 := F_va_firstMillis.same W2
  have N2 := Fr.snoc X2 N1 g_va
  have K2 := K0.wr W2 (Or.inl (List.mem_of_getElem? (i := 0) rfl))
  obtain ⟨T7, h7, X7, e7, W7, st7⟩ := putF X2 hx hZ hown (host := "") (Or.inl (hw _ (List.mem_of_getElem? (i := 24) rfl))) Via.refl e2 F6_va_lastMillis E4_va (Or.inr ⟨(hw _ (List.mem_of_getElem? (i := 25) rfl)), rfl, hnm⟩) (hw _ (List.mem_of_getElem? (i := 9) rfl)) (ty := .long) (by decide) rfl rfl (g := (mkF m 38 #[.val (.ref va), .val (.long vf), .second, .val (.long vl), .second] [(.long vl), (.ref va)])) rfl rfl (hb hby d3_38)
  have Z8 : n0 ≤ h7.size := Nat.le_trans Z3 (Keep.of_wr W7).1
  have E9_va := E4_va.wr W7
  have F10_va_firstMillis := Fw2.other W7 (Or.inr (slot_ne (Or.inr (hw _ (List.mem_of_getElem? (i := 23) rfl))) (Or.inr (hw _ (List.mem_of_getElem? (i := 25) rfl))) (by decide) (t := .long) (t' := .long) (by decide) (by decide)))
  have Fw7 := F6_va_lastMillis.same W7
  have N7 := Fr.snoc X7 N2 g_va
  have K7 := K2.wr W7 (Or.inl (List.mem_of_getElem? (i := 0) rfl))
  obtain ⟨fs, hr, hrun, hended, hW, hsame⟩ := X7.leave (v := none) (fun _ => rfl)
  refine ⟨_, _, pre0 _ ?_, hrun, hended, _, _, rfl, ?_, ⟨_, rfl⟩, hW, hsame.mono (by decide) (by decide)⟩
  · show Steps p.tables e below (s₁.setTop (mkF m 0 #[.val (.ref va), .val (.long vf), .second, .val (.long vl), .second] [])) _
    refine XS.aloadN X0.here hx rfl (hb hby d3_0) rfl rfl ?_
    show Steps p.tables e below (s₁.setTop (mkF m 1 #[.val (.ref va), .val (.long vf), .second, .val (.long vl), .second] [(.ref va)])) _
    refine st1.trans ?_
    show Steps p.tables e below (T1.setTop (mkF m 4 #[.val (.ref va), .val (.long vf), .second, .val (.long vl), .second] [])) _
    refine XS.lloadN X1.here hx rfl (hb hby d3_4) rfl ?_
    show Steps p.tables e below (T1.setTop (mkF m 5 #[.val (.ref va), .val (.long vf), .second, .val (.long vl), .second] [(.long vf)])) _
    refine XS.lconst X1.here hx rfl (hb hby d3_5) ?_
    show Steps p.tables e below (T1.setTop (mkF m 6 #[.val (.ref va), .val (.long vf), .second, .val (.long vl), .second] [(.long (1 : Int64)), (.long vf)])) _
    refine XS.lcmp X1.here hx rfl (hb hby d3_6) rfl ?_
    show Steps p.tables e below (T1.setTop (mkF m 7 #[.val (.ref va), .val (.long vf), .second, .val (.long vl), .second] [(.int (lcmpW vf (1 : Int64)))])) _
    refine XS.ifNo X1.here hx rfl (hb hby d3_7) rfl (own_lge (hf1 : ¬ (vf < (1 : Int64)))).1 ?_
    show Steps p.tables e below (T1.setTop (mkF m 10 #[.val (.ref va), .val (.long vf), .second, .val (.long vl), .second] [])) _
    refine XS.lloadN X1.here hx rfl (hb hby d3_10) rfl ?_
    show Steps p.tables e below (T1.setTop (mkF m 11 #[.val (.ref va), .val (.long vf), .second, .val (.long vl), .second] [(.long vl)])) _
    refine XS.lloadN X1.here hx rfl (hb hby d3_11) rfl ?_
    show Steps p.tables e below (T1.setTop (mkF m 12 #[.val (.ref va), .val (.long vf), .second, .val (.long vl), .second] [(.long vf), (.long vl)])) _
    refine XS.lcmp X1.here hx rfl (hb hby d3_12) rfl ?_
    show Steps p.tables e below (T1.setTop (mkF m 13 #[.val (.ref va), .val (.long vf), .second, .val (.long vl), .second] [(.int (lcmpW vl vf))])) _
    refine XS.ifYes X1.here hx rfl (pc0 := 13) (pc' := 31) rfl (hb hby d3_13) rfl (own_lge (hlf : ¬ (vl < vf))).2 (by decide) (by decide) ?_
    show Steps p.tables e below (T1.setTop (mkF m 31 #[.val (.ref va), .val (.long vf), .second, .val (.long vl), .second] [])) _
    refine XS.aloadN X1.here hx rfl (hb hby d3_31) rfl rfl ?_
    show Steps p.tables e below (T1.setTop (mkF m 32 #[.val (.ref va), .val (.long vf), .second, .val (.long vl), .second] [(.ref va)])) _
    refine XS.lloadN X1.here hx rfl (hb hby d3_32) rfl ?_
    show Steps p.tables e below (T1.setTop (mkF m 33 #[.val (.ref va), .val (.long vf), .second, .val (.long vl), .second] [(.long vf), (.ref va)])) _
    refine st2 _ ?_
    show Steps p.tables e below (T2.setTop (mkF m 36 #[.val (.ref va), .val (.long vf), .second, .val (.long vl), .second] [])) _
    refine XS.aloadN X2.here hx rfl (hb hby d3_36) rfl rfl ?_
    show Steps p.tables e below (T2.setTop (mkF m 37 #[.val (.ref va), .val (.long vf), .second, .val (.long vl), .second] [(.ref va)])) _
    refine XS.lloadN X2.here hx rfl (hb hby d3_37) rfl ?_
    show Steps p.tables e below (T2.setTop (mkF m 38 #[.val (.ref va), .val (.long vf), .second, .val (.long vl), .second] [(.long vl), (.ref va)])) _
    refine st7 _ ?_
    show Steps p.tables e below (T7.setTop (mkF m 41 #[.val (.ref va), .val (.long vf), .second, .val (.long vl), .second] [])) _
    exact X7.returnOut hx Bd.returns (hb hby d3_41) hr
  · show Q3 Z va vf vl h0 n0 _ T7.heap _
    rw [e7]
    exact ⟨rfl, N7, K7, E9_va, F10_va_firstMillis, Fw7⟩
theorem d6_8 : decode prog_15_method_2_code 8 = .ok (.iload 4, 2) := by decide +kernel
theorem d6_10 : decode prog_15_method_2_code 10 = .ok (.iload_n 1, 1) := by decide +kernel
theorem d6_11 : decode prog_15_method_2_code 11 = .ok (.if_icmp .ge 44, 3) := by decide +kernel
theorem d6_14 : decode prog_15_method_2_code 14 = .ok (.lload_n 2, 1) := by decide +kernel
theorem d6_15 : decode prog_15_method_2_code 15 = .ok (.aload_n 0, 1) := by decide +kernel
theorem d6_16 : decode prog_15_method_2_code 16 = .ok (.getfield 22, 3) := by decide +kernel
theorem d6_19 : decode prog_15_method_2_code 19 = .ok (.lcmp, 1) := by decide +kernel
theorem d6_20 : decode prog_15_method_2_code 20 = .ok (.ifCond .ge 35, 3) := by decide +kernel
theorem d6_23 : decode prog_15_method_2_code 23 = .ok (.lload_n 2, 1) := by decide +kernel
theorem d6_24 : decode prog_15_method_2_code 24 = .ok (.aload_n 0, 1) := by decide +kernel
theorem d6_25 : decode prog_15_method_2_code 25 = .ok (.getfield 22, 3) := by decide +kernel
theorem d6_28 : decode prog_15_method_2_code 28 = .ok (.ldc2_w 25, 3) := by decide +kernel
theorem d6_31 : decode prog_15_method_2_code 31 = .ok (.ldiv, 1) := by decide +kernel
theorem d6_32 : decode prog_15_method_2_code 32 = .ok (.lcmp, 1) := by decide +kernel
theorem d6_33 : decode prog_15_method_2_code 33 = .ok (.ifCond .le 10, 3) := by decide +kernel
theorem d6_36 : decode prog_15_method_2_code 36 = .ok (.aload_n 0, 1) := by decide +kernel
theorem d6_37 : decode prog_15_method_2_code 37 = .ok (.getfield 22, 3) := by decide +kernel
theorem d6_40 : decode prog_15_method_2_code 40 = .ok (.goto 8, 3) := by decide +kernel
theorem d6_43 : decode prog_15_method_2_code 43 = .ok (.lload_n 2, 1) := by decide +kernel
theorem d6_44 : decode prog_15_method_2_code 44 = .ok (.ldc2_w 25, 3) := by decide +kernel
theorem d6_47 : decode prog_15_method_2_code 47 = .ok (.lmul, 1) := by decide +kernel
theorem d6_48 : decode prog_15_method_2_code 48 = .ok (.lstore_n 2, 1) := by decide +kernel
theorem d6_49 : decode prog_15_method_2_code 49 = .ok (.iinc 4 1, 3) := by decide +kernel
theorem d6_52 : decode prog_15_method_2_code 52 = .ok (.goto (-44), 3) := by decide +kernel
set_option maxRecDepth 65536 in
set_option maxHeartbeats 40000000 in
theorem loop6 {p : Program} {l : Launch} {e : Env} {R : Room} {s : State} {m : MethodId} {args : Array Value} {below : List Frame} {meth : Method} {c : Code} {locs : List Loc} {cells slots : Nat} {Z : State} {a0 : Array Value} {h0 : Heap} {va : Addr} {vn : Int32} {vl : Int64} (hx : p.tables.exec = Jvm.exec) (hZ : Z.Warmed39 s.vm) (hw : ∀ d ∈ tables_1, d.before a0 Z = true) (hby : c.code = prog_15_method_2_code) (hml : c.maxLocals = 5) (hown : s.vm.findClass "com/example/ponca/ponca/mqtt/Backoff" = some m.cls) (F_l : Fld Z h0 va "com/example/ponca/ponca/mqtt/Backoff" "lastMillis" "J" (.long vl)) :
    ∀ (k : Nat) (T0 : State) (X0 : Stand p l e R s m args below meth c T0 locs cells slots) (e0 : T0.heap = h0) (vm : Int64) (vi : Int32), vn.toInt - vi.toInt ≤ (k : Nat) → ¬ vi < 0 → ∃ (T' : State) (vi' : Int32), Stand p l e R s m args below meth c T' locs cells slots ∧ T'.heap = h0 ∧ ∀ target, Steps p.tables e below (T'.setTop (mkF m 55 #[.val (.ref va), .val (.int vn), .val (.long (own_run vl vn k vm vi)), .second, .val (.int vi')] [])) target → Steps p.tables e below (T0.setTop (mkF m 8 #[.val (.ref va), .val (.int vn), .val (.long vm), .second, .val (.int vi)] [])) target := by
  intro k
  induction k with
  | zero =>
    intro T0 X0 e0 vm vi hk h0
    refine ⟨T0, vi, X0, e0, fun target kt => ?_⟩
    show Steps p.tables e below (T0.setTop (mkF m 8 #[.val (.ref va), .val (.int vn), .val (.long vm), .second, .val (.int vi)] [])) _
    refine XS.iload X0.here hx rfl (hb hby d6_8) rfl ?_
    show Steps p.tables e below (T0.setTop (mkF m 10 #[.val (.ref va), .val (.int vn), .val (.long vm), .second, .val (.int vi)] [(.int vi)])) _
    refine XS.iloadN X0.here hx rfl (hb hby d6_10) rfl ?_
    show Steps p.tables e below (T0.setTop (mkF m 11 #[.val (.ref va), .val (.int vn), .val (.long vm), .second, .val (.int vi)] [(.int vn), (.int vi)])) _
    refine XS.icmpYes X0.here hx rfl (pc0 := 11) (pc' := 55) rfl (hb hby d6_11) rfl (flt (own_stop hk : ¬ (vi < vn))).2.1 (by decide) (by decide) ?_
    exact kt
  | succ k ih =>
    intro T0 X0 e0 vm vi hk h0
    by_cases hb1 : vi < vn
    · obtain ⟨T2, X2, e2, st2⟩ := getF X0 hx hZ hown (host := "") (Or.inl (hw _ (List.mem_of_getElem? (i := 24) rfl))) Via.refl e0 F_l (g := (mkF m 16 #[.val (.ref va), .val (.int vn), .val (.long vm), .second, .val (.int vi)] [(.ref va), (.long vm)])) rfl rfl (hb hby d6_16)
      by_cases hb3 : vm < vl
      · obtain ⟨T4, X4, e4, st4⟩ := getF X2 hx hZ hown (host := "") (Or.inl (hw _ (List.mem_of_getElem? (i := 24) rfl))) Via.refl e2 F_l (g := (mkF m 25 #[.val (.ref va), .val (.int vn), .val (.long vm), .second, .val (.int vi)] [(.ref va), (.long vm)])) rfl rfl (hb hby d6_25)
        by_cases hb5 : (vl / (2 : Int64)) < vm
        · obtain ⟨T6, X6, e6, st6⟩ := getF X4 hx hZ hown (host := "") (Or.inl (hw _ (List.mem_of_getElem? (i := 24) rfl))) Via.refl e4 F_l (g := (mkF m 37 #[.val (.ref va), .val (.int vn), .val (.long vm), .second, .val (.int vi)] [(.ref va)])) rfl rfl (hb hby d6_37)
          obtain ⟨T', vi', X', e', ih'⟩ := ih T6 X6 e6 vl (vi + (1 : Int32)) (own_next hk h0 hb1).1 (own_next hk h0 hb1).2
          refine ⟨T', vi', X', e', fun target kt => ?_⟩
          rw [own_run_s, if_pos hb1, if_pos hb3, if_pos hb5] at kt
          show Steps p.tables e below (T0.setTop (mkF m 8 #[.val (.ref va), .val (.int vn), .val (.long vm), .second, .val (.int vi)] [])) _
          refine XS.iload X0.here hx rfl (hb hby d6_8) rfl ?_
          show Steps p.tables e below (T0.setTop (mkF m 10 #[.val (.ref va), .val (.int vn), .val (.long vm), .second, .val (.int vi)] [(.int vi)])) _
          refine XS.iloadN X0.here hx rfl (hb hby d6_10) rfl ?_
          show Steps p.tables e below (T0.setTop (mkF m 11 #[.val (.ref va), .val (.int vn), .val (.long vm), .second, .val (.int vi)] [(.int vn), (.int vi)])) _
          refine XS.icmpNo X0.here hx rfl (hb hby d6_11) rfl (tlt hb1).2.1 ?_
          show Steps p.tables e below (T0.setTop (mkF m 14 #[.val (.ref va), .val (.int vn), .val (.long vm), .second, .val (.int vi)] [])) _
          refine XS.lloadN X0.here hx rfl (hb hby d6_14) rfl ?_
          show Steps p.tables e below (T0.setTop (mkF m 15 #[.val (.ref va), .val (.int vn), .val (.long vm), .second, .val (.int vi)] [(.long vm)])) _
          refine XS.aloadN X0.here hx rfl (hb hby d6_15) rfl rfl ?_
          show Steps p.tables e below (T0.setTop (mkF m 16 #[.val (.ref va), .val (.int vn), .val (.long vm), .second, .val (.int vi)] [(.ref va), (.long vm)])) _
          refine st2 _ ?_
          show Steps p.tables e below (T2.setTop (mkF m 19 #[.val (.ref va), .val (.int vn), .val (.long vm), .second, .val (.int vi)] [(.long vl), (.long vm)])) _
          refine XS.lcmp X2.here hx rfl (hb hby d6_19) rfl ?_
          show Steps p.tables e below (T2.setTop (mkF m 20 #[.val (.ref va), .val (.int vn), .val (.long vm), .second, .val (.int vi)] [(.int (lcmpW vm vl))])) _
          refine XS.ifNo X2.here hx rfl (hb hby d6_20) rfl (own_llt hb3).2 ?_
          show Steps p.tables e below (T2.setTop (mkF m 23 #[.val (.ref va), .val (.int vn), .val (.long vm), .second, .val (.int vi)] [])) _
          refine XS.lloadN X2.here hx rfl (hb hby d6_23) rfl ?_
          show Steps p.tables e below (T2.setTop (mkF m 24 #[.val (.ref va), .val (.int vn), .val (.long vm), .second, .val (.int vi)] [(.long vm)])) _
          refine XS.aloadN X2.here hx rfl (hb hby d6_24) rfl rfl ?_
          show Steps p.tables e below (T2.setTop (mkF m 25 #[.val (.ref va), .val (.int vn), .val (.long vm), .second, .val (.int vi)] [(.ref va), (.long vm)])) _
          refine st4 _ ?_
          show Steps p.tables e below (T4.setTop (mkF m 28 #[.val (.ref va), .val (.int vn), .val (.long vm), .second, .val (.int vi)] [(.long vl), (.long vm)])) _
          refine X4.ldc2Long hx hown (mvT hZ (hw _ (List.mem_of_getElem? (i := 31) rfl))) (g := (mkF m 28 #[.val (.ref va), .val (.int vn), .val (.long vm), .second, .val (.int vi)] [(.long vl), (.long vm)])) rfl (hb hby d6_28) _ ?_
          show Steps p.tables e below (T4.setTop (mkF m 31 #[.val (.ref va), .val (.int vn), .val (.long vm), .second, .val (.int vi)] [(.long (2 : Int64)), (.long vl), (.long vm)])) _
          refine XS.ldiv X4.here hx rfl (hb hby d6_31) rfl (by decide) ?_
          show Steps p.tables e below (T4.setTop (mkF m 32 #[.val (.ref va), .val (.int vn), .val (.long vm), .second, .val (.int vi)] [(.long (vl / (2 : Int64))), (.long vm)])) _
          refine XS.lcmp X4.here hx rfl (hb hby d6_32) rfl ?_
          show Steps p.tables e below (T4.setTop (mkF m 33 #[.val (.ref va), .val (.int vn), .val (.long vm), .second, .val (.int vi)] [(.int (lcmpW vm (vl / (2 : Int64))))])) _
          refine XS.ifNo X4.here hx rfl (hb hby d6_33) rfl (own_lgt hb5).2 ?_
          show Steps p.tables e below (T4.setTop (mkF m 36 #[.val (.ref va), .val (.int vn), .val (.long vm), .second, .val (.int vi)] [])) _
          refine XS.aloadN X4.here hx rfl (hb hby d6_36) rfl rfl ?_
          show Steps p.tables e below (T4.setTop (mkF m 37 #[.val (.ref va), .val (.int vn), .val (.long vm), .second, .val (.int vi)] [(.ref va)])) _
          refine st6 _ ?_
          show Steps p.tables e below (T6.setTop (mkF m 40 #[.val (.ref va), .val (.int vn), .val (.long vm), .second, .val (.int vi)] [(.long vl)])) _
          refine XS.goto X6.here hx rfl (pc0 := 40) (pc' := 48) rfl (hb hby d6_40) (by decide) (by decide) ?_
          show Steps p.tables e below (T6.setTop (mkF m 48 #[.val (.ref va), .val (.int vn), .val (.long vm), .second, .val (.int vi)] [(.long vl)])) _
          refine XS.lstoreN X6.here hx rfl (hb hby d6_48) rfl (l' := #[.val (.ref va), .val (.int vn), .val (.long vl), .second, .val (.int vi)]) rfl ?_
          show Steps p.tables e below (T6.setTop (mkF m 49 #[.val (.ref va), .val (.int vn), .val (.long vl), .second, .val (.int vi)] [])) _
          refine XS.iinc X6.here hx rfl (hb hby d6_49) rfl (l' := #[.val (.ref va), .val (.int vn), .val (.long vl), .second, .val (.int (vi + (1 : Int32)))]) rfl ?_
          show Steps p.tables e below (T6.setTop (mkF m 52 #[.val (.ref va), .val (.int vn), .val (.long vl), .second, .val (.int (vi + (1 : Int32)))] [])) _
          refine XS.goto X6.here hx rfl (pc0 := 52) (pc' := 8) rfl (hb hby d6_52) (by decide) (by decide) ?_
          exact ih' target kt
        · obtain ⟨T', vi', X', e', ih'⟩ := ih T4 X4 e4 (vm * (2 : Int64)) (vi + (1 : Int32)) (own_next hk h0 hb1).1 (own_next hk h0 hb1).2
          refine ⟨T', vi', X', e', fun target kt => ?_⟩
          rw [own_run_s, if_pos hb1, if_pos hb3, if_neg hb5] at kt
          show Steps p.tables e below (T0.setTop (mkF m 8 #[.val (.ref va), .val (.int vn), .val (.long vm), .second, .val (.int vi)] [])) _
          refine XS.iload X0.here hx rfl (hb hby d6_8) rfl ?_
          show Steps p.tables e below (T0.setTop (mkF m 10 #[.val (.ref va), .val (.int vn), .val (.long vm), .second, .val (.int vi)] [(.int vi)])) _
          refine XS.iloadN X0.here hx rfl (hb hby d6_10) rfl ?_
          show Steps p.tables e below (T0.setTop (mkF m 11 #[.val (.ref va), .val (.int vn), .val (.long vm), .second, .val (.int vi)] [(.int vn), (.int vi)])) _
          refine XS.icmpNo X0.here hx rfl (hb hby d6_11) rfl (tlt hb1).2.1 ?_
          show Steps p.tables e below (T0.setTop (mkF m 14 #[.val (.ref va), .val (.int vn), .val (.long vm), .second, .val (.int vi)] [])) _
          refine XS.lloadN X0.here hx rfl (hb hby d6_14) rfl ?_
          show Steps p.tables e below (T0.setTop (mkF m 15 #[.val (.ref va), .val (.int vn), .val (.long vm), .second, .val (.int vi)] [(.long vm)])) _
          refine XS.aloadN X0.here hx rfl (hb hby d6_15) rfl rfl ?_
          show Steps p.tables e below (T0.setTop (mkF m 16 #[.val (.ref va), .val (.int vn), .val (.long vm), .second, .val (.int vi)] [(.ref va), (.long vm)])) _
          refine st2 _ ?_
          show Steps p.tables e below (T2.setTop (mkF m 19 #[.val (.ref va), .val (.int vn), .val (.long vm), .second, .val (.int vi)] [(.long vl), (.long vm)])) _
          refine XS.lcmp X2.here hx rfl (hb hby d6_19) rfl ?_
          show Steps p.tables e below (T2.setTop (mkF m 20 #[.val (.ref va), .val (.int vn), .val (.long vm), .second, .val (.int vi)] [(.int (lcmpW vm vl))])) _
          refine XS.ifNo X2.here hx rfl (hb hby d6_20) rfl (own_llt hb3).2 ?_
          show Steps p.tables e below (T2.setTop (mkF m 23 #[.val (.ref va), .val (.int vn), .val (.long vm), .second, .val (.int vi)] [])) _
          refine XS.lloadN X2.here hx rfl (hb hby d6_23) rfl ?_
          show Steps p.tables e below (T2.setTop (mkF m 24 #[.val (.ref va), .val (.int vn), .val (.long vm), .second, .val (.int vi)] [(.long vm)])) _
          refine XS.aloadN X2.here hx rfl (hb hby d6_24) rfl rfl ?_
          show Steps p.tables e below (T2.setTop (mkF m 25 #[.val (.ref va), .val (.int vn), .val (.long vm), .second, .val (.int vi)] [(.ref va), (.long vm)])) _
          refine st4 _ ?_
          show Steps p.tables e below (T4.setTop (mkF m 28 #[.val (.ref va), .val (.int vn), .val (.long vm), .second, .val (.int vi)] [(.long vl), (.long vm)])) _
          refine X4.ldc2Long hx hown (mvT hZ (hw _ (List.mem_of_getElem? (i := 31) rfl))) (g := (mkF m 28 #[.val (.ref va), .val (.int vn), .val (.long vm), .second, .val (.int vi)] [(.long vl), (.long vm)])) rfl (hb hby d6_28) _ ?_
          show Steps p.tables e below (T4.setTop (mkF m 31 #[.val (.ref va), .val (.int vn), .val (.long vm), .second, .val (.int vi)] [(.long (2 : Int64)), (.long vl), (.long vm)])) _
          refine XS.ldiv X4.here hx rfl (hb hby d6_31) rfl (by decide) ?_
          show Steps p.tables e below (T4.setTop (mkF m 32 #[.val (.ref va), .val (.int vn), .val (.long vm), .second, .val (.int vi)] [(.long (vl / (2 : Int64))), (.long vm)])) _
          refine XS.lcmp X4.here hx rfl (hb hby d6_32) rfl ?_
          show Steps p.tables e below (T4.setTop (mkF m 33 #[.val (.ref va), .val (.int vn), .val (.long vm), .second, .val (.int vi)] [(.int (lcmpW vm (vl / (2 : Int64))))])) _
          refine XS.ifYes X4.here hx rfl (pc0 := 33) (pc' := 43) rfl (hb hby d6_33) rfl (own_lle hb5).2 (by decide) (by decide) ?_
          show Steps p.tables e below (T4.setTop (mkF m 43 #[.val (.ref va), .val (.int vn), .val (.long vm), .second, .val (.int vi)] [])) _
          refine XS.lloadN X4.here hx rfl (hb hby d6_43) rfl ?_
          show Steps p.tables e below (T4.setTop (mkF m 44 #[.val (.ref va), .val (.int vn), .val (.long vm), .second, .val (.int vi)] [(.long vm)])) _
          refine X4.ldc2Long hx hown (mvT hZ (hw _ (List.mem_of_getElem? (i := 31) rfl))) (g := (mkF m 44 #[.val (.ref va), .val (.int vn), .val (.long vm), .second, .val (.int vi)] [(.long vm)])) rfl (hb hby d6_44) _ ?_
          show Steps p.tables e below (T4.setTop (mkF m 47 #[.val (.ref va), .val (.int vn), .val (.long vm), .second, .val (.int vi)] [(.long (2 : Int64)), (.long vm)])) _
          refine XS.lmul X4.here hx rfl (hb hby d6_47) rfl ?_
          show Steps p.tables e below (T4.setTop (mkF m 48 #[.val (.ref va), .val (.int vn), .val (.long vm), .second, .val (.int vi)] [(.long (vm * (2 : Int64)))])) _
          refine XS.lstoreN X4.here hx rfl (hb hby d6_48) rfl (l' := #[.val (.ref va), .val (.int vn), .val (.long (vm * (2 : Int64))), .second, .val (.int vi)]) rfl ?_
          show Steps p.tables e below (T4.setTop (mkF m 49 #[.val (.ref va), .val (.int vn), .val (.long (vm * (2 : Int64))), .second, .val (.int vi)] [])) _
          refine XS.iinc X4.here hx rfl (hb hby d6_49) rfl (l' := #[.val (.ref va), .val (.int vn), .val (.long (vm * (2 : Int64))), .second, .val (.int (vi + (1 : Int32)))]) rfl ?_
          show Steps p.tables e below (T4.setTop (mkF m 52 #[.val (.ref va), .val (.int vn), .val (.long (vm * (2 : Int64))), .second, .val (.int (vi + (1 : Int32)))] [])) _
          refine XS.goto X4.here hx rfl (pc0 := 52) (pc' := 8) rfl (hb hby d6_52) (by decide) (by decide) ?_
          exact ih' target kt
      · refine ⟨T2, vi, X2, e2, fun target kt => ?_⟩
        rw [own_run_s, if_pos hb1, if_neg hb3] at kt
        show Steps p.tables e below (T0.setTop (mkF m 8 #[.val (.ref va), .val (.int vn), .val (.long vm), .second, .val (.int vi)] [])) _
        refine XS.iload X0.here hx rfl (hb hby d6_8) rfl ?_
        show Steps p.tables e below (T0.setTop (mkF m 10 #[.val (.ref va), .val (.int vn), .val (.long vm), .second, .val (.int vi)] [(.int vi)])) _
        refine XS.iloadN X0.here hx rfl (hb hby d6_10) rfl ?_
        show Steps p.tables e below (T0.setTop (mkF m 11 #[.val (.ref va), .val (.int vn), .val (.long vm), .second, .val (.int vi)] [(.int vn), (.int vi)])) _
        refine XS.icmpNo X0.here hx rfl (hb hby d6_11) rfl (tlt hb1).2.1 ?_
        show Steps p.tables e below (T0.setTop (mkF m 14 #[.val (.ref va), .val (.int vn), .val (.long vm), .second, .val (.int vi)] [])) _
        refine XS.lloadN X0.here hx rfl (hb hby d6_14) rfl ?_
        show Steps p.tables e below (T0.setTop (mkF m 15 #[.val (.ref va), .val (.int vn), .val (.long vm), .second, .val (.int vi)] [(.long vm)])) _
        refine XS.aloadN X0.here hx rfl (hb hby d6_15) rfl rfl ?_
        show Steps p.tables e below (T0.setTop (mkF m 16 #[.val (.ref va), .val (.int vn), .val (.long vm), .second, .val (.int vi)] [(.ref va), (.long vm)])) _
        refine st2 _ ?_
        show Steps p.tables e below (T2.setTop (mkF m 19 #[.val (.ref va), .val (.int vn), .val (.long vm), .second, .val (.int vi)] [(.long vl), (.long vm)])) _
        refine XS.lcmp X2.here hx rfl (hb hby d6_19) rfl ?_
        show Steps p.tables e below (T2.setTop (mkF m 20 #[.val (.ref va), .val (.int vn), .val (.long vm), .second, .val (.int vi)] [(.int (lcmpW vm vl))])) _
        refine XS.ifYes X2.here hx rfl (pc0 := 20) (pc' := 55) rfl (hb hby d6_20) rfl (own_lge hb3).2 (by decide) (by decide) ?_
        exact kt
    · refine ⟨T0, vi, X0, e0, fun target kt => ?_⟩
      rw [own_run_s, if_neg hb1] at kt
      show Steps p.tables e below (T0.setTop (mkF m 8 #[.val (.ref va), .val (.int vn), .val (.long vm), .second, .val (.int vi)] [])) _
      refine XS.iload X0.here hx rfl (hb hby d6_8) rfl ?_
      show Steps p.tables e below (T0.setTop (mkF m 10 #[.val (.ref va), .val (.int vn), .val (.long vm), .second, .val (.int vi)] [(.int vi)])) _
      refine XS.iloadN X0.here hx rfl (hb hby d6_10) rfl ?_
      show Steps p.tables e below (T0.setTop (mkF m 11 #[.val (.ref va), .val (.int vn), .val (.long vm), .second, .val (.int vi)] [(.int vn), (.int vi)])) _
      refine XS.icmpYes X0.here hx rfl (pc0 := 11) (pc' := 55) rfl (hb hby d6_11) rfl (flt hb1).2.1 (by decide) (by decide) ?_
      exact kt
theorem d6_0 : decode prog_15_method_2_code 0 = .ok (.aload_n 0, 1) := by decide +kernel
theorem d6_1 : decode prog_15_method_2_code 1 = .ok (.getfield 16, 3) := by decide +kernel
theorem d6_4 : decode prog_15_method_2_code 4 = .ok (.lstore_n 2, 1) := by decide +kernel
theorem d6_5 : decode prog_15_method_2_code 5 = .ok (.iconst 0, 1) := by decide +kernel
theorem d6_6 : decode prog_15_method_2_code 6 = .ok (.istore 4, 2) := by decide +kernel
theorem d6_55 : decode prog_15_method_2_code 55 = .ok (.lload_n 2, 1) := by decide +kernel
theorem d6_56 : decode prog_15_method_2_code 56 = .ok (.lreturn, 1) := by decide +kernel
theorem pn_6 : plainName "com/example/ponca/ponca/mqtt/Backoff" = true := by first | (simp [plainName, overriddenIn]; done) | decide +kernel
theorem ef_6 (m : MethodId) (va : Addr) (vn : Int32) : entryFrame m #[(.ref va), (.int vn)] 5 = mkF m 0 #[.val (.ref va), .val (.int vn), .unset, .unset, .unset] [] := by first | (simp [entryFrame, mkF, argsToLocals, Value.category]; done) | rfl
def Q6 (Z : State) (va : Addr) (vn : Int32) (vf : Int64) (vl : Int64) (h0 : Heap) (n0 : Nat) (v : Option Value) (h : Heap) (L : List Loc) : Prop := v = some (.long (own_run vl vn (vn.toNatClampNeg) vf 0)) ∧ Fr n0 L ∧ h = h0
set_option maxRecDepth 65536 in
set_option maxHeartbeats 40000000 in
theorem rm6 (l : Launch) (Z : State) (a0 : Array Value) (hw : ∀ d ∈ tables_1, d.before a0 Z = true) (ws : List Jvm.Cond) (va : Addr) (vn : Int32) (vf : Int64) (vl : Int64) (h0 : Heap) (n0 : Nat) (Z0 : n0 ≤ h0.size) (F_va_firstMillis : Fld Z h0 va "com/example/ponca/ponca/mqtt/Backoff" "firstMillis" "J" (.long vf)) (F_va_lastMillis : Fld Z h0 va "com/example/ponca/ponca/mqtt/Backoff" "lastMillis" "J" (.long vl)) :
    MetFree l (⟨"com/example/ponca/ponca/mqtt/Backoff", "delayMillis", "(I)J"⟩ : MethodName) (head1 (Jvm.Cond.code (⟨"com/example/ponca/ponca/mqtt/Backoff", "delayMillis", "(I)J"⟩ : MethodName) prog_15_method_2_code 5 (some .long) :: ws) ({ frames := 0, cells := 0, slots := 0, locals := 0 } : Room)) (fun a U => a = #[(.ref va), (.int vn)] ∧ Z.Warmed39 U.vm ∧ U.heap = h0) (fun _ _ _ _ _ => True) (fun _ U o U' => ∃ v L, o = .returned v ∧ Q6 Z va vn vf vl h0 n0 v U'.heap L ∧ FrameEnd U o U' L ({ frames := 0, cells := 0, slots := 0, locals := 0 } : Room).cells ({ frames := 0, cells := 0, slots := 0, locals := 0 } : Room).slots) := by
  refine MetFree.of_bodySF (plainFor_of_name pn_6) hisR ?_
  intro p e s m args below meth c s₁ Bd hml0 hP hK
  obtain ⟨rfl, hZ, hh⟩ := hP
  have hx := Bd.exec
  have hby := Bd.bytes
  have hml : c.maxLocals = 5 := hml0
  have hown : s.vm.findClass "com/example/ponca/ponca/mqtt/Backoff" = some m.cls := findClass_of_methodNamed Bd.named
  have hnm := (name_of_methodNamed Bd.named Bd.method).1
  have X0 : Stand p l e ({ frames := 0, cells := 0, slots := 0, locals := 0 } : Room) s m #[(.ref va), (.int vn)] below meth c s₁ [] 0 0 := Stand.of_body Bd
  have e0 : s₁.heap = h0 := by rw [← hh, Bd.state]; rfl
  have N0 := Fr.nil n0
  have pre0 : ∀ t, Steps p.tables e below (s₁.setTop (mkF m 0 #[.val (.ref va), .val (.int vn), .unset, .unset, .unset] [])) t → Steps p.tables e below (s₁.setTop (entryFrame m #[(.ref va), (.int vn)] 5)) t := fun t k => castTop (ef_6 m va vn) k
  obtain ⟨T1, X1, e1, st1⟩ := getF X0 hx hZ hown (host := "") (Or.inl (hw _ (List.mem_of_getElem? (i := 22) rfl))) Via.refl e0 F_va_firstMillis (g := (mkF m 1 #[.val (.ref va), .val (.int vn), .unset, .unset, .unset] [(.ref va)])) rfl rfl (hb hby d6_1)
  obtain ⟨T2, vi2, X2, e2, lp2⟩ := loop6 hx hZ hw hby hml hown F_va_lastMillis (vn.toNatClampNeg) T1 X1 e1 vf 0 (own_fuel vn) (by decide)
  obtain ⟨fs, hr, hrun, hended, hW, hsame⟩ := X2.leave (v := some (.long (own_run vl vn (vn.toNatClampNeg) vf 0))) (fun h => by rw [Bd.returns] at h; cases h)
  refine ⟨_, _, pre0 _ ?_, hrun, hended, _, _, rfl, ?_, ⟨_, rfl⟩, hW, hsame.mono (by decide) (by decide)⟩
  · show Steps p.tables e below (s₁.setTop (mkF m 0 #[.val (.ref va), .val (.int vn), .unset, .unset, .unset] [])) _
    refine XS.aloadN X0.here hx rfl (hb hby d6_0) rfl rfl ?_
    show Steps p.tables e below (s₁.setTop (mkF m 1 #[.val (.ref va), .val (.int vn), .unset, .unset, .unset] [(.ref va)])) _
    refine st1 _ ?_
    show Steps p.tables e below (T1.setTop (mkF m 4 #[.val (.ref va), .val (.int vn), .unset, .unset, .unset] [(.long vf)])) _
    refine XS.lstoreN X1.here hx rfl (hb hby d6_4) rfl (l' := #[.val (.ref va), .val (.int vn), .val (.long vf), .second, .unset]) rfl ?_
    show Steps p.tables e below (T1.setTop (mkF m 5 #[.val (.ref va), .val (.int vn), .val (.long vf), .second, .unset] [])) _
    refine XS.iconst X1.here hx rfl (hb hby d6_5) ?_
    show Steps p.tables e below (T1.setTop (mkF m 6 #[.val (.ref va), .val (.int vn), .val (.long vf), .second, .unset] [(.int (0 : Int32))])) _
    refine XS.istore X1.here hx rfl (hb hby d6_6) rfl (l' := #[.val (.ref va), .val (.int vn), .val (.long vf), .second, .val (.int (0 : Int32))]) rfl ?_
    show Steps p.tables e below (T1.setTop (mkF m 8 #[.val (.ref va), .val (.int vn), .val (.long vf), .second, .val (.int (0 : Int32))] [])) _
    refine lp2 _ ?_
    show Steps p.tables e below (T2.setTop (mkF m 55 #[.val (.ref va), .val (.int vn), .val (.long (own_run vl vn (vn.toNatClampNeg) vf 0)), .second, .val (.int vi2)] [])) _
    refine XS.lloadN X2.here hx rfl (hb hby d6_55) rfl ?_
    show Steps p.tables e below (T2.setTop (mkF m 56 #[.val (.ref va), .val (.int vn), .val (.long (own_run vl vn (vn.toNatClampNeg) vf 0)), .second, .val (.int vi2)] [(.long (own_run vl vn (vn.toNatClampNeg) vf 0))])) _
    exact X2.lreturnOut hx Bd.returns (hb hby d6_56) hr
  · show Q6 Z va vn vf vl h0 n0 _ T2.heap _
    rw [e2]
    exact ⟨rfl, N0, rfl⟩
theorem d7_0 : decode method_3_code 0 = .ok (.iload 4, 2) := by decide +kernel
theorem d7_2 : decode method_3_code 2 = .ok (.ifCond .gt 5, 3) := by decide +kernel
theorem d7_5 : decode method_3_code 5 = .ok (.lload_n 0, 1) := by decide +kernel
theorem d7_6 : decode method_3_code 6 = .ok (.lreturn, 1) := by decide +kernel
theorem d7_7 : decode method_3_code 7 = .ok (.iload 4, 2) := by decide +kernel
theorem d7_9 : decode method_3_code 9 = .ok (.bipush 63, 2) := by decide +kernel
theorem d7_11 : decode method_3_code 11 = .ok (.if_icmp .lt 5, 3) := by decide +kernel
theorem d7_14 : decode method_3_code 14 = .ok (.lload_n 2, 1) := by decide +kernel
theorem d7_15 : decode method_3_code 15 = .ok (.lreturn, 1) := by decide +kernel
theorem d7_16 : decode method_3_code 16 = .ok (.lload_n 0, 1) := by decide +kernel
theorem d7_17 : decode method_3_code 17 = .ok (.lload_n 2, 1) := by decide +kernel
theorem d7_18 : decode method_3_code 18 = .ok (.iload 4, 2) := by decide +kernel
theorem d7_20 : decode method_3_code 20 = .ok (.lshr, 1) := by decide +kernel
theorem d7_21 : decode method_3_code 21 = .ok (.lcmp, 1) := by decide +kernel
theorem d7_22 : decode method_3_code 22 = .ok (.ifCond .gt 8, 3) := by decide +kernel
theorem d7_25 : decode method_3_code 25 = .ok (.lload_n 0, 1) := by decide +kernel
theorem d7_26 : decode method_3_code 26 = .ok (.iload 4, 2) := by decide +kernel
theorem d7_28 : decode method_3_code 28 = .ok (.lshl, 1) := by decide +kernel
theorem d7_29 : decode method_3_code 29 = .ok (.lreturn, 1) := by decide +kernel
theorem d7_30 : decode method_3_code 30 = .ok (.lload_n 2, 1) := by decide +kernel
theorem d7_31 : decode method_3_code 31 = .ok (.lreturn, 1) := by decide +kernel
theorem pn_7 : plainName "com/example/ponca/ponca/mqtt/BackoffDelayMillisPinLaw" = true := by first | (simp [plainName, overriddenIn]; done) | decide +kernel
theorem ef_7 (m : MethodId) (vf : Int64) (vl : Int64) (vn : Int32) : entryFrame m #[(.long vf), (.long vl), (.int vn)] 5 = mkF m 0 #[.val (.long vf), .second, .val (.long vl), .second, .val (.int vn)] [] := by first | (simp [entryFrame, mkF, argsToLocals, Value.category]; done) | rfl
def F7 (vf : Int64) (vl : Int64) (vn : Int32) : Int64 := (if (0 : Int32) < vn then (if vn < (63 : Int32) then (if (vl >>> (vn &&& 0x3f).toInt64) < vf then vl else (vf <<< (vn &&& 0x3f).toInt64)) else vl) else vf)
def Q7 (Z : State) (vf : Int64) (vl : Int64) (vn : Int32) (h0 : Heap) (n0 : Nat) (v : Option Value) (h : Heap) (L : List Loc) : Prop := v = some (.long (F7 vf vl vn)) ∧ Fr n0 L ∧ h = h0
set_option maxRecDepth 65536 in
set_option maxHeartbeats 40000000 in
theorem rm7 (l : Launch) (Z : State) (a0 : Array Value) (hw : ∀ d ∈ tables_1, d.before a0 Z = true) (ws : List Jvm.Cond) (vf : Int64) (vl : Int64) (vn : Int32) (h0 : Heap) (n0 : Nat) (Z0 : n0 ≤ h0.size)  :
    MetFree l (⟨"com/example/ponca/ponca/mqtt/BackoffDelayMillisPinLaw", "expected", "(JJI)J"⟩ : MethodName) (head1 (Jvm.Cond.code (⟨"com/example/ponca/ponca/mqtt/BackoffDelayMillisPinLaw", "expected", "(JJI)J"⟩ : MethodName) method_3_code 5 (some .long) :: ws) ({ frames := 0, cells := 0, slots := 0, locals := 0 } : Room)) (fun a U => a = #[(.long vf), (.long vl), (.int vn)] ∧ Z.Warmed39 U.vm ∧ U.heap = h0) (fun _ _ _ _ _ => True) (fun _ U o U' => ∃ v L, o = .returned v ∧ Q7 Z vf vl vn h0 n0 v U'.heap L ∧ FrameEnd U o U' L ({ frames := 0, cells := 0, slots := 0, locals := 0 } : Room).cells ({ frames := 0, cells := 0, slots := 0, locals := 0 } : Room).slots) := by
  refine MetFree.of_bodySF (plainFor_of_name pn_7) hisR ?_
  intro p e s m args below meth c s₁ Bd hml0 hP hK
  obtain ⟨rfl, hZ, hh⟩ := hP
  have hx := Bd.exec
  have hby := Bd.bytes
  have hml : c.maxLocals = 5 := hml0
  have hown : s.vm.findClass "com/example/ponca/ponca/mqtt/BackoffDelayMillisPinLaw" = some m.cls := findClass_of_methodNamed Bd.named
  have hnm := (name_of_methodNamed Bd.named Bd.method).1
  have X0 : Stand p l e ({ frames := 0, cells := 0, slots := 0, locals := 0 } : Room) s m #[(.long vf), (.long vl), (.int vn)] below meth c s₁ [] 0 0 := Stand.of_body Bd
  have e0 : s₁.heap = h0 := by rw [← hh, Bd.state]; rfl
  have N0 := Fr.nil n0
  have pre0 : ∀ t, Steps p.tables e below (s₁.setTop (mkF m 0 #[.val (.long vf), .second, .val (.long vl), .second, .val (.int vn)] [])) t → Steps p.tables e below (s₁.setTop (entryFrame m #[(.long vf), (.long vl), (.int vn)] 5)) t := fun t k => castTop (ef_7 m vf vl vn) k
  by_cases hb1 : (0 : Int32) < vn
  · by_cases hb2 : vn < (63 : Int32)
    · by_cases hb3 : (vl >>> (vn &&& 0x3f).toInt64) < vf
      · obtain ⟨fs, hr, hrun, hended, hW, hsame⟩ := X0.leave (v := some (.long vl)) (fun h => by rw [Bd.returns] at h; cases h)
        refine ⟨_, _, pre0 _ ?_, hrun, hended, _, _, rfl, ?_, ⟨_, rfl⟩, hW, hsame.mono (by decide) (by decide)⟩
        · show Steps p.tables e below (s₁.setTop (mkF m 0 #[.val (.long vf), .second, .val (.long vl), .second, .val (.int vn)] [])) _
          refine XS.iload X0.here hx rfl (hb hby d7_0) rfl ?_
          show Steps p.tables e below (s₁.setTop (mkF m 2 #[.val (.long vf), .second, .val (.long vl), .second, .val (.int vn)] [(.int vn)])) _
          refine XS.ifYes X0.here hx rfl (pc0 := 2) (pc' := 7) rfl (hb hby d7_2) rfl ((if0 _ _).trans (tlt hb1).2.2.1) (by decide) (by decide) ?_
          show Steps p.tables e below (s₁.setTop (mkF m 7 #[.val (.long vf), .second, .val (.long vl), .second, .val (.int vn)] [])) _
          refine XS.iload X0.here hx rfl (hb hby d7_7) rfl ?_
          show Steps p.tables e below (s₁.setTop (mkF m 9 #[.val (.long vf), .second, .val (.long vl), .second, .val (.int vn)] [(.int vn)])) _
          refine XS.bipush X0.here hx rfl (hb hby d7_9) ?_
          show Steps p.tables e below (s₁.setTop (mkF m 11 #[.val (.long vf), .second, .val (.long vl), .second, .val (.int vn)] [(.int (63 : Int32)), (.int vn)])) _
          refine XS.icmpYes X0.here hx rfl (pc0 := 11) (pc' := 16) rfl (hb hby d7_11) rfl (tlt hb2).1 (by decide) (by decide) ?_
          show Steps p.tables e below (s₁.setTop (mkF m 16 #[.val (.long vf), .second, .val (.long vl), .second, .val (.int vn)] [])) _
          refine XS.lloadN X0.here hx rfl (hb hby d7_16) rfl ?_
          show Steps p.tables e below (s₁.setTop (mkF m 17 #[.val (.long vf), .second, .val (.long vl), .second, .val (.int vn)] [(.long vf)])) _
          refine XS.lloadN X0.here hx rfl (hb hby d7_17) rfl ?_
          show Steps p.tables e below (s₁.setTop (mkF m 18 #[.val (.long vf), .second, .val (.long vl), .second, .val (.int vn)] [(.long vl), (.long vf)])) _
          refine XS.iload X0.here hx rfl (hb hby d7_18) rfl ?_
          show Steps p.tables e below (s₁.setTop (mkF m 20 #[.val (.long vf), .second, .val (.long vl), .second, .val (.int vn)] [(.int vn), (.long vl), (.long vf)])) _
          refine XS.lshr X0.here hx rfl (hb hby d7_20) rfl ?_
          show Steps p.tables e below (s₁.setTop (mkF m 21 #[.val (.long vf), .second, .val (.long vl), .second, .val (.int vn)] [(.long (vl >>> (vn &&& 0x3f).toInt64)), (.long vf)])) _
          refine XS.lcmp X0.here hx rfl (hb hby d7_21) rfl ?_
          show Steps p.tables e below (s₁.setTop (mkF m 22 #[.val (.long vf), .second, .val (.long vl), .second, .val (.int vn)] [(.int (lcmpW vf (vl >>> (vn &&& 0x3f).toInt64)))])) _
          refine XS.ifYes X0.here hx rfl (pc0 := 22) (pc' := 30) rfl (hb hby d7_22) rfl (own_lgt hb3).1 (by decide) (by decide) ?_
          show Steps p.tables e below (s₁.setTop (mkF m 30 #[.val (.long vf), .second, .val (.long vl), .second, .val (.int vn)] [])) _
          refine XS.lloadN X0.here hx rfl (hb hby d7_30) rfl ?_
          show Steps p.tables e below (s₁.setTop (mkF m 31 #[.val (.long vf), .second, .val (.long vl), .second, .val (.int vn)] [(.long vl)])) _
          exact X0.lreturnOut hx Bd.returns (hb hby d7_31) hr
        · show Q7 Z vf vl vn h0 n0 _ s₁.heap _
          rw [e0]
          exact ⟨(congrArg (fun z => some (Value.long z)) (Eq.symm (Eq.trans (if_pos hb1) (Eq.trans (if_pos hb2) (if_pos hb3))))), N0, rfl⟩
      · obtain ⟨fs, hr, hrun, hended, hW, hsame⟩ := X0.leave (v := some (.long (vf <<< (vn &&& 0x3f).toInt64))) (fun h => by rw [Bd.returns] at h; cases h)
        refine ⟨_, _, pre0 _ ?_, hrun, hended, _, _, rfl, ?_, ⟨_, rfl⟩, hW, hsame.mono (by decide) (by decide)⟩
        · show Steps p.tables e below (s₁.setTop (mkF m 0 #[.val (.long vf), .second, .val (.long vl), .second, .val (.int vn)] [])) _
          refine XS.iload X0.here hx rfl (hb hby d7_0) rfl ?_
          show Steps p.tables e below (s₁.setTop (mkF m 2 #[.val (.long vf), .second, .val (.long vl), .second, .val (.int vn)] [(.int vn)])) _
          refine XS.ifYes X0.here hx rfl (pc0 := 2) (pc' := 7) rfl (hb hby d7_2) rfl ((if0 _ _).trans (tlt hb1).2.2.1) (by decide) (by decide) ?_
          show Steps p.tables e below (s₁.setTop (mkF m 7 #[.val (.long vf), .second, .val (.long vl), .second, .val (.int vn)] [])) _
          refine XS.iload X0.here hx rfl (hb hby d7_7) rfl ?_
          show Steps p.tables e below (s₁.setTop (mkF m 9 #[.val (.long vf), .second, .val (.long vl), .second, .val (.int vn)] [(.int vn)])) _
          refine XS.bipush X0.here hx rfl (hb hby d7_9) ?_
          show Steps p.tables e below (s₁.setTop (mkF m 11 #[.val (.long vf), .second, .val (.long vl), .second, .val (.int vn)] [(.int (63 : Int32)), (.int vn)])) _
          refine XS.icmpYes X0.here hx rfl (pc0 := 11) (pc' := 16) rfl (hb hby d7_11) rfl (tlt hb2).1 (by decide) (by decide) ?_
          show Steps p.tables e below (s₁.setTop (mkF m 16 #[.val (.long vf), .second, .val (.long vl), .second, .val (.int vn)] [])) _
          refine XS.lloadN X0.here hx rfl (hb hby d7_16) rfl ?_
          show Steps p.tables e below (s₁.setTop (mkF m 17 #[.val (.long vf), .second, .val (.long vl), .second, .val (.int vn)] [(.long vf)])) _
          refine XS.lloadN X0.here hx rfl (hb hby d7_17) rfl ?_
          show Steps p.tables e below (s₁.setTop (mkF m 18 #[.val (.long vf), .second, .val (.long vl), .second, .val (.int vn)] [(.long vl), (.long vf)])) _
          refine XS.iload X0.here hx rfl (hb hby d7_18) rfl ?_
          show Steps p.tables e below (s₁.setTop (mkF m 20 #[.val (.long vf), .second, .val (.long vl), .second, .val (.int vn)] [(.int vn), (.long vl), (.long vf)])) _
          refine XS.lshr X0.here hx rfl (hb hby d7_20) rfl ?_
          show Steps p.tables e below (s₁.setTop (mkF m 21 #[.val (.long vf), .second, .val (.long vl), .second, .val (.int vn)] [(.long (vl >>> (vn &&& 0x3f).toInt64)), (.long vf)])) _
          refine XS.lcmp X0.here hx rfl (hb hby d7_21) rfl ?_
          show Steps p.tables e below (s₁.setTop (mkF m 22 #[.val (.long vf), .second, .val (.long vl), .second, .val (.int vn)] [(.int (lcmpW vf (vl >>> (vn &&& 0x3f).toInt64)))])) _
          refine XS.ifNo X0.here hx rfl (hb hby d7_22) rfl (own_lle hb3).1 ?_
          show Steps p.tables e below (s₁.setTop (mkF m 25 #[.val (.long vf), .second, .val (.long vl), .second, .val (.int vn)] [])) _
          refine XS.lloadN X0.here hx rfl (hb hby d7_25) rfl ?_
          show Steps p.tables e below (s₁.setTop (mkF m 26 #[.val (.long vf), .second, .val (.long vl), .second, .val (.int vn)] [(.long vf)])) _
          refine XS.iload X0.here hx rfl (hb hby d7_26) rfl ?_
          show Steps p.tables e below (s₁.setTop (mkF m 28 #[.val (.long vf), .second, .val (.long vl), .second, .val (.int vn)] [(.int vn), (.long vf)])) _
          refine XS.lshl X0.here hx rfl (hb hby d7_28) rfl ?_
          show Steps p.tables e below (s₁.setTop (mkF m 29 #[.val (.long vf), .second, .val (.long vl), .second, .val (.int vn)] [(.long (vf <<< (vn &&& 0x3f).toInt64))])) _
          exact X0.lreturnOut hx Bd.returns (hb hby d7_29) hr
        · show Q7 Z vf vl vn h0 n0 _ s₁.heap _
          rw [e0]
          exact ⟨(congrArg (fun z => some (Value.long z)) (Eq.symm (Eq.trans (if_pos hb1) (Eq.trans (if_pos hb2) (if_neg hb3))))), N0, rfl⟩
    · obtain ⟨fs, hr, hrun, hended, hW, hsame⟩ := X0.leave (v := some (.long vl)) (fun h => by rw [Bd.returns] at h; cases h)
      refine ⟨_, _, pre0 _ ?_, hrun, hended, _, _, rfl, ?_, ⟨_, rfl⟩, hW, hsame.mono (by decide) (by decide)⟩
      · show Steps p.tables e below (s₁.setTop (mkF m 0 #[.val (.long vf), .second, .val (.long vl), .second, .val (.int vn)] [])) _
        refine XS.iload X0.here hx rfl (hb hby d7_0) rfl ?_
        show Steps p.tables e below (s₁.setTop (mkF m 2 #[.val (.long vf), .second, .val (.long vl), .second, .val (.int vn)] [(.int vn)])) _
        refine XS.ifYes X0.here hx rfl (pc0 := 2) (pc' := 7) rfl (hb hby d7_2) rfl ((if0 _ _).trans (tlt hb1).2.2.1) (by decide) (by decide) ?_
        show Steps p.tables e below (s₁.setTop (mkF m 7 #[.val (.long vf), .second, .val (.long vl), .second, .val (.int vn)] [])) _
        refine XS.iload X0.here hx rfl (hb hby d7_7) rfl ?_
        show Steps p.tables e below (s₁.setTop (mkF m 9 #[.val (.long vf), .second, .val (.long vl), .second, .val (.int vn)] [(.int vn)])) _
        refine XS.bipush X0.here hx rfl (hb hby d7_9) ?_
        show Steps p.tables e below (s₁.setTop (mkF m 11 #[.val (.long vf), .second, .val (.long vl), .second, .val (.int vn)] [(.int (63 : Int32)), (.int vn)])) _
        refine XS.icmpNo X0.here hx rfl (hb hby d7_11) rfl (flt hb2).1 ?_
        show Steps p.tables e below (s₁.setTop (mkF m 14 #[.val (.long vf), .second, .val (.long vl), .second, .val (.int vn)] [])) _
        refine XS.lloadN X0.here hx rfl (hb hby d7_14) rfl ?_
        show Steps p.tables e below (s₁.setTop (mkF m 15 #[.val (.long vf), .second, .val (.long vl), .second, .val (.int vn)] [(.long vl)])) _
        exact X0.lreturnOut hx Bd.returns (hb hby d7_15) hr
      · show Q7 Z vf vl vn h0 n0 _ s₁.heap _
        rw [e0]
        exact ⟨(congrArg (fun z => some (Value.long z)) (Eq.symm (Eq.trans (if_pos hb1) (if_neg hb2)))), N0, rfl⟩
  · obtain ⟨fs, hr, hrun, hended, hW, hsame⟩ := X0.leave (v := some (.long vf)) (fun h => by rw [Bd.returns] at h; cases h)
    refine ⟨_, _, pre0 _ ?_, hrun, hended, _, _, rfl, ?_, ⟨_, rfl⟩, hW, hsame.mono (by decide) (by decide)⟩
    · show Steps p.tables e below (s₁.setTop (mkF m 0 #[.val (.long vf), .second, .val (.long vl), .second, .val (.int vn)] [])) _
      refine XS.iload X0.here hx rfl (hb hby d7_0) rfl ?_
      show Steps p.tables e below (s₁.setTop (mkF m 2 #[.val (.long vf), .second, .val (.long vl), .second, .val (.int vn)] [(.int vn)])) _
      refine XS.ifNo X0.here hx rfl (hb hby d7_2) rfl ((if0 _ _).trans (flt hb1).2.2.1) ?_
      show Steps p.tables e below (s₁.setTop (mkF m 5 #[.val (.long vf), .second, .val (.long vl), .second, .val (.int vn)] [])) _
      refine XS.lloadN X0.here hx rfl (hb hby d7_5) rfl ?_
      show Steps p.tables e below (s₁.setTop (mkF m 6 #[.val (.long vf), .second, .val (.long vl), .second, .val (.int vn)] [(.long vf)])) _
      exact X0.lreturnOut hx Bd.returns (hb hby d7_6) hr
    · show Q7 Z vf vl vn h0 n0 _ s₁.heap _
      rw [e0]
      exact ⟨(congrArg (fun z => some (Value.long z)) (Eq.symm (if_neg hb1))), N0, rfl⟩

theorem own_max1 (va vb : Int64) : ¬ F2 va vb < va := by
  unfold F2
  by_cases h : va < vb
  · rw [if_pos h]; rw [Int64.lt_iff_toInt_lt] at h ⊢; omega
  · rw [if_neg h, Int64.lt_iff_toInt_lt]; omega

theorem pd_1 : parseMethodDescriptor "(JJ)J" = some ⟨[.long, .long], some .long⟩ := by decide +kernel
theorem pd_2 : parseMethodDescriptor "(JJ)V" = some ⟨[.long, .long], none⟩ := by decide +kernel
theorem pd_3 : parseMethodDescriptor "(I)J" = some ⟨[.int], some .long⟩ := by decide +kernel
theorem pd_4 : parseMethodDescriptor "(JJI)J" = some ⟨[.long, .long, .int], some .long⟩ := by decide +kernel
theorem pn_0 : plainName "com/example/ponca/ponca/mqtt/BackoffDelayMillisPinLaw" = true := by first | (simp [plainName, overriddenIn]; done) | decide +kernel
theorem ef_0 (m : MethodId) (x1 : Int64) (x2 : Int64) (x3 : Int32) (x4 : Int32) : entryFrame m #[(.long x1), (.long x2), (.int x3), (.int x4)] maxLocals = mkF m 0 #[.val (.long x1), .second, .val (.long x2), .second, .val (.int x3), .val (.int x4), .unset, .unset, .unset, .unset, .unset, .unset, .unset, .unset, .unset, .unset, .unset] [] := by first | (simp [entryFrame, mkF, argsToLocals, Value.category, maxLocals]; done) | rfl
def F0 (x1 : Int64) (x2 : Int64) (x3 : Int32) (x4 : Int32) : Int32 := (if (own_run ((F2 (F2 (1 : Int64) (F1 (((x1 &&& (9223372036854775807 : Int64)).toUInt64 >>> ((x3 &&& (63 : Int32)) &&& 0x3f).toInt64.toUInt64).toInt64) (((x2 &&& (9223372036854775807 : Int64)).toUInt64 >>> ((((x3.toUInt32 >>> ((6 : Int32) &&& 31).toUInt32).toInt32) &&& (63 : Int32)) &&& 0x3f).toInt64.toUInt64).toInt64))) (F2 (((x1 &&& (9223372036854775807 : Int64)).toUInt64 >>> ((x3 &&& (63 : Int32)) &&& 0x3f).toInt64.toUInt64).toInt64) (((x2 &&& (9223372036854775807 : Int64)).toUInt64 >>> ((((x3.toUInt32 >>> ((6 : Int32) &&& 31).toUInt32).toInt32) &&& (63 : Int32)) &&& 0x3f).toInt64.toUInt64).toInt64)))) x4 (x4.toNatClampNeg) ((F2 (1 : Int64) (F1 (((x1 &&& (9223372036854775807 : Int64)).toUInt64 >>> ((x3 &&& (63 : Int32)) &&& 0x3f).toInt64.toUInt64).toInt64) (((x2 &&& (9223372036854775807 : Int64)).toUInt64 >>> ((((x3.toUInt32 >>> ((6 : Int32) &&& 31).toUInt32).toInt32) &&& (63 : Int32)) &&& 0x3f).toInt64.toUInt64).toInt64)))) 0) = (F7 (F2 (1 : Int64) (F1 (((x1 &&& (9223372036854775807 : Int64)).toUInt64 >>> ((x3 &&& (63 : Int32)) &&& 0x3f).toInt64.toUInt64).toInt64) (((x2 &&& (9223372036854775807 : Int64)).toUInt64 >>> ((((x3.toUInt32 >>> ((6 : Int32) &&& 31).toUInt32).toInt32) &&& (63 : Int32)) &&& 0x3f).toInt64.toUInt64).toInt64))) (F2 (F2 (1 : Int64) (F1 (((x1 &&& (9223372036854775807 : Int64)).toUInt64 >>> ((x3 &&& (63 : Int32)) &&& 0x3f).toInt64.toUInt64).toInt64) (((x2 &&& (9223372036854775807 : Int64)).toUInt64 >>> ((((x3.toUInt32 >>> ((6 : Int32) &&& 31).toUInt32).toInt32) &&& (63 : Int32)) &&& 0x3f).toInt64.toUInt64).toInt64))) (F2 (((x1 &&& (9223372036854775807 : Int64)).toUInt64 >>> ((x3 &&& (63 : Int32)) &&& 0x3f).toInt64.toUInt64).toInt64) (((x2 &&& (9223372036854775807 : Int64)).toUInt64 >>> ((((x3.toUInt32 >>> ((6 : Int32) &&& 31).toUInt32).toInt32) &&& (63 : Int32)) &&& 0x3f).toInt64.toUInt64).toInt64))) x4) then (1 : Int32) else (0 : Int32))
def Q0 (Z : State) (x1 : Int64) (x2 : Int64) (x3 : Int32) (x4 : Int32) (h0 : Heap) (n0 : Nat) (v : Option Value) (h : Heap) (L : List Loc) : Prop := v = some (.int (F0 x1 x2 x3 x4)) ∧ Fr n0 L
set_option maxRecDepth 65536 in
set_option maxHeartbeats 40000000 in
theorem rm0 (l : Launch) (Z : State) (a0 : Array Value) (hw : ∀ d ∈ tables_1, d.before a0 Z = true) (ws : List Jvm.Cond) (x1 : Int64) (x2 : Int64) (x3 : Int32) (x4 : Int32) (h0 : Heap) (n0 : Nat) (Z0 : n0 ≤ h0.size)  :
    MetFree l x (head1 (Jvm.Cond.code x code maxLocals ret :: ws) room_1) (fun a U => a = #[(.long x1), (.long x2), (.int x3), (.int x4)] ∧ Z.Warmed39 U.vm ∧ U.heap = h0) (fun _ _ _ _ _ => True) (fun _ U o U' => ∃ v L, o = .returned v ∧ Q0 Z x1 x2 x3 x4 h0 n0 v U'.heap L ∧ FrameEnd U o U' L room_1.cells room_1.slots) := by
  refine MetFree.of_bodySF (plainFor_of_name pn_0) hisR ?_
  intro p e s m args below meth c s₁ Bd hml0 hP hK
  obtain ⟨rfl, hZ, hh⟩ := hP
  have hx := Bd.exec
  have hby := Bd.bytes
  have hml : c.maxLocals = 17 := hml0
  have hown : s.vm.findClass "com/example/ponca/ponca/mqtt/BackoffDelayMillisPinLaw" = some m.cls := findClass_of_methodNamed Bd.named
  have hnm := (name_of_methodNamed Bd.named Bd.method).1
  have X0 : Stand p l e room_1 s m #[(.long x1), (.long x2), (.int x3), (.int x4)] below meth c s₁ [] 0 0 := Stand.of_body Bd
  have e0 : s₁.heap = h0 := by rw [← hh, Bd.state]; rfl
  have N0 := Fr.nil n0
  have pre0 : ∀ t, Steps p.tables e below (s₁.setTop (mkF m 0 #[.val (.long x1), .second, .val (.long x2), .second, .val (.int x3), .val (.int x4), .unset, .unset, .unset, .unset, .unset, .unset, .unset, .unset, .unset, .unset, .unset] [])) t → Steps p.tables e below (s₁.setTop (entryFrame m #[(.long x1), (.long x2), (.int x3), (.int x4)] maxLocals)) t := fun t k => castTop (ef_0 m x1 x2 x3 x4) k
  obtain ⟨_, _, ⟨T1, L1, k1, n1⟩, -, X1, ⟨Lc1, hQ1, l1, y1, z1⟩, st1⟩ := Jvm.LawKit.callS X0 hx (y := (⟨"java/lang/Math", "min", "(JJ)J"⟩ : MethodName)) hown (mvT hZ (hw _ (List.mem_of_getElem? (i := 1) rfl))) (mvT hZ (hw _ (List.mem_of_getElem? (i := 2) rfl))) (mvT hZ (hw _ (List.mem_of_getElem? (i := 3) rfl))) (mvT hZ (hw _ (List.mem_of_getElem? (i := 4) rfl))) (by decide) (backOf (W := 2) (rm1 l Z a0 hw [] (((x1 &&& (9223372036854775807 : Int64)).toUInt64 >>> ((x3 &&& (63 : Int32)) &&& 0x3f).toInt64.toUInt64).toInt64) (((x2 &&& (9223372036854775807 : Int64)).toUInt64 >>> ((((x3.toUInt32 >>> ((6 : Int32) &&& 31).toUInt32).toInt32) &&& (63 : Int32)) &&& 0x3f).toInt64.toUInt64).toInt64)  h0 n0 Z0 ) hZ (hw _ (List.mem_of_getElem? (i := 4) rfl)) (hw _ (List.mem_of_getElem? (i := 3) rfl)) (by decide) (by decide)) (g := (mkF m 34 #[.val (.long x1), .second, .val (.long x2), .second, .val (.int x3), .val (.int x4), .val (.long (((x1 &&& (9223372036854775807 : Int64)).toUInt64 >>> ((x3 &&& (63 : Int32)) &&& 0x3f).toInt64.toUInt64).toInt64)), .second, .val (.long (((x2 &&& (9223372036854775807 : Int64)).toUInt64 >>> ((((x3.toUInt32 >>> ((6 : Int32) &&& 31).toUInt32).toInt32) &&& (63 : Int32)) &&& 0x3f).toInt64.toUInt64).toInt64)), .second, .unset, .unset, .unset, .unset, .unset, .unset, .unset] [(.long (((x2 &&& (9223372036854775807 : Int64)).toUInt64 >>> ((((x3.toUInt32 >>> ((6 : Int32) &&& 31).toUInt32).toInt32) &&& (63 : Int32)) &&& 0x3f).toInt64.toUInt64).toInt64)), (.long (((x1 &&& (9223372036854775807 : Int64)).toUInt64 >>> ((x3 &&& (63 : Int32)) &&& 0x3f).toInt64.toUInt64).toInt64)), (.long (1 : Int64))])) rfl (by rw [hml]; rfl) (argsL := [(.long (((x1 &&& (9223372036854775807 : Int64)).toUInt64 >>> ((x3 &&& (63 : Int32)) &&& 0x3f).toInt64.toUInt64).toInt64)), (.long (((x2 &&& (9223372036854775807 : Int64)).toUInt64 >>> ((((x3.toUInt32 >>> ((6 : Int32) &&& 31).toUInt32).toInt32) &&& (63 : Int32)) &&& 0x3f).toInt64.toUInt64).toInt64))]) (rest := [(.long (1 : Int64))]) (lenOf pd_1 rfl) rfl (by show 2 * 0 + _ ≤ _; exact Nat.le_of_eq rfl) (hb hby at_34) (fun _ _ => ⟨rfl, e0, (by decide : 0 + 0 ≤ _), (by decide : 0 + 0 ≤ _)⟩)
  dsimp only [Pt.U, Pt.locs, Pt.cells, Pt.slots] at X1 l1 y1 z1 st1 hQ1
  subst l1 y1 z1
  obtain ⟨rfl, N1q, e1⟩ := hQ1
  have N1 := Fr.app N0 N1q
  obtain ⟨_, _, ⟨T2, L2, k2, n2⟩, -, X2, ⟨Lc2, hQ2, l2, y2, z2⟩, st2⟩ := Jvm.LawKit.callS X1 hx (y := (⟨"java/lang/Math", "max", "(JJ)J"⟩ : MethodName)) hown (mvT hZ (hw _ (List.mem_of_getElem? (i := 5) rfl))) (mvT hZ (hw _ (List.mem_of_getElem? (i := 6) rfl))) (mvT hZ (hw _ (List.mem_of_getElem? (i := 3) rfl))) (mvT hZ (hw _ (List.mem_of_getElem? (i := 7) rfl))) (by decide) (backOf (W := 0) (rm2 l Z a0 hw [] (1 : Int64) (F1 (((x1 &&& (9223372036854775807 : Int64)).toUInt64 >>> ((x3 &&& (63 : Int32)) &&& 0x3f).toInt64.toUInt64).toInt64) (((x2 &&& (9223372036854775807 : Int64)).toUInt64 >>> ((((x3.toUInt32 >>> ((6 : Int32) &&& 31).toUInt32).toInt32) &&& (63 : Int32)) &&& 0x3f).toInt64.toUInt64).toInt64))  h0 n0 Z0 ) hZ (hw _ (List.mem_of_getElem? (i := 7) rfl)) (hw _ (List.mem_of_getElem? (i := 3) rfl)) (by decide) (by decide)) (g := (mkF m 37 #[.val (.long x1), .second, .val (.long x2), .second, .val (.int x3), .val (.int x4), .val (.long (((x1 &&& (9223372036854775807 : Int64)).toUInt64 >>> ((x3 &&& (63 : Int32)) &&& 0x3f).toInt64.toUInt64).toInt64)), .second, .val (.long (((x2 &&& (9223372036854775807 : Int64)).toUInt64 >>> ((((x3.toUInt32 >>> ((6 : Int32) &&& 31).toUInt32).toInt32) &&& (63 : Int32)) &&& 0x3f).toInt64.toUInt64).toInt64)), .second, .unset, .unset, .unset, .unset, .unset, .unset, .unset] [(.long (F1 (((x1 &&& (9223372036854775807 : Int64)).toUInt64 >>> ((x3 &&& (63 : Int32)) &&& 0x3f).toInt64.toUInt64).toInt64) (((x2 &&& (9223372036854775807 : Int64)).toUInt64 >>> ((((x3.toUInt32 >>> ((6 : Int32) &&& 31).toUInt32).toInt32) &&& (63 : Int32)) &&& 0x3f).toInt64.toUInt64).toInt64))), (.long (1 : Int64))])) rfl (by rw [hml]; rfl) (argsL := [(.long (1 : Int64)), (.long (F1 (((x1 &&& (9223372036854775807 : Int64)).toUInt64 >>> ((x3 &&& (63 : Int32)) &&& 0x3f).toInt64.toUInt64).toInt64) (((x2 &&& (9223372036854775807 : Int64)).toUInt64 >>> ((((x3.toUInt32 >>> ((6 : Int32) &&& 31).toUInt32).toInt32) &&& (63 : Int32)) &&& 0x3f).toInt64.toUInt64).toInt64)))]) (rest := []) (lenOf pd_1 rfl) rfl (by show 2 * 0 + _ ≤ _; exact Nat.le_of_eq rfl) (hb hby at_37) (fun _ _ => ⟨rfl, e1, (by decide : 0 + 0 ≤ _), (by decide : 0 + 0 ≤ _)⟩)
  dsimp only [Pt.U, Pt.locs, Pt.cells, Pt.slots] at X2 l2 y2 z2 st2 hQ2
  subst l2 y2 z2
  obtain ⟨rfl, N2q, e2⟩ := hQ2
  have N2 := Fr.app N1 N2q
  obtain ⟨_, _, ⟨T3, L3, k3, n3⟩, -, X3, ⟨Lc3, hQ3, l3, y3, z3⟩, st3⟩ := Jvm.LawKit.callS X2 hx (y := (⟨"java/lang/Math", "max", "(JJ)J"⟩ : MethodName)) hown (mvT hZ (hw _ (List.mem_of_getElem? (i := 5) rfl))) (mvT hZ (hw _ (List.mem_of_getElem? (i := 6) rfl))) (mvT hZ (hw _ (List.mem_of_getElem? (i := 3) rfl))) (mvT hZ (hw _ (List.mem_of_getElem? (i := 7) rfl))) (by decide) (backOf (W := 2) (rm2 l Z a0 hw [] (((x1 &&& (9223372036854775807 : Int64)).toUInt64 >>> ((x3 &&& (63 : Int32)) &&& 0x3f).toInt64.toUInt64).toInt64) (((x2 &&& (9223372036854775807 : Int64)).toUInt64 >>> ((((x3.toUInt32 >>> ((6 : Int32) &&& 31).toUInt32).toInt32) &&& (63 : Int32)) &&& 0x3f).toInt64.toUInt64).toInt64)  h0 n0 Z0 ) hZ (hw _ (List.mem_of_getElem? (i := 7) rfl)) (hw _ (List.mem_of_getElem? (i := 3) rfl)) (by decide) (by decide)) (g := (mkF m 48 #[.val (.long x1), .second, .val (.long x2), .second, .val (.int x3), .val (.int x4), .val (.long (((x1 &&& (9223372036854775807 : Int64)).toUInt64 >>> ((x3 &&& (63 : Int32)) &&& 0x3f).toInt64.toUInt64).toInt64)), .second, .val (.long (((x2 &&& (9223372036854775807 : Int64)).toUInt64 >>> ((((x3.toUInt32 >>> ((6 : Int32) &&& 31).toUInt32).toInt32) &&& (63 : Int32)) &&& 0x3f).toInt64.toUInt64).toInt64)), .second, .val (.long (F2 (1 : Int64) (F1 (((x1 &&& (9223372036854775807 : Int64)).toUInt64 >>> ((x3 &&& (63 : Int32)) &&& 0x3f).toInt64.toUInt64).toInt64) (((x2 &&& (9223372036854775807 : Int64)).toUInt64 >>> ((((x3.toUInt32 >>> ((6 : Int32) &&& 31).toUInt32).toInt32) &&& (63 : Int32)) &&& 0x3f).toInt64.toUInt64).toInt64)))), .second, .unset, .unset, .unset, .unset, .unset] [(.long (((x2 &&& (9223372036854775807 : Int64)).toUInt64 >>> ((((x3.toUInt32 >>> ((6 : Int32) &&& 31).toUInt32).toInt32) &&& (63 : Int32)) &&& 0x3f).toInt64.toUInt64).toInt64)), (.long (((x1 &&& (9223372036854775807 : Int64)).toUInt64 >>> ((x3 &&& (63 : Int32)) &&& 0x3f).toInt64.toUInt64).toInt64)), (.long (F2 (1 : Int64) (F1 (((x1 &&& (9223372036854775807 : Int64)).toUInt64 >>> ((x3 &&& (63 : Int32)) &&& 0x3f).toInt64.toUInt64).toInt64) (((x2 &&& (9223372036854775807 : Int64)).toUInt64 >>> ((((x3.toUInt32 >>> ((6 : Int32) &&& 31).toUInt32).toInt32) &&& (63 : Int32)) &&& 0x3f).toInt64.toUInt64).toInt64))))])) rfl (by rw [hml]; rfl) (argsL := [(.long (((x1 &&& (9223372036854775807 : Int64)).toUInt64 >>> ((x3 &&& (63 : Int32)) &&& 0x3f).toInt64.toUInt64).toInt64)), (.long (((x2 &&& (9223372036854775807 : Int64)).toUInt64 >>> ((((x3.toUInt32 >>> ((6 : Int32) &&& 31).toUInt32).toInt32) &&& (63 : Int32)) &&& 0x3f).toInt64.toUInt64).toInt64))]) (rest := [(.long (F2 (1 : Int64) (F1 (((x1 &&& (9223372036854775807 : Int64)).toUInt64 >>> ((x3 &&& (63 : Int32)) &&& 0x3f).toInt64.toUInt64).toInt64) (((x2 &&& (9223372036854775807 : Int64)).toUInt64 >>> ((((x3.toUInt32 >>> ((6 : Int32) &&& 31).toUInt32).toInt32) &&& (63 : Int32)) &&& 0x3f).toInt64.toUInt64).toInt64))))]) (lenOf pd_1 rfl) rfl (by show 2 * 0 + _ ≤ _; exact Nat.le_of_eq rfl) (hb hby at_48) (fun _ _ => ⟨rfl, e2, (by decide : 0 + 0 ≤ _), (by decide : 0 + 0 ≤ _)⟩)
  dsimp only [Pt.U, Pt.locs, Pt.cells, Pt.slots] at X3 l3 y3 z3 st3 hQ3
  subst l3 y3 z3
  obtain ⟨rfl, N3q, e3⟩ := hQ3
  have N3 := Fr.app N2 N3q
  obtain ⟨_, _, ⟨T4, L4, k4, n4⟩, -, X4, ⟨Lc4, hQ4, l4, y4, z4⟩, st4⟩ := Jvm.LawKit.callS X3 hx (y := (⟨"java/lang/Math", "max", "(JJ)J"⟩ : MethodName)) hown (mvT hZ (hw _ (List.mem_of_getElem? (i := 5) rfl))) (mvT hZ (hw _ (List.mem_of_getElem? (i := 6) rfl))) (mvT hZ (hw _ (List.mem_of_getElem? (i := 3) rfl))) (mvT hZ (hw _ (List.mem_of_getElem? (i := 7) rfl))) (by decide) (backOf (W := 0) (rm2 l Z a0 hw [] (F2 (1 : Int64) (F1 (((x1 &&& (9223372036854775807 : Int64)).toUInt64 >>> ((x3 &&& (63 : Int32)) &&& 0x3f).toInt64.toUInt64).toInt64) (((x2 &&& (9223372036854775807 : Int64)).toUInt64 >>> ((((x3.toUInt32 >>> ((6 : Int32) &&& 31).toUInt32).toInt32) &&& (63 : Int32)) &&& 0x3f).toInt64.toUInt64).toInt64))) (F2 (((x1 &&& (9223372036854775807 : Int64)).toUInt64 >>> ((x3 &&& (63 : Int32)) &&& 0x3f).toInt64.toUInt64).toInt64) (((x2 &&& (9223372036854775807 : Int64)).toUInt64 >>> ((((x3.toUInt32 >>> ((6 : Int32) &&& 31).toUInt32).toInt32) &&& (63 : Int32)) &&& 0x3f).toInt64.toUInt64).toInt64))  h0 n0 Z0 ) hZ (hw _ (List.mem_of_getElem? (i := 7) rfl)) (hw _ (List.mem_of_getElem? (i := 3) rfl)) (by decide) (by decide)) (g := (mkF m 51 #[.val (.long x1), .second, .val (.long x2), .second, .val (.int x3), .val (.int x4), .val (.long (((x1 &&& (9223372036854775807 : Int64)).toUInt64 >>> ((x3 &&& (63 : Int32)) &&& 0x3f).toInt64.toUInt64).toInt64)), .second, .val (.long (((x2 &&& (9223372036854775807 : Int64)).toUInt64 >>> ((((x3.toUInt32 >>> ((6 : Int32) &&& 31).toUInt32).toInt32) &&& (63 : Int32)) &&& 0x3f).toInt64.toUInt64).toInt64)), .second, .val (.long (F2 (1 : Int64) (F1 (((x1 &&& (9223372036854775807 : Int64)).toUInt64 >>> ((x3 &&& (63 : Int32)) &&& 0x3f).toInt64.toUInt64).toInt64) (((x2 &&& (9223372036854775807 : Int64)).toUInt64 >>> ((((x3.toUInt32 >>> ((6 : Int32) &&& 31).toUInt32).toInt32) &&& (63 : Int32)) &&& 0x3f).toInt64.toUInt64).toInt64)))), .second, .unset, .unset, .unset, .unset, .unset] [(.long (F2 (((x1 &&& (9223372036854775807 : Int64)).toUInt64 >>> ((x3 &&& (63 : Int32)) &&& 0x3f).toInt64.toUInt64).toInt64) (((x2 &&& (9223372036854775807 : Int64)).toUInt64 >>> ((((x3.toUInt32 >>> ((6 : Int32) &&& 31).toUInt32).toInt32) &&& (63 : Int32)) &&& 0x3f).toInt64.toUInt64).toInt64))), (.long (F2 (1 : Int64) (F1 (((x1 &&& (9223372036854775807 : Int64)).toUInt64 >>> ((x3 &&& (63 : Int32)) &&& 0x3f).toInt64.toUInt64).toInt64) (((x2 &&& (9223372036854775807 : Int64)).toUInt64 >>> ((((x3.toUInt32 >>> ((6 : Int32) &&& 31).toUInt32).toInt32) &&& (63 : Int32)) &&& 0x3f).toInt64.toUInt64).toInt64))))])) rfl (by rw [hml]; rfl) (argsL := [(.long (F2 (1 : Int64) (F1 (((x1 &&& (9223372036854775807 : Int64)).toUInt64 >>> ((x3 &&& (63 : Int32)) &&& 0x3f).toInt64.toUInt64).toInt64) (((x2 &&& (9223372036854775807 : Int64)).toUInt64 >>> ((((x3.toUInt32 >>> ((6 : Int32) &&& 31).toUInt32).toInt32) &&& (63 : Int32)) &&& 0x3f).toInt64.toUInt64).toInt64)))), (.long (F2 (((x1 &&& (9223372036854775807 : Int64)).toUInt64 >>> ((x3 &&& (63 : Int32)) &&& 0x3f).toInt64.toUInt64).toInt64) (((x2 &&& (9223372036854775807 : Int64)).toUInt64 >>> ((((x3.toUInt32 >>> ((6 : Int32) &&& 31).toUInt32).toInt32) &&& (63 : Int32)) &&& 0x3f).toInt64.toUInt64).toInt64)))]) (rest := []) (lenOf pd_1 rfl) rfl (by show 2 * 0 + _ ≤ _; exact Nat.le_of_eq rfl) (hb hby at_51) (fun _ _ => ⟨rfl, e3, (by decide : 0 + 0 ≤ _), (by decide : 0 + 0 ≤ _)⟩)
  dsimp only [Pt.U, Pt.locs, Pt.cells, Pt.slots] at X4 l4 y4 z4 st4 hQ4
  subst l4 y4 z4
  obtain ⟨rfl, N4q, e4⟩ := hQ4
  have N4 := Fr.app N3 N4q
  obtain ⟨T5, h5, X5, e5, E5, A5, D5, -, st5⟩ := newO X4 hx hZ hown (hw _ (List.mem_of_getElem? (i := 8) rfl)) (hw _ (List.mem_of_getElem? (i := 9) rfl)) (hw _ (List.mem_of_getElem? (i := 10) rfl)) e4 (g := (mkF m 56 #[.val (.long x1), .second, .val (.long x2), .second, .val (.int x3), .val (.int x4), .val (.long (((x1 &&& (9223372036854775807 : Int64)).toUInt64 >>> ((x3 &&& (63 : Int32)) &&& 0x3f).toInt64.toUInt64).toInt64)), .second, .val (.long (((x2 &&& (9223372036854775807 : Int64)).toUInt64 >>> ((((x3.toUInt32 >>> ((6 : Int32) &&& 31).toUInt32).toInt32) &&& (63 : Int32)) &&& 0x3f).toInt64.toUInt64).toInt64)), .second, .val (.long (F2 (1 : Int64) (F1 (((x1 &&& (9223372036854775807 : Int64)).toUInt64 >>> ((x3 &&& (63 : Int32)) &&& 0x3f).toInt64.toUInt64).toInt64) (((x2 &&& (9223372036854775807 : Int64)).toUInt64 >>> ((((x3.toUInt32 >>> ((6 : Int32) &&& 31).toUInt32).toInt32) &&& (63 : Int32)) &&& 0x3f).toInt64.toUInt64).toInt64)))), .second, .val (.long (F2 (F2 (1 : Int64) (F1 (((x1 &&& (9223372036854775807 : Int64)).toUInt64 >>> ((x3 &&& (63 : Int32)) &&& 0x3f).toInt64.toUInt64).toInt64) (((x2 &&& (9223372036854775807 : Int64)).toUInt64 >>> ((((x3.toUInt32 >>> ((6 : Int32) &&& 31).toUInt32).toInt32) &&& (63 : Int32)) &&& 0x3f).toInt64.toUInt64).toInt64))) (F2 (((x1 &&& (9223372036854775807 : Int64)).toUInt64 >>> ((x3 &&& (63 : Int32)) &&& 0x3f).toInt64.toUInt64).toInt64) (((x2 &&& (9223372036854775807 : Int64)).toUInt64 >>> ((((x3.toUInt32 >>> ((6 : Int32) &&& 31).toUInt32).toInt32) &&& (63 : Int32)) &&& 0x3f).toInt64.toUInt64).toInt64)))), .second, .unset, .unset, .unset] [])) rfl (hb hby at_56) (by decide) (by decide)
  obtain ⟨b5, g5⟩ : ∃ z, z = h0.size := ⟨_, rfl⟩
  rw [← g5] at A5 D5 st5
  have g_b5 : n0 ≤ b5 := Nat.le_trans Z0 (Nat.le_of_eq g5.symm)
  have Z6 : n0 ≤ h5.size := Nat.le_trans Z0 E5.1
  have F5_firstMillis : Fld Z h5 b5 "com/example/ponca/ponca/mqtt/Backoff" "firstMillis" "J" (.long (0 : Int64)) := D5 (Or.inr (hw _ (List.mem_of_getElem? (i := 23) rfl))) (ty := .long) (by decide)
  have F5_lastMillis : Fld Z h5 b5 "com/example/ponca/ponca/mqtt/Backoff" "lastMillis" "J" (.long (0 : Int64)) := D5 (Or.inr (hw _ (List.mem_of_getElem? (i := 25) rfl))) (ty := .long) (by decide)
  obtain ⟨_, _, ⟨T7, L7, k7, n7⟩, -, X7, ⟨Lc7, hQ7, l7, y7, z7⟩, st7⟩ := X5.specialBack hx (y := (⟨"com/example/ponca/ponca/mqtt/Backoff", "<init>", "(JJ)V"⟩ : MethodName)) rfl hown (mvT hZ (hw _ (List.mem_of_getElem? (i := 11) rfl))) (mvT hZ (hw _ (List.mem_of_getElem? (i := 12) rfl))) (mvT hZ (hw _ (List.mem_of_getElem? (i := 13) rfl))) (by decide) (backOf (W := 1) (rm3 l Z a0 hw [] b5 (F2 (1 : Int64) (F1 (((x1 &&& (9223372036854775807 : Int64)).toUInt64 >>> ((x3 &&& (63 : Int32)) &&& 0x3f).toInt64.toUInt64).toInt64) (((x2 &&& (9223372036854775807 : Int64)).toUInt64 >>> ((((x3.toUInt32 >>> ((6 : Int32) &&& 31).toUInt32).toInt32) &&& (63 : Int32)) &&& 0x3f).toInt64.toUInt64).toInt64))) (F2 (F2 (1 : Int64) (F1 (((x1 &&& (9223372036854775807 : Int64)).toUInt64 >>> ((x3 &&& (63 : Int32)) &&& 0x3f).toInt64.toUInt64).toInt64) (((x2 &&& (9223372036854775807 : Int64)).toUInt64 >>> ((((x3.toUInt32 >>> ((6 : Int32) &&& 31).toUInt32).toInt32) &&& (63 : Int32)) &&& 0x3f).toInt64.toUInt64).toInt64))) (F2 (((x1 &&& (9223372036854775807 : Int64)).toUInt64 >>> ((x3 &&& (63 : Int32)) &&& 0x3f).toInt64.toUInt64).toInt64) (((x2 &&& (9223372036854775807 : Int64)).toUInt64 >>> ((((x3.toUInt32 >>> ((6 : Int32) &&& 31).toUInt32).toInt32) &&& (63 : Int32)) &&& 0x3f).toInt64.toUInt64).toInt64)))  h5 n0 Z6 A5 g_b5 F5_firstMillis F5_lastMillis (own_max1 _ _) (own_max1 _ _)) hZ (hw _ (List.mem_of_getElem? (i := 13) rfl)) (hw _ (List.mem_of_getElem? (i := 10) rfl)) (by decide) (by decide)) (g := (mkF m 64 #[.val (.long x1), .second, .val (.long x2), .second, .val (.int x3), .val (.int x4), .val (.long (((x1 &&& (9223372036854775807 : Int64)).toUInt64 >>> ((x3 &&& (63 : Int32)) &&& 0x3f).toInt64.toUInt64).toInt64)), .second, .val (.long (((x2 &&& (9223372036854775807 : Int64)).toUInt64 >>> ((((x3.toUInt32 >>> ((6 : Int32) &&& 31).toUInt32).toInt32) &&& (63 : Int32)) &&& 0x3f).toInt64.toUInt64).toInt64)), .second, .val (.long (F2 (1 : Int64) (F1 (((x1 &&& (9223372036854775807 : Int64)).toUInt64 >>> ((x3 &&& (63 : Int32)) &&& 0x3f).toInt64.toUInt64).toInt64) (((x2 &&& (9223372036854775807 : Int64)).toUInt64 >>> ((((x3.toUInt32 >>> ((6 : Int32) &&& 31).toUInt32).toInt32) &&& (63 : Int32)) &&& 0x3f).toInt64.toUInt64).toInt64)))), .second, .val (.long (F2 (F2 (1 : Int64) (F1 (((x1 &&& (9223372036854775807 : Int64)).toUInt64 >>> ((x3 &&& (63 : Int32)) &&& 0x3f).toInt64.toUInt64).toInt64) (((x2 &&& (9223372036854775807 : Int64)).toUInt64 >>> ((((x3.toUInt32 >>> ((6 : Int32) &&& 31).toUInt32).toInt32) &&& (63 : Int32)) &&& 0x3f).toInt64.toUInt64).toInt64))) (F2 (((x1 &&& (9223372036854775807 : Int64)).toUInt64 >>> ((x3 &&& (63 : Int32)) &&& 0x3f).toInt64.toUInt64).toInt64) (((x2 &&& (9223372036854775807 : Int64)).toUInt64 >>> ((((x3.toUInt32 >>> ((6 : Int32) &&& 31).toUInt32).toInt32) &&& (63 : Int32)) &&& 0x3f).toInt64.toUInt64).toInt64)))), .second, .unset, .unset, .unset] [(.long (F2 (F2 (1 : Int64) (F1 (((x1 &&& (9223372036854775807 : Int64)).toUInt64 >>> ((x3 &&& (63 : Int32)) &&& 0x3f).toInt64.toUInt64).toInt64) (((x2 &&& (9223372036854775807 : Int64)).toUInt64 >>> ((((x3.toUInt32 >>> ((6 : Int32) &&& 31).toUInt32).toInt32) &&& (63 : Int32)) &&& 0x3f).toInt64.toUInt64).toInt64))) (F2 (((x1 &&& (9223372036854775807 : Int64)).toUInt64 >>> ((x3 &&& (63 : Int32)) &&& 0x3f).toInt64.toUInt64).toInt64) (((x2 &&& (9223372036854775807 : Int64)).toUInt64 >>> ((((x3.toUInt32 >>> ((6 : Int32) &&& 31).toUInt32).toInt32) &&& (63 : Int32)) &&& 0x3f).toInt64.toUInt64).toInt64)))), (.long (F2 (1 : Int64) (F1 (((x1 &&& (9223372036854775807 : Int64)).toUInt64 >>> ((x3 &&& (63 : Int32)) &&& 0x3f).toInt64.toUInt64).toInt64) (((x2 &&& (9223372036854775807 : Int64)).toUInt64 >>> ((((x3.toUInt32 >>> ((6 : Int32) &&& 31).toUInt32).toInt32) &&& (63 : Int32)) &&& 0x3f).toInt64.toUInt64).toInt64)))), (.ref b5), (.ref b5)])) rfl (by rw [hml]; rfl) (Steps.refl _) (a := b5) (argsL := [(.long (F2 (1 : Int64) (F1 (((x1 &&& (9223372036854775807 : Int64)).toUInt64 >>> ((x3 &&& (63 : Int32)) &&& 0x3f).toInt64.toUInt64).toInt64) (((x2 &&& (9223372036854775807 : Int64)).toUInt64 >>> ((((x3.toUInt32 >>> ((6 : Int32) &&& 31).toUInt32).toInt32) &&& (63 : Int32)) &&& 0x3f).toInt64.toUInt64).toInt64)))), (.long (F2 (F2 (1 : Int64) (F1 (((x1 &&& (9223372036854775807 : Int64)).toUInt64 >>> ((x3 &&& (63 : Int32)) &&& 0x3f).toInt64.toUInt64).toInt64) (((x2 &&& (9223372036854775807 : Int64)).toUInt64 >>> ((((x3.toUInt32 >>> ((6 : Int32) &&& 31).toUInt32).toInt32) &&& (63 : Int32)) &&& 0x3f).toInt64.toUInt64).toInt64))) (F2 (((x1 &&& (9223372036854775807 : Int64)).toUInt64 >>> ((x3 &&& (63 : Int32)) &&& 0x3f).toInt64.toUInt64).toInt64) (((x2 &&& (9223372036854775807 : Int64)).toUInt64 >>> ((((x3.toUInt32 >>> ((6 : Int32) &&& 31).toUInt32).toInt32) &&& (63 : Int32)) &&& 0x3f).toInt64.toUInt64).toInt64))))]) (rest := [(.ref b5)]) (lenOf pd_2 rfl) rfl (by show 2 * 0 + _ ≤ _; exact Nat.le_of_eq rfl) (hb hby at_64) (fun _ _ => ⟨rfl, e5, (by decide : 1 + 0 ≤ _), (by decide : 2 + 0 ≤ _)⟩)
  dsimp only [Pt.U, Pt.locs, Pt.cells, Pt.slots] at X7 l7 y7 z7 st7 hQ7
  subst l7 y7 z7
  obtain ⟨rfl, N7q, Q7_0, Q7_1, Q7_2, Q7_3⟩ := hQ7
  have Z8 : n0 ≤ T7.heap.size := Nat.le_trans Z6 Q7_0.1
  have E9_b5 := A5.keep Q7_0
  have N7 := Fr.app N4 N7q
  obtain ⟨cq12, kq12, q12a, q12b, q12c⟩ := isOf hZ rfl Q7_1
  obtain ⟨_, _, ⟨T12, L12, k12, n12⟩, -, X12, ⟨Lc12, hQ12, l12, y12, z12⟩, st12⟩ := X7.virtualBack hx (y := (⟨"com/example/ponca/ponca/mqtt/Backoff", "delayMillis", "(I)J"⟩ : MethodName)) (z := (⟨"com/example/ponca/ponca/mqtt/Backoff", "delayMillis", "(I)J"⟩ : MethodName)) hown (mvT hZ (hw _ (List.mem_of_getElem? (i := 26) rfl))) (mvT hZ (hw _ (List.mem_of_getElem? (i := 27) rfl))) (notFace_of_selects (args := #[]) (mvT hZ (hw _ (List.mem_of_getElem? (i := 29) rfl)))) (mvT hZ (hw _ (List.mem_of_getElem? (i := 29) rfl))) (mvT hZ (hw _ (List.mem_of_getElem? (i := 28) rfl))) (by decide) (backOf (W := 0) (rm6 l Z a0 hw [] b5 x4 ((F2 (1 : Int64) (F1 (((x1 &&& (9223372036854775807 : Int64)).toUInt64 >>> ((x3 &&& (63 : Int32)) &&& 0x3f).toInt64.toUInt64).toInt64) (((x2 &&& (9223372036854775807 : Int64)).toUInt64 >>> ((((x3.toUInt32 >>> ((6 : Int32) &&& 31).toUInt32).toInt32) &&& (63 : Int32)) &&& 0x3f).toInt64.toUInt64).toInt64)))) ((F2 (F2 (1 : Int64) (F1 (((x1 &&& (9223372036854775807 : Int64)).toUInt64 >>> ((x3 &&& (63 : Int32)) &&& 0x3f).toInt64.toUInt64).toInt64) (((x2 &&& (9223372036854775807 : Int64)).toUInt64 >>> ((((x3.toUInt32 >>> ((6 : Int32) &&& 31).toUInt32).toInt32) &&& (63 : Int32)) &&& 0x3f).toInt64.toUInt64).toInt64))) (F2 (((x1 &&& (9223372036854775807 : Int64)).toUInt64 >>> ((x3 &&& (63 : Int32)) &&& 0x3f).toInt64.toUInt64).toInt64) (((x2 &&& (9223372036854775807 : Int64)).toUInt64 >>> ((((x3.toUInt32 >>> ((6 : Int32) &&& 31).toUInt32).toInt32) &&& (63 : Int32)) &&& 0x3f).toInt64.toUInt64).toInt64)))) T7.heap n0 Z8 Q7_2 Q7_3) hZ (hw _ (List.mem_of_getElem? (i := 30) rfl)) (hw _ (List.mem_of_getElem? (i := 10) rfl)) (by decide) (by decide)) q12a q12c (g := (mkF m 73 #[.val (.long x1), .second, .val (.long x2), .second, .val (.int x3), .val (.int x4), .val (.long (((x1 &&& (9223372036854775807 : Int64)).toUInt64 >>> ((x3 &&& (63 : Int32)) &&& 0x3f).toInt64.toUInt64).toInt64)), .second, .val (.long (((x2 &&& (9223372036854775807 : Int64)).toUInt64 >>> ((((x3.toUInt32 >>> ((6 : Int32) &&& 31).toUInt32).toInt32) &&& (63 : Int32)) &&& 0x3f).toInt64.toUInt64).toInt64)), .second, .val (.long (F2 (1 : Int64) (F1 (((x1 &&& (9223372036854775807 : Int64)).toUInt64 >>> ((x3 &&& (63 : Int32)) &&& 0x3f).toInt64.toUInt64).toInt64) (((x2 &&& (9223372036854775807 : Int64)).toUInt64 >>> ((((x3.toUInt32 >>> ((6 : Int32) &&& 31).toUInt32).toInt32) &&& (63 : Int32)) &&& 0x3f).toInt64.toUInt64).toInt64)))), .second, .val (.long (F2 (F2 (1 : Int64) (F1 (((x1 &&& (9223372036854775807 : Int64)).toUInt64 >>> ((x3 &&& (63 : Int32)) &&& 0x3f).toInt64.toUInt64).toInt64) (((x2 &&& (9223372036854775807 : Int64)).toUInt64 >>> ((((x3.toUInt32 >>> ((6 : Int32) &&& 31).toUInt32).toInt32) &&& (63 : Int32)) &&& 0x3f).toInt64.toUInt64).toInt64))) (F2 (((x1 &&& (9223372036854775807 : Int64)).toUInt64 >>> ((x3 &&& (63 : Int32)) &&& 0x3f).toInt64.toUInt64).toInt64) (((x2 &&& (9223372036854775807 : Int64)).toUInt64 >>> ((((x3.toUInt32 >>> ((6 : Int32) &&& 31).toUInt32).toInt32) &&& (63 : Int32)) &&& 0x3f).toInt64.toUInt64).toInt64)))), .second, .val (.ref b5), .unset, .unset] [(.int x4), (.ref b5)])) rfl (by rw [hml]; rfl) (Steps.refl _) (argsL := [(.int x4)]) (rest := []) (lenOf pd_3 rfl) rfl (by show 2 * 0 + _ ≤ _; exact Nat.le_of_eq rfl) (hb hby at_73) (fun _ _ => ⟨rfl, rfl, (by decide : 1 + 0 ≤ _), (by decide : 2 + 0 ≤ _)⟩)
  dsimp only [Pt.U, Pt.locs, Pt.cells, Pt.slots] at X12 l12 y12 z12 st12 hQ12
  subst l12 y12 z12
  obtain ⟨rfl, N12q, e12⟩ := hQ12
  have N12 := Fr.app N7 N12q
  obtain ⟨_, _, ⟨T13, L13, k13, n13⟩, -, X13, ⟨Lc13, hQ13, l13, y13, z13⟩, st13⟩ := Jvm.LawKit.callS X12 hx (y := (⟨"com/example/ponca/ponca/mqtt/BackoffDelayMillisPinLaw", "expected", "(JJI)J"⟩ : MethodName)) hown (mvT hZ (hw _ (List.mem_of_getElem? (i := 32) rfl))) (mvT hZ (hw _ (List.mem_of_getElem? (i := 33) rfl))) (mvT hZ (hw _ (List.mem_of_getElem? (i := 34) rfl))) (mvT hZ (hw _ (List.mem_of_getElem? (i := 35) rfl))) (by decide) (backOf (W := 2) (rm7 l Z a0 hw [] (F2 (1 : Int64) (F1 (((x1 &&& (9223372036854775807 : Int64)).toUInt64 >>> ((x3 &&& (63 : Int32)) &&& 0x3f).toInt64.toUInt64).toInt64) (((x2 &&& (9223372036854775807 : Int64)).toUInt64 >>> ((((x3.toUInt32 >>> ((6 : Int32) &&& 31).toUInt32).toInt32) &&& (63 : Int32)) &&& 0x3f).toInt64.toUInt64).toInt64))) (F2 (F2 (1 : Int64) (F1 (((x1 &&& (9223372036854775807 : Int64)).toUInt64 >>> ((x3 &&& (63 : Int32)) &&& 0x3f).toInt64.toUInt64).toInt64) (((x2 &&& (9223372036854775807 : Int64)).toUInt64 >>> ((((x3.toUInt32 >>> ((6 : Int32) &&& 31).toUInt32).toInt32) &&& (63 : Int32)) &&& 0x3f).toInt64.toUInt64).toInt64))) (F2 (((x1 &&& (9223372036854775807 : Int64)).toUInt64 >>> ((x3 &&& (63 : Int32)) &&& 0x3f).toInt64.toUInt64).toInt64) (((x2 &&& (9223372036854775807 : Int64)).toUInt64 >>> ((((x3.toUInt32 >>> ((6 : Int32) &&& 31).toUInt32).toInt32) &&& (63 : Int32)) &&& 0x3f).toInt64.toUInt64).toInt64))) x4  T7.heap n0 Z8 ) hZ (hw _ (List.mem_of_getElem? (i := 35) rfl)) (hw _ (List.mem_of_getElem? (i := 34) rfl)) (by decide) (by decide)) (g := (mkF m 86 #[.val (.long x1), .second, .val (.long x2), .second, .val (.int x3), .val (.int x4), .val (.long (((x1 &&& (9223372036854775807 : Int64)).toUInt64 >>> ((x3 &&& (63 : Int32)) &&& 0x3f).toInt64.toUInt64).toInt64)), .second, .val (.long (((x2 &&& (9223372036854775807 : Int64)).toUInt64 >>> ((((x3.toUInt32 >>> ((6 : Int32) &&& 31).toUInt32).toInt32) &&& (63 : Int32)) &&& 0x3f).toInt64.toUInt64).toInt64)), .second, .val (.long (F2 (1 : Int64) (F1 (((x1 &&& (9223372036854775807 : Int64)).toUInt64 >>> ((x3 &&& (63 : Int32)) &&& 0x3f).toInt64.toUInt64).toInt64) (((x2 &&& (9223372036854775807 : Int64)).toUInt64 >>> ((((x3.toUInt32 >>> ((6 : Int32) &&& 31).toUInt32).toInt32) &&& (63 : Int32)) &&& 0x3f).toInt64.toUInt64).toInt64)))), .second, .val (.long (F2 (F2 (1 : Int64) (F1 (((x1 &&& (9223372036854775807 : Int64)).toUInt64 >>> ((x3 &&& (63 : Int32)) &&& 0x3f).toInt64.toUInt64).toInt64) (((x2 &&& (9223372036854775807 : Int64)).toUInt64 >>> ((((x3.toUInt32 >>> ((6 : Int32) &&& 31).toUInt32).toInt32) &&& (63 : Int32)) &&& 0x3f).toInt64.toUInt64).toInt64))) (F2 (((x1 &&& (9223372036854775807 : Int64)).toUInt64 >>> ((x3 &&& (63 : Int32)) &&& 0x3f).toInt64.toUInt64).toInt64) (((x2 &&& (9223372036854775807 : Int64)).toUInt64 >>> ((((x3.toUInt32 >>> ((6 : Int32) &&& 31).toUInt32).toInt32) &&& (63 : Int32)) &&& 0x3f).toInt64.toUInt64).toInt64)))), .second, .val (.ref b5), .val (.long (own_run ((F2 (F2 (1 : Int64) (F1 (((x1 &&& (9223372036854775807 : Int64)).toUInt64 >>> ((x3 &&& (63 : Int32)) &&& 0x3f).toInt64.toUInt64).toInt64) (((x2 &&& (9223372036854775807 : Int64)).toUInt64 >>> ((((x3.toUInt32 >>> ((6 : Int32) &&& 31).toUInt32).toInt32) &&& (63 : Int32)) &&& 0x3f).toInt64.toUInt64).toInt64))) (F2 (((x1 &&& (9223372036854775807 : Int64)).toUInt64 >>> ((x3 &&& (63 : Int32)) &&& 0x3f).toInt64.toUInt64).toInt64) (((x2 &&& (9223372036854775807 : Int64)).toUInt64 >>> ((((x3.toUInt32 >>> ((6 : Int32) &&& 31).toUInt32).toInt32) &&& (63 : Int32)) &&& 0x3f).toInt64.toUInt64).toInt64)))) x4 (x4.toNatClampNeg) ((F2 (1 : Int64) (F1 (((x1 &&& (9223372036854775807 : Int64)).toUInt64 >>> ((x3 &&& (63 : Int32)) &&& 0x3f).toInt64.toUInt64).toInt64) (((x2 &&& (9223372036854775807 : Int64)).toUInt64 >>> ((((x3.toUInt32 >>> ((6 : Int32) &&& 31).toUInt32).toInt32) &&& (63 : Int32)) &&& 0x3f).toInt64.toUInt64).toInt64)))) 0)), .second] [(.int x4), (.long (F2 (F2 (1 : Int64) (F1 (((x1 &&& (9223372036854775807 : Int64)).toUInt64 >>> ((x3 &&& (63 : Int32)) &&& 0x3f).toInt64.toUInt64).toInt64) (((x2 &&& (9223372036854775807 : Int64)).toUInt64 >>> ((((x3.toUInt32 >>> ((6 : Int32) &&& 31).toUInt32).toInt32) &&& (63 : Int32)) &&& 0x3f).toInt64.toUInt64).toInt64))) (F2 (((x1 &&& (9223372036854775807 : Int64)).toUInt64 >>> ((x3 &&& (63 : Int32)) &&& 0x3f).toInt64.toUInt64).toInt64) (((x2 &&& (9223372036854775807 : Int64)).toUInt64 >>> ((((x3.toUInt32 >>> ((6 : Int32) &&& 31).toUInt32).toInt32) &&& (63 : Int32)) &&& 0x3f).toInt64.toUInt64).toInt64)))), (.long (F2 (1 : Int64) (F1 (((x1 &&& (9223372036854775807 : Int64)).toUInt64 >>> ((x3 &&& (63 : Int32)) &&& 0x3f).toInt64.toUInt64).toInt64) (((x2 &&& (9223372036854775807 : Int64)).toUInt64 >>> ((((x3.toUInt32 >>> ((6 : Int32) &&& 31).toUInt32).toInt32) &&& (63 : Int32)) &&& 0x3f).toInt64.toUInt64).toInt64)))), (.long (own_run ((F2 (F2 (1 : Int64) (F1 (((x1 &&& (9223372036854775807 : Int64)).toUInt64 >>> ((x3 &&& (63 : Int32)) &&& 0x3f).toInt64.toUInt64).toInt64) (((x2 &&& (9223372036854775807 : Int64)).toUInt64 >>> ((((x3.toUInt32 >>> ((6 : Int32) &&& 31).toUInt32).toInt32) &&& (63 : Int32)) &&& 0x3f).toInt64.toUInt64).toInt64))) (F2 (((x1 &&& (9223372036854775807 : Int64)).toUInt64 >>> ((x3 &&& (63 : Int32)) &&& 0x3f).toInt64.toUInt64).toInt64) (((x2 &&& (9223372036854775807 : Int64)).toUInt64 >>> ((((x3.toUInt32 >>> ((6 : Int32) &&& 31).toUInt32).toInt32) &&& (63 : Int32)) &&& 0x3f).toInt64.toUInt64).toInt64)))) x4 (x4.toNatClampNeg) ((F2 (1 : Int64) (F1 (((x1 &&& (9223372036854775807 : Int64)).toUInt64 >>> ((x3 &&& (63 : Int32)) &&& 0x3f).toInt64.toUInt64).toInt64) (((x2 &&& (9223372036854775807 : Int64)).toUInt64 >>> ((((x3.toUInt32 >>> ((6 : Int32) &&& 31).toUInt32).toInt32) &&& (63 : Int32)) &&& 0x3f).toInt64.toUInt64).toInt64)))) 0))])) rfl (by rw [hml]; rfl) (argsL := [(.long (F2 (1 : Int64) (F1 (((x1 &&& (9223372036854775807 : Int64)).toUInt64 >>> ((x3 &&& (63 : Int32)) &&& 0x3f).toInt64.toUInt64).toInt64) (((x2 &&& (9223372036854775807 : Int64)).toUInt64 >>> ((((x3.toUInt32 >>> ((6 : Int32) &&& 31).toUInt32).toInt32) &&& (63 : Int32)) &&& 0x3f).toInt64.toUInt64).toInt64)))), (.long (F2 (F2 (1 : Int64) (F1 (((x1 &&& (9223372036854775807 : Int64)).toUInt64 >>> ((x3 &&& (63 : Int32)) &&& 0x3f).toInt64.toUInt64).toInt64) (((x2 &&& (9223372036854775807 : Int64)).toUInt64 >>> ((((x3.toUInt32 >>> ((6 : Int32) &&& 31).toUInt32).toInt32) &&& (63 : Int32)) &&& 0x3f).toInt64.toUInt64).toInt64))) (F2 (((x1 &&& (9223372036854775807 : Int64)).toUInt64 >>> ((x3 &&& (63 : Int32)) &&& 0x3f).toInt64.toUInt64).toInt64) (((x2 &&& (9223372036854775807 : Int64)).toUInt64 >>> ((((x3.toUInt32 >>> ((6 : Int32) &&& 31).toUInt32).toInt32) &&& (63 : Int32)) &&& 0x3f).toInt64.toUInt64).toInt64)))), (.int x4)]) (rest := [(.long (own_run ((F2 (F2 (1 : Int64) (F1 (((x1 &&& (9223372036854775807 : Int64)).toUInt64 >>> ((x3 &&& (63 : Int32)) &&& 0x3f).toInt64.toUInt64).toInt64) (((x2 &&& (9223372036854775807 : Int64)).toUInt64 >>> ((((x3.toUInt32 >>> ((6 : Int32) &&& 31).toUInt32).toInt32) &&& (63 : Int32)) &&& 0x3f).toInt64.toUInt64).toInt64))) (F2 (((x1 &&& (9223372036854775807 : Int64)).toUInt64 >>> ((x3 &&& (63 : Int32)) &&& 0x3f).toInt64.toUInt64).toInt64) (((x2 &&& (9223372036854775807 : Int64)).toUInt64 >>> ((((x3.toUInt32 >>> ((6 : Int32) &&& 31).toUInt32).toInt32) &&& (63 : Int32)) &&& 0x3f).toInt64.toUInt64).toInt64)))) x4 (x4.toNatClampNeg) ((F2 (1 : Int64) (F1 (((x1 &&& (9223372036854775807 : Int64)).toUInt64 >>> ((x3 &&& (63 : Int32)) &&& 0x3f).toInt64.toUInt64).toInt64) (((x2 &&& (9223372036854775807 : Int64)).toUInt64 >>> ((((x3.toUInt32 >>> ((6 : Int32) &&& 31).toUInt32).toInt32) &&& (63 : Int32)) &&& 0x3f).toInt64.toUInt64).toInt64)))) 0))]) (lenOf pd_4 rfl) rfl (by show 2 * 0 + _ ≤ _; exact Nat.le_of_eq rfl) (hb hby at_86) (fun _ _ => ⟨rfl, e12, (by decide : 1 + 0 ≤ _), (by decide : 2 + 0 ≤ _)⟩)
  dsimp only [Pt.U, Pt.locs, Pt.cells, Pt.slots] at X13 l13 y13 z13 st13 hQ13
  subst l13 y13 z13
  obtain ⟨rfl, N13q, e13⟩ := hQ13
  have N13 := Fr.app N12 N13q
  obtain ⟨fs, hr, hrun, hended, hW, hsame⟩ := X13.leave (v := some (.int (if (own_run ((F2 (F2 (1 : Int64) (F1 (((x1 &&& (9223372036854775807 : Int64)).toUInt64 >>> ((x3 &&& (63 : Int32)) &&& 0x3f).toInt64.toUInt64).toInt64) (((x2 &&& (9223372036854775807 : Int64)).toUInt64 >>> ((((x3.toUInt32 >>> ((6 : Int32) &&& 31).toUInt32).toInt32) &&& (63 : Int32)) &&& 0x3f).toInt64.toUInt64).toInt64))) (F2 (((x1 &&& (9223372036854775807 : Int64)).toUInt64 >>> ((x3 &&& (63 : Int32)) &&& 0x3f).toInt64.toUInt64).toInt64) (((x2 &&& (9223372036854775807 : Int64)).toUInt64 >>> ((((x3.toUInt32 >>> ((6 : Int32) &&& 31).toUInt32).toInt32) &&& (63 : Int32)) &&& 0x3f).toInt64.toUInt64).toInt64)))) x4 (x4.toNatClampNeg) ((F2 (1 : Int64) (F1 (((x1 &&& (9223372036854775807 : Int64)).toUInt64 >>> ((x3 &&& (63 : Int32)) &&& 0x3f).toInt64.toUInt64).toInt64) (((x2 &&& (9223372036854775807 : Int64)).toUInt64 >>> ((((x3.toUInt32 >>> ((6 : Int32) &&& 31).toUInt32).toInt32) &&& (63 : Int32)) &&& 0x3f).toInt64.toUInt64).toInt64)))) 0) = (F7 (F2 (1 : Int64) (F1 (((x1 &&& (9223372036854775807 : Int64)).toUInt64 >>> ((x3 &&& (63 : Int32)) &&& 0x3f).toInt64.toUInt64).toInt64) (((x2 &&& (9223372036854775807 : Int64)).toUInt64 >>> ((((x3.toUInt32 >>> ((6 : Int32) &&& 31).toUInt32).toInt32) &&& (63 : Int32)) &&& 0x3f).toInt64.toUInt64).toInt64))) (F2 (F2 (1 : Int64) (F1 (((x1 &&& (9223372036854775807 : Int64)).toUInt64 >>> ((x3 &&& (63 : Int32)) &&& 0x3f).toInt64.toUInt64).toInt64) (((x2 &&& (9223372036854775807 : Int64)).toUInt64 >>> ((((x3.toUInt32 >>> ((6 : Int32) &&& 31).toUInt32).toInt32) &&& (63 : Int32)) &&& 0x3f).toInt64.toUInt64).toInt64))) (F2 (((x1 &&& (9223372036854775807 : Int64)).toUInt64 >>> ((x3 &&& (63 : Int32)) &&& 0x3f).toInt64.toUInt64).toInt64) (((x2 &&& (9223372036854775807 : Int64)).toUInt64 >>> ((((x3.toUInt32 >>> ((6 : Int32) &&& 31).toUInt32).toInt32) &&& (63 : Int32)) &&& 0x3f).toInt64.toUInt64).toInt64))) x4) then (1 : Int32) else (0 : Int32)))) (fun h => by rw [Bd.returns] at h; cases h)
  refine ⟨_, _, pre0 _ ?_, hrun, hended, _, _, rfl, ?_, ⟨_, rfl⟩, hW, hsame.mono (by decide) (by decide)⟩
  · show Steps p.tables e below (s₁.setTop (mkF m 0 #[.val (.long x1), .second, .val (.long x2), .second, .val (.int x3), .val (.int x4), .unset, .unset, .unset, .unset, .unset, .unset, .unset, .unset, .unset, .unset, .unset] [])) _
    refine XS.lloadN X0.here hx rfl (hb hby at_0) rfl ?_
    show Steps p.tables e below (s₁.setTop (mkF m 1 #[.val (.long x1), .second, .val (.long x2), .second, .val (.int x3), .val (.int x4), .unset, .unset, .unset, .unset, .unset, .unset, .unset, .unset, .unset, .unset, .unset] [(.long x1)])) _
    refine X0.ldc2Long hx hown (mvT hZ (hw _ (List.mem_of_getElem? (i := 0) rfl))) (g := (mkF m 1 #[.val (.long x1), .second, .val (.long x2), .second, .val (.int x3), .val (.int x4), .unset, .unset, .unset, .unset, .unset, .unset, .unset, .unset, .unset, .unset, .unset] [(.long x1)])) rfl (hb hby at_1) _ ?_
    show Steps p.tables e below (s₁.setTop (mkF m 4 #[.val (.long x1), .second, .val (.long x2), .second, .val (.int x3), .val (.int x4), .unset, .unset, .unset, .unset, .unset, .unset, .unset, .unset, .unset, .unset, .unset] [(.long (9223372036854775807 : Int64)), (.long x1)])) _
    refine XS.land X0.here hx rfl (hb hby at_4) rfl ?_
    show Steps p.tables e below (s₁.setTop (mkF m 5 #[.val (.long x1), .second, .val (.long x2), .second, .val (.int x3), .val (.int x4), .unset, .unset, .unset, .unset, .unset, .unset, .unset, .unset, .unset, .unset, .unset] [(.long (x1 &&& (9223372036854775807 : Int64)))])) _
    refine XS.iload X0.here hx rfl (hb hby at_5) rfl ?_
    show Steps p.tables e below (s₁.setTop (mkF m 7 #[.val (.long x1), .second, .val (.long x2), .second, .val (.int x3), .val (.int x4), .unset, .unset, .unset, .unset, .unset, .unset, .unset, .unset, .unset, .unset, .unset] [(.int x3), (.long (x1 &&& (9223372036854775807 : Int64)))])) _
    refine XS.bipush X0.here hx rfl (hb hby at_7) ?_
    show Steps p.tables e below (s₁.setTop (mkF m 9 #[.val (.long x1), .second, .val (.long x2), .second, .val (.int x3), .val (.int x4), .unset, .unset, .unset, .unset, .unset, .unset, .unset, .unset, .unset, .unset, .unset] [(.int (63 : Int32)), (.int x3), (.long (x1 &&& (9223372036854775807 : Int64)))])) _
    refine XS.iand X0.here hx rfl (hb hby at_9) rfl ?_
    show Steps p.tables e below (s₁.setTop (mkF m 10 #[.val (.long x1), .second, .val (.long x2), .second, .val (.int x3), .val (.int x4), .unset, .unset, .unset, .unset, .unset, .unset, .unset, .unset, .unset, .unset, .unset] [(.int (x3 &&& (63 : Int32))), (.long (x1 &&& (9223372036854775807 : Int64)))])) _
    refine XS.lushr X0.here hx rfl (hb hby at_10) rfl ?_
    show Steps p.tables e below (s₁.setTop (mkF m 11 #[.val (.long x1), .second, .val (.long x2), .second, .val (.int x3), .val (.int x4), .unset, .unset, .unset, .unset, .unset, .unset, .unset, .unset, .unset, .unset, .unset] [(.long (((x1 &&& (9223372036854775807 : Int64)).toUInt64 >>> ((x3 &&& (63 : Int32)) &&& 0x3f).toInt64.toUInt64).toInt64))])) _
    refine XS.lstore X0.here hx rfl (hb hby at_11) rfl (l' := #[.val (.long x1), .second, .val (.long x2), .second, .val (.int x3), .val (.int x4), .val (.long (((x1 &&& (9223372036854775807 : Int64)).toUInt64 >>> ((x3 &&& (63 : Int32)) &&& 0x3f).toInt64.toUInt64).toInt64)), .second, .unset, .unset, .unset, .unset, .unset, .unset, .unset, .unset, .unset]) rfl ?_
    show Steps p.tables e below (s₁.setTop (mkF m 13 #[.val (.long x1), .second, .val (.long x2), .second, .val (.int x3), .val (.int x4), .val (.long (((x1 &&& (9223372036854775807 : Int64)).toUInt64 >>> ((x3 &&& (63 : Int32)) &&& 0x3f).toInt64.toUInt64).toInt64)), .second, .unset, .unset, .unset, .unset, .unset, .unset, .unset, .unset, .unset] [])) _
    refine XS.lloadN X0.here hx rfl (hb hby at_13) rfl ?_
    show Steps p.tables e below (s₁.setTop (mkF m 14 #[.val (.long x1), .second, .val (.long x2), .second, .val (.int x3), .val (.int x4), .val (.long (((x1 &&& (9223372036854775807 : Int64)).toUInt64 >>> ((x3 &&& (63 : Int32)) &&& 0x3f).toInt64.toUInt64).toInt64)), .second, .unset, .unset, .unset, .unset, .unset, .unset, .unset, .unset, .unset] [(.long x2)])) _
    refine X0.ldc2Long hx hown (mvT hZ (hw _ (List.mem_of_getElem? (i := 0) rfl))) (g := (mkF m 14 #[.val (.long x1), .second, .val (.long x2), .second, .val (.int x3), .val (.int x4), .val (.long (((x1 &&& (9223372036854775807 : Int64)).toUInt64 >>> ((x3 &&& (63 : Int32)) &&& 0x3f).toInt64.toUInt64).toInt64)), .second, .unset, .unset, .unset, .unset, .unset, .unset, .unset, .unset, .unset] [(.long x2)])) rfl (hb hby at_14) _ ?_
    show Steps p.tables e below (s₁.setTop (mkF m 17 #[.val (.long x1), .second, .val (.long x2), .second, .val (.int x3), .val (.int x4), .val (.long (((x1 &&& (9223372036854775807 : Int64)).toUInt64 >>> ((x3 &&& (63 : Int32)) &&& 0x3f).toInt64.toUInt64).toInt64)), .second, .unset, .unset, .unset, .unset, .unset, .unset, .unset, .unset, .unset] [(.long (9223372036854775807 : Int64)), (.long x2)])) _
    refine XS.land X0.here hx rfl (hb hby at_17) rfl ?_
    show Steps p.tables e below (s₁.setTop (mkF m 18 #[.val (.long x1), .second, .val (.long x2), .second, .val (.int x3), .val (.int x4), .val (.long (((x1 &&& (9223372036854775807 : Int64)).toUInt64 >>> ((x3 &&& (63 : Int32)) &&& 0x3f).toInt64.toUInt64).toInt64)), .second, .unset, .unset, .unset, .unset, .unset, .unset, .unset, .unset, .unset] [(.long (x2 &&& (9223372036854775807 : Int64)))])) _
    refine XS.iload X0.here hx rfl (hb hby at_18) rfl ?_
    show Steps p.tables e below (s₁.setTop (mkF m 20 #[.val (.long x1), .second, .val (.long x2), .second, .val (.int x3), .val (.int x4), .val (.long (((x1 &&& (9223372036854775807 : Int64)).toUInt64 >>> ((x3 &&& (63 : Int32)) &&& 0x3f).toInt64.toUInt64).toInt64)), .second, .unset, .unset, .unset, .unset, .unset, .unset, .unset, .unset, .unset] [(.int x3), (.long (x2 &&& (9223372036854775807 : Int64)))])) _
    refine XS.bipush X0.here hx rfl (hb hby at_20) ?_
    show Steps p.tables e below (s₁.setTop (mkF m 22 #[.val (.long x1), .second, .val (.long x2), .second, .val (.int x3), .val (.int x4), .val (.long (((x1 &&& (9223372036854775807 : Int64)).toUInt64 >>> ((x3 &&& (63 : Int32)) &&& 0x3f).toInt64.toUInt64).toInt64)), .second, .unset, .unset, .unset, .unset, .unset, .unset, .unset, .unset, .unset] [(.int (6 : Int32)), (.int x3), (.long (x2 &&& (9223372036854775807 : Int64)))])) _
    refine XS.iushr X0.here hx rfl (hb hby at_22) rfl ?_
    show Steps p.tables e below (s₁.setTop (mkF m 23 #[.val (.long x1), .second, .val (.long x2), .second, .val (.int x3), .val (.int x4), .val (.long (((x1 &&& (9223372036854775807 : Int64)).toUInt64 >>> ((x3 &&& (63 : Int32)) &&& 0x3f).toInt64.toUInt64).toInt64)), .second, .unset, .unset, .unset, .unset, .unset, .unset, .unset, .unset, .unset] [(.int ((x3.toUInt32 >>> ((6 : Int32) &&& 31).toUInt32).toInt32)), (.long (x2 &&& (9223372036854775807 : Int64)))])) _
    refine XS.bipush X0.here hx rfl (hb hby at_23) ?_
    show Steps p.tables e below (s₁.setTop (mkF m 25 #[.val (.long x1), .second, .val (.long x2), .second, .val (.int x3), .val (.int x4), .val (.long (((x1 &&& (9223372036854775807 : Int64)).toUInt64 >>> ((x3 &&& (63 : Int32)) &&& 0x3f).toInt64.toUInt64).toInt64)), .second, .unset, .unset, .unset, .unset, .unset, .unset, .unset, .unset, .unset] [(.int (63 : Int32)), (.int ((x3.toUInt32 >>> ((6 : Int32) &&& 31).toUInt32).toInt32)), (.long (x2 &&& (9223372036854775807 : Int64)))])) _
    refine XS.iand X0.here hx rfl (hb hby at_25) rfl ?_
    show Steps p.tables e below (s₁.setTop (mkF m 26 #[.val (.long x1), .second, .val (.long x2), .second, .val (.int x3), .val (.int x4), .val (.long (((x1 &&& (9223372036854775807 : Int64)).toUInt64 >>> ((x3 &&& (63 : Int32)) &&& 0x3f).toInt64.toUInt64).toInt64)), .second, .unset, .unset, .unset, .unset, .unset, .unset, .unset, .unset, .unset] [(.int (((x3.toUInt32 >>> ((6 : Int32) &&& 31).toUInt32).toInt32) &&& (63 : Int32))), (.long (x2 &&& (9223372036854775807 : Int64)))])) _
    refine XS.lushr X0.here hx rfl (hb hby at_26) rfl ?_
    show Steps p.tables e below (s₁.setTop (mkF m 27 #[.val (.long x1), .second, .val (.long x2), .second, .val (.int x3), .val (.int x4), .val (.long (((x1 &&& (9223372036854775807 : Int64)).toUInt64 >>> ((x3 &&& (63 : Int32)) &&& 0x3f).toInt64.toUInt64).toInt64)), .second, .unset, .unset, .unset, .unset, .unset, .unset, .unset, .unset, .unset] [(.long (((x2 &&& (9223372036854775807 : Int64)).toUInt64 >>> ((((x3.toUInt32 >>> ((6 : Int32) &&& 31).toUInt32).toInt32) &&& (63 : Int32)) &&& 0x3f).toInt64.toUInt64).toInt64))])) _
    refine XS.lstore X0.here hx rfl (hb hby at_27) rfl (l' := #[.val (.long x1), .second, .val (.long x2), .second, .val (.int x3), .val (.int x4), .val (.long (((x1 &&& (9223372036854775807 : Int64)).toUInt64 >>> ((x3 &&& (63 : Int32)) &&& 0x3f).toInt64.toUInt64).toInt64)), .second, .val (.long (((x2 &&& (9223372036854775807 : Int64)).toUInt64 >>> ((((x3.toUInt32 >>> ((6 : Int32) &&& 31).toUInt32).toInt32) &&& (63 : Int32)) &&& 0x3f).toInt64.toUInt64).toInt64)), .second, .unset, .unset, .unset, .unset, .unset, .unset, .unset]) rfl ?_
    show Steps p.tables e below (s₁.setTop (mkF m 29 #[.val (.long x1), .second, .val (.long x2), .second, .val (.int x3), .val (.int x4), .val (.long (((x1 &&& (9223372036854775807 : Int64)).toUInt64 >>> ((x3 &&& (63 : Int32)) &&& 0x3f).toInt64.toUInt64).toInt64)), .second, .val (.long (((x2 &&& (9223372036854775807 : Int64)).toUInt64 >>> ((((x3.toUInt32 >>> ((6 : Int32) &&& 31).toUInt32).toInt32) &&& (63 : Int32)) &&& 0x3f).toInt64.toUInt64).toInt64)), .second, .unset, .unset, .unset, .unset, .unset, .unset, .unset] [])) _
    refine XS.lconst X0.here hx rfl (hb hby at_29) ?_
    show Steps p.tables e below (s₁.setTop (mkF m 30 #[.val (.long x1), .second, .val (.long x2), .second, .val (.int x3), .val (.int x4), .val (.long (((x1 &&& (9223372036854775807 : Int64)).toUInt64 >>> ((x3 &&& (63 : Int32)) &&& 0x3f).toInt64.toUInt64).toInt64)), .second, .val (.long (((x2 &&& (9223372036854775807 : Int64)).toUInt64 >>> ((((x3.toUInt32 >>> ((6 : Int32) &&& 31).toUInt32).toInt32) &&& (63 : Int32)) &&& 0x3f).toInt64.toUInt64).toInt64)), .second, .unset, .unset, .unset, .unset, .unset, .unset, .unset] [(.long (1 : Int64))])) _
    refine XS.lload X0.here hx rfl (hb hby at_30) rfl ?_
    show Steps p.tables e below (s₁.setTop (mkF m 32 #[.val (.long x1), .second, .val (.long x2), .second, .val (.int x3), .val (.int x4), .val (.long (((x1 &&& (9223372036854775807 : Int64)).toUInt64 >>> ((x3 &&& (63 : Int32)) &&& 0x3f).toInt64.toUInt64).toInt64)), .second, .val (.long (((x2 &&& (9223372036854775807 : Int64)).toUInt64 >>> ((((x3.toUInt32 >>> ((6 : Int32) &&& 31).toUInt32).toInt32) &&& (63 : Int32)) &&& 0x3f).toInt64.toUInt64).toInt64)), .second, .unset, .unset, .unset, .unset, .unset, .unset, .unset] [(.long (((x1 &&& (9223372036854775807 : Int64)).toUInt64 >>> ((x3 &&& (63 : Int32)) &&& 0x3f).toInt64.toUInt64).toInt64)), (.long (1 : Int64))])) _
    refine XS.lload X0.here hx rfl (hb hby at_32) rfl ?_
    show Steps p.tables e below (s₁.setTop (mkF m 34 #[.val (.long x1), .second, .val (.long x2), .second, .val (.int x3), .val (.int x4), .val (.long (((x1 &&& (9223372036854775807 : Int64)).toUInt64 >>> ((x3 &&& (63 : Int32)) &&& 0x3f).toInt64.toUInt64).toInt64)), .second, .val (.long (((x2 &&& (9223372036854775807 : Int64)).toUInt64 >>> ((((x3.toUInt32 >>> ((6 : Int32) &&& 31).toUInt32).toInt32) &&& (63 : Int32)) &&& 0x3f).toInt64.toUInt64).toInt64)), .second, .unset, .unset, .unset, .unset, .unset, .unset, .unset] [(.long (((x2 &&& (9223372036854775807 : Int64)).toUInt64 >>> ((((x3.toUInt32 >>> ((6 : Int32) &&& 31).toUInt32).toInt32) &&& (63 : Int32)) &&& 0x3f).toInt64.toUInt64).toInt64)), (.long (((x1 &&& (9223372036854775807 : Int64)).toUInt64 >>> ((x3 &&& (63 : Int32)) &&& 0x3f).toInt64.toUInt64).toInt64)), (.long (1 : Int64))])) _
    refine st1 _ ?_
    show Steps p.tables e below (T1.setTop (mkF m 37 #[.val (.long x1), .second, .val (.long x2), .second, .val (.int x3), .val (.int x4), .val (.long (((x1 &&& (9223372036854775807 : Int64)).toUInt64 >>> ((x3 &&& (63 : Int32)) &&& 0x3f).toInt64.toUInt64).toInt64)), .second, .val (.long (((x2 &&& (9223372036854775807 : Int64)).toUInt64 >>> ((((x3.toUInt32 >>> ((6 : Int32) &&& 31).toUInt32).toInt32) &&& (63 : Int32)) &&& 0x3f).toInt64.toUInt64).toInt64)), .second, .unset, .unset, .unset, .unset, .unset, .unset, .unset] [(.long (F1 (((x1 &&& (9223372036854775807 : Int64)).toUInt64 >>> ((x3 &&& (63 : Int32)) &&& 0x3f).toInt64.toUInt64).toInt64) (((x2 &&& (9223372036854775807 : Int64)).toUInt64 >>> ((((x3.toUInt32 >>> ((6 : Int32) &&& 31).toUInt32).toInt32) &&& (63 : Int32)) &&& 0x3f).toInt64.toUInt64).toInt64))), (.long (1 : Int64))])) _
    refine st2 _ ?_
    show Steps p.tables e below (T2.setTop (mkF m 40 #[.val (.long x1), .second, .val (.long x2), .second, .val (.int x3), .val (.int x4), .val (.long (((x1 &&& (9223372036854775807 : Int64)).toUInt64 >>> ((x3 &&& (63 : Int32)) &&& 0x3f).toInt64.toUInt64).toInt64)), .second, .val (.long (((x2 &&& (9223372036854775807 : Int64)).toUInt64 >>> ((((x3.toUInt32 >>> ((6 : Int32) &&& 31).toUInt32).toInt32) &&& (63 : Int32)) &&& 0x3f).toInt64.toUInt64).toInt64)), .second, .unset, .unset, .unset, .unset, .unset, .unset, .unset] [(.long (F2 (1 : Int64) (F1 (((x1 &&& (9223372036854775807 : Int64)).toUInt64 >>> ((x3 &&& (63 : Int32)) &&& 0x3f).toInt64.toUInt64).toInt64) (((x2 &&& (9223372036854775807 : Int64)).toUInt64 >>> ((((x3.toUInt32 >>> ((6 : Int32) &&& 31).toUInt32).toInt32) &&& (63 : Int32)) &&& 0x3f).toInt64.toUInt64).toInt64))))])) _
    refine XS.lstore X2.here hx rfl (hb hby at_40) rfl (l' := #[.val (.long x1), .second, .val (.long x2), .second, .val (.int x3), .val (.int x4), .val (.long (((x1 &&& (9223372036854775807 : Int64)).toUInt64 >>> ((x3 &&& (63 : Int32)) &&& 0x3f).toInt64.toUInt64).toInt64)), .second, .val (.long (((x2 &&& (9223372036854775807 : Int64)).toUInt64 >>> ((((x3.toUInt32 >>> ((6 : Int32) &&& 31).toUInt32).toInt32) &&& (63 : Int32)) &&& 0x3f).toInt64.toUInt64).toInt64)), .second, .val (.long (F2 (1 : Int64) (F1 (((x1 &&& (9223372036854775807 : Int64)).toUInt64 >>> ((x3 &&& (63 : Int32)) &&& 0x3f).toInt64.toUInt64).toInt64) (((x2 &&& (9223372036854775807 : Int64)).toUInt64 >>> ((((x3.toUInt32 >>> ((6 : Int32) &&& 31).toUInt32).toInt32) &&& (63 : Int32)) &&& 0x3f).toInt64.toUInt64).toInt64)))), .second, .unset, .unset, .unset, .unset, .unset]) rfl ?_
    show Steps p.tables e below (T2.setTop (mkF m 42 #[.val (.long x1), .second, .val (.long x2), .second, .val (.int x3), .val (.int x4), .val (.long (((x1 &&& (9223372036854775807 : Int64)).toUInt64 >>> ((x3 &&& (63 : Int32)) &&& 0x3f).toInt64.toUInt64).toInt64)), .second, .val (.long (((x2 &&& (9223372036854775807 : Int64)).toUInt64 >>> ((((x3.toUInt32 >>> ((6 : Int32) &&& 31).toUInt32).toInt32) &&& (63 : Int32)) &&& 0x3f).toInt64.toUInt64).toInt64)), .second, .val (.long (F2 (1 : Int64) (F1 (((x1 &&& (9223372036854775807 : Int64)).toUInt64 >>> ((x3 &&& (63 : Int32)) &&& 0x3f).toInt64.toUInt64).toInt64) (((x2 &&& (9223372036854775807 : Int64)).toUInt64 >>> ((((x3.toUInt32 >>> ((6 : Int32) &&& 31).toUInt32).toInt32) &&& (63 : Int32)) &&& 0x3f).toInt64.toUInt64).toInt64)))), .second, .unset, .unset, .unset, .unset, .unset] [])) _
    refine XS.lload X2.here hx rfl (hb hby at_42) rfl ?_
    show Steps p.tables e below (T2.setTop (mkF m 44 #[.val (.long x1), .second, .val (.long x2), .second, .val (.int x3), .val (.int x4), .val (.long (((x1 &&& (9223372036854775807 : Int64)).toUInt64 >>> ((x3 &&& (63 : Int32)) &&& 0x3f).toInt64.toUInt64).toInt64)), .second, .val (.long (((x2 &&& (9223372036854775807 : Int64)).toUInt64 >>> ((((x3.toUInt32 >>> ((6 : Int32) &&& 31).toUInt32).toInt32) &&& (63 : Int32)) &&& 0x3f).toInt64.toUInt64).toInt64)), .second, .val (.long (F2 (1 : Int64) (F1 (((x1 &&& (9223372036854775807 : Int64)).toUInt64 >>> ((x3 &&& (63 : Int32)) &&& 0x3f).toInt64.toUInt64).toInt64) (((x2 &&& (9223372036854775807 : Int64)).toUInt64 >>> ((((x3.toUInt32 >>> ((6 : Int32) &&& 31).toUInt32).toInt32) &&& (63 : Int32)) &&& 0x3f).toInt64.toUInt64).toInt64)))), .second, .unset, .unset, .unset, .unset, .unset] [(.long (F2 (1 : Int64) (F1 (((x1 &&& (9223372036854775807 : Int64)).toUInt64 >>> ((x3 &&& (63 : Int32)) &&& 0x3f).toInt64.toUInt64).toInt64) (((x2 &&& (9223372036854775807 : Int64)).toUInt64 >>> ((((x3.toUInt32 >>> ((6 : Int32) &&& 31).toUInt32).toInt32) &&& (63 : Int32)) &&& 0x3f).toInt64.toUInt64).toInt64))))])) _
    refine XS.lload X2.here hx rfl (hb hby at_44) rfl ?_
    show Steps p.tables e below (T2.setTop (mkF m 46 #[.val (.long x1), .second, .val (.long x2), .second, .val (.int x3), .val (.int x4), .val (.long (((x1 &&& (9223372036854775807 : Int64)).toUInt64 >>> ((x3 &&& (63 : Int32)) &&& 0x3f).toInt64.toUInt64).toInt64)), .second, .val (.long (((x2 &&& (9223372036854775807 : Int64)).toUInt64 >>> ((((x3.toUInt32 >>> ((6 : Int32) &&& 31).toUInt32).toInt32) &&& (63 : Int32)) &&& 0x3f).toInt64.toUInt64).toInt64)), .second, .val (.long (F2 (1 : Int64) (F1 (((x1 &&& (9223372036854775807 : Int64)).toUInt64 >>> ((x3 &&& (63 : Int32)) &&& 0x3f).toInt64.toUInt64).toInt64) (((x2 &&& (9223372036854775807 : Int64)).toUInt64 >>> ((((x3.toUInt32 >>> ((6 : Int32) &&& 31).toUInt32).toInt32) &&& (63 : Int32)) &&& 0x3f).toInt64.toUInt64).toInt64)))), .second, .unset, .unset, .unset, .unset, .unset] [(.long (((x1 &&& (9223372036854775807 : Int64)).toUInt64 >>> ((x3 &&& (63 : Int32)) &&& 0x3f).toInt64.toUInt64).toInt64)), (.long (F2 (1 : Int64) (F1 (((x1 &&& (9223372036854775807 : Int64)).toUInt64 >>> ((x3 &&& (63 : Int32)) &&& 0x3f).toInt64.toUInt64).toInt64) (((x2 &&& (9223372036854775807 : Int64)).toUInt64 >>> ((((x3.toUInt32 >>> ((6 : Int32) &&& 31).toUInt32).toInt32) &&& (63 : Int32)) &&& 0x3f).toInt64.toUInt64).toInt64))))])) _
    refine XS.lload X2.here hx rfl (hb hby at_46) rfl ?_
    show Steps p.tables e below (T2.setTop (mkF m 48 #[.val (.long x1), .second, .val (.long x2), .second, .val (.int x3), .val (.int x4), .val (.long (((x1 &&& (9223372036854775807 : Int64)).toUInt64 >>> ((x3 &&& (63 : Int32)) &&& 0x3f).toInt64.toUInt64).toInt64)), .second, .val (.long (((x2 &&& (9223372036854775807 : Int64)).toUInt64 >>> ((((x3.toUInt32 >>> ((6 : Int32) &&& 31).toUInt32).toInt32) &&& (63 : Int32)) &&& 0x3f).toInt64.toUInt64).toInt64)), .second, .val (.long (F2 (1 : Int64) (F1 (((x1 &&& (9223372036854775807 : Int64)).toUInt64 >>> ((x3 &&& (63 : Int32)) &&& 0x3f).toInt64.toUInt64).toInt64) (((x2 &&& (9223372036854775807 : Int64)).toUInt64 >>> ((((x3.toUInt32 >>> ((6 : Int32) &&& 31).toUInt32).toInt32) &&& (63 : Int32)) &&& 0x3f).toInt64.toUInt64).toInt64)))), .second, .unset, .unset, .unset, .unset, .unset] [(.long (((x2 &&& (9223372036854775807 : Int64)).toUInt64 >>> ((((x3.toUInt32 >>> ((6 : Int32) &&& 31).toUInt32).toInt32) &&& (63 : Int32)) &&& 0x3f).toInt64.toUInt64).toInt64)), (.long (((x1 &&& (9223372036854775807 : Int64)).toUInt64 >>> ((x3 &&& (63 : Int32)) &&& 0x3f).toInt64.toUInt64).toInt64)), (.long (F2 (1 : Int64) (F1 (((x1 &&& (9223372036854775807 : Int64)).toUInt64 >>> ((x3 &&& (63 : Int32)) &&& 0x3f).toInt64.toUInt64).toInt64) (((x2 &&& (9223372036854775807 : Int64)).toUInt64 >>> ((((x3.toUInt32 >>> ((6 : Int32) &&& 31).toUInt32).toInt32) &&& (63 : Int32)) &&& 0x3f).toInt64.toUInt64).toInt64))))])) _
    refine st3 _ ?_
    show Steps p.tables e below (T3.setTop (mkF m 51 #[.val (.long x1), .second, .val (.long x2), .second, .val (.int x3), .val (.int x4), .val (.long (((x1 &&& (9223372036854775807 : Int64)).toUInt64 >>> ((x3 &&& (63 : Int32)) &&& 0x3f).toInt64.toUInt64).toInt64)), .second, .val (.long (((x2 &&& (9223372036854775807 : Int64)).toUInt64 >>> ((((x3.toUInt32 >>> ((6 : Int32) &&& 31).toUInt32).toInt32) &&& (63 : Int32)) &&& 0x3f).toInt64.toUInt64).toInt64)), .second, .val (.long (F2 (1 : Int64) (F1 (((x1 &&& (9223372036854775807 : Int64)).toUInt64 >>> ((x3 &&& (63 : Int32)) &&& 0x3f).toInt64.toUInt64).toInt64) (((x2 &&& (9223372036854775807 : Int64)).toUInt64 >>> ((((x3.toUInt32 >>> ((6 : Int32) &&& 31).toUInt32).toInt32) &&& (63 : Int32)) &&& 0x3f).toInt64.toUInt64).toInt64)))), .second, .unset, .unset, .unset, .unset, .unset] [(.long (F2 (((x1 &&& (9223372036854775807 : Int64)).toUInt64 >>> ((x3 &&& (63 : Int32)) &&& 0x3f).toInt64.toUInt64).toInt64) (((x2 &&& (9223372036854775807 : Int64)).toUInt64 >>> ((((x3.toUInt32 >>> ((6 : Int32) &&& 31).toUInt32).toInt32) &&& (63 : Int32)) &&& 0x3f).toInt64.toUInt64).toInt64))), (.long (F2 (1 : Int64) (F1 (((x1 &&& (9223372036854775807 : Int64)).toUInt64 >>> ((x3 &&& (63 : Int32)) &&& 0x3f).toInt64.toUInt64).toInt64) (((x2 &&& (9223372036854775807 : Int64)).toUInt64 >>> ((((x3.toUInt32 >>> ((6 : Int32) &&& 31).toUInt32).toInt32) &&& (63 : Int32)) &&& 0x3f).toInt64.toUInt64).toInt64))))])) _
    refine st4 _ ?_
    show Steps p.tables e below (T4.setTop (mkF m 54 #[.val (.long x1), .second, .val (.long x2), .second, .val (.int x3), .val (.int x4), .val (.long (((x1 &&& (9223372036854775807 : Int64)).toUInt64 >>> ((x3 &&& (63 : Int32)) &&& 0x3f).toInt64.toUInt64).toInt64)), .second, .val (.long (((x2 &&& (9223372036854775807 : Int64)).toUInt64 >>> ((((x3.toUInt32 >>> ((6 : Int32) &&& 31).toUInt32).toInt32) &&& (63 : Int32)) &&& 0x3f).toInt64.toUInt64).toInt64)), .second, .val (.long (F2 (1 : Int64) (F1 (((x1 &&& (9223372036854775807 : Int64)).toUInt64 >>> ((x3 &&& (63 : Int32)) &&& 0x3f).toInt64.toUInt64).toInt64) (((x2 &&& (9223372036854775807 : Int64)).toUInt64 >>> ((((x3.toUInt32 >>> ((6 : Int32) &&& 31).toUInt32).toInt32) &&& (63 : Int32)) &&& 0x3f).toInt64.toUInt64).toInt64)))), .second, .unset, .unset, .unset, .unset, .unset] [(.long (F2 (F2 (1 : Int64) (F1 (((x1 &&& (9223372036854775807 : Int64)).toUInt64 >>> ((x3 &&& (63 : Int32)) &&& 0x3f).toInt64.toUInt64).toInt64) (((x2 &&& (9223372036854775807 : Int64)).toUInt64 >>> ((((x3.toUInt32 >>> ((6 : Int32) &&& 31).toUInt32).toInt32) &&& (63 : Int32)) &&& 0x3f).toInt64.toUInt64).toInt64))) (F2 (((x1 &&& (9223372036854775807 : Int64)).toUInt64 >>> ((x3 &&& (63 : Int32)) &&& 0x3f).toInt64.toUInt64).toInt64) (((x2 &&& (9223372036854775807 : Int64)).toUInt64 >>> ((((x3.toUInt32 >>> ((6 : Int32) &&& 31).toUInt32).toInt32) &&& (63 : Int32)) &&& 0x3f).toInt64.toUInt64).toInt64))))])) _
    refine XS.lstore X4.here hx rfl (hb hby at_54) rfl (l' := #[.val (.long x1), .second, .val (.long x2), .second, .val (.int x3), .val (.int x4), .val (.long (((x1 &&& (9223372036854775807 : Int64)).toUInt64 >>> ((x3 &&& (63 : Int32)) &&& 0x3f).toInt64.toUInt64).toInt64)), .second, .val (.long (((x2 &&& (9223372036854775807 : Int64)).toUInt64 >>> ((((x3.toUInt32 >>> ((6 : Int32) &&& 31).toUInt32).toInt32) &&& (63 : Int32)) &&& 0x3f).toInt64.toUInt64).toInt64)), .second, .val (.long (F2 (1 : Int64) (F1 (((x1 &&& (9223372036854775807 : Int64)).toUInt64 >>> ((x3 &&& (63 : Int32)) &&& 0x3f).toInt64.toUInt64).toInt64) (((x2 &&& (9223372036854775807 : Int64)).toUInt64 >>> ((((x3.toUInt32 >>> ((6 : Int32) &&& 31).toUInt32).toInt32) &&& (63 : Int32)) &&& 0x3f).toInt64.toUInt64).toInt64)))), .second, .val (.long (F2 (F2 (1 : Int64) (F1 (((x1 &&& (9223372036854775807 : Int64)).toUInt64 >>> ((x3 &&& (63 : Int32)) &&& 0x3f).toInt64.toUInt64).toInt64) (((x2 &&& (9223372036854775807 : Int64)).toUInt64 >>> ((((x3.toUInt32 >>> ((6 : Int32) &&& 31).toUInt32).toInt32) &&& (63 : Int32)) &&& 0x3f).toInt64.toUInt64).toInt64))) (F2 (((x1 &&& (9223372036854775807 : Int64)).toUInt64 >>> ((x3 &&& (63 : Int32)) &&& 0x3f).toInt64.toUInt64).toInt64) (((x2 &&& (9223372036854775807 : Int64)).toUInt64 >>> ((((x3.toUInt32 >>> ((6 : Int32) &&& 31).toUInt32).toInt32) &&& (63 : Int32)) &&& 0x3f).toInt64.toUInt64).toInt64)))), .second, .unset, .unset, .unset]) rfl ?_
    show Steps p.tables e below (T4.setTop (mkF m 56 #[.val (.long x1), .second, .val (.long x2), .second, .val (.int x3), .val (.int x4), .val (.long (((x1 &&& (9223372036854775807 : Int64)).toUInt64 >>> ((x3 &&& (63 : Int32)) &&& 0x3f).toInt64.toUInt64).toInt64)), .second, .val (.long (((x2 &&& (9223372036854775807 : Int64)).toUInt64 >>> ((((x3.toUInt32 >>> ((6 : Int32) &&& 31).toUInt32).toInt32) &&& (63 : Int32)) &&& 0x3f).toInt64.toUInt64).toInt64)), .second, .val (.long (F2 (1 : Int64) (F1 (((x1 &&& (9223372036854775807 : Int64)).toUInt64 >>> ((x3 &&& (63 : Int32)) &&& 0x3f).toInt64.toUInt64).toInt64) (((x2 &&& (9223372036854775807 : Int64)).toUInt64 >>> ((((x3.toUInt32 >>> ((6 : Int32) &&& 31).toUInt32).toInt32) &&& (63 : Int32)) &&& 0x3f).toInt64.toUInt64).toInt64)))), .second, .val (.long (F2 (F2 (1 : Int64) (F1 (((x1 &&& (9223372036854775807 : Int64)).toUInt64 >>> ((x3 &&& (63 : Int32)) &&& 0x3f).toInt64.toUInt64).toInt64) (((x2 &&& (9223372036854775807 : Int64)).toUInt64 >>> ((((x3.toUInt32 >>> ((6 : Int32) &&& 31).toUInt32).toInt32) &&& (63 : Int32)) &&& 0x3f).toInt64.toUInt64).toInt64))) (F2 (((x1 &&& (9223372036854775807 : Int64)).toUInt64 >>> ((x3 &&& (63 : Int32)) &&& 0x3f).toInt64.toUInt64).toInt64) (((x2 &&& (9223372036854775807 : Int64)).toUInt64 >>> ((((x3.toUInt32 >>> ((6 : Int32) &&& 31).toUInt32).toInt32) &&& (63 : Int32)) &&& 0x3f).toInt64.toUInt64).toInt64)))), .second, .unset, .unset, .unset] [])) _
    refine st5 _ ?_
    show Steps p.tables e below (T5.setTop (mkF m 59 #[.val (.long x1), .second, .val (.long x2), .second, .val (.int x3), .val (.int x4), .val (.long (((x1 &&& (9223372036854775807 : Int64)).toUInt64 >>> ((x3 &&& (63 : Int32)) &&& 0x3f).toInt64.toUInt64).toInt64)), .second, .val (.long (((x2 &&& (9223372036854775807 : Int64)).toUInt64 >>> ((((x3.toUInt32 >>> ((6 : Int32) &&& 31).toUInt32).toInt32) &&& (63 : Int32)) &&& 0x3f).toInt64.toUInt64).toInt64)), .second, .val (.long (F2 (1 : Int64) (F1 (((x1 &&& (9223372036854775807 : Int64)).toUInt64 >>> ((x3 &&& (63 : Int32)) &&& 0x3f).toInt64.toUInt64).toInt64) (((x2 &&& (9223372036854775807 : Int64)).toUInt64 >>> ((((x3.toUInt32 >>> ((6 : Int32) &&& 31).toUInt32).toInt32) &&& (63 : Int32)) &&& 0x3f).toInt64.toUInt64).toInt64)))), .second, .val (.long (F2 (F2 (1 : Int64) (F1 (((x1 &&& (9223372036854775807 : Int64)).toUInt64 >>> ((x3 &&& (63 : Int32)) &&& 0x3f).toInt64.toUInt64).toInt64) (((x2 &&& (9223372036854775807 : Int64)).toUInt64 >>> ((((x3.toUInt32 >>> ((6 : Int32) &&& 31).toUInt32).toInt32) &&& (63 : Int32)) &&& 0x3f).toInt64.toUInt64).toInt64))) (F2 (((x1 &&& (9223372036854775807 : Int64)).toUInt64 >>> ((x3 &&& (63 : Int32)) &&& 0x3f).toInt64.toUInt64).toInt64) (((x2 &&& (9223372036854775807 : Int64)).toUInt64 >>> ((((x3.toUInt32 >>> ((6 : Int32) &&& 31).toUInt32).toInt32) &&& (63 : Int32)) &&& 0x3f).toInt64.toUInt64).toInt64)))), .second, .unset, .unset, .unset] [(.ref b5)])) _
    refine XS.dup X5.here hx rfl (hb hby at_59) rfl rfl ?_
    show Steps p.tables e below (T5.setTop (mkF m 60 #[.val (.long x1), .second, .val (.long x2), .second, .val (.int x3), .val (.int x4), .val (.long (((x1 &&& (9223372036854775807 : Int64)).toUInt64 >>> ((x3 &&& (63 : Int32)) &&& 0x3f).toInt64.toUInt64).toInt64)), .second, .val (.long (((x2 &&& (9223372036854775807 : Int64)).toUInt64 >>> ((((x3.toUInt32 >>> ((6 : Int32) &&& 31).toUInt32).toInt32) &&& (63 : Int32)) &&& 0x3f).toInt64.toUInt64).toInt64)), .second, .val (.long (F2 (1 : Int64) (F1 (((x1 &&& (9223372036854775807 : Int64)).toUInt64 >>> ((x3 &&& (63 : Int32)) &&& 0x3f).toInt64.toUInt64).toInt64) (((x2 &&& (9223372036854775807 : Int64)).toUInt64 >>> ((((x3.toUInt32 >>> ((6 : Int32) &&& 31).toUInt32).toInt32) &&& (63 : Int32)) &&& 0x3f).toInt64.toUInt64).toInt64)))), .second, .val (.long (F2 (F2 (1 : Int64) (F1 (((x1 &&& (9223372036854775807 : Int64)).toUInt64 >>> ((x3 &&& (63 : Int32)) &&& 0x3f).toInt64.toUInt64).toInt64) (((x2 &&& (9223372036854775807 : Int64)).toUInt64 >>> ((((x3.toUInt32 >>> ((6 : Int32) &&& 31).toUInt32).toInt32) &&& (63 : Int32)) &&& 0x3f).toInt64.toUInt64).toInt64))) (F2 (((x1 &&& (9223372036854775807 : Int64)).toUInt64 >>> ((x3 &&& (63 : Int32)) &&& 0x3f).toInt64.toUInt64).toInt64) (((x2 &&& (9223372036854775807 : Int64)).toUInt64 >>> ((((x3.toUInt32 >>> ((6 : Int32) &&& 31).toUInt32).toInt32) &&& (63 : Int32)) &&& 0x3f).toInt64.toUInt64).toInt64)))), .second, .unset, .unset, .unset] [(.ref b5), (.ref b5)])) _
    refine XS.lload X5.here hx rfl (hb hby at_60) rfl ?_
    show Steps p.tables e below (T5.setTop (mkF m 62 #[.val (.long x1), .second, .val (.long x2), .second, .val (.int x3), .val (.int x4), .val (.long (((x1 &&& (9223372036854775807 : Int64)).toUInt64 >>> ((x3 &&& (63 : Int32)) &&& 0x3f).toInt64.toUInt64).toInt64)), .second, .val (.long (((x2 &&& (9223372036854775807 : Int64)).toUInt64 >>> ((((x3.toUInt32 >>> ((6 : Int32) &&& 31).toUInt32).toInt32) &&& (63 : Int32)) &&& 0x3f).toInt64.toUInt64).toInt64)), .second, .val (.long (F2 (1 : Int64) (F1 (((x1 &&& (9223372036854775807 : Int64)).toUInt64 >>> ((x3 &&& (63 : Int32)) &&& 0x3f).toInt64.toUInt64).toInt64) (((x2 &&& (9223372036854775807 : Int64)).toUInt64 >>> ((((x3.toUInt32 >>> ((6 : Int32) &&& 31).toUInt32).toInt32) &&& (63 : Int32)) &&& 0x3f).toInt64.toUInt64).toInt64)))), .second, .val (.long (F2 (F2 (1 : Int64) (F1 (((x1 &&& (9223372036854775807 : Int64)).toUInt64 >>> ((x3 &&& (63 : Int32)) &&& 0x3f).toInt64.toUInt64).toInt64) (((x2 &&& (9223372036854775807 : Int64)).toUInt64 >>> ((((x3.toUInt32 >>> ((6 : Int32) &&& 31).toUInt32).toInt32) &&& (63 : Int32)) &&& 0x3f).toInt64.toUInt64).toInt64))) (F2 (((x1 &&& (9223372036854775807 : Int64)).toUInt64 >>> ((x3 &&& (63 : Int32)) &&& 0x3f).toInt64.toUInt64).toInt64) (((x2 &&& (9223372036854775807 : Int64)).toUInt64 >>> ((((x3.toUInt32 >>> ((6 : Int32) &&& 31).toUInt32).toInt32) &&& (63 : Int32)) &&& 0x3f).toInt64.toUInt64).toInt64)))), .second, .unset, .unset, .unset] [(.long (F2 (1 : Int64) (F1 (((x1 &&& (9223372036854775807 : Int64)).toUInt64 >>> ((x3 &&& (63 : Int32)) &&& 0x3f).toInt64.toUInt64).toInt64) (((x2 &&& (9223372036854775807 : Int64)).toUInt64 >>> ((((x3.toUInt32 >>> ((6 : Int32) &&& 31).toUInt32).toInt32) &&& (63 : Int32)) &&& 0x3f).toInt64.toUInt64).toInt64)))), (.ref b5), (.ref b5)])) _
    refine XS.lload X5.here hx rfl (hb hby at_62) rfl ?_
    show Steps p.tables e below (T5.setTop (mkF m 64 #[.val (.long x1), .second, .val (.long x2), .second, .val (.int x3), .val (.int x4), .val (.long (((x1 &&& (9223372036854775807 : Int64)).toUInt64 >>> ((x3 &&& (63 : Int32)) &&& 0x3f).toInt64.toUInt64).toInt64)), .second, .val (.long (((x2 &&& (9223372036854775807 : Int64)).toUInt64 >>> ((((x3.toUInt32 >>> ((6 : Int32) &&& 31).toUInt32).toInt32) &&& (63 : Int32)) &&& 0x3f).toInt64.toUInt64).toInt64)), .second, .val (.long (F2 (1 : Int64) (F1 (((x1 &&& (9223372036854775807 : Int64)).toUInt64 >>> ((x3 &&& (63 : Int32)) &&& 0x3f).toInt64.toUInt64).toInt64) (((x2 &&& (9223372036854775807 : Int64)).toUInt64 >>> ((((x3.toUInt32 >>> ((6 : Int32) &&& 31).toUInt32).toInt32) &&& (63 : Int32)) &&& 0x3f).toInt64.toUInt64).toInt64)))), .second, .val (.long (F2 (F2 (1 : Int64) (F1 (((x1 &&& (9223372036854775807 : Int64)).toUInt64 >>> ((x3 &&& (63 : Int32)) &&& 0x3f).toInt64.toUInt64).toInt64) (((x2 &&& (9223372036854775807 : Int64)).toUInt64 >>> ((((x3.toUInt32 >>> ((6 : Int32) &&& 31).toUInt32).toInt32) &&& (63 : Int32)) &&& 0x3f).toInt64.toUInt64).toInt64))) (F2 (((x1 &&& (9223372036854775807 : Int64)).toUInt64 >>> ((x3 &&& (63 : Int32)) &&& 0x3f).toInt64.toUInt64).toInt64) (((x2 &&& (9223372036854775807 : Int64)).toUInt64 >>> ((((x3.toUInt32 >>> ((6 : Int32) &&& 31).toUInt32).toInt32) &&& (63 : Int32)) &&& 0x3f).toInt64.toUInt64).toInt64)))), .second, .unset, .unset, .unset] [(.long (F2 (F2 (1 : Int64) (F1 (((x1 &&& (9223372036854775807 : Int64)).toUInt64 >>> ((x3 &&& (63 : Int32)) &&& 0x3f).toInt64.toUInt64).toInt64) (((x2 &&& (9223372036854775807 : Int64)).toUInt64 >>> ((((x3.toUInt32 >>> ((6 : Int32) &&& 31).toUInt32).toInt32) &&& (63 : Int32)) &&& 0x3f).toInt64.toUInt64).toInt64))) (F2 (((x1 &&& (9223372036854775807 : Int64)).toUInt64 >>> ((x3 &&& (63 : Int32)) &&& 0x3f).toInt64.toUInt64).toInt64) (((x2 &&& (9223372036854775807 : Int64)).toUInt64 >>> ((((x3.toUInt32 >>> ((6 : Int32) &&& 31).toUInt32).toInt32) &&& (63 : Int32)) &&& 0x3f).toInt64.toUInt64).toInt64)))), (.long (F2 (1 : Int64) (F1 (((x1 &&& (9223372036854775807 : Int64)).toUInt64 >>> ((x3 &&& (63 : Int32)) &&& 0x3f).toInt64.toUInt64).toInt64) (((x2 &&& (9223372036854775807 : Int64)).toUInt64 >>> ((((x3.toUInt32 >>> ((6 : Int32) &&& 31).toUInt32).toInt32) &&& (63 : Int32)) &&& 0x3f).toInt64.toUInt64).toInt64)))), (.ref b5), (.ref b5)])) _
    refine st7.trans ?_
    show Steps p.tables e below (T7.setTop (mkF m 67 #[.val (.long x1), .second, .val (.long x2), .second, .val (.int x3), .val (.int x4), .val (.long (((x1 &&& (9223372036854775807 : Int64)).toUInt64 >>> ((x3 &&& (63 : Int32)) &&& 0x3f).toInt64.toUInt64).toInt64)), .second, .val (.long (((x2 &&& (9223372036854775807 : Int64)).toUInt64 >>> ((((x3.toUInt32 >>> ((6 : Int32) &&& 31).toUInt32).toInt32) &&& (63 : Int32)) &&& 0x3f).toInt64.toUInt64).toInt64)), .second, .val (.long (F2 (1 : Int64) (F1 (((x1 &&& (9223372036854775807 : Int64)).toUInt64 >>> ((x3 &&& (63 : Int32)) &&& 0x3f).toInt64.toUInt64).toInt64) (((x2 &&& (9223372036854775807 : Int64)).toUInt64 >>> ((((x3.toUInt32 >>> ((6 : Int32) &&& 31).toUInt32).toInt32) &&& (63 : Int32)) &&& 0x3f).toInt64.toUInt64).toInt64)))), .second, .val (.long (F2 (F2 (1 : Int64) (F1 (((x1 &&& (9223372036854775807 : Int64)).toUInt64 >>> ((x3 &&& (63 : Int32)) &&& 0x3f).toInt64.toUInt64).toInt64) (((x2 &&& (9223372036854775807 : Int64)).toUInt64 >>> ((((x3.toUInt32 >>> ((6 : Int32) &&& 31).toUInt32).toInt32) &&& (63 : Int32)) &&& 0x3f).toInt64.toUInt64).toInt64))) (F2 (((x1 &&& (9223372036854775807 : Int64)).toUInt64 >>> ((x3 &&& (63 : Int32)) &&& 0x3f).toInt64.toUInt64).toInt64) (((x2 &&& (9223372036854775807 : Int64)).toUInt64 >>> ((((x3.toUInt32 >>> ((6 : Int32) &&& 31).toUInt32).toInt32) &&& (63 : Int32)) &&& 0x3f).toInt64.toUInt64).toInt64)))), .second, .unset, .unset, .unset] [(.ref b5)])) _
    refine XS.astore X7.here hx rfl (hb hby at_67) rfl rfl (l' := #[.val (.long x1), .second, .val (.long x2), .second, .val (.int x3), .val (.int x4), .val (.long (((x1 &&& (9223372036854775807 : Int64)).toUInt64 >>> ((x3 &&& (63 : Int32)) &&& 0x3f).toInt64.toUInt64).toInt64)), .second, .val (.long (((x2 &&& (9223372036854775807 : Int64)).toUInt64 >>> ((((x3.toUInt32 >>> ((6 : Int32) &&& 31).toUInt32).toInt32) &&& (63 : Int32)) &&& 0x3f).toInt64.toUInt64).toInt64)), .second, .val (.long (F2 (1 : Int64) (F1 (((x1 &&& (9223372036854775807 : Int64)).toUInt64 >>> ((x3 &&& (63 : Int32)) &&& 0x3f).toInt64.toUInt64).toInt64) (((x2 &&& (9223372036854775807 : Int64)).toUInt64 >>> ((((x3.toUInt32 >>> ((6 : Int32) &&& 31).toUInt32).toInt32) &&& (63 : Int32)) &&& 0x3f).toInt64.toUInt64).toInt64)))), .second, .val (.long (F2 (F2 (1 : Int64) (F1 (((x1 &&& (9223372036854775807 : Int64)).toUInt64 >>> ((x3 &&& (63 : Int32)) &&& 0x3f).toInt64.toUInt64).toInt64) (((x2 &&& (9223372036854775807 : Int64)).toUInt64 >>> ((((x3.toUInt32 >>> ((6 : Int32) &&& 31).toUInt32).toInt32) &&& (63 : Int32)) &&& 0x3f).toInt64.toUInt64).toInt64))) (F2 (((x1 &&& (9223372036854775807 : Int64)).toUInt64 >>> ((x3 &&& (63 : Int32)) &&& 0x3f).toInt64.toUInt64).toInt64) (((x2 &&& (9223372036854775807 : Int64)).toUInt64 >>> ((((x3.toUInt32 >>> ((6 : Int32) &&& 31).toUInt32).toInt32) &&& (63 : Int32)) &&& 0x3f).toInt64.toUInt64).toInt64)))), .second, .val (.ref b5), .unset, .unset]) rfl ?_
    show Steps p.tables e below (T7.setTop (mkF m 69 #[.val (.long x1), .second, .val (.long x2), .second, .val (.int x3), .val (.int x4), .val (.long (((x1 &&& (9223372036854775807 : Int64)).toUInt64 >>> ((x3 &&& (63 : Int32)) &&& 0x3f).toInt64.toUInt64).toInt64)), .second, .val (.long (((x2 &&& (9223372036854775807 : Int64)).toUInt64 >>> ((((x3.toUInt32 >>> ((6 : Int32) &&& 31).toUInt32).toInt32) &&& (63 : Int32)) &&& 0x3f).toInt64.toUInt64).toInt64)), .second, .val (.long (F2 (1 : Int64) (F1 (((x1 &&& (9223372036854775807 : Int64)).toUInt64 >>> ((x3 &&& (63 : Int32)) &&& 0x3f).toInt64.toUInt64).toInt64) (((x2 &&& (9223372036854775807 : Int64)).toUInt64 >>> ((((x3.toUInt32 >>> ((6 : Int32) &&& 31).toUInt32).toInt32) &&& (63 : Int32)) &&& 0x3f).toInt64.toUInt64).toInt64)))), .second, .val (.long (F2 (F2 (1 : Int64) (F1 (((x1 &&& (9223372036854775807 : Int64)).toUInt64 >>> ((x3 &&& (63 : Int32)) &&& 0x3f).toInt64.toUInt64).toInt64) (((x2 &&& (9223372036854775807 : Int64)).toUInt64 >>> ((((x3.toUInt32 >>> ((6 : Int32) &&& 31).toUInt32).toInt32) &&& (63 : Int32)) &&& 0x3f).toInt64.toUInt64).toInt64))) (F2 (((x1 &&& (9223372036854775807 : Int64)).toUInt64 >>> ((x3 &&& (63 : Int32)) &&& 0x3f).toInt64.toUInt64).toInt64) (((x2 &&& (9223372036854775807 : Int64)).toUInt64 >>> ((((x3.toUInt32 >>> ((6 : Int32) &&& 31).toUInt32).toInt32) &&& (63 : Int32)) &&& 0x3f).toInt64.toUInt64).toInt64)))), .second, .val (.ref b5), .unset, .unset] [])) _
    refine XS.aload X7.here hx rfl (hb hby at_69) rfl rfl ?_
    show Steps p.tables e below (T7.setTop (mkF m 71 #[.val (.long x1), .second, .val (.long x2), .second, .val (.int x3), .val (.int x4), .val (.long (((x1 &&& (9223372036854775807 : Int64)).toUInt64 >>> ((x3 &&& (63 : Int32)) &&& 0x3f).toInt64.toUInt64).toInt64)), .second, .val (.long (((x2 &&& (9223372036854775807 : Int64)).toUInt64 >>> ((((x3.toUInt32 >>> ((6 : Int32) &&& 31).toUInt32).toInt32) &&& (63 : Int32)) &&& 0x3f).toInt64.toUInt64).toInt64)), .second, .val (.long (F2 (1 : Int64) (F1 (((x1 &&& (9223372036854775807 : Int64)).toUInt64 >>> ((x3 &&& (63 : Int32)) &&& 0x3f).toInt64.toUInt64).toInt64) (((x2 &&& (9223372036854775807 : Int64)).toUInt64 >>> ((((x3.toUInt32 >>> ((6 : Int32) &&& 31).toUInt32).toInt32) &&& (63 : Int32)) &&& 0x3f).toInt64.toUInt64).toInt64)))), .second, .val (.long (F2 (F2 (1 : Int64) (F1 (((x1 &&& (9223372036854775807 : Int64)).toUInt64 >>> ((x3 &&& (63 : Int32)) &&& 0x3f).toInt64.toUInt64).toInt64) (((x2 &&& (9223372036854775807 : Int64)).toUInt64 >>> ((((x3.toUInt32 >>> ((6 : Int32) &&& 31).toUInt32).toInt32) &&& (63 : Int32)) &&& 0x3f).toInt64.toUInt64).toInt64))) (F2 (((x1 &&& (9223372036854775807 : Int64)).toUInt64 >>> ((x3 &&& (63 : Int32)) &&& 0x3f).toInt64.toUInt64).toInt64) (((x2 &&& (9223372036854775807 : Int64)).toUInt64 >>> ((((x3.toUInt32 >>> ((6 : Int32) &&& 31).toUInt32).toInt32) &&& (63 : Int32)) &&& 0x3f).toInt64.toUInt64).toInt64)))), .second, .val (.ref b5), .unset, .unset] [(.ref b5)])) _
    refine XS.iload X7.here hx rfl (hb hby at_71) rfl ?_
    show Steps p.tables e below (T7.setTop (mkF m 73 #[.val (.long x1), .second, .val (.long x2), .second, .val (.int x3), .val (.int x4), .val (.long (((x1 &&& (9223372036854775807 : Int64)).toUInt64 >>> ((x3 &&& (63 : Int32)) &&& 0x3f).toInt64.toUInt64).toInt64)), .second, .val (.long (((x2 &&& (9223372036854775807 : Int64)).toUInt64 >>> ((((x3.toUInt32 >>> ((6 : Int32) &&& 31).toUInt32).toInt32) &&& (63 : Int32)) &&& 0x3f).toInt64.toUInt64).toInt64)), .second, .val (.long (F2 (1 : Int64) (F1 (((x1 &&& (9223372036854775807 : Int64)).toUInt64 >>> ((x3 &&& (63 : Int32)) &&& 0x3f).toInt64.toUInt64).toInt64) (((x2 &&& (9223372036854775807 : Int64)).toUInt64 >>> ((((x3.toUInt32 >>> ((6 : Int32) &&& 31).toUInt32).toInt32) &&& (63 : Int32)) &&& 0x3f).toInt64.toUInt64).toInt64)))), .second, .val (.long (F2 (F2 (1 : Int64) (F1 (((x1 &&& (9223372036854775807 : Int64)).toUInt64 >>> ((x3 &&& (63 : Int32)) &&& 0x3f).toInt64.toUInt64).toInt64) (((x2 &&& (9223372036854775807 : Int64)).toUInt64 >>> ((((x3.toUInt32 >>> ((6 : Int32) &&& 31).toUInt32).toInt32) &&& (63 : Int32)) &&& 0x3f).toInt64.toUInt64).toInt64))) (F2 (((x1 &&& (9223372036854775807 : Int64)).toUInt64 >>> ((x3 &&& (63 : Int32)) &&& 0x3f).toInt64.toUInt64).toInt64) (((x2 &&& (9223372036854775807 : Int64)).toUInt64 >>> ((((x3.toUInt32 >>> ((6 : Int32) &&& 31).toUInt32).toInt32) &&& (63 : Int32)) &&& 0x3f).toInt64.toUInt64).toInt64)))), .second, .val (.ref b5), .unset, .unset] [(.int x4), (.ref b5)])) _
    refine st12.trans ?_
    show Steps p.tables e below (T12.setTop (mkF m 76 #[.val (.long x1), .second, .val (.long x2), .second, .val (.int x3), .val (.int x4), .val (.long (((x1 &&& (9223372036854775807 : Int64)).toUInt64 >>> ((x3 &&& (63 : Int32)) &&& 0x3f).toInt64.toUInt64).toInt64)), .second, .val (.long (((x2 &&& (9223372036854775807 : Int64)).toUInt64 >>> ((((x3.toUInt32 >>> ((6 : Int32) &&& 31).toUInt32).toInt32) &&& (63 : Int32)) &&& 0x3f).toInt64.toUInt64).toInt64)), .second, .val (.long (F2 (1 : Int64) (F1 (((x1 &&& (9223372036854775807 : Int64)).toUInt64 >>> ((x3 &&& (63 : Int32)) &&& 0x3f).toInt64.toUInt64).toInt64) (((x2 &&& (9223372036854775807 : Int64)).toUInt64 >>> ((((x3.toUInt32 >>> ((6 : Int32) &&& 31).toUInt32).toInt32) &&& (63 : Int32)) &&& 0x3f).toInt64.toUInt64).toInt64)))), .second, .val (.long (F2 (F2 (1 : Int64) (F1 (((x1 &&& (9223372036854775807 : Int64)).toUInt64 >>> ((x3 &&& (63 : Int32)) &&& 0x3f).toInt64.toUInt64).toInt64) (((x2 &&& (9223372036854775807 : Int64)).toUInt64 >>> ((((x3.toUInt32 >>> ((6 : Int32) &&& 31).toUInt32).toInt32) &&& (63 : Int32)) &&& 0x3f).toInt64.toUInt64).toInt64))) (F2 (((x1 &&& (9223372036854775807 : Int64)).toUInt64 >>> ((x3 &&& (63 : Int32)) &&& 0x3f).toInt64.toUInt64).toInt64) (((x2 &&& (9223372036854775807 : Int64)).toUInt64 >>> ((((x3.toUInt32 >>> ((6 : Int32) &&& 31).toUInt32).toInt32) &&& (63 : Int32)) &&& 0x3f).toInt64.toUInt64).toInt64)))), .second, .val (.ref b5), .unset, .unset] [(.long (own_run ((F2 (F2 (1 : Int64) (F1 (((x1 &&& (9223372036854775807 : Int64)).toUInt64 >>> ((x3 &&& (63 : Int32)) &&& 0x3f).toInt64.toUInt64).toInt64) (((x2 &&& (9223372036854775807 : Int64)).toUInt64 >>> ((((x3.toUInt32 >>> ((6 : Int32) &&& 31).toUInt32).toInt32) &&& (63 : Int32)) &&& 0x3f).toInt64.toUInt64).toInt64))) (F2 (((x1 &&& (9223372036854775807 : Int64)).toUInt64 >>> ((x3 &&& (63 : Int32)) &&& 0x3f).toInt64.toUInt64).toInt64) (((x2 &&& (9223372036854775807 : Int64)).toUInt64 >>> ((((x3.toUInt32 >>> ((6 : Int32) &&& 31).toUInt32).toInt32) &&& (63 : Int32)) &&& 0x3f).toInt64.toUInt64).toInt64)))) x4 (x4.toNatClampNeg) ((F2 (1 : Int64) (F1 (((x1 &&& (9223372036854775807 : Int64)).toUInt64 >>> ((x3 &&& (63 : Int32)) &&& 0x3f).toInt64.toUInt64).toInt64) (((x2 &&& (9223372036854775807 : Int64)).toUInt64 >>> ((((x3.toUInt32 >>> ((6 : Int32) &&& 31).toUInt32).toInt32) &&& (63 : Int32)) &&& 0x3f).toInt64.toUInt64).toInt64)))) 0))])) _
    refine XS.lstore X12.here hx rfl (hb hby at_76) rfl (l' := #[.val (.long x1), .second, .val (.long x2), .second, .val (.int x3), .val (.int x4), .val (.long (((x1 &&& (9223372036854775807 : Int64)).toUInt64 >>> ((x3 &&& (63 : Int32)) &&& 0x3f).toInt64.toUInt64).toInt64)), .second, .val (.long (((x2 &&& (9223372036854775807 : Int64)).toUInt64 >>> ((((x3.toUInt32 >>> ((6 : Int32) &&& 31).toUInt32).toInt32) &&& (63 : Int32)) &&& 0x3f).toInt64.toUInt64).toInt64)), .second, .val (.long (F2 (1 : Int64) (F1 (((x1 &&& (9223372036854775807 : Int64)).toUInt64 >>> ((x3 &&& (63 : Int32)) &&& 0x3f).toInt64.toUInt64).toInt64) (((x2 &&& (9223372036854775807 : Int64)).toUInt64 >>> ((((x3.toUInt32 >>> ((6 : Int32) &&& 31).toUInt32).toInt32) &&& (63 : Int32)) &&& 0x3f).toInt64.toUInt64).toInt64)))), .second, .val (.long (F2 (F2 (1 : Int64) (F1 (((x1 &&& (9223372036854775807 : Int64)).toUInt64 >>> ((x3 &&& (63 : Int32)) &&& 0x3f).toInt64.toUInt64).toInt64) (((x2 &&& (9223372036854775807 : Int64)).toUInt64 >>> ((((x3.toUInt32 >>> ((6 : Int32) &&& 31).toUInt32).toInt32) &&& (63 : Int32)) &&& 0x3f).toInt64.toUInt64).toInt64))) (F2 (((x1 &&& (9223372036854775807 : Int64)).toUInt64 >>> ((x3 &&& (63 : Int32)) &&& 0x3f).toInt64.toUInt64).toInt64) (((x2 &&& (9223372036854775807 : Int64)).toUInt64 >>> ((((x3.toUInt32 >>> ((6 : Int32) &&& 31).toUInt32).toInt32) &&& (63 : Int32)) &&& 0x3f).toInt64.toUInt64).toInt64)))), .second, .val (.ref b5), .val (.long (own_run ((F2 (F2 (1 : Int64) (F1 (((x1 &&& (9223372036854775807 : Int64)).toUInt64 >>> ((x3 &&& (63 : Int32)) &&& 0x3f).toInt64.toUInt64).toInt64) (((x2 &&& (9223372036854775807 : Int64)).toUInt64 >>> ((((x3.toUInt32 >>> ((6 : Int32) &&& 31).toUInt32).toInt32) &&& (63 : Int32)) &&& 0x3f).toInt64.toUInt64).toInt64))) (F2 (((x1 &&& (9223372036854775807 : Int64)).toUInt64 >>> ((x3 &&& (63 : Int32)) &&& 0x3f).toInt64.toUInt64).toInt64) (((x2 &&& (9223372036854775807 : Int64)).toUInt64 >>> ((((x3.toUInt32 >>> ((6 : Int32) &&& 31).toUInt32).toInt32) &&& (63 : Int32)) &&& 0x3f).toInt64.toUInt64).toInt64)))) x4 (x4.toNatClampNeg) ((F2 (1 : Int64) (F1 (((x1 &&& (9223372036854775807 : Int64)).toUInt64 >>> ((x3 &&& (63 : Int32)) &&& 0x3f).toInt64.toUInt64).toInt64) (((x2 &&& (9223372036854775807 : Int64)).toUInt64 >>> ((((x3.toUInt32 >>> ((6 : Int32) &&& 31).toUInt32).toInt32) &&& (63 : Int32)) &&& 0x3f).toInt64.toUInt64).toInt64)))) 0)), .second]) rfl ?_
    show Steps p.tables e below (T12.setTop (mkF m 78 #[.val (.long x1), .second, .val (.long x2), .second, .val (.int x3), .val (.int x4), .val (.long (((x1 &&& (9223372036854775807 : Int64)).toUInt64 >>> ((x3 &&& (63 : Int32)) &&& 0x3f).toInt64.toUInt64).toInt64)), .second, .val (.long (((x2 &&& (9223372036854775807 : Int64)).toUInt64 >>> ((((x3.toUInt32 >>> ((6 : Int32) &&& 31).toUInt32).toInt32) &&& (63 : Int32)) &&& 0x3f).toInt64.toUInt64).toInt64)), .second, .val (.long (F2 (1 : Int64) (F1 (((x1 &&& (9223372036854775807 : Int64)).toUInt64 >>> ((x3 &&& (63 : Int32)) &&& 0x3f).toInt64.toUInt64).toInt64) (((x2 &&& (9223372036854775807 : Int64)).toUInt64 >>> ((((x3.toUInt32 >>> ((6 : Int32) &&& 31).toUInt32).toInt32) &&& (63 : Int32)) &&& 0x3f).toInt64.toUInt64).toInt64)))), .second, .val (.long (F2 (F2 (1 : Int64) (F1 (((x1 &&& (9223372036854775807 : Int64)).toUInt64 >>> ((x3 &&& (63 : Int32)) &&& 0x3f).toInt64.toUInt64).toInt64) (((x2 &&& (9223372036854775807 : Int64)).toUInt64 >>> ((((x3.toUInt32 >>> ((6 : Int32) &&& 31).toUInt32).toInt32) &&& (63 : Int32)) &&& 0x3f).toInt64.toUInt64).toInt64))) (F2 (((x1 &&& (9223372036854775807 : Int64)).toUInt64 >>> ((x3 &&& (63 : Int32)) &&& 0x3f).toInt64.toUInt64).toInt64) (((x2 &&& (9223372036854775807 : Int64)).toUInt64 >>> ((((x3.toUInt32 >>> ((6 : Int32) &&& 31).toUInt32).toInt32) &&& (63 : Int32)) &&& 0x3f).toInt64.toUInt64).toInt64)))), .second, .val (.ref b5), .val (.long (own_run ((F2 (F2 (1 : Int64) (F1 (((x1 &&& (9223372036854775807 : Int64)).toUInt64 >>> ((x3 &&& (63 : Int32)) &&& 0x3f).toInt64.toUInt64).toInt64) (((x2 &&& (9223372036854775807 : Int64)).toUInt64 >>> ((((x3.toUInt32 >>> ((6 : Int32) &&& 31).toUInt32).toInt32) &&& (63 : Int32)) &&& 0x3f).toInt64.toUInt64).toInt64))) (F2 (((x1 &&& (9223372036854775807 : Int64)).toUInt64 >>> ((x3 &&& (63 : Int32)) &&& 0x3f).toInt64.toUInt64).toInt64) (((x2 &&& (9223372036854775807 : Int64)).toUInt64 >>> ((((x3.toUInt32 >>> ((6 : Int32) &&& 31).toUInt32).toInt32) &&& (63 : Int32)) &&& 0x3f).toInt64.toUInt64).toInt64)))) x4 (x4.toNatClampNeg) ((F2 (1 : Int64) (F1 (((x1 &&& (9223372036854775807 : Int64)).toUInt64 >>> ((x3 &&& (63 : Int32)) &&& 0x3f).toInt64.toUInt64).toInt64) (((x2 &&& (9223372036854775807 : Int64)).toUInt64 >>> ((((x3.toUInt32 >>> ((6 : Int32) &&& 31).toUInt32).toInt32) &&& (63 : Int32)) &&& 0x3f).toInt64.toUInt64).toInt64)))) 0)), .second] [])) _
    refine XS.lload X12.here hx rfl (hb hby at_78) rfl ?_
    show Steps p.tables e below (T12.setTop (mkF m 80 #[.val (.long x1), .second, .val (.long x2), .second, .val (.int x3), .val (.int x4), .val (.long (((x1 &&& (9223372036854775807 : Int64)).toUInt64 >>> ((x3 &&& (63 : Int32)) &&& 0x3f).toInt64.toUInt64).toInt64)), .second, .val (.long (((x2 &&& (9223372036854775807 : Int64)).toUInt64 >>> ((((x3.toUInt32 >>> ((6 : Int32) &&& 31).toUInt32).toInt32) &&& (63 : Int32)) &&& 0x3f).toInt64.toUInt64).toInt64)), .second, .val (.long (F2 (1 : Int64) (F1 (((x1 &&& (9223372036854775807 : Int64)).toUInt64 >>> ((x3 &&& (63 : Int32)) &&& 0x3f).toInt64.toUInt64).toInt64) (((x2 &&& (9223372036854775807 : Int64)).toUInt64 >>> ((((x3.toUInt32 >>> ((6 : Int32) &&& 31).toUInt32).toInt32) &&& (63 : Int32)) &&& 0x3f).toInt64.toUInt64).toInt64)))), .second, .val (.long (F2 (F2 (1 : Int64) (F1 (((x1 &&& (9223372036854775807 : Int64)).toUInt64 >>> ((x3 &&& (63 : Int32)) &&& 0x3f).toInt64.toUInt64).toInt64) (((x2 &&& (9223372036854775807 : Int64)).toUInt64 >>> ((((x3.toUInt32 >>> ((6 : Int32) &&& 31).toUInt32).toInt32) &&& (63 : Int32)) &&& 0x3f).toInt64.toUInt64).toInt64))) (F2 (((x1 &&& (9223372036854775807 : Int64)).toUInt64 >>> ((x3 &&& (63 : Int32)) &&& 0x3f).toInt64.toUInt64).toInt64) (((x2 &&& (9223372036854775807 : Int64)).toUInt64 >>> ((((x3.toUInt32 >>> ((6 : Int32) &&& 31).toUInt32).toInt32) &&& (63 : Int32)) &&& 0x3f).toInt64.toUInt64).toInt64)))), .second, .val (.ref b5), .val (.long (own_run ((F2 (F2 (1 : Int64) (F1 (((x1 &&& (9223372036854775807 : Int64)).toUInt64 >>> ((x3 &&& (63 : Int32)) &&& 0x3f).toInt64.toUInt64).toInt64) (((x2 &&& (9223372036854775807 : Int64)).toUInt64 >>> ((((x3.toUInt32 >>> ((6 : Int32) &&& 31).toUInt32).toInt32) &&& (63 : Int32)) &&& 0x3f).toInt64.toUInt64).toInt64))) (F2 (((x1 &&& (9223372036854775807 : Int64)).toUInt64 >>> ((x3 &&& (63 : Int32)) &&& 0x3f).toInt64.toUInt64).toInt64) (((x2 &&& (9223372036854775807 : Int64)).toUInt64 >>> ((((x3.toUInt32 >>> ((6 : Int32) &&& 31).toUInt32).toInt32) &&& (63 : Int32)) &&& 0x3f).toInt64.toUInt64).toInt64)))) x4 (x4.toNatClampNeg) ((F2 (1 : Int64) (F1 (((x1 &&& (9223372036854775807 : Int64)).toUInt64 >>> ((x3 &&& (63 : Int32)) &&& 0x3f).toInt64.toUInt64).toInt64) (((x2 &&& (9223372036854775807 : Int64)).toUInt64 >>> ((((x3.toUInt32 >>> ((6 : Int32) &&& 31).toUInt32).toInt32) &&& (63 : Int32)) &&& 0x3f).toInt64.toUInt64).toInt64)))) 0)), .second] [(.long (own_run ((F2 (F2 (1 : Int64) (F1 (((x1 &&& (9223372036854775807 : Int64)).toUInt64 >>> ((x3 &&& (63 : Int32)) &&& 0x3f).toInt64.toUInt64).toInt64) (((x2 &&& (9223372036854775807 : Int64)).toUInt64 >>> ((((x3.toUInt32 >>> ((6 : Int32) &&& 31).toUInt32).toInt32) &&& (63 : Int32)) &&& 0x3f).toInt64.toUInt64).toInt64))) (F2 (((x1 &&& (9223372036854775807 : Int64)).toUInt64 >>> ((x3 &&& (63 : Int32)) &&& 0x3f).toInt64.toUInt64).toInt64) (((x2 &&& (9223372036854775807 : Int64)).toUInt64 >>> ((((x3.toUInt32 >>> ((6 : Int32) &&& 31).toUInt32).toInt32) &&& (63 : Int32)) &&& 0x3f).toInt64.toUInt64).toInt64)))) x4 (x4.toNatClampNeg) ((F2 (1 : Int64) (F1 (((x1 &&& (9223372036854775807 : Int64)).toUInt64 >>> ((x3 &&& (63 : Int32)) &&& 0x3f).toInt64.toUInt64).toInt64) (((x2 &&& (9223372036854775807 : Int64)).toUInt64 >>> ((((x3.toUInt32 >>> ((6 : Int32) &&& 31).toUInt32).toInt32) &&& (63 : Int32)) &&& 0x3f).toInt64.toUInt64).toInt64)))) 0))])) _
    refine XS.lload X12.here hx rfl (hb hby at_80) rfl ?_
    show Steps p.tables e below (T12.setTop (mkF m 82 #[.val (.long x1), .second, .val (.long x2), .second, .val (.int x3), .val (.int x4), .val (.long (((x1 &&& (9223372036854775807 : Int64)).toUInt64 >>> ((x3 &&& (63 : Int32)) &&& 0x3f).toInt64.toUInt64).toInt64)), .second, .val (.long (((x2 &&& (9223372036854775807 : Int64)).toUInt64 >>> ((((x3.toUInt32 >>> ((6 : Int32) &&& 31).toUInt32).toInt32) &&& (63 : Int32)) &&& 0x3f).toInt64.toUInt64).toInt64)), .second, .val (.long (F2 (1 : Int64) (F1 (((x1 &&& (9223372036854775807 : Int64)).toUInt64 >>> ((x3 &&& (63 : Int32)) &&& 0x3f).toInt64.toUInt64).toInt64) (((x2 &&& (9223372036854775807 : Int64)).toUInt64 >>> ((((x3.toUInt32 >>> ((6 : Int32) &&& 31).toUInt32).toInt32) &&& (63 : Int32)) &&& 0x3f).toInt64.toUInt64).toInt64)))), .second, .val (.long (F2 (F2 (1 : Int64) (F1 (((x1 &&& (9223372036854775807 : Int64)).toUInt64 >>> ((x3 &&& (63 : Int32)) &&& 0x3f).toInt64.toUInt64).toInt64) (((x2 &&& (9223372036854775807 : Int64)).toUInt64 >>> ((((x3.toUInt32 >>> ((6 : Int32) &&& 31).toUInt32).toInt32) &&& (63 : Int32)) &&& 0x3f).toInt64.toUInt64).toInt64))) (F2 (((x1 &&& (9223372036854775807 : Int64)).toUInt64 >>> ((x3 &&& (63 : Int32)) &&& 0x3f).toInt64.toUInt64).toInt64) (((x2 &&& (9223372036854775807 : Int64)).toUInt64 >>> ((((x3.toUInt32 >>> ((6 : Int32) &&& 31).toUInt32).toInt32) &&& (63 : Int32)) &&& 0x3f).toInt64.toUInt64).toInt64)))), .second, .val (.ref b5), .val (.long (own_run ((F2 (F2 (1 : Int64) (F1 (((x1 &&& (9223372036854775807 : Int64)).toUInt64 >>> ((x3 &&& (63 : Int32)) &&& 0x3f).toInt64.toUInt64).toInt64) (((x2 &&& (9223372036854775807 : Int64)).toUInt64 >>> ((((x3.toUInt32 >>> ((6 : Int32) &&& 31).toUInt32).toInt32) &&& (63 : Int32)) &&& 0x3f).toInt64.toUInt64).toInt64))) (F2 (((x1 &&& (9223372036854775807 : Int64)).toUInt64 >>> ((x3 &&& (63 : Int32)) &&& 0x3f).toInt64.toUInt64).toInt64) (((x2 &&& (9223372036854775807 : Int64)).toUInt64 >>> ((((x3.toUInt32 >>> ((6 : Int32) &&& 31).toUInt32).toInt32) &&& (63 : Int32)) &&& 0x3f).toInt64.toUInt64).toInt64)))) x4 (x4.toNatClampNeg) ((F2 (1 : Int64) (F1 (((x1 &&& (9223372036854775807 : Int64)).toUInt64 >>> ((x3 &&& (63 : Int32)) &&& 0x3f).toInt64.toUInt64).toInt64) (((x2 &&& (9223372036854775807 : Int64)).toUInt64 >>> ((((x3.toUInt32 >>> ((6 : Int32) &&& 31).toUInt32).toInt32) &&& (63 : Int32)) &&& 0x3f).toInt64.toUInt64).toInt64)))) 0)), .second] [(.long (F2 (1 : Int64) (F1 (((x1 &&& (9223372036854775807 : Int64)).toUInt64 >>> ((x3 &&& (63 : Int32)) &&& 0x3f).toInt64.toUInt64).toInt64) (((x2 &&& (9223372036854775807 : Int64)).toUInt64 >>> ((((x3.toUInt32 >>> ((6 : Int32) &&& 31).toUInt32).toInt32) &&& (63 : Int32)) &&& 0x3f).toInt64.toUInt64).toInt64)))), (.long (own_run ((F2 (F2 (1 : Int64) (F1 (((x1 &&& (9223372036854775807 : Int64)).toUInt64 >>> ((x3 &&& (63 : Int32)) &&& 0x3f).toInt64.toUInt64).toInt64) (((x2 &&& (9223372036854775807 : Int64)).toUInt64 >>> ((((x3.toUInt32 >>> ((6 : Int32) &&& 31).toUInt32).toInt32) &&& (63 : Int32)) &&& 0x3f).toInt64.toUInt64).toInt64))) (F2 (((x1 &&& (9223372036854775807 : Int64)).toUInt64 >>> ((x3 &&& (63 : Int32)) &&& 0x3f).toInt64.toUInt64).toInt64) (((x2 &&& (9223372036854775807 : Int64)).toUInt64 >>> ((((x3.toUInt32 >>> ((6 : Int32) &&& 31).toUInt32).toInt32) &&& (63 : Int32)) &&& 0x3f).toInt64.toUInt64).toInt64)))) x4 (x4.toNatClampNeg) ((F2 (1 : Int64) (F1 (((x1 &&& (9223372036854775807 : Int64)).toUInt64 >>> ((x3 &&& (63 : Int32)) &&& 0x3f).toInt64.toUInt64).toInt64) (((x2 &&& (9223372036854775807 : Int64)).toUInt64 >>> ((((x3.toUInt32 >>> ((6 : Int32) &&& 31).toUInt32).toInt32) &&& (63 : Int32)) &&& 0x3f).toInt64.toUInt64).toInt64)))) 0))])) _
    refine XS.lload X12.here hx rfl (hb hby at_82) rfl ?_
    show Steps p.tables e below (T12.setTop (mkF m 84 #[.val (.long x1), .second, .val (.long x2), .second, .val (.int x3), .val (.int x4), .val (.long (((x1 &&& (9223372036854775807 : Int64)).toUInt64 >>> ((x3 &&& (63 : Int32)) &&& 0x3f).toInt64.toUInt64).toInt64)), .second, .val (.long (((x2 &&& (9223372036854775807 : Int64)).toUInt64 >>> ((((x3.toUInt32 >>> ((6 : Int32) &&& 31).toUInt32).toInt32) &&& (63 : Int32)) &&& 0x3f).toInt64.toUInt64).toInt64)), .second, .val (.long (F2 (1 : Int64) (F1 (((x1 &&& (9223372036854775807 : Int64)).toUInt64 >>> ((x3 &&& (63 : Int32)) &&& 0x3f).toInt64.toUInt64).toInt64) (((x2 &&& (9223372036854775807 : Int64)).toUInt64 >>> ((((x3.toUInt32 >>> ((6 : Int32) &&& 31).toUInt32).toInt32) &&& (63 : Int32)) &&& 0x3f).toInt64.toUInt64).toInt64)))), .second, .val (.long (F2 (F2 (1 : Int64) (F1 (((x1 &&& (9223372036854775807 : Int64)).toUInt64 >>> ((x3 &&& (63 : Int32)) &&& 0x3f).toInt64.toUInt64).toInt64) (((x2 &&& (9223372036854775807 : Int64)).toUInt64 >>> ((((x3.toUInt32 >>> ((6 : Int32) &&& 31).toUInt32).toInt32) &&& (63 : Int32)) &&& 0x3f).toInt64.toUInt64).toInt64))) (F2 (((x1 &&& (9223372036854775807 : Int64)).toUInt64 >>> ((x3 &&& (63 : Int32)) &&& 0x3f).toInt64.toUInt64).toInt64) (((x2 &&& (9223372036854775807 : Int64)).toUInt64 >>> ((((x3.toUInt32 >>> ((6 : Int32) &&& 31).toUInt32).toInt32) &&& (63 : Int32)) &&& 0x3f).toInt64.toUInt64).toInt64)))), .second, .val (.ref b5), .val (.long (own_run ((F2 (F2 (1 : Int64) (F1 (((x1 &&& (9223372036854775807 : Int64)).toUInt64 >>> ((x3 &&& (63 : Int32)) &&& 0x3f).toInt64.toUInt64).toInt64) (((x2 &&& (9223372036854775807 : Int64)).toUInt64 >>> ((((x3.toUInt32 >>> ((6 : Int32) &&& 31).toUInt32).toInt32) &&& (63 : Int32)) &&& 0x3f).toInt64.toUInt64).toInt64))) (F2 (((x1 &&& (9223372036854775807 : Int64)).toUInt64 >>> ((x3 &&& (63 : Int32)) &&& 0x3f).toInt64.toUInt64).toInt64) (((x2 &&& (9223372036854775807 : Int64)).toUInt64 >>> ((((x3.toUInt32 >>> ((6 : Int32) &&& 31).toUInt32).toInt32) &&& (63 : Int32)) &&& 0x3f).toInt64.toUInt64).toInt64)))) x4 (x4.toNatClampNeg) ((F2 (1 : Int64) (F1 (((x1 &&& (9223372036854775807 : Int64)).toUInt64 >>> ((x3 &&& (63 : Int32)) &&& 0x3f).toInt64.toUInt64).toInt64) (((x2 &&& (9223372036854775807 : Int64)).toUInt64 >>> ((((x3.toUInt32 >>> ((6 : Int32) &&& 31).toUInt32).toInt32) &&& (63 : Int32)) &&& 0x3f).toInt64.toUInt64).toInt64)))) 0)), .second] [(.long (F2 (F2 (1 : Int64) (F1 (((x1 &&& (9223372036854775807 : Int64)).toUInt64 >>> ((x3 &&& (63 : Int32)) &&& 0x3f).toInt64.toUInt64).toInt64) (((x2 &&& (9223372036854775807 : Int64)).toUInt64 >>> ((((x3.toUInt32 >>> ((6 : Int32) &&& 31).toUInt32).toInt32) &&& (63 : Int32)) &&& 0x3f).toInt64.toUInt64).toInt64))) (F2 (((x1 &&& (9223372036854775807 : Int64)).toUInt64 >>> ((x3 &&& (63 : Int32)) &&& 0x3f).toInt64.toUInt64).toInt64) (((x2 &&& (9223372036854775807 : Int64)).toUInt64 >>> ((((x3.toUInt32 >>> ((6 : Int32) &&& 31).toUInt32).toInt32) &&& (63 : Int32)) &&& 0x3f).toInt64.toUInt64).toInt64)))), (.long (F2 (1 : Int64) (F1 (((x1 &&& (9223372036854775807 : Int64)).toUInt64 >>> ((x3 &&& (63 : Int32)) &&& 0x3f).toInt64.toUInt64).toInt64) (((x2 &&& (9223372036854775807 : Int64)).toUInt64 >>> ((((x3.toUInt32 >>> ((6 : Int32) &&& 31).toUInt32).toInt32) &&& (63 : Int32)) &&& 0x3f).toInt64.toUInt64).toInt64)))), (.long (own_run ((F2 (F2 (1 : Int64) (F1 (((x1 &&& (9223372036854775807 : Int64)).toUInt64 >>> ((x3 &&& (63 : Int32)) &&& 0x3f).toInt64.toUInt64).toInt64) (((x2 &&& (9223372036854775807 : Int64)).toUInt64 >>> ((((x3.toUInt32 >>> ((6 : Int32) &&& 31).toUInt32).toInt32) &&& (63 : Int32)) &&& 0x3f).toInt64.toUInt64).toInt64))) (F2 (((x1 &&& (9223372036854775807 : Int64)).toUInt64 >>> ((x3 &&& (63 : Int32)) &&& 0x3f).toInt64.toUInt64).toInt64) (((x2 &&& (9223372036854775807 : Int64)).toUInt64 >>> ((((x3.toUInt32 >>> ((6 : Int32) &&& 31).toUInt32).toInt32) &&& (63 : Int32)) &&& 0x3f).toInt64.toUInt64).toInt64)))) x4 (x4.toNatClampNeg) ((F2 (1 : Int64) (F1 (((x1 &&& (9223372036854775807 : Int64)).toUInt64 >>> ((x3 &&& (63 : Int32)) &&& 0x3f).toInt64.toUInt64).toInt64) (((x2 &&& (9223372036854775807 : Int64)).toUInt64 >>> ((((x3.toUInt32 >>> ((6 : Int32) &&& 31).toUInt32).toInt32) &&& (63 : Int32)) &&& 0x3f).toInt64.toUInt64).toInt64)))) 0))])) _
    refine XS.iload X12.here hx rfl (hb hby at_84) rfl ?_
    show Steps p.tables e below (T12.setTop (mkF m 86 #[.val (.long x1), .second, .val (.long x2), .second, .val (.int x3), .val (.int x4), .val (.long (((x1 &&& (9223372036854775807 : Int64)).toUInt64 >>> ((x3 &&& (63 : Int32)) &&& 0x3f).toInt64.toUInt64).toInt64)), .second, .val (.long (((x2 &&& (9223372036854775807 : Int64)).toUInt64 >>> ((((x3.toUInt32 >>> ((6 : Int32) &&& 31).toUInt32).toInt32) &&& (63 : Int32)) &&& 0x3f).toInt64.toUInt64).toInt64)), .second, .val (.long (F2 (1 : Int64) (F1 (((x1 &&& (9223372036854775807 : Int64)).toUInt64 >>> ((x3 &&& (63 : Int32)) &&& 0x3f).toInt64.toUInt64).toInt64) (((x2 &&& (9223372036854775807 : Int64)).toUInt64 >>> ((((x3.toUInt32 >>> ((6 : Int32) &&& 31).toUInt32).toInt32) &&& (63 : Int32)) &&& 0x3f).toInt64.toUInt64).toInt64)))), .second, .val (.long (F2 (F2 (1 : Int64) (F1 (((x1 &&& (9223372036854775807 : Int64)).toUInt64 >>> ((x3 &&& (63 : Int32)) &&& 0x3f).toInt64.toUInt64).toInt64) (((x2 &&& (9223372036854775807 : Int64)).toUInt64 >>> ((((x3.toUInt32 >>> ((6 : Int32) &&& 31).toUInt32).toInt32) &&& (63 : Int32)) &&& 0x3f).toInt64.toUInt64).toInt64))) (F2 (((x1 &&& (9223372036854775807 : Int64)).toUInt64 >>> ((x3 &&& (63 : Int32)) &&& 0x3f).toInt64.toUInt64).toInt64) (((x2 &&& (9223372036854775807 : Int64)).toUInt64 >>> ((((x3.toUInt32 >>> ((6 : Int32) &&& 31).toUInt32).toInt32) &&& (63 : Int32)) &&& 0x3f).toInt64.toUInt64).toInt64)))), .second, .val (.ref b5), .val (.long (own_run ((F2 (F2 (1 : Int64) (F1 (((x1 &&& (9223372036854775807 : Int64)).toUInt64 >>> ((x3 &&& (63 : Int32)) &&& 0x3f).toInt64.toUInt64).toInt64) (((x2 &&& (9223372036854775807 : Int64)).toUInt64 >>> ((((x3.toUInt32 >>> ((6 : Int32) &&& 31).toUInt32).toInt32) &&& (63 : Int32)) &&& 0x3f).toInt64.toUInt64).toInt64))) (F2 (((x1 &&& (9223372036854775807 : Int64)).toUInt64 >>> ((x3 &&& (63 : Int32)) &&& 0x3f).toInt64.toUInt64).toInt64) (((x2 &&& (9223372036854775807 : Int64)).toUInt64 >>> ((((x3.toUInt32 >>> ((6 : Int32) &&& 31).toUInt32).toInt32) &&& (63 : Int32)) &&& 0x3f).toInt64.toUInt64).toInt64)))) x4 (x4.toNatClampNeg) ((F2 (1 : Int64) (F1 (((x1 &&& (9223372036854775807 : Int64)).toUInt64 >>> ((x3 &&& (63 : Int32)) &&& 0x3f).toInt64.toUInt64).toInt64) (((x2 &&& (9223372036854775807 : Int64)).toUInt64 >>> ((((x3.toUInt32 >>> ((6 : Int32) &&& 31).toUInt32).toInt32) &&& (63 : Int32)) &&& 0x3f).toInt64.toUInt64).toInt64)))) 0)), .second] [(.int x4), (.long (F2 (F2 (1 : Int64) (F1 (((x1 &&& (9223372036854775807 : Int64)).toUInt64 >>> ((x3 &&& (63 : Int32)) &&& 0x3f).toInt64.toUInt64).toInt64) (((x2 &&& (9223372036854775807 : Int64)).toUInt64 >>> ((((x3.toUInt32 >>> ((6 : Int32) &&& 31).toUInt32).toInt32) &&& (63 : Int32)) &&& 0x3f).toInt64.toUInt64).toInt64))) (F2 (((x1 &&& (9223372036854775807 : Int64)).toUInt64 >>> ((x3 &&& (63 : Int32)) &&& 0x3f).toInt64.toUInt64).toInt64) (((x2 &&& (9223372036854775807 : Int64)).toUInt64 >>> ((((x3.toUInt32 >>> ((6 : Int32) &&& 31).toUInt32).toInt32) &&& (63 : Int32)) &&& 0x3f).toInt64.toUInt64).toInt64)))), (.long (F2 (1 : Int64) (F1 (((x1 &&& (9223372036854775807 : Int64)).toUInt64 >>> ((x3 &&& (63 : Int32)) &&& 0x3f).toInt64.toUInt64).toInt64) (((x2 &&& (9223372036854775807 : Int64)).toUInt64 >>> ((((x3.toUInt32 >>> ((6 : Int32) &&& 31).toUInt32).toInt32) &&& (63 : Int32)) &&& 0x3f).toInt64.toUInt64).toInt64)))), (.long (own_run ((F2 (F2 (1 : Int64) (F1 (((x1 &&& (9223372036854775807 : Int64)).toUInt64 >>> ((x3 &&& (63 : Int32)) &&& 0x3f).toInt64.toUInt64).toInt64) (((x2 &&& (9223372036854775807 : Int64)).toUInt64 >>> ((((x3.toUInt32 >>> ((6 : Int32) &&& 31).toUInt32).toInt32) &&& (63 : Int32)) &&& 0x3f).toInt64.toUInt64).toInt64))) (F2 (((x1 &&& (9223372036854775807 : Int64)).toUInt64 >>> ((x3 &&& (63 : Int32)) &&& 0x3f).toInt64.toUInt64).toInt64) (((x2 &&& (9223372036854775807 : Int64)).toUInt64 >>> ((((x3.toUInt32 >>> ((6 : Int32) &&& 31).toUInt32).toInt32) &&& (63 : Int32)) &&& 0x3f).toInt64.toUInt64).toInt64)))) x4 (x4.toNatClampNeg) ((F2 (1 : Int64) (F1 (((x1 &&& (9223372036854775807 : Int64)).toUInt64 >>> ((x3 &&& (63 : Int32)) &&& 0x3f).toInt64.toUInt64).toInt64) (((x2 &&& (9223372036854775807 : Int64)).toUInt64 >>> ((((x3.toUInt32 >>> ((6 : Int32) &&& 31).toUInt32).toInt32) &&& (63 : Int32)) &&& 0x3f).toInt64.toUInt64).toInt64)))) 0))])) _
    refine st13 _ ?_
    show Steps p.tables e below (T13.setTop (mkF m 89 #[.val (.long x1), .second, .val (.long x2), .second, .val (.int x3), .val (.int x4), .val (.long (((x1 &&& (9223372036854775807 : Int64)).toUInt64 >>> ((x3 &&& (63 : Int32)) &&& 0x3f).toInt64.toUInt64).toInt64)), .second, .val (.long (((x2 &&& (9223372036854775807 : Int64)).toUInt64 >>> ((((x3.toUInt32 >>> ((6 : Int32) &&& 31).toUInt32).toInt32) &&& (63 : Int32)) &&& 0x3f).toInt64.toUInt64).toInt64)), .second, .val (.long (F2 (1 : Int64) (F1 (((x1 &&& (9223372036854775807 : Int64)).toUInt64 >>> ((x3 &&& (63 : Int32)) &&& 0x3f).toInt64.toUInt64).toInt64) (((x2 &&& (9223372036854775807 : Int64)).toUInt64 >>> ((((x3.toUInt32 >>> ((6 : Int32) &&& 31).toUInt32).toInt32) &&& (63 : Int32)) &&& 0x3f).toInt64.toUInt64).toInt64)))), .second, .val (.long (F2 (F2 (1 : Int64) (F1 (((x1 &&& (9223372036854775807 : Int64)).toUInt64 >>> ((x3 &&& (63 : Int32)) &&& 0x3f).toInt64.toUInt64).toInt64) (((x2 &&& (9223372036854775807 : Int64)).toUInt64 >>> ((((x3.toUInt32 >>> ((6 : Int32) &&& 31).toUInt32).toInt32) &&& (63 : Int32)) &&& 0x3f).toInt64.toUInt64).toInt64))) (F2 (((x1 &&& (9223372036854775807 : Int64)).toUInt64 >>> ((x3 &&& (63 : Int32)) &&& 0x3f).toInt64.toUInt64).toInt64) (((x2 &&& (9223372036854775807 : Int64)).toUInt64 >>> ((((x3.toUInt32 >>> ((6 : Int32) &&& 31).toUInt32).toInt32) &&& (63 : Int32)) &&& 0x3f).toInt64.toUInt64).toInt64)))), .second, .val (.ref b5), .val (.long (own_run ((F2 (F2 (1 : Int64) (F1 (((x1 &&& (9223372036854775807 : Int64)).toUInt64 >>> ((x3 &&& (63 : Int32)) &&& 0x3f).toInt64.toUInt64).toInt64) (((x2 &&& (9223372036854775807 : Int64)).toUInt64 >>> ((((x3.toUInt32 >>> ((6 : Int32) &&& 31).toUInt32).toInt32) &&& (63 : Int32)) &&& 0x3f).toInt64.toUInt64).toInt64))) (F2 (((x1 &&& (9223372036854775807 : Int64)).toUInt64 >>> ((x3 &&& (63 : Int32)) &&& 0x3f).toInt64.toUInt64).toInt64) (((x2 &&& (9223372036854775807 : Int64)).toUInt64 >>> ((((x3.toUInt32 >>> ((6 : Int32) &&& 31).toUInt32).toInt32) &&& (63 : Int32)) &&& 0x3f).toInt64.toUInt64).toInt64)))) x4 (x4.toNatClampNeg) ((F2 (1 : Int64) (F1 (((x1 &&& (9223372036854775807 : Int64)).toUInt64 >>> ((x3 &&& (63 : Int32)) &&& 0x3f).toInt64.toUInt64).toInt64) (((x2 &&& (9223372036854775807 : Int64)).toUInt64 >>> ((((x3.toUInt32 >>> ((6 : Int32) &&& 31).toUInt32).toInt32) &&& (63 : Int32)) &&& 0x3f).toInt64.toUInt64).toInt64)))) 0)), .second] [(.long (F7 (F2 (1 : Int64) (F1 (((x1 &&& (9223372036854775807 : Int64)).toUInt64 >>> ((x3 &&& (63 : Int32)) &&& 0x3f).toInt64.toUInt64).toInt64) (((x2 &&& (9223372036854775807 : Int64)).toUInt64 >>> ((((x3.toUInt32 >>> ((6 : Int32) &&& 31).toUInt32).toInt32) &&& (63 : Int32)) &&& 0x3f).toInt64.toUInt64).toInt64))) (F2 (F2 (1 : Int64) (F1 (((x1 &&& (9223372036854775807 : Int64)).toUInt64 >>> ((x3 &&& (63 : Int32)) &&& 0x3f).toInt64.toUInt64).toInt64) (((x2 &&& (9223372036854775807 : Int64)).toUInt64 >>> ((((x3.toUInt32 >>> ((6 : Int32) &&& 31).toUInt32).toInt32) &&& (63 : Int32)) &&& 0x3f).toInt64.toUInt64).toInt64))) (F2 (((x1 &&& (9223372036854775807 : Int64)).toUInt64 >>> ((x3 &&& (63 : Int32)) &&& 0x3f).toInt64.toUInt64).toInt64) (((x2 &&& (9223372036854775807 : Int64)).toUInt64 >>> ((((x3.toUInt32 >>> ((6 : Int32) &&& 31).toUInt32).toInt32) &&& (63 : Int32)) &&& 0x3f).toInt64.toUInt64).toInt64))) x4)), (.long (own_run ((F2 (F2 (1 : Int64) (F1 (((x1 &&& (9223372036854775807 : Int64)).toUInt64 >>> ((x3 &&& (63 : Int32)) &&& 0x3f).toInt64.toUInt64).toInt64) (((x2 &&& (9223372036854775807 : Int64)).toUInt64 >>> ((((x3.toUInt32 >>> ((6 : Int32) &&& 31).toUInt32).toInt32) &&& (63 : Int32)) &&& 0x3f).toInt64.toUInt64).toInt64))) (F2 (((x1 &&& (9223372036854775807 : Int64)).toUInt64 >>> ((x3 &&& (63 : Int32)) &&& 0x3f).toInt64.toUInt64).toInt64) (((x2 &&& (9223372036854775807 : Int64)).toUInt64 >>> ((((x3.toUInt32 >>> ((6 : Int32) &&& 31).toUInt32).toInt32) &&& (63 : Int32)) &&& 0x3f).toInt64.toUInt64).toInt64)))) x4 (x4.toNatClampNeg) ((F2 (1 : Int64) (F1 (((x1 &&& (9223372036854775807 : Int64)).toUInt64 >>> ((x3 &&& (63 : Int32)) &&& 0x3f).toInt64.toUInt64).toInt64) (((x2 &&& (9223372036854775807 : Int64)).toUInt64 >>> ((((x3.toUInt32 >>> ((6 : Int32) &&& 31).toUInt32).toInt32) &&& (63 : Int32)) &&& 0x3f).toInt64.toUInt64).toInt64)))) 0))])) _
    refine XS.lcmp X13.here hx rfl (hb hby at_89) rfl ?_
    show Steps p.tables e below (T13.setTop (mkF m 90 #[.val (.long x1), .second, .val (.long x2), .second, .val (.int x3), .val (.int x4), .val (.long (((x1 &&& (9223372036854775807 : Int64)).toUInt64 >>> ((x3 &&& (63 : Int32)) &&& 0x3f).toInt64.toUInt64).toInt64)), .second, .val (.long (((x2 &&& (9223372036854775807 : Int64)).toUInt64 >>> ((((x3.toUInt32 >>> ((6 : Int32) &&& 31).toUInt32).toInt32) &&& (63 : Int32)) &&& 0x3f).toInt64.toUInt64).toInt64)), .second, .val (.long (F2 (1 : Int64) (F1 (((x1 &&& (9223372036854775807 : Int64)).toUInt64 >>> ((x3 &&& (63 : Int32)) &&& 0x3f).toInt64.toUInt64).toInt64) (((x2 &&& (9223372036854775807 : Int64)).toUInt64 >>> ((((x3.toUInt32 >>> ((6 : Int32) &&& 31).toUInt32).toInt32) &&& (63 : Int32)) &&& 0x3f).toInt64.toUInt64).toInt64)))), .second, .val (.long (F2 (F2 (1 : Int64) (F1 (((x1 &&& (9223372036854775807 : Int64)).toUInt64 >>> ((x3 &&& (63 : Int32)) &&& 0x3f).toInt64.toUInt64).toInt64) (((x2 &&& (9223372036854775807 : Int64)).toUInt64 >>> ((((x3.toUInt32 >>> ((6 : Int32) &&& 31).toUInt32).toInt32) &&& (63 : Int32)) &&& 0x3f).toInt64.toUInt64).toInt64))) (F2 (((x1 &&& (9223372036854775807 : Int64)).toUInt64 >>> ((x3 &&& (63 : Int32)) &&& 0x3f).toInt64.toUInt64).toInt64) (((x2 &&& (9223372036854775807 : Int64)).toUInt64 >>> ((((x3.toUInt32 >>> ((6 : Int32) &&& 31).toUInt32).toInt32) &&& (63 : Int32)) &&& 0x3f).toInt64.toUInt64).toInt64)))), .second, .val (.ref b5), .val (.long (own_run ((F2 (F2 (1 : Int64) (F1 (((x1 &&& (9223372036854775807 : Int64)).toUInt64 >>> ((x3 &&& (63 : Int32)) &&& 0x3f).toInt64.toUInt64).toInt64) (((x2 &&& (9223372036854775807 : Int64)).toUInt64 >>> ((((x3.toUInt32 >>> ((6 : Int32) &&& 31).toUInt32).toInt32) &&& (63 : Int32)) &&& 0x3f).toInt64.toUInt64).toInt64))) (F2 (((x1 &&& (9223372036854775807 : Int64)).toUInt64 >>> ((x3 &&& (63 : Int32)) &&& 0x3f).toInt64.toUInt64).toInt64) (((x2 &&& (9223372036854775807 : Int64)).toUInt64 >>> ((((x3.toUInt32 >>> ((6 : Int32) &&& 31).toUInt32).toInt32) &&& (63 : Int32)) &&& 0x3f).toInt64.toUInt64).toInt64)))) x4 (x4.toNatClampNeg) ((F2 (1 : Int64) (F1 (((x1 &&& (9223372036854775807 : Int64)).toUInt64 >>> ((x3 &&& (63 : Int32)) &&& 0x3f).toInt64.toUInt64).toInt64) (((x2 &&& (9223372036854775807 : Int64)).toUInt64 >>> ((((x3.toUInt32 >>> ((6 : Int32) &&& 31).toUInt32).toInt32) &&& (63 : Int32)) &&& 0x3f).toInt64.toUInt64).toInt64)))) 0)), .second] [(.int (lcmpW (own_run ((F2 (F2 (1 : Int64) (F1 (((x1 &&& (9223372036854775807 : Int64)).toUInt64 >>> ((x3 &&& (63 : Int32)) &&& 0x3f).toInt64.toUInt64).toInt64) (((x2 &&& (9223372036854775807 : Int64)).toUInt64 >>> ((((x3.toUInt32 >>> ((6 : Int32) &&& 31).toUInt32).toInt32) &&& (63 : Int32)) &&& 0x3f).toInt64.toUInt64).toInt64))) (F2 (((x1 &&& (9223372036854775807 : Int64)).toUInt64 >>> ((x3 &&& (63 : Int32)) &&& 0x3f).toInt64.toUInt64).toInt64) (((x2 &&& (9223372036854775807 : Int64)).toUInt64 >>> ((((x3.toUInt32 >>> ((6 : Int32) &&& 31).toUInt32).toInt32) &&& (63 : Int32)) &&& 0x3f).toInt64.toUInt64).toInt64)))) x4 (x4.toNatClampNeg) ((F2 (1 : Int64) (F1 (((x1 &&& (9223372036854775807 : Int64)).toUInt64 >>> ((x3 &&& (63 : Int32)) &&& 0x3f).toInt64.toUInt64).toInt64) (((x2 &&& (9223372036854775807 : Int64)).toUInt64 >>> ((((x3.toUInt32 >>> ((6 : Int32) &&& 31).toUInt32).toInt32) &&& (63 : Int32)) &&& 0x3f).toInt64.toUInt64).toInt64)))) 0) (F7 (F2 (1 : Int64) (F1 (((x1 &&& (9223372036854775807 : Int64)).toUInt64 >>> ((x3 &&& (63 : Int32)) &&& 0x3f).toInt64.toUInt64).toInt64) (((x2 &&& (9223372036854775807 : Int64)).toUInt64 >>> ((((x3.toUInt32 >>> ((6 : Int32) &&& 31).toUInt32).toInt32) &&& (63 : Int32)) &&& 0x3f).toInt64.toUInt64).toInt64))) (F2 (F2 (1 : Int64) (F1 (((x1 &&& (9223372036854775807 : Int64)).toUInt64 >>> ((x3 &&& (63 : Int32)) &&& 0x3f).toInt64.toUInt64).toInt64) (((x2 &&& (9223372036854775807 : Int64)).toUInt64 >>> ((((x3.toUInt32 >>> ((6 : Int32) &&& 31).toUInt32).toInt32) &&& (63 : Int32)) &&& 0x3f).toInt64.toUInt64).toInt64))) (F2 (((x1 &&& (9223372036854775807 : Int64)).toUInt64 >>> ((x3 &&& (63 : Int32)) &&& 0x3f).toInt64.toUInt64).toInt64) (((x2 &&& (9223372036854775807 : Int64)).toUInt64 >>> ((((x3.toUInt32 >>> ((6 : Int32) &&& 31).toUInt32).toInt32) &&& (63 : Int32)) &&& 0x3f).toInt64.toUInt64).toInt64))) x4)))])) _
    refine own_dia (u := ((1 : Int32) : Int32)) (v := (0 : Int32)) ((own_run ((F2 (F2 (1 : Int64) (F1 (((x1 &&& (9223372036854775807 : Int64)).toUInt64 >>> ((x3 &&& (63 : Int32)) &&& 0x3f).toInt64.toUInt64).toInt64) (((x2 &&& (9223372036854775807 : Int64)).toUInt64 >>> ((((x3.toUInt32 >>> ((6 : Int32) &&& 31).toUInt32).toInt32) &&& (63 : Int32)) &&& 0x3f).toInt64.toUInt64).toInt64))) (F2 (((x1 &&& (9223372036854775807 : Int64)).toUInt64 >>> ((x3 &&& (63 : Int32)) &&& 0x3f).toInt64.toUInt64).toInt64) (((x2 &&& (9223372036854775807 : Int64)).toUInt64 >>> ((((x3.toUInt32 >>> ((6 : Int32) &&& 31).toUInt32).toInt32) &&& (63 : Int32)) &&& 0x3f).toInt64.toUInt64).toInt64)))) x4 (x4.toNatClampNeg) ((F2 (1 : Int64) (F1 (((x1 &&& (9223372036854775807 : Int64)).toUInt64 >>> ((x3 &&& (63 : Int32)) &&& 0x3f).toInt64.toUInt64).toInt64) (((x2 &&& (9223372036854775807 : Int64)).toUInt64 >>> ((((x3.toUInt32 >>> ((6 : Int32) &&& 31).toUInt32).toInt32) &&& (63 : Int32)) &&& 0x3f).toInt64.toUInt64).toInt64)))) 0) = (F7 (F2 (1 : Int64) (F1 (((x1 &&& (9223372036854775807 : Int64)).toUInt64 >>> ((x3 &&& (63 : Int32)) &&& 0x3f).toInt64.toUInt64).toInt64) (((x2 &&& (9223372036854775807 : Int64)).toUInt64 >>> ((((x3.toUInt32 >>> ((6 : Int32) &&& 31).toUInt32).toInt32) &&& (63 : Int32)) &&& 0x3f).toInt64.toUInt64).toInt64))) (F2 (F2 (1 : Int64) (F1 (((x1 &&& (9223372036854775807 : Int64)).toUInt64 >>> ((x3 &&& (63 : Int32)) &&& 0x3f).toInt64.toUInt64).toInt64) (((x2 &&& (9223372036854775807 : Int64)).toUInt64 >>> ((((x3.toUInt32 >>> ((6 : Int32) &&& 31).toUInt32).toInt32) &&& (63 : Int32)) &&& 0x3f).toInt64.toUInt64).toInt64))) (F2 (((x1 &&& (9223372036854775807 : Int64)).toUInt64 >>> ((x3 &&& (63 : Int32)) &&& 0x3f).toInt64.toUInt64).toInt64) (((x2 &&& (9223372036854775807 : Int64)).toUInt64 >>> ((((x3.toUInt32 >>> ((6 : Int32) &&& 31).toUInt32).toInt32) &&& (63 : Int32)) &&& 0x3f).toInt64.toUInt64).toInt64))) x4)) (fun z14 => (mkF m 98 #[.val (.long x1), .second, .val (.long x2), .second, .val (.int x3), .val (.int x4), .val (.long (((x1 &&& (9223372036854775807 : Int64)).toUInt64 >>> ((x3 &&& (63 : Int32)) &&& 0x3f).toInt64.toUInt64).toInt64)), .second, .val (.long (((x2 &&& (9223372036854775807 : Int64)).toUInt64 >>> ((((x3.toUInt32 >>> ((6 : Int32) &&& 31).toUInt32).toInt32) &&& (63 : Int32)) &&& 0x3f).toInt64.toUInt64).toInt64)), .second, .val (.long (F2 (1 : Int64) (F1 (((x1 &&& (9223372036854775807 : Int64)).toUInt64 >>> ((x3 &&& (63 : Int32)) &&& 0x3f).toInt64.toUInt64).toInt64) (((x2 &&& (9223372036854775807 : Int64)).toUInt64 >>> ((((x3.toUInt32 >>> ((6 : Int32) &&& 31).toUInt32).toInt32) &&& (63 : Int32)) &&& 0x3f).toInt64.toUInt64).toInt64)))), .second, .val (.long (F2 (F2 (1 : Int64) (F1 (((x1 &&& (9223372036854775807 : Int64)).toUInt64 >>> ((x3 &&& (63 : Int32)) &&& 0x3f).toInt64.toUInt64).toInt64) (((x2 &&& (9223372036854775807 : Int64)).toUInt64 >>> ((((x3.toUInt32 >>> ((6 : Int32) &&& 31).toUInt32).toInt32) &&& (63 : Int32)) &&& 0x3f).toInt64.toUInt64).toInt64))) (F2 (((x1 &&& (9223372036854775807 : Int64)).toUInt64 >>> ((x3 &&& (63 : Int32)) &&& 0x3f).toInt64.toUInt64).toInt64) (((x2 &&& (9223372036854775807 : Int64)).toUInt64 >>> ((((x3.toUInt32 >>> ((6 : Int32) &&& 31).toUInt32).toInt32) &&& (63 : Int32)) &&& 0x3f).toInt64.toUInt64).toInt64)))), .second, .val (.ref b5), .val (.long (own_run ((F2 (F2 (1 : Int64) (F1 (((x1 &&& (9223372036854775807 : Int64)).toUInt64 >>> ((x3 &&& (63 : Int32)) &&& 0x3f).toInt64.toUInt64).toInt64) (((x2 &&& (9223372036854775807 : Int64)).toUInt64 >>> ((((x3.toUInt32 >>> ((6 : Int32) &&& 31).toUInt32).toInt32) &&& (63 : Int32)) &&& 0x3f).toInt64.toUInt64).toInt64))) (F2 (((x1 &&& (9223372036854775807 : Int64)).toUInt64 >>> ((x3 &&& (63 : Int32)) &&& 0x3f).toInt64.toUInt64).toInt64) (((x2 &&& (9223372036854775807 : Int64)).toUInt64 >>> ((((x3.toUInt32 >>> ((6 : Int32) &&& 31).toUInt32).toInt32) &&& (63 : Int32)) &&& 0x3f).toInt64.toUInt64).toInt64)))) x4 (x4.toNatClampNeg) ((F2 (1 : Int64) (F1 (((x1 &&& (9223372036854775807 : Int64)).toUInt64 >>> ((x3 &&& (63 : Int32)) &&& 0x3f).toInt64.toUInt64).toInt64) (((x2 &&& (9223372036854775807 : Int64)).toUInt64 >>> ((((x3.toUInt32 >>> ((6 : Int32) &&& 31).toUInt32).toInt32) &&& (63 : Int32)) &&& 0x3f).toInt64.toUInt64).toInt64)))) 0)), .second] [(.int z14)])) (fun hc14 k14 => ?_) (fun hc14 k14 => ?_) ?_
    · refine XS.ifNo X13.here hx rfl (hb hby at_90) rfl (own_leq hc14).2 ?_
      show Steps p.tables e below (T13.setTop (mkF m 93 #[.val (.long x1), .second, .val (.long x2), .second, .val (.int x3), .val (.int x4), .val (.long (((x1 &&& (9223372036854775807 : Int64)).toUInt64 >>> ((x3 &&& (63 : Int32)) &&& 0x3f).toInt64.toUInt64).toInt64)), .second, .val (.long (((x2 &&& (9223372036854775807 : Int64)).toUInt64 >>> ((((x3.toUInt32 >>> ((6 : Int32) &&& 31).toUInt32).toInt32) &&& (63 : Int32)) &&& 0x3f).toInt64.toUInt64).toInt64)), .second, .val (.long (F2 (1 : Int64) (F1 (((x1 &&& (9223372036854775807 : Int64)).toUInt64 >>> ((x3 &&& (63 : Int32)) &&& 0x3f).toInt64.toUInt64).toInt64) (((x2 &&& (9223372036854775807 : Int64)).toUInt64 >>> ((((x3.toUInt32 >>> ((6 : Int32) &&& 31).toUInt32).toInt32) &&& (63 : Int32)) &&& 0x3f).toInt64.toUInt64).toInt64)))), .second, .val (.long (F2 (F2 (1 : Int64) (F1 (((x1 &&& (9223372036854775807 : Int64)).toUInt64 >>> ((x3 &&& (63 : Int32)) &&& 0x3f).toInt64.toUInt64).toInt64) (((x2 &&& (9223372036854775807 : Int64)).toUInt64 >>> ((((x3.toUInt32 >>> ((6 : Int32) &&& 31).toUInt32).toInt32) &&& (63 : Int32)) &&& 0x3f).toInt64.toUInt64).toInt64))) (F2 (((x1 &&& (9223372036854775807 : Int64)).toUInt64 >>> ((x3 &&& (63 : Int32)) &&& 0x3f).toInt64.toUInt64).toInt64) (((x2 &&& (9223372036854775807 : Int64)).toUInt64 >>> ((((x3.toUInt32 >>> ((6 : Int32) &&& 31).toUInt32).toInt32) &&& (63 : Int32)) &&& 0x3f).toInt64.toUInt64).toInt64)))), .second, .val (.ref b5), .val (.long (own_run ((F2 (F2 (1 : Int64) (F1 (((x1 &&& (9223372036854775807 : Int64)).toUInt64 >>> ((x3 &&& (63 : Int32)) &&& 0x3f).toInt64.toUInt64).toInt64) (((x2 &&& (9223372036854775807 : Int64)).toUInt64 >>> ((((x3.toUInt32 >>> ((6 : Int32) &&& 31).toUInt32).toInt32) &&& (63 : Int32)) &&& 0x3f).toInt64.toUInt64).toInt64))) (F2 (((x1 &&& (9223372036854775807 : Int64)).toUInt64 >>> ((x3 &&& (63 : Int32)) &&& 0x3f).toInt64.toUInt64).toInt64) (((x2 &&& (9223372036854775807 : Int64)).toUInt64 >>> ((((x3.toUInt32 >>> ((6 : Int32) &&& 31).toUInt32).toInt32) &&& (63 : Int32)) &&& 0x3f).toInt64.toUInt64).toInt64)))) x4 (x4.toNatClampNeg) ((F2 (1 : Int64) (F1 (((x1 &&& (9223372036854775807 : Int64)).toUInt64 >>> ((x3 &&& (63 : Int32)) &&& 0x3f).toInt64.toUInt64).toInt64) (((x2 &&& (9223372036854775807 : Int64)).toUInt64 >>> ((((x3.toUInt32 >>> ((6 : Int32) &&& 31).toUInt32).toInt32) &&& (63 : Int32)) &&& 0x3f).toInt64.toUInt64).toInt64)))) 0)), .second] [])) _
      refine XS.iconst X13.here hx rfl (hb hby at_93) ?_
      show Steps p.tables e below (T13.setTop (mkF m 94 #[.val (.long x1), .second, .val (.long x2), .second, .val (.int x3), .val (.int x4), .val (.long (((x1 &&& (9223372036854775807 : Int64)).toUInt64 >>> ((x3 &&& (63 : Int32)) &&& 0x3f).toInt64.toUInt64).toInt64)), .second, .val (.long (((x2 &&& (9223372036854775807 : Int64)).toUInt64 >>> ((((x3.toUInt32 >>> ((6 : Int32) &&& 31).toUInt32).toInt32) &&& (63 : Int32)) &&& 0x3f).toInt64.toUInt64).toInt64)), .second, .val (.long (F2 (1 : Int64) (F1 (((x1 &&& (9223372036854775807 : Int64)).toUInt64 >>> ((x3 &&& (63 : Int32)) &&& 0x3f).toInt64.toUInt64).toInt64) (((x2 &&& (9223372036854775807 : Int64)).toUInt64 >>> ((((x3.toUInt32 >>> ((6 : Int32) &&& 31).toUInt32).toInt32) &&& (63 : Int32)) &&& 0x3f).toInt64.toUInt64).toInt64)))), .second, .val (.long (F2 (F2 (1 : Int64) (F1 (((x1 &&& (9223372036854775807 : Int64)).toUInt64 >>> ((x3 &&& (63 : Int32)) &&& 0x3f).toInt64.toUInt64).toInt64) (((x2 &&& (9223372036854775807 : Int64)).toUInt64 >>> ((((x3.toUInt32 >>> ((6 : Int32) &&& 31).toUInt32).toInt32) &&& (63 : Int32)) &&& 0x3f).toInt64.toUInt64).toInt64))) (F2 (((x1 &&& (9223372036854775807 : Int64)).toUInt64 >>> ((x3 &&& (63 : Int32)) &&& 0x3f).toInt64.toUInt64).toInt64) (((x2 &&& (9223372036854775807 : Int64)).toUInt64 >>> ((((x3.toUInt32 >>> ((6 : Int32) &&& 31).toUInt32).toInt32) &&& (63 : Int32)) &&& 0x3f).toInt64.toUInt64).toInt64)))), .second, .val (.ref b5), .val (.long (own_run ((F2 (F2 (1 : Int64) (F1 (((x1 &&& (9223372036854775807 : Int64)).toUInt64 >>> ((x3 &&& (63 : Int32)) &&& 0x3f).toInt64.toUInt64).toInt64) (((x2 &&& (9223372036854775807 : Int64)).toUInt64 >>> ((((x3.toUInt32 >>> ((6 : Int32) &&& 31).toUInt32).toInt32) &&& (63 : Int32)) &&& 0x3f).toInt64.toUInt64).toInt64))) (F2 (((x1 &&& (9223372036854775807 : Int64)).toUInt64 >>> ((x3 &&& (63 : Int32)) &&& 0x3f).toInt64.toUInt64).toInt64) (((x2 &&& (9223372036854775807 : Int64)).toUInt64 >>> ((((x3.toUInt32 >>> ((6 : Int32) &&& 31).toUInt32).toInt32) &&& (63 : Int32)) &&& 0x3f).toInt64.toUInt64).toInt64)))) x4 (x4.toNatClampNeg) ((F2 (1 : Int64) (F1 (((x1 &&& (9223372036854775807 : Int64)).toUInt64 >>> ((x3 &&& (63 : Int32)) &&& 0x3f).toInt64.toUInt64).toInt64) (((x2 &&& (9223372036854775807 : Int64)).toUInt64 >>> ((((x3.toUInt32 >>> ((6 : Int32) &&& 31).toUInt32).toInt32) &&& (63 : Int32)) &&& 0x3f).toInt64.toUInt64).toInt64)))) 0)), .second] [(.int (1 : Int32))])) _
      refine XS.goto X13.here hx rfl (pc0 := 94) (pc' := 98) rfl (hb hby at_94) (by decide) (by decide) ?_
      exact k14
    · refine XS.ifYes X13.here hx rfl (pc0 := 90) (pc' := 97) rfl (hb hby at_90) rfl (own_lne hc14).2 (by decide) (by decide) ?_
      show Steps p.tables e below (T13.setTop (mkF m 97 #[.val (.long x1), .second, .val (.long x2), .second, .val (.int x3), .val (.int x4), .val (.long (((x1 &&& (9223372036854775807 : Int64)).toUInt64 >>> ((x3 &&& (63 : Int32)) &&& 0x3f).toInt64.toUInt64).toInt64)), .second, .val (.long (((x2 &&& (9223372036854775807 : Int64)).toUInt64 >>> ((((x3.toUInt32 >>> ((6 : Int32) &&& 31).toUInt32).toInt32) &&& (63 : Int32)) &&& 0x3f).toInt64.toUInt64).toInt64)), .second, .val (.long (F2 (1 : Int64) (F1 (((x1 &&& (9223372036854775807 : Int64)).toUInt64 >>> ((x3 &&& (63 : Int32)) &&& 0x3f).toInt64.toUInt64).toInt64) (((x2 &&& (9223372036854775807 : Int64)).toUInt64 >>> ((((x3.toUInt32 >>> ((6 : Int32) &&& 31).toUInt32).toInt32) &&& (63 : Int32)) &&& 0x3f).toInt64.toUInt64).toInt64)))), .second, .val (.long (F2 (F2 (1 : Int64) (F1 (((x1 &&& (9223372036854775807 : Int64)).toUInt64 >>> ((x3 &&& (63 : Int32)) &&& 0x3f).toInt64.toUInt64).toInt64) (((x2 &&& (9223372036854775807 : Int64)).toUInt64 >>> ((((x3.toUInt32 >>> ((6 : Int32) &&& 31).toUInt32).toInt32) &&& (63 : Int32)) &&& 0x3f).toInt64.toUInt64).toInt64))) (F2 (((x1 &&& (9223372036854775807 : Int64)).toUInt64 >>> ((x3 &&& (63 : Int32)) &&& 0x3f).toInt64.toUInt64).toInt64) (((x2 &&& (9223372036854775807 : Int64)).toUInt64 >>> ((((x3.toUInt32 >>> ((6 : Int32) &&& 31).toUInt32).toInt32) &&& (63 : Int32)) &&& 0x3f).toInt64.toUInt64).toInt64)))), .second, .val (.ref b5), .val (.long (own_run ((F2 (F2 (1 : Int64) (F1 (((x1 &&& (9223372036854775807 : Int64)).toUInt64 >>> ((x3 &&& (63 : Int32)) &&& 0x3f).toInt64.toUInt64).toInt64) (((x2 &&& (9223372036854775807 : Int64)).toUInt64 >>> ((((x3.toUInt32 >>> ((6 : Int32) &&& 31).toUInt32).toInt32) &&& (63 : Int32)) &&& 0x3f).toInt64.toUInt64).toInt64))) (F2 (((x1 &&& (9223372036854775807 : Int64)).toUInt64 >>> ((x3 &&& (63 : Int32)) &&& 0x3f).toInt64.toUInt64).toInt64) (((x2 &&& (9223372036854775807 : Int64)).toUInt64 >>> ((((x3.toUInt32 >>> ((6 : Int32) &&& 31).toUInt32).toInt32) &&& (63 : Int32)) &&& 0x3f).toInt64.toUInt64).toInt64)))) x4 (x4.toNatClampNeg) ((F2 (1 : Int64) (F1 (((x1 &&& (9223372036854775807 : Int64)).toUInt64 >>> ((x3 &&& (63 : Int32)) &&& 0x3f).toInt64.toUInt64).toInt64) (((x2 &&& (9223372036854775807 : Int64)).toUInt64 >>> ((((x3.toUInt32 >>> ((6 : Int32) &&& 31).toUInt32).toInt32) &&& (63 : Int32)) &&& 0x3f).toInt64.toUInt64).toInt64)))) 0)), .second] [])) _
      refine XS.iconst X13.here hx rfl (hb hby at_97) ?_
      exact k14
    -- meets at 98
    show Steps p.tables e below (T13.setTop (mkF m 98 #[.val (.long x1), .second, .val (.long x2), .second, .val (.int x3), .val (.int x4), .val (.long (((x1 &&& (9223372036854775807 : Int64)).toUInt64 >>> ((x3 &&& (63 : Int32)) &&& 0x3f).toInt64.toUInt64).toInt64)), .second, .val (.long (((x2 &&& (9223372036854775807 : Int64)).toUInt64 >>> ((((x3.toUInt32 >>> ((6 : Int32) &&& 31).toUInt32).toInt32) &&& (63 : Int32)) &&& 0x3f).toInt64.toUInt64).toInt64)), .second, .val (.long (F2 (1 : Int64) (F1 (((x1 &&& (9223372036854775807 : Int64)).toUInt64 >>> ((x3 &&& (63 : Int32)) &&& 0x3f).toInt64.toUInt64).toInt64) (((x2 &&& (9223372036854775807 : Int64)).toUInt64 >>> ((((x3.toUInt32 >>> ((6 : Int32) &&& 31).toUInt32).toInt32) &&& (63 : Int32)) &&& 0x3f).toInt64.toUInt64).toInt64)))), .second, .val (.long (F2 (F2 (1 : Int64) (F1 (((x1 &&& (9223372036854775807 : Int64)).toUInt64 >>> ((x3 &&& (63 : Int32)) &&& 0x3f).toInt64.toUInt64).toInt64) (((x2 &&& (9223372036854775807 : Int64)).toUInt64 >>> ((((x3.toUInt32 >>> ((6 : Int32) &&& 31).toUInt32).toInt32) &&& (63 : Int32)) &&& 0x3f).toInt64.toUInt64).toInt64))) (F2 (((x1 &&& (9223372036854775807 : Int64)).toUInt64 >>> ((x3 &&& (63 : Int32)) &&& 0x3f).toInt64.toUInt64).toInt64) (((x2 &&& (9223372036854775807 : Int64)).toUInt64 >>> ((((x3.toUInt32 >>> ((6 : Int32) &&& 31).toUInt32).toInt32) &&& (63 : Int32)) &&& 0x3f).toInt64.toUInt64).toInt64)))), .second, .val (.ref b5), .val (.long (own_run ((F2 (F2 (1 : Int64) (F1 (((x1 &&& (9223372036854775807 : Int64)).toUInt64 >>> ((x3 &&& (63 : Int32)) &&& 0x3f).toInt64.toUInt64).toInt64) (((x2 &&& (9223372036854775807 : Int64)).toUInt64 >>> ((((x3.toUInt32 >>> ((6 : Int32) &&& 31).toUInt32).toInt32) &&& (63 : Int32)) &&& 0x3f).toInt64.toUInt64).toInt64))) (F2 (((x1 &&& (9223372036854775807 : Int64)).toUInt64 >>> ((x3 &&& (63 : Int32)) &&& 0x3f).toInt64.toUInt64).toInt64) (((x2 &&& (9223372036854775807 : Int64)).toUInt64 >>> ((((x3.toUInt32 >>> ((6 : Int32) &&& 31).toUInt32).toInt32) &&& (63 : Int32)) &&& 0x3f).toInt64.toUInt64).toInt64)))) x4 (x4.toNatClampNeg) ((F2 (1 : Int64) (F1 (((x1 &&& (9223372036854775807 : Int64)).toUInt64 >>> ((x3 &&& (63 : Int32)) &&& 0x3f).toInt64.toUInt64).toInt64) (((x2 &&& (9223372036854775807 : Int64)).toUInt64 >>> ((((x3.toUInt32 >>> ((6 : Int32) &&& 31).toUInt32).toInt32) &&& (63 : Int32)) &&& 0x3f).toInt64.toUInt64).toInt64)))) 0)), .second] [(.int (if (own_run ((F2 (F2 (1 : Int64) (F1 (((x1 &&& (9223372036854775807 : Int64)).toUInt64 >>> ((x3 &&& (63 : Int32)) &&& 0x3f).toInt64.toUInt64).toInt64) (((x2 &&& (9223372036854775807 : Int64)).toUInt64 >>> ((((x3.toUInt32 >>> ((6 : Int32) &&& 31).toUInt32).toInt32) &&& (63 : Int32)) &&& 0x3f).toInt64.toUInt64).toInt64))) (F2 (((x1 &&& (9223372036854775807 : Int64)).toUInt64 >>> ((x3 &&& (63 : Int32)) &&& 0x3f).toInt64.toUInt64).toInt64) (((x2 &&& (9223372036854775807 : Int64)).toUInt64 >>> ((((x3.toUInt32 >>> ((6 : Int32) &&& 31).toUInt32).toInt32) &&& (63 : Int32)) &&& 0x3f).toInt64.toUInt64).toInt64)))) x4 (x4.toNatClampNeg) ((F2 (1 : Int64) (F1 (((x1 &&& (9223372036854775807 : Int64)).toUInt64 >>> ((x3 &&& (63 : Int32)) &&& 0x3f).toInt64.toUInt64).toInt64) (((x2 &&& (9223372036854775807 : Int64)).toUInt64 >>> ((((x3.toUInt32 >>> ((6 : Int32) &&& 31).toUInt32).toInt32) &&& (63 : Int32)) &&& 0x3f).toInt64.toUInt64).toInt64)))) 0) = (F7 (F2 (1 : Int64) (F1 (((x1 &&& (9223372036854775807 : Int64)).toUInt64 >>> ((x3 &&& (63 : Int32)) &&& 0x3f).toInt64.toUInt64).toInt64) (((x2 &&& (9223372036854775807 : Int64)).toUInt64 >>> ((((x3.toUInt32 >>> ((6 : Int32) &&& 31).toUInt32).toInt32) &&& (63 : Int32)) &&& 0x3f).toInt64.toUInt64).toInt64))) (F2 (F2 (1 : Int64) (F1 (((x1 &&& (9223372036854775807 : Int64)).toUInt64 >>> ((x3 &&& (63 : Int32)) &&& 0x3f).toInt64.toUInt64).toInt64) (((x2 &&& (9223372036854775807 : Int64)).toUInt64 >>> ((((x3.toUInt32 >>> ((6 : Int32) &&& 31).toUInt32).toInt32) &&& (63 : Int32)) &&& 0x3f).toInt64.toUInt64).toInt64))) (F2 (((x1 &&& (9223372036854775807 : Int64)).toUInt64 >>> ((x3 &&& (63 : Int32)) &&& 0x3f).toInt64.toUInt64).toInt64) (((x2 &&& (9223372036854775807 : Int64)).toUInt64 >>> ((((x3.toUInt32 >>> ((6 : Int32) &&& 31).toUInt32).toInt32) &&& (63 : Int32)) &&& 0x3f).toInt64.toUInt64).toInt64))) x4) then (1 : Int32) else (0 : Int32)))])) _
    exact retN X13 hx (t := .boolean) Bd.returns (by simp) (hb hby at_98) (by rw [own_nb (own_b01 (Or.inr rfl) (Or.inl rfl))]; exact hr)
  · show Q0 Z x1 x2 x3 x4 h0 n0 _ T13.heap _
    rw [e13]
    exact ⟨rfl, N13⟩

theorem own_pow1 (k : Nat) : (1 : Int) ≤ 2 ^ k := by
  have := Nat.pow_pos (n := k) (show 0 < 2 by decide)
  have e : ((2 ^ k : Nat) : Int) = (2 : Int) ^ k := by rw [Int.natCast_pow]; rfl
  omega
theorem own_spec (vl : Int64) (vn : Int32) : ∀ (k : Nat) (ms : Int64) (i : Int32), vn.toInt - i.toInt = (k : Int) → ¬ i < 0 → 1 ≤ ms.toInt → ms.toInt ≤ vl.toInt → (own_run vl vn k ms i).toInt = if ms.toInt * 2 ^ k ≤ vl.toInt then ms.toInt * 2 ^ k else vl.toInt := by
  intro k
  induction k with
  | zero =>
    intro ms i hk h0 h1 h2
    show ms.toInt = _
    rw [Int.pow_zero, Int.mul_one, if_pos h2]
  | succ k ih =>
    intro ms i hk h0 h1 h2
    have hc : i < vn := by rw [Int32.lt_iff_toInt_lt]; omega
    have e := own_add1 h0 hc
    have hk' : vn.toInt - (i + (1 : Int32)).toInt = (k : Int) := by omega
    have h0' : ¬ (i + (1 : Int32)) < 0 := by
      have l0 : (0 : Int32).toInt = 0 := rfl
      rw [Int32.lt_iff_toInt_lt] at h0 ⊢; omega
    have hp := own_pow1 k
    have l2 : (2 : Int64).toInt = 2 := rfl
    have ed : (vl / (2 : Int64)).toInt = vl.toInt / 2 := by
      rw [Jvm.Kit.i64_div (by omega), Int.tdiv_eq_ediv_of_nonneg (by omega), l2]
    have hle : ms.toInt ≤ ms.toInt * 2 ^ k := by
      have := Int.mul_le_mul_of_nonneg_left hp (show 0 ≤ ms.toInt by omega)
      omega
    have hps : ms.toInt * 2 ^ (k + 1) = 2 * (ms.toInt * 2 ^ k) := by
      rw [Int.pow_succ, ← Int.mul_assoc, Int.mul_comm]
    rw [own_run_s, if_pos hc]
    by_cases hm : ms < vl
    · rw [if_pos hm]
      rw [Int64.lt_iff_toInt_lt] at hm
      by_cases hd : (vl / (2 : Int64)) < ms
      · rw [if_pos hd, ih vl (i + (1 : Int32)) hk' h0' (by omega) (by omega)]
        rw [Int64.lt_iff_toInt_lt, ed] at hd
        have hle2 : vl.toInt ≤ vl.toInt * 2 ^ k := by
          have := Int.mul_le_mul_of_nonneg_left hp (show 0 ≤ vl.toInt by omega)
          omega
        rw [if_neg (show ¬ ms.toInt * 2 ^ (k + 1) ≤ vl.toInt by omega)]
        split <;> omega
      · rw [if_neg hd]
        rw [Int64.lt_iff_toInt_lt, ed] at hd
        have hx := vl.toInt_lt
        have em : (ms * (2 : Int64)).toInt = ms.toInt * (2 : Int64).toInt := Jvm.Kit.i64_mul (by rw [l2]; omega) (by rw [l2]; omega)
        rw [l2] at em
        rw [ih (ms * (2 : Int64)) (i + (1 : Int32)) hk' h0' (by omega) (by omega), em]
        have e3 : ms.toInt * 2 * 2 ^ k = ms.toInt * 2 ^ (k + 1) := by rw [hps, Int.mul_assoc, Int.mul_left_comm]
        rw [e3]
    · rw [if_neg hm]
      rw [Int64.lt_iff_toInt_lt] at hm
      rw [if_neg (show ¬ ms.toInt * 2 ^ (k + 1) ≤ vl.toInt by omega)]
      omega
theorem own_sh63 : ∀ k : Fin 63, (((Int32.ofNat k.val) &&& 0x3f).toInt64.toBitVec.smod 64).toNat = k.val := by decide +kernel
theorem own_main (vf vl : Int64) (vn : Int32) (h1 : 1 ≤ vf.toInt) (h2 : vf.toInt ≤ vl.toInt) : own_run vl vn (vn.toNatClampNeg) vf 0 = F7 vf vl vn := by
  have l0 : (0 : Int32).toInt = 0 := rfl
  unfold F7
  by_cases hp : (0 : Int32) < vn
  · rw [if_pos hp]
    rw [Int32.lt_iff_toInt_lt, l0] at hp
    obtain ⟨k, ek⟩ : ∃ k, vn.toNatClampNeg = k := ⟨_, rfl⟩
    have ev : vn.toInt = (k : Int) := by rw [← ek]; simp only [Int32.toNatClampNeg]; omega
    have hs := own_spec vl vn k vf 0 (by rw [l0]; omega) (by decide) h1 h2
    rw [ek]
    have hlt := vl.toInt_lt
    by_cases h63 : vn < (63 : Int32)
    · rw [if_pos h63]
      rw [Int32.lt_iff_toInt_lt] at h63
      have l63 : (63 : Int32).toInt = 63 := rfl
      have hk : k < 63 := by omega
      have evn : vn = Int32.ofNat k := by
        apply Int32.toInt_inj.mp
        rw [ev, Int32.toInt_ofNat_of_lt (by omega)]
      have hsh : ((vn &&& 0x3f).toInt64.toBitVec.smod 64).toNat = k := by rw [evn]; exact own_sh63 ⟨k, hk⟩
      have es := Jvm.Kit.i64_shr vl (vn &&& 0x3f).toInt64 hsh
      have hpk := own_pow1 k
      by_cases hc : (vl >>> (vn &&& 0x3f).toInt64) < vf
      · rw [if_pos hc]
        rw [Int64.lt_iff_toInt_lt, es, Int.ediv_lt_iff_lt_mul (by omega)] at hc
        rw [if_neg (by omega)] at hs
        exact Int64.toInt_inj.mp hs
      · rw [if_neg hc]
        rw [Int64.lt_iff_toInt_lt, es, Int.ediv_lt_iff_lt_mul (by omega)] at hc
        have hle : vf.toInt * 2 ^ k ≤ vl.toInt := by omega
        rw [if_pos hle] at hs
        have hge : 0 ≤ vf.toInt * 2 ^ k := Int.mul_nonneg (by omega) (by omega)
        apply Int64.toInt_inj.mp
        rw [hs, Jvm.Kit.i64_shl vf _ hsh (by omega) (by omega)]
    · rw [if_neg h63]
      rw [Int32.lt_iff_toInt_lt] at h63
      have l63 : (63 : Int32).toInt = 63 := rfl
      have hk : 63 ≤ k := by omega
      have hpw : (2 : Int) ^ 63 ≤ 2 ^ k := by
        have q := Nat.pow_le_pow_right (show 0 < 2 by decide) hk
        have e1 : ((2 ^ k : Nat) : Int) = (2 : Int) ^ k := by rw [Int.natCast_pow]; rfl
        have e2 : ((2 ^ 63 : Nat) : Int) = (2 : Int) ^ 63 := by rw [Int.natCast_pow]; rfl
        omega
      have hm : 1 * (2 : Int) ^ k ≤ vf.toInt * 2 ^ k := Int.mul_le_mul_of_nonneg_right h1 (by omega)
      rw [if_neg (by omega)] at hs
      exact Int64.toInt_inj.mp hs
  · rw [if_neg hp]
    rw [Int32.lt_iff_toInt_lt, l0] at hp
    have ek : vn.toNatClampNeg = 0 := by simp only [Int32.toNatClampNeg]; omega
    rw [ek]; rfl
theorem own_max2 (va vb : Int64) : va.toInt ≤ (F2 va vb).toInt := by
  have := own_max1 va vb
  rw [Int64.lt_iff_toInt_lt] at this; omega
theorem own_plain (x1 x2 : Int64) (x3 x4 : Int32) : F0 x1 x2 x3 x4 = 1 := by
  unfold F0
  exact if_pos (own_main _ _ _ (own_max2 1 _) (own_max2 _ _))

set_option maxRecDepth 65536 in
set_option maxHeartbeats 40000000 in
theorem comes_1 {Post : Tables → Env → Array Value → State → Outcome → State → Prop} (hpost : ∀ tb e args s v u, (limb_1_1.after args s (.returned v) u = true ∧ limb_1_2.after args s (.returned v) u = true ∧ True) → FrameEnd s (.returned v) u (Jvm.fieldLocs frame_1_writes args s ++ Jvm.arrayLocs frame_1_arrays args s ++ Jvm.staticLocs frame_1_statics s) 16 128 → Post tb e args s (.returned v) u) :
    ArmFor flags0 classFile x code maxLocals ret World_1 tables_1 room_1 Calls_1 rest_1 Pre_1 Post := by
  intro l hfl _ _ p e ha hc hk s m args below hf hA hF happ hP
  obtain ⟨hcalls, hrest, hpre⟩ := hP
  obtain ⟨-, -, -, hnamed, -, -, -, hat⟩ := (Spec.applies_iff hf).mp happ
  obtain ⟨hg, hn⟩ := and_e (Cond.before_iff.mp (show (Jvm.Cond.and given_1 narrow_1).before args s = true from hpre))
  obtain ⟨hcount, t0⟩ := and_e hg
  obtain ⟨k0, t1⟩ := and_e t0
  obtain ⟨k1, t2⟩ := and_e t1
  obtain ⟨k2, t3⟩ := and_e t2
  have k3 := t3
  obtain ⟨w0, w1, w2, w3, rfl⟩ : ∃ w0 w1 w2 w3 : Value, args = #[w0, w1, w2, w3] := by
    have hs : args.size = 4 := by simpa [Cond.value, given_1] using hcount
    obtain ⟨L⟩ := args
    match L, hs with
    | [w0, w1, w2, w3], _ => exact ⟨w0, w1, w2, w3, rfl⟩
  have hw := fun d (hd : d ∈ tables_1) => atoms_spec (ws := Jvm.Cond.code x code maxLocals ret :: tables_1) hat d (List.mem_cons_of_mem _ hd)
  obtain ⟨i0, ei0⟩ := isL_v k0
  obtain rfl : w0 = (.long i0) := Option.some.inj ei0
  obtain ⟨i1, ei1⟩ := isL_v k1
  obtain rfl : w1 = (.long i1) := Option.some.inj ei1
  obtain ⟨i2, ei2⟩ := is_v k2
  obtain rfl : w2 = (.int i2) := Option.some.inj ei2
  obtain ⟨i3, ei3⟩ := is_v k3
  obtain rfl : w3 = (.int i3) := Option.some.inj ei3
  obtain ⟨n, o, h1, h2, h3, _, L, rfl, ⟨hv, N⟩, hq⟩ := rm0 l s _ hw tables_1 i0 i1 i2 i3 s.heap s.heap.size (Nat.le_refl _) p e ha hc hk s m _ below hf ((Spec.applies_iff_loose hf).mp happ).1 ⟨rfl, State.Warmed39.refl s, rfl⟩ trivial
  rw [own_plain i0 i1 i2 i3] at hv
  subst hv
  refine ⟨n, _, h1, h2, h3, hpost _ _ _ _ _ _ ⟨Cond.after_iff.mpr rfl, Cond.after_iff.mpr (eq_i res_at (Term.int_eval (1)) rfl), trivial⟩ ⟨hq.1, hq.2.1, (hq.2.2.sift fun y hy => Or.inr (N y hy)).mono (by decide) (by decide)⟩⟩
theorem main_1_1 : Claimed_1_1 := comes_1 fun _ _ _ _ _ _ h hF => ⟨h.1, hF⟩
theorem main_1_2 : Claimed_1_2 := comes_1 fun _ _ _ _ _ _ h hF => ⟨h.2.1, hF⟩
end Jvm.Pilot.@@N@@
namespace Jvm.Pilot.@@N@@
open Jvm Jvm.ClassFile Sem Op Lib Jvm.Free Jvm.Stand Jvm.Pilot.@@N@@.Jvm.D
/-! MADE BY PROGRAM (witnessworld.py) out of the Statement's table words and the real class files: 11 classes; the members and pool entries that the words name. The judged class is class 1, her method 1. -/
namespace start1
open Jvm.ClassFile
def u (s : String) : CpInfo := .utf8 (stringToUtf16 s)
/-- a pool by its gaps: so many unusable entries, then the entry; so many at the end -/
def gap : Nat → List CpInfo → List CpInfo
  | 0, r => r
  | n + 1, r => .unusable :: gap n r
def poolList (es : List (Nat × CpInfo)) (last : Nat) : List CpInfo := es.foldr (fun e r => gap e.1 (e.2 :: r)) (gap last [])
def pool (es : List (Nat × CpInfo)) (last : Nat) : Array CpInfo := ⟨poolList es last⟩
def fileOf (pool : Array CpInfo) (this : Nat) (attrs : Array Attribute := #[]) (ms : Array MethodInfo := #[]) (fl : Nat := 33) (sup : Nat := 0) (ifs : Array Nat := #[]) (fds : Array FieldInfo := #[]) : ClassFile where
  minorVersion := 0
  majorVersion := 65
  constantPool := pool
  accessFlags := fl
  thisClass := this
  superClass := sup
  interfaces := ifs
  fields := fds
  methods := ms
  attributes := attrs
def plain (name : String) (sup : Option ClassId) : Class where
  name := name
  kind := .ordinary
  loader := none
  accessFlags := 33
  super := sup
  interfaces := #[]
  cf := none
  fields := #[]
  methods := #[]
  instanceTypes := #[]
  staticTypes := #[]
  resolved := #[]
  callSites := []
  init := .initialized
  statics := none
  mirror := none

def pool0 : Array CpInfo := pool [(5, u "<init>"), (0, u "()V"), (1, .class_ 10), (1, u "java/lang/Object")] 113

def k0c0 : Code := { maxStack := 0, maxLocals := 1, code := object_method_1_code, exceptionTable := #[], attributes := #[] }
def k0m0 : Method := { name := "<init>", desc := "()V", sig := { parameters := [], returnType := none }, accessFlags := 1, code := some k0c0 }
/-- java/lang/Object -/
def k0 : Class := { plain "java/lang/Object" none with
  accessFlags := 33
  interfaces := #[]
  cf := some (fileOf pool0 8 #[] #[{ accessFlags := 1, nameIndex := 5, descriptorIndex := 6, attributes := #[] }] 33 0 #[] #[])
  fields := #[]
  methods := #[k0m0]
  instanceTypes := #[]
  staticTypes := #[]
  resolved := Array.replicate 124 none
  statics := none }

def pool1 : Array CpInfo := pool [(2, .class_ 4), (1, u "java/lang/Object"), (0, u "<init>"), (0, u "()V"), (0, .long 9223372036854775807), (1, .methodref 10 11), (0, .class_ 12), (0, .nameAndType 13 14), (0, u "java/lang/Math"), (0, u "min"), (0, u "(JJ)J"), (0, .methodref 10 16), (0, .nameAndType 17 14), (0, u "max"), (0, .class_ 19), (0, u "com/example/ponca/ponca/mqtt/Backoff"), (0, .methodref 18 21), (0, .nameAndType 5 22), (0, u "(JJ)V"), (0, .methodref 18 24), (0, .nameAndType 25 26), (0, u "delayMillis"), (0, u "(I)J"), (0, .methodref 28 29), (0, .class_ 30), (0, .nameAndType 31 32), (0, u "com/example/ponca/ponca/mqtt/BackoffDelayMillisPinLaw"), (0, u "expected"), (0, u "(JJI)J"), (2, u "law"), (0, u "(JJII)Z")] 3

def k1m0 : Method := { name := "<init>", desc := "()V", sig := { parameters := [], returnType := none }, accessFlags := 1, code := none }
def k1c1 : Code := { maxStack := 7, maxLocals := 17, code := code, exceptionTable := #[], attributes := #[] }
def k1m1 : Method := { name := "law", desc := "(JJII)Z", sig := { parameters := [.long, .long, .int, .int], returnType := some .boolean }, accessFlags := 9, code := some k1c1 }
def k1c2 : Code := { maxStack := 5, maxLocals := 5, code := method_3_code, exceptionTable := #[], attributes := #[] }
def k1m2 : Method := { name := "expected", desc := "(JJI)J", sig := { parameters := [.long, .long, .int], returnType := some .long }, accessFlags := 10, code := some k1c2 }
/-- com/example/ponca/ponca/mqtt/BackoffDelayMillisPinLaw -/
def k1 : Class := { plain "com/example/ponca/ponca/mqtt/BackoffDelayMillisPinLaw" (some 0) with
  accessFlags := 49
  interfaces := #[]
  cf := some (fileOf pool1 28 #[] #[{ accessFlags := 1, nameIndex := 5, descriptorIndex := 6, attributes := #[] }, { accessFlags := 9, nameIndex := 35, descriptorIndex := 36, attributes := #[] }, { accessFlags := 10, nameIndex := 31, descriptorIndex := 32, attributes := #[] }] 49 2 #[] #[])
  fields := #[]
  methods := #[k1m0, k1m1, k1m2]
  instanceTypes := #[]
  staticTypes := #[]
  resolved := Array.replicate 40 none
  statics := none }

def pool2 : Array CpInfo := pool [(1, .class_ 2), (0, u "java/lang/Math"), (1, .class_ 6), (1, u "java/lang/Object"), (0, u "<init>"), (0, u "()V"), (89, .class_ 100), (1, u "java/lang/Math$RandomNumberGeneratorHolder"), (20, u "(JJ)J"), (50, u "negativeZeroFloatBits"), (0, u "J"), (2, u "negativeZeroDoubleBits"), (21, u "max"), (2, u "min"), (43, u "$assertionsDisabled"), (0, u "Z"), (91, u "twoToTheDoubleScaleDown"), (0, u "D"), (4, u "twoToTheDoubleScaleUp"), (9, u "E"), (3, u "PI"), (2, u "TAU"), (2, u "DEGREES_TO_RADIANS"), (0, u "RADIANS_TO_DEGREES")] 94

def k2m0 : Method := { name := "<init>", desc := "()V", sig := { parameters := [], returnType := none }, accessFlags := 2, code := none }
def k2c1 : Code := { maxStack := 4, maxLocals := 4, code := jdk_29_method_66_code, exceptionTable := #[], attributes := #[] }
def k2m1 : Method := { name := "max", desc := "(JJ)J", sig := { parameters := [.long, .long], returnType := some .long }, accessFlags := 9, code := some k2c1 }
def k2c2 : Code := { maxStack := 4, maxLocals := 4, code := jdk_29_method_70_code, exceptionTable := #[], attributes := #[] }
def k2m2 : Method := { name := "min", desc := "(JJ)J", sig := { parameters := [.long, .long], returnType := some .long }, accessFlags := 9, code := some k2c2 }
/-- java/lang/Math -/
def k2 : Class := { plain "java/lang/Math" (some 0) with
  accessFlags := 49
  interfaces := #[]
  cf := some (fileOf pool2 1 #[.nestMembers #[98]] #[{ accessFlags := 2, nameIndex := 7, descriptorIndex := 8, attributes := #[] }, { accessFlags := 9, nameIndex := 198, descriptorIndex := 121, attributes := #[] }, { accessFlags := 9, nameIndex := 201, descriptorIndex := 121, attributes := #[] }] 49 4 #[] #[{ accessFlags := 25, nameIndex := 354, descriptorIndex := 339, attributes := #[] }, { accessFlags := 25, nameIndex := 358, descriptorIndex := 339, attributes := #[] }, { accessFlags := 25, nameIndex := 361, descriptorIndex := 339, attributes := #[] }, { accessFlags := 26, nameIndex := 364, descriptorIndex := 339, attributes := #[] }, { accessFlags := 26, nameIndex := 365, descriptorIndex := 339, attributes := #[] }, { accessFlags := 26, nameIndex := 172, descriptorIndex := 173, attributes := #[] }, { accessFlags := 26, nameIndex := 176, descriptorIndex := 173, attributes := #[] }, { accessFlags := 8, nameIndex := 344, descriptorIndex := 339, attributes := #[] }, { accessFlags := 8, nameIndex := 338, descriptorIndex := 339, attributes := #[] }, { accessFlags := 4120, nameIndex := 245, descriptorIndex := 246, attributes := #[] }])
  fields := #[{ name := "E", type := .double, accessFlags := 25, slot := 0, constantValue := 0 }, { name := "PI", type := .double, accessFlags := 25, slot := 1, constantValue := 0 }, { name := "TAU", type := .double, accessFlags := 25, slot := 2, constantValue := 0 }, { name := "DEGREES_TO_RADIANS", type := .double, accessFlags := 26, slot := 3, constantValue := 0 }, { name := "RADIANS_TO_DEGREES", type := .double, accessFlags := 26, slot := 4, constantValue := 0 }, { name := "negativeZeroFloatBits", type := .long, accessFlags := 26, slot := 5, constantValue := 0 }, { name := "negativeZeroDoubleBits", type := .long, accessFlags := 26, slot := 6, constantValue := 0 }, { name := "twoToTheDoubleScaleUp", type := .double, accessFlags := 8, slot := 7, constantValue := 0 }, { name := "twoToTheDoubleScaleDown", type := .double, accessFlags := 8, slot := 8, constantValue := 0 }, { name := "$assertionsDisabled", type := .boolean, accessFlags := 4120, slot := 9, constantValue := 0 }]
  methods := #[k2m0, k2m1, k2m2]
  instanceTypes := #[]
  staticTypes := #[.double, .double, .double, .double, .double, .long, .long, .double, .double, .boolean]
  resolved := Array.replicate 460 none
  statics := none }

def pool3 : Array CpInfo := pool [(1, .methodref 2 3), (0, .class_ 4), (0, .nameAndType 5 6), (0, u "java/lang/Object"), (0, u "<init>"), (0, u "()V"), (0, .class_ 8), (0, u "java/lang/Record")] 13

def k3c0 : Code := { maxStack := 1, maxLocals := 1, code := jdk_30_method_1_code, exceptionTable := #[], attributes := #[] }
def k3m0 : Method := { name := "<init>", desc := "()V", sig := { parameters := [], returnType := none }, accessFlags := 4, code := some k3c0 }
/-- java/lang/Record -/
def k3 : Class := { plain "java/lang/Record" (some 0) with
  accessFlags := 1057
  interfaces := #[]
  cf := some (fileOf pool3 7 #[] #[{ accessFlags := 4, nameIndex := 5, descriptorIndex := 6, attributes := #[] }] 1057 2 #[] #[])
  fields := #[]
  methods := #[k3m0]
  instanceTypes := #[]
  staticTypes := #[]
  resolved := Array.replicate 22 none
  statics := none }

def pool4 : Array CpInfo := pool [(1, .methodref 2 3), (0, .class_ 4), (0, .nameAndType 5 6), (0, u "java/lang/Record"), (0, u "<init>"), (0, u "()V"), (9, .fieldref 17 18), (0, .class_ 19), (0, .nameAndType 20 21), (0, u "com/example/ponca/ponca/mqtt/Backoff"), (0, u "firstMillis"), (0, u "J"), (0, .fieldref 17 23), (0, .nameAndType 24 21), (0, u "lastMillis"), (0, .long 2), (13, u "(JJ)V"), (4, u "delayMillis"), (0, u "(I)J")] 33

def k4c0 : Code := { maxStack := 6, maxLocals := 5, code := prog_15_method_1_code, exceptionTable := #[], attributes := #[] }
def k4m0 : Method := { name := "<init>", desc := "(JJ)V", sig := { parameters := [.long, .long], returnType := none }, accessFlags := 1, code := some k4c0 }
def k4c1 : Code := { maxStack := 6, maxLocals := 5, code := prog_15_method_2_code, exceptionTable := #[], attributes := #[] }
def k4m1 : Method := { name := "delayMillis", desc := "(I)J", sig := { parameters := [.int], returnType := some .long }, accessFlags := 1, code := some k4c1 }
/-- com/example/ponca/ponca/mqtt/Backoff -/
def k4 : Class := { plain "com/example/ponca/ponca/mqtt/Backoff" (some 3) with
  accessFlags := 49
  interfaces := #[]
  cf := some (fileOf pool4 17 #[] #[{ accessFlags := 1, nameIndex := 5, descriptorIndex := 39, attributes := #[] }, { accessFlags := 1, nameIndex := 44, descriptorIndex := 45, attributes := #[] }] 49 2 #[] #[{ accessFlags := 18, nameIndex := 20, descriptorIndex := 21, attributes := #[] }, { accessFlags := 18, nameIndex := 24, descriptorIndex := 21, attributes := #[] }])
  fields := #[{ name := "firstMillis", type := .long, accessFlags := 18, slot := 0, constantValue := 0 }, { name := "lastMillis", type := .long, accessFlags := 18, slot := 1, constantValue := 0 }]
  methods := #[k4m0, k4m1]
  instanceTypes := #[.long, .long]
  staticTypes := #[]
  resolved := Array.replicate 79 none
  statics := none }

def pool5 : Array CpInfo := pool [(1, u "java/lang/Cloneable"), (0, .class_ 1), (0, u "java/lang/Object"), (0, .class_ 3)] 3

/-- java/lang/Cloneable -/
def k5 : Class := { plain "java/lang/Cloneable" (some 0) with
  accessFlags := 1537
  interfaces := #[]
  cf := some (fileOf pool5 2 #[] #[] 1537 4 #[] #[])
  fields := #[]
  methods := #[]
  instanceTypes := #[]
  staticTypes := #[]
  resolved := Array.replicate 8 none
  statics := none }

def pool6 : Array CpInfo := pool [(1, u "java/io/Serializable"), (0, .class_ 1), (0, u "java/lang/Object"), (0, .class_ 3)] 3

/-- java/io/Serializable -/
def k6 : Class := { plain "java/io/Serializable" (some 0) with
  accessFlags := 1537
  interfaces := #[]
  cf := some (fileOf pool6 2 #[] #[] 1537 4 #[] #[])
  fields := #[]
  methods := #[]
  instanceTypes := #[]
  staticTypes := #[]
  resolved := Array.replicate 8 none
  statics := none }

/-- the primitive byte -/
def k7 : Class := { plain "byte" none with kind := .primitive 'B', accessFlags := 0x411 }
/-- [B -/
def k8 : Class := { plain "[B" (some 0) with kind := .array 7 .byte, interfaces := #[5, 6], accessFlags := 1041 }

/-- the primitive int -/
def k9 : Class := { plain "int" none with kind := .primitive 'I', accessFlags := 0x411 }
/-- [I -/
def k10 : Class := { plain "[I" (some 0) with kind := .array 9 .int, interfaces := #[5, 6], accessFlags := 1041 }

def heap : Heap := #[]
def classes : Array Class := #[k0, k1, k2, k3, k4, k5, k6, k7, k8, k9, k10]
def interned : List (Array UInt16 × Addr) := []
def slotsUsed : Nat := 0
def theMethod : MethodId := ⟨1, 1⟩
def args0 : Array Value := #[.long 7, .long 7, .int 5, .int 5]
def aboutOver (below : List Frame) : State where
  vm := { classes := classes, interned := interned.toArray }
  heap := heap
  slotsUsed := slotsUsed
  threads := #[{ frames := .invoking theMethod args0 :: below }]
def below0 : List Frame := [.native { method := ⟨0, 0⟩, args := #[] }]
def about1 : State := aboutOver below0
def p0 : Program := .bare "" "" ""
def e0 : Env := launch0.env 0 0 0
theorem w_frames : about1.frames = Frame.invoking theMethod args0 :: below0 := rfl
set_option maxRecDepth 65536 in
theorem w_args : argsFit about1.vm theMethod args0 = true := by decide +kernel
set_option maxRecDepth 65536 in
theorem w_heap : heapFits about1 = true := by decide +kernel
set_option maxRecDepth 65536 in
theorem w_runnable : about1.curStatus? = some .runnable := by decide +kernel
set_option maxRecDepth 65536 in
theorem w_alone : about1.alone = true := by decide +kernel
set_option maxRecDepth 65536 in
theorem w_named : about1.methodNamed? x = some theMethod := by decide +kernel
set_option maxRecDepth 65536 in
theorem w_hears : about1.hears theMethod below0 = true := by decide +kernel
set_option maxRecDepth 65536 in
theorem w_ripe : about1.ripe theMethod args0 below0 = true := by decide +kernel
theorem w_running : about1.status = .running := rfl
set_option maxRecDepth 65536 in
theorem w_room : about1.hasRoom e0.platform room_1 = true :=
  launch0.hasRoom_least _ room_1 (by decide +kernel) (by decide +kernel) (by decide +kernel) (by decide +kernel) (by decide +kernel) (by decide +kernel)
theorem allAtoms_all (ts : List Jvm.Cond) (a : Array Jvm.Value) (st : Jvm.State) : (allAtoms ts).before a st = ts.all (fun c => c.before a st) := by
  induction ts with
  | nil => rfl
  | cons c t ih =>
    show (Jvm.Cond.and c (allAtoms t)).before a st = _
    rw [Jvm.Cond.before_and, ih, List.all_cons]
def words1 : List Jvm.Cond := Jvm.Cond.code x code maxLocals ret :: tables_1
/-- a 'code' word, met by the world's own term for the bytes: nothing is compared byte by byte -/
theorem code_word {y : MethodName} {bytes : ByteArray} {mx : Nat} {rt : Option FieldType} {a : Array Value} {s : State} {m : MethodId} {meth : Method} {c : Code} (h1 : s.methodNamed? y = some m) (h2 : s.vm.method? m = some meth) (h3 : meth.code = some c) (h4 : c.code = bytes)
    (h5 : (c.maxLocals == mx && c.exceptionTable.isEmpty && decide (c.maxStack ≤ mostOperands) && decide (meth.sig.returnType = rt) && !meth.locks && decide (parseMethodDescriptor y.desc = some meth.sig)) = true) : (Jvm.Cond.code y bytes mx rt).before a s = true := by
  simp only [Bool.and_eq_true, beq_iff_eq, Bool.not_eq_true', decide_eq_true_eq] at h5
  obtain ⟨⟨⟨⟨⟨g1, g2⟩, g3⟩, g4⟩, g5⟩, g6⟩ := h5
  simp [Cond.before, Cond.holds, Cond.value, h1, h2, h3, h4, g1, g2, g3, g4, g5, g6]
def isCode : Jvm.Cond → Bool
  | .code _ _ _ _ => true
  | _ => false
theorem all_split {L : List Jvm.Cond} {P : Jvm.Cond → Bool} (h1 : L.all (fun c => isCode c || P c) = true) (h2 : ∀ c ∈ L.filter isCode, P c = true) : L.all P = true := by
  refine List.all_eq_true.mpr fun c hc => ?_
  have h := List.all_eq_true.mp h1 c hc
  rcases Bool.eq_false_or_eq_true (isCode c) with hi | hi
  · exact h2 c (List.mem_filter.mpr ⟨hc, hi⟩)
  · simpa [hi] using h
set_option maxRecDepth 65536 in
theorem w_c0 : (Jvm.Cond.code x code maxLocals ret).before args0 about1 = true := code_word (m := ⟨1, 1⟩) (meth := k1m1) (c := k1c1) (by decide +kernel) rfl rfl rfl (by decide +kernel)
set_option maxRecDepth 65536 in
theorem w_c1 : (Jvm.Cond.code ({ cls := "java/lang/Math", name := "min", desc := "(JJ)J" } : Jvm.MethodName) jdk_29_method_70_code (4 : Nat) (Option.some Jvm.ClassFile.FieldType.long)).before args0 about1 = true := code_word (m := ⟨2, 2⟩) (meth := k2m2) (c := k2c2) (by decide +kernel) rfl rfl rfl (by decide +kernel)
set_option maxRecDepth 65536 in
theorem w_c2 : (Jvm.Cond.code ({ cls := "java/lang/Math", name := "max", desc := "(JJ)J" } : Jvm.MethodName) jdk_29_method_66_code (4 : Nat) (Option.some Jvm.ClassFile.FieldType.long)).before args0 about1 = true := code_word (m := ⟨2, 1⟩) (meth := k2m1) (c := k2c1) (by decide +kernel) rfl rfl rfl (by decide +kernel)
set_option maxRecDepth 65536 in
theorem w_c3 : (Jvm.Cond.code ({ cls := "com/example/ponca/ponca/mqtt/Backoff", name := "<init>", desc := "(JJ)V" } : Jvm.MethodName) prog_15_method_1_code (5 : Nat) (Option.none : Option Jvm.ClassFile.FieldType)).before args0 about1 = true := code_word (m := ⟨4, 0⟩) (meth := k4m0) (c := k4c0) (by decide +kernel) rfl rfl rfl (by decide +kernel)
set_option maxRecDepth 65536 in
theorem w_c4 : (Jvm.Cond.code ({ cls := "java/lang/Record", name := "<init>", desc := "()V" } : Jvm.MethodName) jdk_30_method_1_code (1 : Nat) (Option.none : Option Jvm.ClassFile.FieldType)).before args0 about1 = true := code_word (m := ⟨3, 0⟩) (meth := k3m0) (c := k3c0) (by decide +kernel) rfl rfl rfl (by decide +kernel)
set_option maxRecDepth 65536 in
theorem w_c5 : (Jvm.Cond.code ({ cls := "java/lang/Object", name := "<init>", desc := "()V" } : Jvm.MethodName) object_method_1_code (1 : Nat) (Option.none : Option Jvm.ClassFile.FieldType)).before args0 about1 = true := code_word (m := ⟨0, 0⟩) (meth := k0m0) (c := k0c0) (by decide +kernel) rfl rfl rfl (by decide +kernel)
set_option maxRecDepth 65536 in
theorem w_c6 : (Jvm.Cond.code ({ cls := "com/example/ponca/ponca/mqtt/Backoff", name := "delayMillis", desc := "(I)J" } : Jvm.MethodName) prog_15_method_2_code (5 : Nat) (Option.some Jvm.ClassFile.FieldType.long)).before args0 about1 = true := code_word (m := ⟨4, 1⟩) (meth := k4m1) (c := k4c1) (by decide +kernel) rfl rfl rfl (by decide +kernel)
set_option maxRecDepth 65536 in
theorem w_c7 : (Jvm.Cond.code ({ cls := "com/example/ponca/ponca/mqtt/BackoffDelayMillisPinLaw", name := "expected", desc := "(JJI)J" } : Jvm.MethodName) method_3_code (5 : Nat) (Option.some Jvm.ClassFile.FieldType.long)).before args0 about1 = true := code_word (m := ⟨1, 2⟩) (meth := k1m2) (c := k1c2) (by decide +kernel) rfl rfl rfl (by decide +kernel)
def codes1 : List Jvm.Cond := [Jvm.Cond.code x code maxLocals ret, Jvm.Cond.code ({ cls := "java/lang/Math", name := "min", desc := "(JJ)J" } : Jvm.MethodName) jdk_29_method_70_code (4 : Nat) (Option.some Jvm.ClassFile.FieldType.long), Jvm.Cond.code ({ cls := "java/lang/Math", name := "max", desc := "(JJ)J" } : Jvm.MethodName) jdk_29_method_66_code (4 : Nat) (Option.some Jvm.ClassFile.FieldType.long), Jvm.Cond.code ({ cls := "com/example/ponca/ponca/mqtt/Backoff", name := "<init>", desc := "(JJ)V" } : Jvm.MethodName) prog_15_method_1_code (5 : Nat) (Option.none : Option Jvm.ClassFile.FieldType), Jvm.Cond.code ({ cls := "java/lang/Record", name := "<init>", desc := "()V" } : Jvm.MethodName) jdk_30_method_1_code (1 : Nat) (Option.none : Option Jvm.ClassFile.FieldType), Jvm.Cond.code ({ cls := "java/lang/Object", name := "<init>", desc := "()V" } : Jvm.MethodName) object_method_1_code (1 : Nat) (Option.none : Option Jvm.ClassFile.FieldType), Jvm.Cond.code ({ cls := "com/example/ponca/ponca/mqtt/Backoff", name := "delayMillis", desc := "(I)J" } : Jvm.MethodName) prog_15_method_2_code (5 : Nat) (Option.some Jvm.ClassFile.FieldType.long), Jvm.Cond.code ({ cls := "com/example/ponca/ponca/mqtt/BackoffDelayMillisPinLaw", name := "expected", desc := "(JJI)J" } : Jvm.MethodName) method_3_code (5 : Nat) (Option.some Jvm.ClassFile.FieldType.long)]
set_option maxRecDepth 65536 in
theorem codes_eq : words1.filter isCode = codes1 := rfl
theorem w_codes : ∀ c ∈ words1.filter isCode, c.before args0 about1 = true := by
  rw [codes_eq]
  intro c hc
  simp only [codes1, List.mem_cons, List.not_mem_nil, or_false] at hc
  rcases hc with rfl | rfl | rfl | rfl | rfl | rfl | rfl | rfl
  · exact w_c0
  · exact w_c1
  · exact w_c2
  · exact w_c3
  · exact w_c4
  · exact w_c5
  · exact w_c6
  · exact w_c7
set_option maxRecDepth 65536 in
theorem w_t1 : (words1.take 24).all (fun c => isCode c || c.before args0 about1) = true := by decide +kernel
set_option maxRecDepth 65536 in
theorem w_t2 : (words1.drop 24).all (fun c => isCode c || c.before args0 about1) = true := by decide +kernel
theorem w_tables : (allAtoms (Jvm.Cond.code x code maxLocals ret :: tables_1)).before args0 about1 = true := by
  rw [allAtoms_all]
  show words1.all (fun c => c.before args0 about1) = true
  refine all_split ?_ w_codes
  rw [← List.take_append_drop 24 words1, List.all_append, w_t1, w_t2]
  rfl
set_option maxRecDepth 65536 in
theorem w_case : (Jvm.Cond.and given_1 narrow_1).before args0 about1 = true := by decide +kernel
theorem w_applies : (headSpec (Jvm.Cond.code x code maxLocals ret :: tables_1) room_1).applies x e0.platform about1 = true :=
  (Spec.applies_iff w_frames).mpr ⟨w_running, w_runnable, w_alone, w_named, w_hears, w_ripe, w_room, w_tables⟩
theorem atStart : AtStart classFile x code maxLocals ret World_1 tables_1 room_1 Calls_1 rest_1 Pre_1 launch0 p0 e0 about1 theMethod args0 below0 :=
  ⟨lists_1, trivial, launch0.admits_env _ _ _, launch0.least_env, fairChoices_fair.cas, fairChoices_fair.clock, w_frames, w_args, w_heap, w_applies, trivial, trivial, w_case⟩
end start1
theorem witness_1 : WitnessClaimed_1 := ⟨start1.p0, start1.e0, start1.about1, start1.theMethod, start1.args0, start1.below0, start1.atStart⟩
end Jvm.Pilot.@@N@@
