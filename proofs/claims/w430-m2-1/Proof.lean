import JvmDerived
import JvmDerived.Pilot.@@N@@Statement
import JvmDerived.Pilot.@@N@@Code
set_option linter.unusedVariables false
set_option linter.unusedSimpArgs false
@@BLOCK:NumsL.lean.txt@@
namespace Jvm.RoadKit
open Sem ClassFile Op Lib Jvm.Stand Jvm.Free Jvm.LawKit
section New
variable {p : Program} {l : Launch} {e : Env} {R : Room} {s : State} {m : MethodId} {args : Array Value} {below : List Frame} {meth : Method} {c : Code} {T : State} {locs : List Loc} {cells slots : Nat}
theorem retI (X : Stand p l e R s m args below meth c T locs cells slots) (hx : p.tables.exec = Jvm.exec) {pc : Nat} {Ls : Array Slot} {z : Int32} {rest : List Value} (hret : meth.sig.returnType = some .int) (hd : decode c.code pc = .ok (.ireturn, 1)) {fs : List Frame}
    (hl : ∀ (f : JFrame) (acts : List Action), f.method = m → f.locked = none → f.entered = [] → (doReturn e (T.setTop f) acts (some (.int z))).1 = T.setFrames fs) : Steps p.tables e below (T.setTop (mkF m pc Ls (.int z :: rest))) (T.setFrames fs) := by
  have hm' : T.vm.method? m = some meth := X.method'
  have hn : narrow .int (.int z) = .int z := rfl
  show Steps p.tables e below (T.setTop { method := m, pc := pc, locals := Ls, stack := _ :: rest, locked := none }) _
  jvm_step X.here [X.here.top, hx, hd, hm', hret, hn]
  first | (intro acts; rw [hl _ acts rfl rfl rfl]) | rw [hl _ _ rfl rfl rfl]
  exact Steps.refl _
end New
theorem own_dia {tb : Tables} {e : Env} {below : List Frame} {T tgt : State} {g : JFrame} {A : Type} {u v : A} (q : Prop) [Decidable q] (f : A → JFrame)
    (h1 : q → Steps tb e below (T.setTop (f u)) tgt → Steps tb e below (T.setTop g) tgt) (h0 : ¬ q → Steps tb e below (T.setTop (f v)) tgt → Steps tb e below (T.setTop g) tgt)
    (k : Steps tb e below (T.setTop (f (if q then u else v))) tgt) : Steps tb e below (T.setTop g) tgt := by
  by_cases hq : q
  · rw [if_pos hq] at k; exact h1 hq k
  · rw [if_neg hq] at k; exact h0 hq k
theorem own_cast {tb : Tables} {e : Env} {below : List Frame} {T tgt : State} {A : Type} {u v : A} (f : A → JFrame) (h : u = v) (k : Steps tb e below (T.setTop (f v)) tgt) : Steps tb e below (T.setTop (f u)) tgt := h ▸ k
theorem own_llt {x y : Int64} (h : x < y) : ifCond.holds .lt (lcmpW x y) = true ∧ ifCond.holds .ge (lcmpW x y) = false := by
  rw [if0, if0]; exact ⟨(tlt ((lw_lt x y).mpr h)).1, (tlt ((lw_lt x y).mpr h)).2.1⟩
theorem own_lge {x y : Int64} (h : ¬ x < y) : ifCond.holds .lt (lcmpW x y) = false ∧ ifCond.holds .ge (lcmpW x y) = true := by
  rw [if0, if0]; exact ⟨(flt fun q => h ((lw_lt x y).mp q)).1, (flt fun q => h ((lw_lt x y).mp q)).2.1⟩
theorem own_lgt {x y : Int64} (h : y < x) : ifCond.holds .gt (lcmpW x y) = true ∧ ifCond.holds .le (lcmpW x y) = false := by
  rw [if0, if0]; exact ⟨(tlt ((lw_gt x y).mpr h)).2.2.1, (tlt ((lw_gt x y).mpr h)).2.2.2⟩
theorem own_lle {x y : Int64} (h : ¬ y < x) : ifCond.holds .gt (lcmpW x y) = false ∧ ifCond.holds .le (lcmpW x y) = true := by
  rw [if0, if0]; exact ⟨(flt fun q => h ((lw_gt x y).mp q)).2.2.1, (flt fun q => h ((lw_gt x y).mp q)).2.2.2⟩
theorem own_leq {x y : Int64} (h : x = y) : ifCond.holds .eq (lcmpW x y) = true ∧ ifCond.holds .ne (lcmpW x y) = false := by
  rw [if0, if0]; exact ⟨(teq ((lw_eq x y).mpr h)).1, (teq ((lw_eq x y).mpr h)).2⟩
theorem own_lne {x y : Int64} (h : ¬ x = y) : ifCond.holds .eq (lcmpW x y) = false ∧ ifCond.holds .ne (lcmpW x y) = true := by
  rw [if0, if0]; exact ⟨(feq fun q => h ((lw_eq x y).mp q)).1, (feq fun q => h ((lw_eq x y).mp q)).2⟩
theorem own_bt {q : Prop} [Decidable q] (h : q) : ifCond.holds .ne (if q then (1 : Int32) else (0 : Int32)) = true ∧ ifCond.holds .eq (if q then (1 : Int32) else (0 : Int32)) = false := by
  rw [if_pos h]; exact ⟨rfl, rfl⟩
theorem own_bf {q : Prop} [Decidable q] (h : ¬ q) : ifCond.holds .ne (if q then (1 : Int32) else (0 : Int32)) = false ∧ ifCond.holds .eq (if q then (1 : Int32) else (0 : Int32)) = true := by
  rw [if_neg h]; exact ⟨rfl, rfl⟩
theorem own_ct {q : Prop} [Decidable q] (h : q) : ifCond.holds .ne (if q then (0 : Int32) else (1 : Int32)) = false ∧ ifCond.holds .eq (if q then (0 : Int32) else (1 : Int32)) = true := by
  rw [if_pos h]; exact ⟨rfl, rfl⟩
theorem own_cf {q : Prop} [Decidable q] (h : ¬ q) : ifCond.holds .ne (if q then (0 : Int32) else (1 : Int32)) = true ∧ ifCond.holds .eq (if q then (0 : Int32) else (1 : Int32)) = false := by
  rw [if_neg h]; exact ⟨rfl, rfl⟩
theorem own_b01 {q : Prop} [Decidable q] {x y : Int32} (hx : x = 0 ∨ x = 1) (hy : y = 0 ∨ y = 1) : (if q then x else y) = 0 ∨ (if q then x else y) = 1 := by
  split <;> assumption
def Arf (Z : State) (h : Heap) (a : Addr) (ty : FieldType) (n : Int32) (f : Nat → Value) : Prop :=
  ∃ c : Cell, Arr Z h a c ty ∧ c.slots.size = n.toNatClampNeg ∧ ¬ n < 0 ∧ ∀ i, i < n.toNatClampNeg → c.slots[i]? = some (f i)
theorem Arf.lt {Z : State} {h : Heap} {a : Addr} {ty : FieldType} {n : Int32} {f : Nat → Value} (F : Arf Z h a ty n f) : a < h.size := by
  obtain ⟨c, A, -⟩ := F; exact A.lt
theorem Arf.ext {Z : State} {h h' : Heap} {a : Addr} {ty : FieldType} {n : Int32} {f : Nat → Value} (F : Arf Z h a ty n f) (E : Ext h h') : Arf Z h' a ty n f := by
  obtain ⟨c, A, r⟩ := F; exact ⟨c, A.ext E, r⟩
theorem Arf.other {Z : State} {h h' : Heap} {a b : Addr} {sl : Nat} {v : Value} {ty : FieldType} {n : Int32} {f : Nat → Value} (F : Arf Z h b ty n f) (W : Wr h h' a sl v) (q : b ≠ a) : Arf Z h' b ty n f := by
  obtain ⟨c, A, r⟩ := F; exact ⟨c, A.other W q, r⟩
theorem Arf.keep {Z : State} {h h' : Heap} {a : Addr} {ws : List Addr} {ty : FieldType} {n : Int32} {f : Nat → Value} (F : Arf Z h a ty n f) (K : Keep h h' ws) (q : a ∉ ws) : Arf Z h' a ty n f := by
  obtain ⟨c, A, r⟩ := F; exact ⟨c, ⟨K.2.1 a c A.1 q, A.2⟩, r⟩
theorem own_arf_new {Z : State} {h : Heap} {a : Addr} {k : ClassId} {ty : FieldType} {z : Int32} (A : Arr Z h a (newA k ty z) ty) (q : ¬ z < 0) : Arf Z h a ty z (fun _ => defaultValue ty) :=
  ⟨_, A, sz_new _ _ _, q, fun i hi => by simp [newA, hi]⟩
theorem own_arf_set {Z : State} {h h' : Heap} {a : Addr} {ty : FieldType} {n : Int32} {f : Nat → Value} {j : Nat} {v : Value} (F : Arf Z h a ty n f) (W : Wr h h' a j v) : Arf Z h' a ty n (fun i => if i = j then v else f i) := by
  obtain ⟨c, A, S, M, H⟩ := F
  refine ⟨_, A.same W, by rw [sz_set]; exact S, M, fun i hi => ?_⟩
  show _ = some (if i = j then v else f i)
  by_cases u : i = j
  · subst u; rw [if_pos rfl]; rw [← S] at hi; simp [Cell.setSlot, hi]
  · rw [if_neg u]; have := H i hi; simp only [Cell.setSlot]; rw [Array.getElem?_setIfInBounds_ne (Ne.symm u)]; exact this
theorem own_arf_fn {Z : State} {h : Heap} {a : Addr} {ty : FieldType} {n : Int32} {f g : Nat → Value} (F : Arf Z h a ty n f) (q : ∀ i, i < n.toNatClampNeg → f i = g i) : Arf Z h a ty n g := by
  obtain ⟨c, A, S, M, H⟩ := F
  exact ⟨c, A, S, M, fun i hi => by rw [← q i hi]; exact H i hi⟩
theorem own_arf_setI {Z : State} {h h' : Heap} {a : Addr} {ty : FieldType} {n : Int32} {f : Nat → Int32} {j : Nat} {v : Int32} (F : Arf Z h a ty n (fun i => Value.int (f i))) (W : Wr h h' a j (.int v)) : Arf Z h' a ty n (fun i => Value.int (if i = j then v else f i)) :=
  own_arf_fn (own_arf_set F W) fun i _ => by by_cases u : i = j <;> simp [u]
theorem own_arf_setL {Z : State} {h h' : Heap} {a : Addr} {ty : FieldType} {n : Int32} {f : Nat → Int64} {j : Nat} {v : Int64} (F : Arf Z h a ty n (fun i => Value.long (f i))) (W : Wr h h' a j (.long v)) : Arf Z h' a ty n (fun i => Value.long (if i = j then v else f i)) :=
  own_arf_fn (own_arf_set F W) fun i _ => by by_cases u : i = j <;> simp [u]
theorem own_arf_at {c : Cell} {n j : Int32} {f : Nat → Value} (H : ∀ i, i < n.toNatClampNeg → c.slots[i]? = some (f i)) (S : c.slots.size = n.toNatClampNeg) (q : ¬ (j < 0 ∨ c.slots.size ≤ j.toNatClampNeg)) : c.slots[j.toNatClampNeg]? = some (f j.toNatClampNeg) :=
  H _ (by rw [← S]; exact Nat.lt_of_not_le fun y => q (Or.inr y))
theorem own_nb {x : Int32} (h : x = 0 ∨ x = 1) : nar .boolean x = x := by
  rcases h with rfl | rfl <;> rfl
end Jvm.RoadKit
namespace Jvm.Pilot.@@N@@
open Jvm Jvm.ClassFile Sem Op Lib Jvm.Free Jvm.Stand Jvm.LawKit Jvm.RoadKit Bundle Jvm.Pilot.@@N@@.Jvm.D

def own_upd (f : Nat → Int64) (i : Int32) (x : Int64) : Nat → Int64 := fun k => if k = i.toNatClampNeg then x else f k
def own_Tab (Z : State) (h : Heap) (n0 : Nat) (t : Addr) (nh nt : Int32) (f : Nat → Int64) : Prop :=
  ∃ hd tl : Addr, Exa Z h t "com/example/wedgestone/wedgestone/algorithm/LongTable" ∧ Fld Z h t "com/example/wedgestone/wedgestone/algorithm/LongTable" "head" "[J" (.ref hd) ∧ Fld Z h t "com/example/wedgestone/wedgestone/algorithm/LongTable" "tail" "[J" (.ref tl) ∧
    Arf Z h hd .long nh (fun i => Value.long (f i)) ∧ Arf Z h tl .long nt (fun i => Value.long (f (nh.toNatClampNeg + i))) ∧ t ≠ hd ∧ t ≠ tl ∧ hd ≠ tl ∧ n0 ≤ hd ∧ n0 ≤ tl
theorem own_sub {i n : Int32} (h0 : ¬ i < 0) (h1 : ¬ i < n) (h2 : ¬ n < 0) : (i - n).toInt = i.toInt - n.toInt := by
  have e0 : (0 : Int32).toInt = 0 := rfl
  have a := i.toInt_lt; have b := n.toInt_lt
  rw [Int32.lt_iff_toInt_lt] at h0 h1 h2
  exact Jvm.Kit.i32_sub (by omega) (by omega)
theorem own_subx {i n : Int32} (h0 : ¬ i < 0) (h1 : ¬ i < n) (h2 : ¬ n < 0) : n.toNatClampNeg + (i - n).toNatClampNeg = i.toNatClampNeg := by
  have e := own_sub h0 h1 h2
  have e0 : (0 : Int32).toInt = 0 := rfl
  rw [Int32.lt_iff_toInt_lt] at h0 h1 h2
  simp only [Int32.toNatClampNeg]; omega
theorem own_sub0 {i n : Int32} (h0 : ¬ i < 0) (h1 : ¬ i < n) (h2 : ¬ n < 0) : ¬ (i - n) < 0 := by
  have e := own_sub h0 h1 h2
  have e0 : (0 : Int32).toInt = 0 := rfl
  rw [Int32.lt_iff_toInt_lt] at h0 h1 h2 ⊢; omega
theorem own_subl {i n k : Int32} (h0 : ¬ i < 0) (h1 : ¬ i < n) (h2 : ¬ n < 0) (h3 : i.toInt < n.toInt + k.toInt) : (i - n) < k := by
  have e := own_sub h0 h1 h2
  have e0 : (0 : Int32).toInt = 0 := rfl
  rw [Int32.lt_iff_toInt_lt] at h0 h1 h2 ⊢; omega
theorem own_ixlt {i n : Int32} (h0 : ¬ i < 0) (h1 : i < n) : i.toNatClampNeg < n.toNatClampNeg := by
  have e0 : (0 : Int32).toInt = 0 := rfl
  rw [Int32.lt_iff_toInt_lt] at h0 h1; simp only [Int32.toNatClampNeg]; omega
theorem own_tab_h {Z : State} {h : Heap} {hd tl : Addr} {nh nt vi : Int32} {f : Nat → Int64} {vx : Int64} (h0 : ¬ vi < 0) (h1 : vi < nh) (B : Arf Z h tl .long nt (fun i => Value.long (f (nh.toNatClampNeg + i)))) :
    Arf Z h tl .long nt (fun i => Value.long (own_upd f vi vx (nh.toNatClampNeg + i))) :=
  own_arf_fn B fun i hi => by
    have := own_ixlt h0 h1
    rw [show own_upd f vi vx (nh.toNatClampNeg + i) = f (nh.toNatClampNeg + i) from if_neg (by omega)]
theorem own_tab_t1 {Z : State} {h : Heap} {hd : Addr} {nh vi : Int32} {f : Nat → Int64} {vx : Int64} (h0 : ¬ vi < 0) (h1 : ¬ vi < nh) (A : Arf Z h hd .long nh (fun i => Value.long (f i))) :
    Arf Z h hd .long nh (fun i => Value.long (own_upd f vi vx i)) :=
  own_arf_fn A fun i hi => by
    have e0 : (0 : Int32).toInt = 0 := rfl
    rw [Int32.lt_iff_toInt_lt] at h0 h1; simp only [Int32.toNatClampNeg] at hi
    rw [show own_upd f vi vx i = f i from if_neg (by simp only [Int32.toNatClampNeg]; omega)]
theorem own_tab_t2 {Z : State} {h : Heap} {tl : Addr} {nh nt vi : Int32} {f : Nat → Int64} {vx : Int64} (h0 : ¬ vi < 0) (h1 : ¬ vi < nh) (h2 : ¬ nh < 0) (B : Arf Z h tl .long nt (fun i => Value.long (if i = (vi - nh).toNatClampNeg then vx else f (nh.toNatClampNeg + i)))) :
    Arf Z h tl .long nt (fun i => Value.long (own_upd f vi vx (nh.toNatClampNeg + i))) :=
  own_arf_fn B fun i hi => by
    have e := own_subx h0 h1 h2
    by_cases u : i = (vi - nh).toNatClampNeg
    · rw [if_pos u, show own_upd f vi vx (nh.toNatClampNeg + i) = vx from if_pos (by omega)]
    · rw [if_neg u, show own_upd f vi vx (nh.toNatClampNeg + i) = f (nh.toNatClampNeg + i) from if_neg (by omega)]

theorem d4_0 : decode jdk_29_method_70_code 0 = .ok (.lload_n 0, 1) := by decide +kernel
theorem d4_1 : decode jdk_29_method_70_code 1 = .ok (.lload_n 2, 1) := by decide +kernel
theorem d4_2 : decode jdk_29_method_70_code 2 = .ok (.lcmp, 1) := by decide +kernel
theorem d4_3 : decode jdk_29_method_70_code 3 = .ok (.ifCond .gt 7, 3) := by decide +kernel
theorem d4_6 : decode jdk_29_method_70_code 6 = .ok (.lload_n 0, 1) := by decide +kernel
theorem d4_7 : decode jdk_29_method_70_code 7 = .ok (.goto 4, 3) := by decide +kernel
theorem d4_10 : decode jdk_29_method_70_code 10 = .ok (.lload_n 2, 1) := by decide +kernel
theorem d4_11 : decode jdk_29_method_70_code 11 = .ok (.lreturn, 1) := by decide +kernel
theorem ef_4 (m : MethodId) (va : Int64) (vb : Int64) : entryFrame m #[(.long va), (.long vb)] 4 = mkF m 0 #[.val (.long va), .second, .val (.long vb), .second] [] := by first | (simp [entryFrame, mkF, argsToLocals, Value.category]; done) | rfl
def F4 (va : Int64) (vb : Int64) : Int64 := (if vb < va then vb else va)
def Q4 (Z : State) (va : Int64) (vb : Int64) (h0 : Heap) (n0 : Nat) (v : Option Value) (h : Heap) (L : List Loc) : Prop := v = some (.long (F4 va vb)) ∧ Fr n0 L ∧ h = h0
set_option maxRecDepth 65536 in
set_option maxHeartbeats 40000000 in
theorem rm4 (l : Launch) (Z : State) (a0 : Array Value) (hw : ∀ d ∈ tables_1, d.before a0 Z = true) (ws : List Jvm.Cond) (va : Int64) (vb : Int64) (h0 : Heap) (n0 : Nat) (Z0 : n0 ≤ h0.size)  :
    MetFree l (⟨"java/lang/Math", "min", "(JJ)J"⟩ : MethodName) (head1 (Jvm.Cond.code (⟨"java/lang/Math", "min", "(JJ)J"⟩ : MethodName) jdk_29_method_70_code 4 (some .long) :: ws) ({ frames := 0, cells := 0, slots := 0, locals := 0 } : Room)) (fun a U => a = #[(.long va), (.long vb)] ∧ Z.Warmed39 U.vm ∧ U.heap = h0) (fun _ _ _ _ _ => True) (fun _ U o U' => ∃ v L, o = .returned v ∧ Q4 Z va vb h0 n0 v U'.heap L ∧ FrameEnd U o U' L ({ frames := 0, cells := 0, slots := 0, locals := 0 } : Room).cells ({ frames := 0, cells := 0, slots := 0, locals := 0 } : Room).slots) := by
  refine MetFree.of_bodySF (Jvm.Free.JP.mathPlain rfl (by decide +kernel)) hisR ?_
  intro p e s m args below meth c s₁ Bd hml0 hP hK
  obtain ⟨rfl, hZ, hh⟩ := hP
  have hx := Bd.exec
  have hby := Bd.bytes
  have hml : c.maxLocals = 4 := hml0
  have hown : s.vm.findClass "java/lang/Math" = some m.cls := findClass_of_methodNamed Bd.named
  have hnm := (name_of_methodNamed Bd.named Bd.method).1
  have X0 : Stand p l e ({ frames := 0, cells := 0, slots := 0, locals := 0 } : Room) s m #[(.long va), (.long vb)] below meth c s₁ [] 0 0 := Stand.of_body Bd
  have e0 : s₁.heap = h0 := by rw [← hh, Bd.state]; rfl
  have N0 := Fr.nil n0
  have pre0 : ∀ t, Steps p.tables e below (s₁.setTop (mkF m 0 #[.val (.long va), .second, .val (.long vb), .second] [])) t → Steps p.tables e below (s₁.setTop (entryFrame m #[(.long va), (.long vb)] 4)) t := fun t k => castTop (ef_4 m va vb) k
  obtain ⟨fs, hr, hrun, hended, hW, hsame⟩ := X0.leave (v := some (.long (if vb < va then vb else va))) (fun h => by rw [Bd.returns] at h; cases h)
  refine ⟨_, _, pre0 _ ?_, hrun, hended, _, _, rfl, ?_, ⟨_, rfl⟩, hW, hsame.mono (by decide) (by decide)⟩
  · show Steps p.tables e below (s₁.setTop (mkF m 0 #[.val (.long va), .second, .val (.long vb), .second] [])) _
    refine XS.lloadN X0.here hx rfl (hb hby d4_0) rfl ?_
    show Steps p.tables e below (s₁.setTop (mkF m 1 #[.val (.long va), .second, .val (.long vb), .second] [(.long va)])) _
    refine XS.lloadN X0.here hx rfl (hb hby d4_1) rfl ?_
    show Steps p.tables e below (s₁.setTop (mkF m 2 #[.val (.long va), .second, .val (.long vb), .second] [(.long vb), (.long va)])) _
    refine XS.lcmp X0.here hx rfl (hb hby d4_2) rfl ?_
    show Steps p.tables e below (s₁.setTop (mkF m 3 #[.val (.long va), .second, .val (.long vb), .second] [(.int (lcmpW va vb))])) _
    refine own_dia (u := (vb : Int64)) (v := va) (vb < va) (fun z1 => (mkF m 11 #[.val (.long va), .second, .val (.long vb), .second] [(.long z1)])) (fun hc1 k1 => ?_) (fun hc1 k1 => ?_) ?_
    · refine XS.ifYes X0.here hx rfl (pc0 := 3) (pc' := 10) rfl (hb hby d4_3) rfl (own_lgt hc1).1 (by decide) (by decide) ?_
      show Steps p.tables e below (s₁.setTop (mkF m 10 #[.val (.long va), .second, .val (.long vb), .second] [])) _
      refine XS.lloadN X0.here hx rfl (hb hby d4_10) rfl ?_
      exact k1
    · refine XS.ifNo X0.here hx rfl (hb hby d4_3) rfl (own_lle hc1).1 ?_
      show Steps p.tables e below (s₁.setTop (mkF m 6 #[.val (.long va), .second, .val (.long vb), .second] [])) _
      refine XS.lloadN X0.here hx rfl (hb hby d4_6) rfl ?_
      show Steps p.tables e below (s₁.setTop (mkF m 7 #[.val (.long va), .second, .val (.long vb), .second] [(.long va)])) _
      refine XS.goto X0.here hx rfl (pc0 := 7) (pc' := 11) rfl (hb hby d4_7) (by decide) (by decide) ?_
      exact k1
    -- meets at 11
    show Steps p.tables e below (s₁.setTop (mkF m 11 #[.val (.long va), .second, .val (.long vb), .second] [(.long (if vb < va then vb else va))])) _
    exact X0.lreturnOut hx Bd.returns (hb hby d4_11) hr
  · show Q4 Z va vb h0 n0 _ s₁.heap _
    rw [e0]
    exact ⟨rfl, N0, rfl⟩
theorem pd_0 : parseMethodDescriptor "(JJ)J" = some ⟨[.long, .long], some .long⟩ := by decide +kernel
theorem d3_0 : decode prog_30_method_2_code 0 = .ok (.lload_n 0, 1) := by decide +kernel
theorem d3_1 : decode prog_30_method_2_code 1 = .ok (.lconst 0, 1) := by decide +kernel
theorem d3_2 : decode prog_30_method_2_code 2 = .ok (.lcmp, 1) := by decide +kernel
theorem d3_3 : decode prog_30_method_2_code 3 = .ok (.ifCond .lt 16, 3) := by decide +kernel
theorem d3_6 : decode prog_30_method_2_code 6 = .ok (.lload_n 0, 1) := by decide +kernel
theorem d3_7 : decode prog_30_method_2_code 7 = .ok (.ldc2_w 9, 3) := by decide +kernel
theorem d3_10 : decode prog_30_method_2_code 10 = .ok (.lcmp, 1) := by decide +kernel
theorem d3_11 : decode prog_30_method_2_code 11 = .ok (.ifCond .gt 8, 3) := by decide +kernel
theorem d3_14 : decode prog_30_method_2_code 14 = .ok (.iload_n 2, 1) := by decide +kernel
theorem d3_15 : decode prog_30_method_2_code 15 = .ok (.iconst 1, 1) := by decide +kernel
theorem d3_16 : decode prog_30_method_2_code 16 = .ok (.if_icmp .ge 18, 3) := by decide +kernel
theorem d3_34 : decode prog_30_method_2_code 34 = .ok (.lload_n 0, 1) := by decide +kernel
theorem d3_35 : decode prog_30_method_2_code 35 = .ok (.iload_n 2, 1) := by decide +kernel
theorem d3_36 : decode prog_30_method_2_code 36 = .ok (.i2l, 1) := by decide +kernel
theorem d3_37 : decode prog_30_method_2_code 37 = .ok (.invokestatic 20, 3) := by decide +kernel
theorem d3_40 : decode prog_30_method_2_code 40 = .ok (.l2i, 1) := by decide +kernel
theorem d3_41 : decode prog_30_method_2_code 41 = .ok (.ireturn, 1) := by decide +kernel
theorem pn_3 : plainName "com/example/wedgestone/wedgestone/algorithm/Tables" = true := by first | (simp [plainName, overriddenIn]; done) | decide +kernel
theorem ef_3 (m : MethodId) (vl : Int64) (vm : Int32) : entryFrame m #[(.long vl), (.int vm)] 3 = mkF m 0 #[.val (.long vl), .second, .val (.int vm)] [] := by first | (simp [entryFrame, mkF, argsToLocals, Value.category]; done) | rfl
def F3 (vl : Int64) (vm : Int32) : Int32 := ((F4 vl (vm.toInt64)).toInt32)
def Q3 (Z : State) (vl : Int64) (vm : Int32) (h0 : Heap) (n0 : Nat) (v : Option Value) (h : Heap) (L : List Loc) : Prop := v = some (.int (F3 vl vm)) ∧ Fr n0 L ∧ h = h0
set_option maxRecDepth 65536 in
set_option maxHeartbeats 40000000 in
theorem rm3 (l : Launch) (Z : State) (a0 : Array Value) (hw : ∀ d ∈ tables_1, d.before a0 Z = true) (ws : List Jvm.Cond) (vl : Int64) (vm : Int32) (h0 : Heap) (n0 : Nat) (Z0 : n0 ≤ h0.size) (hq0 : ¬ vl < (0 : Int64)) (hq1 : ¬ (2147483648 : Int64) < vl) (hq2 : ¬ vm < (1 : Int32)) :
    MetFree l (⟨"com/example/wedgestone/wedgestone/algorithm/Tables", "headLength", "(JI)I"⟩ : MethodName) (head1 (Jvm.Cond.code (⟨"com/example/wedgestone/wedgestone/algorithm/Tables", "headLength", "(JI)I"⟩ : MethodName) prog_30_method_2_code 3 (some .int) :: ws) ({ frames := 1, cells := 0, slots := 0, locals := 15 } : Room)) (fun a U => a = #[(.long vl), (.int vm)] ∧ Z.Warmed39 U.vm ∧ U.heap = h0) (fun _ _ _ _ _ => True) (fun _ U o U' => ∃ v L, o = .returned v ∧ Q3 Z vl vm h0 n0 v U'.heap L ∧ FrameEnd U o U' L ({ frames := 1, cells := 0, slots := 0, locals := 15 } : Room).cells ({ frames := 1, cells := 0, slots := 0, locals := 15 } : Room).slots) := by
  refine MetFree.of_bodySF (plainFor_of_name pn_3) hisR ?_
  intro p e s m args below meth c s₁ Bd hml0 hP hK
  obtain ⟨rfl, hZ, hh⟩ := hP
  have hx := Bd.exec
  have hby := Bd.bytes
  have hml : c.maxLocals = 3 := hml0
  have hown : s.vm.findClass "com/example/wedgestone/wedgestone/algorithm/Tables" = some m.cls := findClass_of_methodNamed Bd.named
  have hnm := (name_of_methodNamed Bd.named Bd.method).1
  have X0 : Stand p l e ({ frames := 1, cells := 0, slots := 0, locals := 15 } : Room) s m #[(.long vl), (.int vm)] below meth c s₁ [] 0 0 := Stand.of_body Bd
  have e0 : s₁.heap = h0 := by rw [← hh, Bd.state]; rfl
  have N0 := Fr.nil n0
  have pre0 : ∀ t, Steps p.tables e below (s₁.setTop (mkF m 0 #[.val (.long vl), .second, .val (.int vm)] [])) t → Steps p.tables e below (s₁.setTop (entryFrame m #[(.long vl), (.int vm)] 3)) t := fun t k => castTop (ef_3 m vl vm) k
  obtain ⟨_, _, ⟨T1, L1, k1, n1⟩, -, X1, ⟨Lc1, hQ1, l1, y1, z1⟩, st1⟩ := Jvm.LawKit.callS X0 hx (y := (⟨"java/lang/Math", "min", "(JJ)J"⟩ : MethodName)) hown (mvT hZ (hw _ (List.mem_of_getElem? (i := 15) rfl))) (mvT hZ (hw _ (List.mem_of_getElem? (i := 16) rfl))) (mvT hZ (hw _ (List.mem_of_getElem? (i := 17) rfl))) (mvT hZ (hw _ (List.mem_of_getElem? (i := 18) rfl))) (by decide) (backOf (W := 0) (rm4 l Z a0 hw [] vl (vm.toInt64)  h0 n0 Z0 ) hZ (hw _ (List.mem_of_getElem? (i := 18) rfl)) (hw _ (List.mem_of_getElem? (i := 17) rfl)) (by decide) (by decide)) (g := (mkF m 37 #[.val (.long vl), .second, .val (.int vm)] [(.long (vm.toInt64)), (.long vl)])) rfl (by rw [hml]; rfl) (argsL := [(.long vl), (.long (vm.toInt64))]) (rest := []) (lenOf pd_0 rfl) rfl (by show 2 * 0 + _ ≤ _; exact Nat.le_of_eq rfl) (hb hby d3_37) (fun _ _ => ⟨rfl, e0, (by decide : 0 + 0 ≤ _), (by decide : 0 + 0 ≤ _)⟩)
  dsimp only [Pt.U, Pt.locs, Pt.cells, Pt.slots] at X1 l1 y1 z1 st1 hQ1
  subst l1 y1 z1
  obtain ⟨rfl, N1q, e1⟩ := hQ1
  have N1 := Fr.app N0 N1q
  obtain ⟨fs, hr, hrun, hended, hW, hsame⟩ := X1.leave (v := some (.int ((F4 vl (vm.toInt64)).toInt32))) (fun h => by rw [Bd.returns] at h; cases h)
  refine ⟨_, _, pre0 _ ?_, hrun, hended, _, _, rfl, ?_, ⟨_, rfl⟩, hW, hsame.mono (by decide) (by decide)⟩
  · show Steps p.tables e below (s₁.setTop (mkF m 0 #[.val (.long vl), .second, .val (.int vm)] [])) _
    refine XS.lloadN X0.here hx rfl (hb hby d3_0) rfl ?_
    show Steps p.tables e below (s₁.setTop (mkF m 1 #[.val (.long vl), .second, .val (.int vm)] [(.long vl)])) _
    refine XS.lconst X0.here hx rfl (hb hby d3_1) ?_
    show Steps p.tables e below (s₁.setTop (mkF m 2 #[.val (.long vl), .second, .val (.int vm)] [(.long (0 : Int64)), (.long vl)])) _
    refine XS.lcmp X0.here hx rfl (hb hby d3_2) rfl ?_
    show Steps p.tables e below (s₁.setTop (mkF m 3 #[.val (.long vl), .second, .val (.int vm)] [(.int (lcmpW vl (0 : Int64)))])) _
    refine XS.ifNo X0.here hx rfl (hb hby d3_3) rfl (own_lge (hq0 : ¬ (vl < (0 : Int64)))).1 ?_
    show Steps p.tables e below (s₁.setTop (mkF m 6 #[.val (.long vl), .second, .val (.int vm)] [])) _
    refine XS.lloadN X0.here hx rfl (hb hby d3_6) rfl ?_
    show Steps p.tables e below (s₁.setTop (mkF m 7 #[.val (.long vl), .second, .val (.int vm)] [(.long vl)])) _
    refine X0.ldc2Long hx hown (mvT hZ (hw _ (List.mem_of_getElem? (i := 14) rfl))) (g := (mkF m 7 #[.val (.long vl), .second, .val (.int vm)] [(.long vl)])) rfl (hb hby d3_7) _ ?_
    show Steps p.tables e below (s₁.setTop (mkF m 10 #[.val (.long vl), .second, .val (.int vm)] [(.long (2147483648 : Int64)), (.long vl)])) _
    refine XS.lcmp X0.here hx rfl (hb hby d3_10) rfl ?_
    show Steps p.tables e below (s₁.setTop (mkF m 11 #[.val (.long vl), .second, .val (.int vm)] [(.int (lcmpW vl (2147483648 : Int64)))])) _
    refine XS.ifNo X0.here hx rfl (hb hby d3_11) rfl (own_lle (hq1 : ¬ ((2147483648 : Int64) < vl))).1 ?_
    show Steps p.tables e below (s₁.setTop (mkF m 14 #[.val (.long vl), .second, .val (.int vm)] [])) _
    refine XS.iloadN X0.here hx rfl (hb hby d3_14) rfl ?_
    show Steps p.tables e below (s₁.setTop (mkF m 15 #[.val (.long vl), .second, .val (.int vm)] [(.int vm)])) _
    refine XS.iconst X0.here hx rfl (hb hby d3_15) ?_
    show Steps p.tables e below (s₁.setTop (mkF m 16 #[.val (.long vl), .second, .val (.int vm)] [(.int (1 : Int32)), (.int vm)])) _
    refine XS.icmpYes X0.here hx rfl (pc0 := 16) (pc' := 34) rfl (hb hby d3_16) rfl (flt (hq2 : ¬ (vm < (1 : Int32)))).2.1 (by decide) (by decide) ?_
    show Steps p.tables e below (s₁.setTop (mkF m 34 #[.val (.long vl), .second, .val (.int vm)] [])) _
    refine XS.lloadN X0.here hx rfl (hb hby d3_34) rfl ?_
    show Steps p.tables e below (s₁.setTop (mkF m 35 #[.val (.long vl), .second, .val (.int vm)] [(.long vl)])) _
    refine XS.iloadN X0.here hx rfl (hb hby d3_35) rfl ?_
    show Steps p.tables e below (s₁.setTop (mkF m 36 #[.val (.long vl), .second, .val (.int vm)] [(.int vm), (.long vl)])) _
    refine XS.i2l X0.here hx rfl (hb hby d3_36) rfl ?_
    show Steps p.tables e below (s₁.setTop (mkF m 37 #[.val (.long vl), .second, .val (.int vm)] [(.long (vm.toInt64)), (.long vl)])) _
    refine st1 _ ?_
    show Steps p.tables e below (T1.setTop (mkF m 40 #[.val (.long vl), .second, .val (.int vm)] [(.long (F4 vl (vm.toInt64)))])) _
    refine XS.l2i X1.here hx rfl (hb hby d3_40) rfl ?_
    show Steps p.tables e below (T1.setTop (mkF m 41 #[.val (.long vl), .second, .val (.int vm)] [(.int ((F4 vl (vm.toInt64)).toInt32))])) _
    exact retI X1 hx Bd.returns (hb hby d3_41) hr
  · show Q3 Z vl vm h0 n0 _ T1.heap _
    rw [e1]
    exact ⟨rfl, N1, rfl⟩

theorem own_min (va vb : Int64) : (F4 va vb).toInt = if va.toInt ≤ vb.toInt then va.toInt else vb.toInt := by
  unfold F4
  by_cases h : vb < va
  · rw [if_pos h]; rw [Int64.lt_iff_toInt_lt] at h; rw [if_neg (by omega)]
  · rw [if_neg h]; rw [Int64.lt_iff_toInt_lt] at h; rw [if_pos (by omega)]
theorem own_nh {vl : Int64} {vm : Int32} (h0 : 0 ≤ vl.toInt) (h1 : vl.toInt ≤ 4) (h2 : 1 ≤ vm.toInt) : (F3 vl vm).toInt = if vl.toInt ≤ vm.toInt then vl.toInt else vm.toInt := by
  have e := own_min vl vm.toInt64
  rw [Int32.toInt_toInt64] at e
  have e2 : (F3 vl vm).toInt = (F4 vl vm.toInt64).toInt := Jvm.Kit.i32_of_i64 (by rw [e]; split <;> omega) (by rw [e]; split <;> omega)
  rw [e2, e]
theorem own_nt {vl : Int64} {vm : Int32} (h0 : 0 ≤ vl.toInt) (h1 : vl.toInt ≤ 4) (h2 : 1 ≤ vm.toInt) : ((vl - (F3 vl vm).toInt64).toInt32).toInt = vl.toInt - (F3 vl vm).toInt := by
  have e := own_nh h0 h1 h2
  have e2 : (vl - (F3 vl vm).toInt64).toInt = vl.toInt - (F3 vl vm).toInt64.toInt := Jvm.Kit.i64_sub (by rw [Int32.toInt_toInt64, e]; split <;> omega) (by rw [Int32.toInt_toInt64, e]; split <;> omega)
  rw [Int32.toInt_toInt64] at e2
  have e3 := Jvm.Kit.i32_of_i64 (x := vl - (F3 vl vm).toInt64) (by rw [e2, e]; split <;> omega) (by rw [e2, e]; split <;> omega)
  rw [e3, e2]
theorem own_nh0 {vl : Int64} {vm : Int32} (h0 : 0 ≤ vl.toInt) (h1 : vl.toInt ≤ 4) (h2 : 1 ≤ vm.toInt) : ¬ (F3 vl vm) < 0 ∧ (F3 vl vm).toNatClampNeg ≤ 4 := by
  have e := own_nh h0 h1 h2
  have e0 : (0 : Int32).toInt = 0 := rfl
  constructor
  · rw [Int32.lt_iff_toInt_lt, e, e0]; split <;> omega
  · simp only [Int32.toNatClampNeg]; rw [e]; split <;> omega
theorem own_nt0 {vl : Int64} {vm : Int32} (h0 : 0 ≤ vl.toInt) (h1 : vl.toInt ≤ 4) (h2 : 1 ≤ vm.toInt) : ¬ ((vl - (F3 vl vm).toInt64).toInt32) < 0 ∧ ((vl - (F3 vl vm).toInt64).toInt32).toNatClampNeg ≤ 4 := by
  have e := own_nh h0 h1 h2
  have e1 := own_nt h0 h1 h2
  have e0 : (0 : Int32).toInt = 0 := rfl
  constructor
  · rw [Int32.lt_iff_toInt_lt, e1, e, e0]; split <;> omega
  · simp only [Int32.toNatClampNeg]; rw [e1, e]; split <;> omega
theorem own_hl0 {vl : Int64} (h0 : 0 ≤ vl.toInt) : ¬ vl < (0 : Int64) := by
  rw [Int64.lt_iff_toInt_lt]; show ¬ vl.toInt < 0; omega
theorem own_hl1 {vl : Int64} (h1 : vl.toInt ≤ 4) : ¬ (2147483648 : Int64) < vl := by
  rw [Int64.lt_iff_toInt_lt]; show ¬ (2147483648 : Int) < vl.toInt; omega
theorem own_hm {vm : Int32} (h2 : 1 ≤ vm.toInt) : ¬ vm < (1 : Int32) := by
  rw [Int32.lt_iff_toInt_lt]; show ¬ vm.toInt < 1; omega
theorem own_total {vl : Int64} {vm : Int32} (h0 : 0 ≤ vl.toInt) (h1 : vl.toInt ≤ 4) (h2 : 1 ≤ vm.toInt) : (F3 vl vm).toInt + ((vl - (F3 vl vm).toInt64).toInt32).toInt = vl.toInt := by
  rw [own_nt h0 h1 h2]; omega
theorem own_ixeq {i k : Int32} (h0 : ¬ i < 0) (h1 : ¬ k < 0) : (k.toNatClampNeg = i.toNatClampNeg) ↔ k = i := by
  have e0 : (0 : Int32).toInt = 0 := rfl
  constructor
  · intro h; rw [Int32.lt_iff_toInt_lt] at h0 h1; simp only [Int32.toNatClampNeg] at h; rw [← Int32.toInt_inj]; omega
  · intro h; rw [h]

theorem pd_1 : parseMethodDescriptor "(JI)I" = some ⟨[.long, .int], some .int⟩ := by decide +kernel
theorem d1_0 : decode prog_19_method_2_code 0 = .ok (.aload_n 0, 1) := by decide +kernel
theorem d1_1 : decode prog_19_method_2_code 1 = .ok (.invokespecial 10, 3) := by decide +kernel
theorem d1_4 : decode prog_19_method_2_code 4 = .ok (.lload_n 1, 1) := by decide +kernel
theorem d1_5 : decode prog_19_method_2_code 5 = .ok (.iload_n 3, 1) := by decide +kernel
theorem d1_6 : decode prog_19_method_2_code 6 = .ok (.invokestatic 15, 3) := by decide +kernel
theorem d1_9 : decode prog_19_method_2_code 9 = .ok (.istore 4, 2) := by decide +kernel
theorem d1_11 : decode prog_19_method_2_code 11 = .ok (.aload_n 0, 1) := by decide +kernel
theorem d1_12 : decode prog_19_method_2_code 12 = .ok (.iload 4, 2) := by decide +kernel
theorem d1_14 : decode prog_19_method_2_code 14 = .ok (.newarray .long, 2) := by decide +kernel
theorem d1_16 : decode prog_19_method_2_code 16 = .ok (.putfield 21, 3) := by decide +kernel
theorem d1_19 : decode prog_19_method_2_code 19 = .ok (.aload_n 0, 1) := by decide +kernel
theorem d1_20 : decode prog_19_method_2_code 20 = .ok (.lload_n 1, 1) := by decide +kernel
theorem d1_21 : decode prog_19_method_2_code 21 = .ok (.iload 4, 2) := by decide +kernel
theorem d1_23 : decode prog_19_method_2_code 23 = .ok (.i2l, 1) := by decide +kernel
theorem d1_24 : decode prog_19_method_2_code 24 = .ok (.lsub, 1) := by decide +kernel
theorem d1_25 : decode prog_19_method_2_code 25 = .ok (.l2i, 1) := by decide +kernel
theorem d1_26 : decode prog_19_method_2_code 26 = .ok (.newarray .long, 2) := by decide +kernel
theorem d1_28 : decode prog_19_method_2_code 28 = .ok (.putfield 25, 3) := by decide +kernel
theorem d1_31 : decode prog_19_method_2_code 31 = .ok (.return_, 1) := by decide +kernel
theorem pn_1 : plainName "com/example/wedgestone/wedgestone/algorithm/LongTable" = true := by first | (simp [plainName, overriddenIn]; done) | decide +kernel
theorem ef_1 (m : MethodId) (va : Addr) (vl : Int64) (vm : Int32) : entryFrame m #[(.ref va), (.long vl), (.int vm)] 5 = mkF m 0 #[.val (.ref va), .val (.long vl), .second, .val (.int vm), .unset] [] := by first | (simp [entryFrame, mkF, argsToLocals, Value.category]; done) | rfl
def Q1 (Z : State) (va : Addr) (vl : Int64) (vm : Int32) (h0 : Heap) (n0 : Nat) (v : Option Value) (h : Heap) (L : List Loc) : Prop := v = none ∧ Fr n0 L ∧ n0 ≤ h.size ∧ Exa Z h va "com/example/wedgestone/wedgestone/algorithm/LongTable" ∧ own_Tab Z h n0 va (F3 vl vm) ((vl - ((F3 vl vm).toInt64)).toInt32) (fun _ => (0 : Int64))
set_option maxRecDepth 65536 in
set_option maxHeartbeats 40000000 in
theorem rm1 (l : Launch) (Z : State) (a0 : Array Value) (hw : ∀ d ∈ tables_1, d.before a0 Z = true) (ws : List Jvm.Cond) (va : Addr) (vl : Int64) (vm : Int32) (h0 : Heap) (n0 : Nat) (Z0 : n0 ≤ h0.size) (E_va : Exa Z h0 va "com/example/wedgestone/wedgestone/algorithm/LongTable") (g_va : n0 ≤ va) (F_va_head : Fld Z h0 va "com/example/wedgestone/wedgestone/algorithm/LongTable" "head" "[J" .null) (F_va_tail : Fld Z h0 va "com/example/wedgestone/wedgestone/algorithm/LongTable" "tail" "[J" .null) (hl0 : 0 ≤ vl.toInt) (hl1 : vl.toInt ≤ 4) (hm0 : 1 ≤ vm.toInt) :
    MetFree l (⟨"com/example/wedgestone/wedgestone/algorithm/LongTable", "<init>", "(JI)V"⟩ : MethodName) (head1 (Jvm.Cond.code (⟨"com/example/wedgestone/wedgestone/algorithm/LongTable", "<init>", "(JI)V"⟩ : MethodName) prog_19_method_2_code 5 none :: ws) ({ frames := 2, cells := 2, slots := 8, locals := 29 } : Room)) (fun a U => a = #[(.ref va), (.long vl), (.int vm)] ∧ Z.Warmed39 U.vm ∧ U.heap = h0) (fun _ _ _ _ _ => True) (fun _ U o U' => ∃ v L, o = .returned v ∧ Q1 Z va vl vm h0 n0 v U'.heap L ∧ FrameEnd U o U' L ({ frames := 2, cells := 2, slots := 8, locals := 29 } : Room).cells ({ frames := 2, cells := 2, slots := 8, locals := 29 } : Room).slots) := by
  refine MetFree.of_bodySF (plainFor_of_name pn_1) hisR ?_
  intro p e s m args below meth c s₁ Bd hml0 hP hK
  obtain ⟨rfl, hZ, hh⟩ := hP
  have hx := Bd.exec
  have hby := Bd.bytes
  have hml : c.maxLocals = 5 := hml0
  have hown : s.vm.findClass "com/example/wedgestone/wedgestone/algorithm/LongTable" = some m.cls := findClass_of_methodNamed Bd.named
  have hnm := (name_of_methodNamed Bd.named Bd.method).1
  have X0 : Stand p l e ({ frames := 2, cells := 2, slots := 8, locals := 29 } : Room) s m #[(.ref va), (.long vl), (.int vm)] below meth c s₁ [] 0 0 := Stand.of_body Bd
  have e0 : s₁.heap = h0 := by rw [← hh, Bd.state]; rfl
  have N0 := Fr.nil n0
  have pre0 : ∀ t, Steps p.tables e below (s₁.setTop (mkF m 0 #[.val (.ref va), .val (.long vl), .second, .val (.int vm), .unset] [])) t → Steps p.tables e below (s₁.setTop (entryFrame m #[(.ref va), (.long vl), (.int vm)] 5)) t := fun t k => castTop (ef_1 m va vl vm) k
  obtain ⟨T1, X1, e1, st1⟩ := initO X0 hx hZ hown (hw _ (List.mem_of_getElem? (i := 7) rfl)) (hw _ (List.mem_of_getElem? (i := 8) rfl)) (hw _ (List.mem_of_getElem? (i := 9) rfl)) e0 (g := (mkF m 1 #[.val (.ref va), .val (.long vl), .second, .val (.int vm), .unset] [(.ref va)])) rfl (by rw [hml]; rfl) rfl (hb hby d1_1) (by decide) (W := 0) (by show 2 * 0 + _ ≤ _; exact Nat.le_of_eq rfl) (by decide)
  obtain ⟨_, _, ⟨T2, L2, k2, n2⟩, -, X2, ⟨Lc2, hQ2, l2, y2, z2⟩, st2⟩ := Jvm.LawKit.callS X1 hx (y := (⟨"com/example/wedgestone/wedgestone/algorithm/Tables", "headLength", "(JI)I"⟩ : MethodName)) hown (mvT hZ (hw _ (List.mem_of_getElem? (i := 10) rfl))) (mvT hZ (hw _ (List.mem_of_getElem? (i := 11) rfl))) (mvT hZ (hw _ (List.mem_of_getElem? (i := 12) rfl))) (mvT hZ (hw _ (List.mem_of_getElem? (i := 13) rfl))) (by decide) (backOf (W := 0) (rm3 l Z a0 hw [] vl vm  h0 n0 Z0 (own_hl0 hl0) (own_hl1 hl1) (own_hm hm0)) hZ (hw _ (List.mem_of_getElem? (i := 13) rfl)) (hw _ (List.mem_of_getElem? (i := 12) rfl)) (by decide) (by decide)) (g := (mkF m 6 #[.val (.ref va), .val (.long vl), .second, .val (.int vm), .unset] [(.int vm), (.long vl)])) rfl (by rw [hml]; rfl) (argsL := [(.long vl), (.int vm)]) (rest := []) (lenOf pd_1 rfl) rfl (by show 2 * 0 + _ ≤ _; exact Nat.le_of_eq rfl) (hb hby d1_6) (fun _ _ => ⟨rfl, e1, (by decide : 0 + 0 ≤ _), (by decide : 0 + 0 ≤ _)⟩)
  dsimp only [Pt.U, Pt.locs, Pt.cells, Pt.slots] at X2 l2 y2 z2 st2 hQ2
  subst l2 y2 z2
  obtain ⟨rfl, N2q, e2⟩ := hQ2
  have N2 := Fr.app N0 N2q
  obtain ⟨T3, h3, k3, X3, e3, E3, A3, st3⟩ := newP X2 hx hZ (hw _ (List.mem_of_getElem? (i := 19) rfl)) e2 (g := (mkF m 14 #[.val (.ref va), .val (.long vl), .second, .val (.int vm), .val (.int (F3 vl vm))] [(.int (F3 vl vm)), (.ref va)])) rfl (hb hby d1_14) rfl (own_nh0 hl0 hl1 hm0).1 (cap := 4) (own_nh0 hl0 hl1 hm0).2 (by decide) (by decide) (by decide)
  obtain ⟨b3, g3⟩ : ∃ z, z = h0.size := ⟨_, rfl⟩
  rw [← g3] at A3 st3
  have ne_va_b3 : va ≠ b3 := Nat.ne_of_lt (Nat.lt_of_lt_of_le E_va.lt (Nat.le_of_eq g3.symm))
  have g_b3 : n0 ≤ b3 := Nat.le_trans Z0 (Nat.le_of_eq g3.symm)
  have Z4 : n0 ≤ h3.size := Nat.le_trans Z0 E3.1
  have E5_va := E_va.ext E3
  have F6_va_head := F_va_head.ext E3
  have F7_va_tail := F_va_tail.ext E3
  have V_b3 : Arf Z h3 b3 .long (F3 vl vm) (fun _ => Value.long (0 : Int64)) := own_arf_new A3 (own_nh0 hl0 hl1 hm0).1
  obtain ⟨T8, h8, X8, e8, W8, st8⟩ := putF X3 hx hZ hown (host := "") (Or.inl (hw _ (List.mem_of_getElem? (i := 20) rfl))) Via.refl e3 F6_va_head E5_va (Or.inr ⟨(hw _ (List.mem_of_getElem? (i := 21) rfl)), rfl, hnm⟩) (hw _ (List.mem_of_getElem? (i := 1) rfl)) (ty := (.array .long)) (by decide) rfl rfl (g := (mkF m 16 #[.val (.ref va), .val (.long vl), .second, .val (.int vm), .val (.int (F3 vl vm))] [(.ref b3), (.ref va)])) rfl rfl (hb hby d1_16)
  have Z9 : n0 ≤ h8.size := Nat.le_trans Z4 (Keep.of_wr W8).1
  have E10_va := E5_va.wr W8
  have F12_va_tail := F7_va_tail.other W8 (Or.inr (slot_ne (Or.inr (hw _ (List.mem_of_getElem? (i := 23) rfl))) (Or.inr (hw _ (List.mem_of_getElem? (i := 21) rfl))) (by decide) (t := (.array .long)) (t' := (.array .long)) (by decide) (by decide)))
  have V13_b3 := V_b3.other W8 (Ne.symm ne_va_b3)
  have Fw8 := F6_va_head.same W8
  have N8 := Fr.snoc X8 N2 g_va
  obtain ⟨T14, h14, k14, X14, e14, E14, A14, st14⟩ := newP X8 hx hZ (hw _ (List.mem_of_getElem? (i := 19) rfl)) e8 (g := (mkF m 26 #[.val (.ref va), .val (.long vl), .second, .val (.int vm), .val (.int (F3 vl vm))] [(.int ((vl - ((F3 vl vm).toInt64)).toInt32)), (.ref va)])) rfl (hb hby d1_26) rfl (own_nt0 hl0 hl1 hm0).1 (cap := 4) (own_nt0 hl0 hl1 hm0).2 (by decide) (by decide) (by decide)
  obtain ⟨b14, g14⟩ : ∃ z, z = h8.size := ⟨_, rfl⟩
  rw [← g14] at A14 st14
  have ne_va_b14 : va ≠ b14 := Nat.ne_of_lt (Nat.lt_of_lt_of_le E10_va.lt (Nat.le_of_eq g14.symm))
  have ne_b3_b14 : b3 ≠ b14 := Nat.ne_of_lt (Nat.lt_of_lt_of_le V13_b3.lt (Nat.le_of_eq g14.symm))
  have g_b14 : n0 ≤ b14 := Nat.le_trans Z9 (Nat.le_of_eq g14.symm)
  have Z15 : n0 ≤ h14.size := Nat.le_trans Z9 E14.1
  have E16_va := E10_va.ext E14
  have F17_va_head := Fw8.ext E14
  have F18_va_tail := F12_va_tail.ext E14
  have V19_b3 := V13_b3.ext E14
  have V_b14 : Arf Z h14 b14 .long ((vl - ((F3 vl vm).toInt64)).toInt32) (fun _ => Value.long (0 : Int64)) := own_arf_new A14 (own_nt0 hl0 hl1 hm0).1
  obtain ⟨T20, h20, X20, e20, W20, st20⟩ := putF X14 hx hZ hown (host := "") (Or.inl (hw _ (List.mem_of_getElem? (i := 22) rfl))) Via.refl e14 F18_va_tail E16_va (Or.inr ⟨(hw _ (List.mem_of_getElem? (i := 23) rfl)), rfl, hnm⟩) (hw _ (List.mem_of_getElem? (i := 1) rfl)) (ty := (.array .long)) (by decide) rfl rfl (g := (mkF m 28 #[.val (.ref va), .val (.long vl), .second, .val (.int vm), .val (.int (F3 vl vm))] [(.ref b14), (.ref va)])) rfl rfl (hb hby d1_28)
  have Z21 : n0 ≤ h20.size := Nat.le_trans Z15 (Keep.of_wr W20).1
  have E22_va := E16_va.wr W20
  have F23_va_head := F17_va_head.other W20 (Or.inr (slot_ne (Or.inr (hw _ (List.mem_of_getElem? (i := 21) rfl))) (Or.inr (hw _ (List.mem_of_getElem? (i := 23) rfl))) (by decide) (t := (.array .long)) (t' := (.array .long)) (by decide) (by decide)))
  have V25_b3 := V19_b3.other W20 (Ne.symm ne_va_b3)
  have V26_b14 := V_b14.other W20 (Ne.symm ne_va_b14)
  have Fw20 := F18_va_tail.same W20
  have N20 := Fr.snoc X20 N8 g_va
  obtain ⟨fs, hr, hrun, hended, hW, hsame⟩ := X20.leave (v := none) (fun _ => rfl)
  refine ⟨_, _, pre0 _ ?_, hrun, hended, _, _, rfl, ?_, ⟨_, rfl⟩, hW, hsame.mono (by decide) (by decide)⟩
  · show Steps p.tables e below (s₁.setTop (mkF m 0 #[.val (.ref va), .val (.long vl), .second, .val (.int vm), .unset] [])) _
    refine XS.aloadN X0.here hx rfl (hb hby d1_0) rfl rfl ?_
    show Steps p.tables e below (s₁.setTop (mkF m 1 #[.val (.ref va), .val (.long vl), .second, .val (.int vm), .unset] [(.ref va)])) _
    refine st1 _ ?_
    show Steps p.tables e below (T1.setTop (mkF m 4 #[.val (.ref va), .val (.long vl), .second, .val (.int vm), .unset] [])) _
    refine XS.lloadN X1.here hx rfl (hb hby d1_4) rfl ?_
    show Steps p.tables e below (T1.setTop (mkF m 5 #[.val (.ref va), .val (.long vl), .second, .val (.int vm), .unset] [(.long vl)])) _
    refine XS.iloadN X1.here hx rfl (hb hby d1_5) rfl ?_
    show Steps p.tables e below (T1.setTop (mkF m 6 #[.val (.ref va), .val (.long vl), .second, .val (.int vm), .unset] [(.int vm), (.long vl)])) _
    refine st2 _ ?_
    show Steps p.tables e below (T2.setTop (mkF m 9 #[.val (.ref va), .val (.long vl), .second, .val (.int vm), .unset] [(.int (F3 vl vm))])) _
    refine XS.istore X2.here hx rfl (hb hby d1_9) rfl (l' := #[.val (.ref va), .val (.long vl), .second, .val (.int vm), .val (.int (F3 vl vm))]) rfl ?_
    show Steps p.tables e below (T2.setTop (mkF m 11 #[.val (.ref va), .val (.long vl), .second, .val (.int vm), .val (.int (F3 vl vm))] [])) _
    refine XS.aloadN X2.here hx rfl (hb hby d1_11) rfl rfl ?_
    show Steps p.tables e below (T2.setTop (mkF m 12 #[.val (.ref va), .val (.long vl), .second, .val (.int vm), .val (.int (F3 vl vm))] [(.ref va)])) _
    refine XS.iload X2.here hx rfl (hb hby d1_12) rfl ?_
    show Steps p.tables e below (T2.setTop (mkF m 14 #[.val (.ref va), .val (.long vl), .second, .val (.int vm), .val (.int (F3 vl vm))] [(.int (F3 vl vm)), (.ref va)])) _
    refine st3 _ ?_
    show Steps p.tables e below (T3.setTop (mkF m 16 #[.val (.ref va), .val (.long vl), .second, .val (.int vm), .val (.int (F3 vl vm))] [(.ref b3), (.ref va)])) _
    refine st8 _ ?_
    show Steps p.tables e below (T8.setTop (mkF m 19 #[.val (.ref va), .val (.long vl), .second, .val (.int vm), .val (.int (F3 vl vm))] [])) _
    refine XS.aloadN X8.here hx rfl (hb hby d1_19) rfl rfl ?_
    show Steps p.tables e below (T8.setTop (mkF m 20 #[.val (.ref va), .val (.long vl), .second, .val (.int vm), .val (.int (F3 vl vm))] [(.ref va)])) _
    refine XS.lloadN X8.here hx rfl (hb hby d1_20) rfl ?_
    show Steps p.tables e below (T8.setTop (mkF m 21 #[.val (.ref va), .val (.long vl), .second, .val (.int vm), .val (.int (F3 vl vm))] [(.long vl), (.ref va)])) _
    refine XS.iload X8.here hx rfl (hb hby d1_21) rfl ?_
    show Steps p.tables e below (T8.setTop (mkF m 23 #[.val (.ref va), .val (.long vl), .second, .val (.int vm), .val (.int (F3 vl vm))] [(.int (F3 vl vm)), (.long vl), (.ref va)])) _
    refine XS.i2l X8.here hx rfl (hb hby d1_23) rfl ?_
    show Steps p.tables e below (T8.setTop (mkF m 24 #[.val (.ref va), .val (.long vl), .second, .val (.int vm), .val (.int (F3 vl vm))] [(.long ((F3 vl vm).toInt64)), (.long vl), (.ref va)])) _
    refine XS.lsub X8.here hx rfl (hb hby d1_24) rfl ?_
    show Steps p.tables e below (T8.setTop (mkF m 25 #[.val (.ref va), .val (.long vl), .second, .val (.int vm), .val (.int (F3 vl vm))] [(.long (vl - ((F3 vl vm).toInt64))), (.ref va)])) _
    refine XS.l2i X8.here hx rfl (hb hby d1_25) rfl ?_
    show Steps p.tables e below (T8.setTop (mkF m 26 #[.val (.ref va), .val (.long vl), .second, .val (.int vm), .val (.int (F3 vl vm))] [(.int ((vl - ((F3 vl vm).toInt64)).toInt32)), (.ref va)])) _
    refine st14 _ ?_
    show Steps p.tables e below (T14.setTop (mkF m 28 #[.val (.ref va), .val (.long vl), .second, .val (.int vm), .val (.int (F3 vl vm))] [(.ref b14), (.ref va)])) _
    refine st20 _ ?_
    show Steps p.tables e below (T20.setTop (mkF m 31 #[.val (.ref va), .val (.long vl), .second, .val (.int vm), .val (.int (F3 vl vm))] [])) _
    exact X20.returnOut hx Bd.returns (hb hby d1_31) hr
  · show Q1 Z va vl vm h0 n0 _ T20.heap _
    rw [e20]
    exact ⟨rfl, N20, Z21, E22_va, ⟨b3, b14, E22_va, F23_va_head, Fw20, V25_b3, V26_b14, ne_va_b3, ne_va_b14, ne_b3_b14, g_b3, g_b14⟩⟩
theorem d7_0 : decode prog_19_method_4_code 0 = .ok (.iload_n 1, 1) := by decide +kernel
theorem d7_1 : decode prog_19_method_4_code 1 = .ok (.aload_n 0, 1) := by decide +kernel
theorem d7_2 : decode prog_19_method_4_code 2 = .ok (.getfield 21, 3) := by decide +kernel
theorem d7_5 : decode prog_19_method_4_code 5 = .ok (.arraylength, 1) := by decide +kernel
theorem d7_6 : decode prog_19_method_4_code 6 = .ok (.if_icmp .ge 12, 3) := by decide +kernel
theorem d7_9 : decode prog_19_method_4_code 9 = .ok (.aload_n 0, 1) := by decide +kernel
theorem d7_10 : decode prog_19_method_4_code 10 = .ok (.getfield 21, 3) := by decide +kernel
theorem d7_13 : decode prog_19_method_4_code 13 = .ok (.iload_n 1, 1) := by decide +kernel
theorem d7_14 : decode prog_19_method_4_code 14 = .ok (.laload, 1) := by decide +kernel
theorem d7_15 : decode prog_19_method_4_code 15 = .ok (.goto 15, 3) := by decide +kernel
theorem d7_18 : decode prog_19_method_4_code 18 = .ok (.aload_n 0, 1) := by decide +kernel
theorem d7_19 : decode prog_19_method_4_code 19 = .ok (.getfield 25, 3) := by decide +kernel
theorem d7_22 : decode prog_19_method_4_code 22 = .ok (.iload_n 1, 1) := by decide +kernel
theorem d7_23 : decode prog_19_method_4_code 23 = .ok (.aload_n 0, 1) := by decide +kernel
theorem d7_24 : decode prog_19_method_4_code 24 = .ok (.getfield 21, 3) := by decide +kernel
theorem d7_27 : decode prog_19_method_4_code 27 = .ok (.arraylength, 1) := by decide +kernel
theorem d7_28 : decode prog_19_method_4_code 28 = .ok (.isub, 1) := by decide +kernel
theorem d7_29 : decode prog_19_method_4_code 29 = .ok (.laload, 1) := by decide +kernel
theorem d7_30 : decode prog_19_method_4_code 30 = .ok (.lreturn, 1) := by decide +kernel
theorem pn_7 : plainName "com/example/wedgestone/wedgestone/algorithm/LongTable" = true := by first | (simp [plainName, overriddenIn]; done) | decide +kernel
theorem ef_7 (m : MethodId) (va : Addr) (vi : Int32) : entryFrame m #[(.ref va), (.int vi)] 2 = mkF m 0 #[.val (.ref va), .val (.int vi)] [] := by first | (simp [entryFrame, mkF, argsToLocals, Value.category]; done) | rfl
def Q7 (Z : State) (va : Addr) (vi : Int32) (nh : Int32) (nt : Int32) (vf : Nat → Int64) (h0 : Heap) (n0 : Nat) (v : Option Value) (h : Heap) (L : List Loc) : Prop := v = some (.long (vf (vi).toNatClampNeg)) ∧ Fr n0 L ∧ h = h0
set_option maxRecDepth 65536 in
set_option maxHeartbeats 40000000 in
theorem rm7 (l : Launch) (Z : State) (a0 : Array Value) (hw : ∀ d ∈ tables_1, d.before a0 Z = true) (ws : List Jvm.Cond) (va : Addr) (vi : Int32) (nh : Int32) (nt : Int32) (vf : Nat → Int64) (h0 : Heap) (n0 : Nat) (Z0 : n0 ≤ h0.size) (HT : own_Tab Z h0 n0 va nh nt vf) (hi0 : ¬ vi < 0) (hi1 : vi.toInt < nh.toInt + nt.toInt) :
    MetFree l (⟨"com/example/wedgestone/wedgestone/algorithm/LongTable", "get", "(I)J"⟩ : MethodName) (head1 (Jvm.Cond.code (⟨"com/example/wedgestone/wedgestone/algorithm/LongTable", "get", "(I)J"⟩ : MethodName) prog_19_method_4_code 2 (some .long) :: ws) ({ frames := 0, cells := 0, slots := 0, locals := 0 } : Room)) (fun a U => a = #[(.ref va), (.int vi)] ∧ Z.Warmed39 U.vm ∧ U.heap = h0) (fun _ _ _ _ _ => True) (fun _ U o U' => ∃ v L, o = .returned v ∧ Q7 Z va vi nh nt vf h0 n0 v U'.heap L ∧ FrameEnd U o U' L ({ frames := 0, cells := 0, slots := 0, locals := 0 } : Room).cells ({ frames := 0, cells := 0, slots := 0, locals := 0 } : Room).slots) := by
  refine MetFree.of_bodySF (plainFor_of_name pn_7) hisR ?_
  intro p e s m args below meth c s₁ Bd hml0 hP hK
  obtain ⟨rfl, hZ, hh⟩ := hP
  have hx := Bd.exec
  have hby := Bd.bytes
  have hml : c.maxLocals = 2 := hml0
  have hown : s.vm.findClass "com/example/wedgestone/wedgestone/algorithm/LongTable" = some m.cls := findClass_of_methodNamed Bd.named
  have hnm := (name_of_methodNamed Bd.named Bd.method).1
  have X0 : Stand p l e ({ frames := 0, cells := 0, slots := 0, locals := 0 } : Room) s m #[(.ref va), (.int vi)] below meth c s₁ [] 0 0 := Stand.of_body Bd
  have e0 : s₁.heap = h0 := by rw [← hh, Bd.state]; rfl
  have N0 := Fr.nil n0
  have pre0 : ∀ t, Steps p.tables e below (s₁.setTop (mkF m 0 #[.val (.ref va), .val (.int vi)] [])) t → Steps p.tables e below (s₁.setTop (entryFrame m #[(.ref va), (.int vi)] 2)) t := fun t k => castTop (ef_7 m va vi) k
  obtain ⟨hd, tl, E_va, F_head, F_tail, V_hd, V_tl, ne_va_hd, ne_va_tl, ne_hd_tl, g_hd, g_tl⟩ := HT
  have hnh0 : ¬ nh < 0 := by obtain ⟨_, _, _, M, _⟩ := V_hd; exact M
  obtain ⟨T1, X1, e1, st1⟩ := getF X0 hx hZ hown (host := "") (Or.inl (hw _ (List.mem_of_getElem? (i := 20) rfl))) Via.refl e0 F_head (g := (mkF m 2 #[.val (.ref va), .val (.int vi)] [(.ref va), (.int vi)])) rfl rfl (hb hby d7_2)
  have Vo2 := V_hd
  obtain ⟨cl2, Ar2, S2, M2, H2⟩ := Vo2
  by_cases hb3 : vi < nh
  · obtain ⟨T4, X4, e4, st4⟩ := getF X1 hx hZ hown (host := "") (Or.inl (hw _ (List.mem_of_getElem? (i := 20) rfl))) Via.refl e1 F_head (g := (mkF m 10 #[.val (.ref va), .val (.int vi)] [(.ref va)])) rfl rfl (hb hby d7_10)
    obtain ⟨fs, hr, hrun, hended, hW, hsame⟩ := X4.leave (v := some (.long (vf (vi).toNatClampNeg))) (fun h => by rw [Bd.returns] at h; cases h)
    refine ⟨_, _, pre0 _ ?_, hrun, hended, _, _, rfl, ?_, ⟨_, rfl⟩, hW, hsame.mono (by decide) (by decide)⟩
    · show Steps p.tables e below (s₁.setTop (mkF m 0 #[.val (.ref va), .val (.int vi)] [])) _
      refine XS.iloadN X0.here hx rfl (hb hby d7_0) rfl ?_
      show Steps p.tables e below (s₁.setTop (mkF m 1 #[.val (.ref va), .val (.int vi)] [(.int vi)])) _
      refine XS.aloadN X0.here hx rfl (hb hby d7_1) rfl rfl ?_
      show Steps p.tables e below (s₁.setTop (mkF m 2 #[.val (.ref va), .val (.int vi)] [(.ref va), (.int vi)])) _
      refine st1 _ ?_
      show Steps p.tables e below (T1.setTop (mkF m 5 #[.val (.ref va), .val (.int vi)] [(.ref hd), (.int vi)])) _
      refine X1.arraylength hx (by rw [e1]; exact Ar2.1) (State.isArrayOf_alike hZ.alike Ar2.2.1) (g := (mkF m 5 #[.val (.ref va), .val (.int vi)] [(.ref hd), (.int vi)])) rfl rfl (hb hby d7_5) _ ?_
      rw [len_of S2 M2]
      show Steps p.tables e below (T1.setTop (mkF m 6 #[.val (.ref va), .val (.int vi)] [(.int nh), (.int vi)])) _
      refine XS.icmpNo X1.here hx rfl (hb hby d7_6) rfl (tlt hb3).2.1 ?_
      show Steps p.tables e below (T1.setTop (mkF m 9 #[.val (.ref va), .val (.int vi)] [])) _
      refine XS.aloadN X1.here hx rfl (hb hby d7_9) rfl rfl ?_
      show Steps p.tables e below (T1.setTop (mkF m 10 #[.val (.ref va), .val (.int vi)] [(.ref va)])) _
      refine st4 _ ?_
      show Steps p.tables e below (T4.setTop (mkF m 13 #[.val (.ref va), .val (.int vi)] [(.ref hd)])) _
      refine XS.iloadN X4.here hx rfl (hb hby d7_13) rfl ?_
      show Steps p.tables e below (T4.setTop (mkF m 14 #[.val (.ref va), .val (.int vi)] [(.int vi), (.ref hd)])) _
      have hin5 : ¬ (vi < 0 ∨ cl2.slots.size ≤ (vi).toNatClampNeg) := inb_of S2 ⟨hi0, hb3⟩
      refine X4.laload hx (j := vi) (v := (.long (vf (vi).toNatClampNeg))) (by rw [e4]; exact Ar2.1) (State.isArrayOf_alike hZ.alike Ar2.2.1) Ar2.2.2 hin5 (own_arf_at H2 S2 hin5) (g := (mkF m 14 #[.val (.ref va), .val (.int vi)] [(.int vi), (.ref hd)])) rfl rfl (hb hby d7_14) _ ?_
      show Steps p.tables e below (T4.setTop (mkF m 15 #[.val (.ref va), .val (.int vi)] [(.long (vf (vi).toNatClampNeg))])) _
      refine XS.goto X4.here hx rfl (pc0 := 15) (pc' := 30) rfl (hb hby d7_15) (by decide) (by decide) ?_
      show Steps p.tables e below (T4.setTop (mkF m 30 #[.val (.ref va), .val (.int vi)] [(.long (vf (vi).toNatClampNeg))])) _
      exact X4.lreturnOut hx Bd.returns (hb hby d7_30) hr
    · show Q7 Z va vi nh nt vf h0 n0 _ T4.heap _
      rw [e4]
      exact ⟨rfl, N0, rfl⟩
  · obtain ⟨T6, X6, e6, st6⟩ := getF X1 hx hZ hown (host := "") (Or.inl (hw _ (List.mem_of_getElem? (i := 22) rfl))) Via.refl e1 F_tail (g := (mkF m 19 #[.val (.ref va), .val (.int vi)] [(.ref va)])) rfl rfl (hb hby d7_19)
    obtain ⟨T7, X7, e7, st7⟩ := getF X6 hx hZ hown (host := "") (Or.inl (hw _ (List.mem_of_getElem? (i := 20) rfl))) Via.refl e6 F_head (g := (mkF m 24 #[.val (.ref va), .val (.int vi)] [(.ref va), (.int vi), (.ref tl)])) rfl rfl (hb hby d7_24)
    have Vo8 := V_tl
    obtain ⟨cl8, Ar8, S8, M8, H8⟩ := Vo8
    obtain ⟨fs, hr, hrun, hended, hW, hsame⟩ := X7.leave (v := some (.long ((fun i => vf (nh.toNatClampNeg + i)) ((vi - nh)).toNatClampNeg))) (fun h => by rw [Bd.returns] at h; cases h)
    refine ⟨_, _, pre0 _ ?_, hrun, hended, _, _, rfl, ?_, ⟨_, rfl⟩, hW, hsame.mono (by decide) (by decide)⟩
    · show Steps p.tables e below (s₁.setTop (mkF m 0 #[.val (.ref va), .val (.int vi)] [])) _
      refine XS.iloadN X0.here hx rfl (hb hby d7_0) rfl ?_
      show Steps p.tables e below (s₁.setTop (mkF m 1 #[.val (.ref va), .val (.int vi)] [(.int vi)])) _
      refine XS.aloadN X0.here hx rfl (hb hby d7_1) rfl rfl ?_
      show Steps p.tables e below (s₁.setTop (mkF m 2 #[.val (.ref va), .val (.int vi)] [(.ref va), (.int vi)])) _
      refine st1 _ ?_
      show Steps p.tables e below (T1.setTop (mkF m 5 #[.val (.ref va), .val (.int vi)] [(.ref hd), (.int vi)])) _
      refine X1.arraylength hx (by rw [e1]; exact Ar2.1) (State.isArrayOf_alike hZ.alike Ar2.2.1) (g := (mkF m 5 #[.val (.ref va), .val (.int vi)] [(.ref hd), (.int vi)])) rfl rfl (hb hby d7_5) _ ?_
      rw [len_of S2 M2]
      show Steps p.tables e below (T1.setTop (mkF m 6 #[.val (.ref va), .val (.int vi)] [(.int nh), (.int vi)])) _
      refine XS.icmpYes X1.here hx rfl (pc0 := 6) (pc' := 18) rfl (hb hby d7_6) rfl (flt hb3).2.1 (by decide) (by decide) ?_
      show Steps p.tables e below (T1.setTop (mkF m 18 #[.val (.ref va), .val (.int vi)] [])) _
      refine XS.aloadN X1.here hx rfl (hb hby d7_18) rfl rfl ?_
      show Steps p.tables e below (T1.setTop (mkF m 19 #[.val (.ref va), .val (.int vi)] [(.ref va)])) _
      refine st6 _ ?_
      show Steps p.tables e below (T6.setTop (mkF m 22 #[.val (.ref va), .val (.int vi)] [(.ref tl)])) _
      refine XS.iloadN X6.here hx rfl (hb hby d7_22) rfl ?_
      show Steps p.tables e below (T6.setTop (mkF m 23 #[.val (.ref va), .val (.int vi)] [(.int vi), (.ref tl)])) _
      refine XS.aloadN X6.here hx rfl (hb hby d7_23) rfl rfl ?_
      show Steps p.tables e below (T6.setTop (mkF m 24 #[.val (.ref va), .val (.int vi)] [(.ref va), (.int vi), (.ref tl)])) _
      refine st7 _ ?_
      show Steps p.tables e below (T7.setTop (mkF m 27 #[.val (.ref va), .val (.int vi)] [(.ref hd), (.int vi), (.ref tl)])) _
      refine X7.arraylength hx (by rw [e7]; exact Ar2.1) (State.isArrayOf_alike hZ.alike Ar2.2.1) (g := (mkF m 27 #[.val (.ref va), .val (.int vi)] [(.ref hd), (.int vi), (.ref tl)])) rfl rfl (hb hby d7_27) _ ?_
      rw [len_of S2 M2]
      show Steps p.tables e below (T7.setTop (mkF m 28 #[.val (.ref va), .val (.int vi)] [(.int nh), (.int vi), (.ref tl)])) _
      refine XS.isub X7.here hx rfl (hb hby d7_28) rfl ?_
      show Steps p.tables e below (T7.setTop (mkF m 29 #[.val (.ref va), .val (.int vi)] [(.int (vi - nh)), (.ref tl)])) _
      have hin9 : ¬ ((vi - nh) < 0 ∨ cl8.slots.size ≤ ((vi - nh)).toNatClampNeg) := inb_of S8 ⟨own_sub0 hi0 hb3 hnh0, own_subl hi0 hb3 hnh0 hi1⟩
      refine X7.laload hx (j := (vi - nh)) (v := (.long ((fun i => vf (nh.toNatClampNeg + i)) ((vi - nh)).toNatClampNeg))) (by rw [e7]; exact Ar8.1) (State.isArrayOf_alike hZ.alike Ar8.2.1) Ar8.2.2 hin9 (own_arf_at H8 S8 hin9) (g := (mkF m 29 #[.val (.ref va), .val (.int vi)] [(.int (vi - nh)), (.ref tl)])) rfl rfl (hb hby d7_29) _ ?_
      show Steps p.tables e below (T7.setTop (mkF m 30 #[.val (.ref va), .val (.int vi)] [(.long ((fun i => vf (nh.toNatClampNeg + i)) ((vi - nh)).toNatClampNeg))])) _
      exact X7.lreturnOut hx Bd.returns (hb hby d7_30) hr
    · show Q7 Z va vi nh nt vf h0 n0 _ T7.heap _
      rw [e7]
      exact ⟨(congrArg (fun z => some (Value.long (vf z))) (own_subx hi0 hb3 hnh0)), N0, rfl⟩
theorem d9_0 : decode prog_19_method_3_code 0 = .ok (.aload_n 0, 1) := by decide +kernel
theorem d9_1 : decode prog_19_method_3_code 1 = .ok (.getfield 21, 3) := by decide +kernel
theorem d9_4 : decode prog_19_method_3_code 4 = .ok (.arraylength, 1) := by decide +kernel
theorem d9_5 : decode prog_19_method_3_code 5 = .ok (.i2l, 1) := by decide +kernel
theorem d9_6 : decode prog_19_method_3_code 6 = .ok (.aload_n 0, 1) := by decide +kernel
theorem d9_7 : decode prog_19_method_3_code 7 = .ok (.getfield 25, 3) := by decide +kernel
theorem d9_10 : decode prog_19_method_3_code 10 = .ok (.arraylength, 1) := by decide +kernel
theorem d9_11 : decode prog_19_method_3_code 11 = .ok (.i2l, 1) := by decide +kernel
theorem d9_12 : decode prog_19_method_3_code 12 = .ok (.ladd, 1) := by decide +kernel
theorem d9_13 : decode prog_19_method_3_code 13 = .ok (.lreturn, 1) := by decide +kernel
theorem pn_9 : plainName "com/example/wedgestone/wedgestone/algorithm/LongTable" = true := by first | (simp [plainName, overriddenIn]; done) | decide +kernel
theorem ef_9 (m : MethodId) (va : Addr) : entryFrame m #[(.ref va)] 1 = mkF m 0 #[.val (.ref va)] [] := by first | (simp [entryFrame, mkF, argsToLocals, Value.category]; done) | rfl
def F9 (nh : Int32) (nt : Int32) : Int64 := ((nh.toInt64) + (nt.toInt64))
def Q9 (Z : State) (va : Addr) (nh : Int32) (nt : Int32) (vf : Nat → Int64) (h0 : Heap) (n0 : Nat) (v : Option Value) (h : Heap) (L : List Loc) : Prop := v = some (.long (F9 nh nt)) ∧ Fr n0 L ∧ h = h0
set_option maxRecDepth 65536 in
set_option maxHeartbeats 40000000 in
theorem rm9 (l : Launch) (Z : State) (a0 : Array Value) (hw : ∀ d ∈ tables_1, d.before a0 Z = true) (ws : List Jvm.Cond) (va : Addr) (nh : Int32) (nt : Int32) (vf : Nat → Int64) (h0 : Heap) (n0 : Nat) (Z0 : n0 ≤ h0.size) (HT : own_Tab Z h0 n0 va nh nt vf) :
    MetFree l (⟨"com/example/wedgestone/wedgestone/algorithm/LongTable", "length", "()J"⟩ : MethodName) (head1 (Jvm.Cond.code (⟨"com/example/wedgestone/wedgestone/algorithm/LongTable", "length", "()J"⟩ : MethodName) prog_19_method_3_code 1 (some .long) :: ws) ({ frames := 0, cells := 0, slots := 0, locals := 0 } : Room)) (fun a U => a = #[(.ref va)] ∧ Z.Warmed39 U.vm ∧ U.heap = h0) (fun _ _ _ _ _ => True) (fun _ U o U' => ∃ v L, o = .returned v ∧ Q9 Z va nh nt vf h0 n0 v U'.heap L ∧ FrameEnd U o U' L ({ frames := 0, cells := 0, slots := 0, locals := 0 } : Room).cells ({ frames := 0, cells := 0, slots := 0, locals := 0 } : Room).slots) := by
  refine MetFree.of_bodySF (plainFor_of_name pn_9) hisR ?_
  intro p e s m args below meth c s₁ Bd hml0 hP hK
  obtain ⟨rfl, hZ, hh⟩ := hP
  have hx := Bd.exec
  have hby := Bd.bytes
  have hml : c.maxLocals = 1 := hml0
  have hown : s.vm.findClass "com/example/wedgestone/wedgestone/algorithm/LongTable" = some m.cls := findClass_of_methodNamed Bd.named
  have hnm := (name_of_methodNamed Bd.named Bd.method).1
  have X0 : Stand p l e ({ frames := 0, cells := 0, slots := 0, locals := 0 } : Room) s m #[(.ref va)] below meth c s₁ [] 0 0 := Stand.of_body Bd
  have e0 : s₁.heap = h0 := by rw [← hh, Bd.state]; rfl
  have N0 := Fr.nil n0
  have pre0 : ∀ t, Steps p.tables e below (s₁.setTop (mkF m 0 #[.val (.ref va)] [])) t → Steps p.tables e below (s₁.setTop (entryFrame m #[(.ref va)] 1)) t := fun t k => castTop (ef_9 m va) k
  obtain ⟨hd, tl, E_va, F_head, F_tail, V_hd, V_tl, ne_va_hd, ne_va_tl, ne_hd_tl, g_hd, g_tl⟩ := HT
  have hnh0 : ¬ nh < 0 := by obtain ⟨_, _, _, M, _⟩ := V_hd; exact M
  obtain ⟨T1, X1, e1, st1⟩ := getF X0 hx hZ hown (host := "") (Or.inl (hw _ (List.mem_of_getElem? (i := 20) rfl))) Via.refl e0 F_head (g := (mkF m 1 #[.val (.ref va)] [(.ref va)])) rfl rfl (hb hby d9_1)
  have Vo2 := V_hd
  obtain ⟨cl2, Ar2, S2, M2, H2⟩ := Vo2
  obtain ⟨T3, X3, e3, st3⟩ := getF X1 hx hZ hown (host := "") (Or.inl (hw _ (List.mem_of_getElem? (i := 22) rfl))) Via.refl e1 F_tail (g := (mkF m 7 #[.val (.ref va)] [(.ref va), (.long (nh.toInt64))])) rfl rfl (hb hby d9_7)
  have Vo4 := V_tl
  obtain ⟨cl4, Ar4, S4, M4, H4⟩ := Vo4
  obtain ⟨fs, hr, hrun, hended, hW, hsame⟩ := X3.leave (v := some (.long ((nh.toInt64) + (nt.toInt64)))) (fun h => by rw [Bd.returns] at h; cases h)
  refine ⟨_, _, pre0 _ ?_, hrun, hended, _, _, rfl, ?_, ⟨_, rfl⟩, hW, hsame.mono (by decide) (by decide)⟩
  · show Steps p.tables e below (s₁.setTop (mkF m 0 #[.val (.ref va)] [])) _
    refine XS.aloadN X0.here hx rfl (hb hby d9_0) rfl rfl ?_
    show Steps p.tables e below (s₁.setTop (mkF m 1 #[.val (.ref va)] [(.ref va)])) _
    refine st1 _ ?_
    show Steps p.tables e below (T1.setTop (mkF m 4 #[.val (.ref va)] [(.ref hd)])) _
    refine X1.arraylength hx (by rw [e1]; exact Ar2.1) (State.isArrayOf_alike hZ.alike Ar2.2.1) (g := (mkF m 4 #[.val (.ref va)] [(.ref hd)])) rfl rfl (hb hby d9_4) _ ?_
    rw [len_of S2 M2]
    show Steps p.tables e below (T1.setTop (mkF m 5 #[.val (.ref va)] [(.int nh)])) _
    refine XS.i2l X1.here hx rfl (hb hby d9_5) rfl ?_
    show Steps p.tables e below (T1.setTop (mkF m 6 #[.val (.ref va)] [(.long (nh.toInt64))])) _
    refine XS.aloadN X1.here hx rfl (hb hby d9_6) rfl rfl ?_
    show Steps p.tables e below (T1.setTop (mkF m 7 #[.val (.ref va)] [(.ref va), (.long (nh.toInt64))])) _
    refine st3 _ ?_
    show Steps p.tables e below (T3.setTop (mkF m 10 #[.val (.ref va)] [(.ref tl), (.long (nh.toInt64))])) _
    refine X3.arraylength hx (by rw [e3]; exact Ar4.1) (State.isArrayOf_alike hZ.alike Ar4.2.1) (g := (mkF m 10 #[.val (.ref va)] [(.ref tl), (.long (nh.toInt64))])) rfl rfl (hb hby d9_10) _ ?_
    rw [len_of S4 M4]
    show Steps p.tables e below (T3.setTop (mkF m 11 #[.val (.ref va)] [(.int nt), (.long (nh.toInt64))])) _
    refine XS.i2l X3.here hx rfl (hb hby d9_11) rfl ?_
    show Steps p.tables e below (T3.setTop (mkF m 12 #[.val (.ref va)] [(.long (nt.toInt64)), (.long (nh.toInt64))])) _
    refine XS.ladd X3.here hx rfl (hb hby d9_12) rfl ?_
    show Steps p.tables e below (T3.setTop (mkF m 13 #[.val (.ref va)] [(.long ((nh.toInt64) + (nt.toInt64)))])) _
    exact X3.lreturnOut hx Bd.returns (hb hby d9_13) hr
  · show Q9 Z va nh nt vf h0 n0 _ T3.heap _
    rw [e3]
    exact ⟨rfl, N0, rfl⟩
theorem d5_0 : decode prog_19_method_5_code 0 = .ok (.iload_n 1, 1) := by decide +kernel
theorem d5_1 : decode prog_19_method_5_code 1 = .ok (.aload_n 0, 1) := by decide +kernel
theorem d5_2 : decode prog_19_method_5_code 2 = .ok (.getfield 21, 3) := by decide +kernel
theorem d5_5 : decode prog_19_method_5_code 5 = .ok (.arraylength, 1) := by decide +kernel
theorem d5_6 : decode prog_19_method_5_code 6 = .ok (.if_icmp .ge 13, 3) := by decide +kernel
theorem d5_9 : decode prog_19_method_5_code 9 = .ok (.aload_n 0, 1) := by decide +kernel
theorem d5_10 : decode prog_19_method_5_code 10 = .ok (.getfield 21, 3) := by decide +kernel
theorem d5_13 : decode prog_19_method_5_code 13 = .ok (.iload_n 1, 1) := by decide +kernel
theorem d5_14 : decode prog_19_method_5_code 14 = .ok (.lload_n 2, 1) := by decide +kernel
theorem d5_15 : decode prog_19_method_5_code 15 = .ok (.lastore, 1) := by decide +kernel
theorem d5_16 : decode prog_19_method_5_code 16 = .ok (.goto 16, 3) := by decide +kernel
theorem d5_19 : decode prog_19_method_5_code 19 = .ok (.aload_n 0, 1) := by decide +kernel
theorem d5_20 : decode prog_19_method_5_code 20 = .ok (.getfield 25, 3) := by decide +kernel
theorem d5_23 : decode prog_19_method_5_code 23 = .ok (.iload_n 1, 1) := by decide +kernel
theorem d5_24 : decode prog_19_method_5_code 24 = .ok (.aload_n 0, 1) := by decide +kernel
theorem d5_25 : decode prog_19_method_5_code 25 = .ok (.getfield 21, 3) := by decide +kernel
theorem d5_28 : decode prog_19_method_5_code 28 = .ok (.arraylength, 1) := by decide +kernel
theorem d5_29 : decode prog_19_method_5_code 29 = .ok (.isub, 1) := by decide +kernel
theorem d5_30 : decode prog_19_method_5_code 30 = .ok (.lload_n 2, 1) := by decide +kernel
theorem d5_31 : decode prog_19_method_5_code 31 = .ok (.lastore, 1) := by decide +kernel
theorem d5_32 : decode prog_19_method_5_code 32 = .ok (.return_, 1) := by decide +kernel
theorem pn_5 : plainName "com/example/wedgestone/wedgestone/algorithm/LongTable" = true := by first | (simp [plainName, overriddenIn]; done) | decide +kernel
theorem ef_5 (m : MethodId) (va : Addr) (vi : Int32) (vx : Int64) : entryFrame m #[(.ref va), (.int vi), (.long vx)] 4 = mkF m 0 #[.val (.ref va), .val (.int vi), .val (.long vx), .second] [] := by first | (simp [entryFrame, mkF, argsToLocals, Value.category]; done) | rfl
def Q5 (Z : State) (va : Addr) (vi : Int32) (vx : Int64) (nh : Int32) (nt : Int32) (vf : Nat → Int64) (h0 : Heap) (n0 : Nat) (v : Option Value) (h : Heap) (L : List Loc) : Prop := v = none ∧ Fr n0 L ∧ n0 ≤ h.size ∧ Exa Z h va "com/example/wedgestone/wedgestone/algorithm/LongTable" ∧ own_Tab Z h n0 va nh nt (own_upd vf vi vx)
set_option maxRecDepth 65536 in
set_option maxHeartbeats 40000000 in
theorem rm5 (l : Launch) (Z : State) (a0 : Array Value) (hw : ∀ d ∈ tables_1, d.before a0 Z = true) (ws : List Jvm.Cond) (va : Addr) (vi : Int32) (vx : Int64) (nh : Int32) (nt : Int32) (vf : Nat → Int64) (h0 : Heap) (n0 : Nat) (Z0 : n0 ≤ h0.size) (HT : own_Tab Z h0 n0 va nh nt vf) (hi0 : ¬ vi < 0) (hi1 : vi.toInt < nh.toInt + nt.toInt) :
    MetFree l (⟨"com/example/wedgestone/wedgestone/algorithm/LongTable", "set", "(IJ)V"⟩ : MethodName) (head1 (Jvm.Cond.code (⟨"com/example/wedgestone/wedgestone/algorithm/LongTable", "set", "(IJ)V"⟩ : MethodName) prog_19_method_5_code 4 none :: ws) ({ frames := 0, cells := 0, slots := 0, locals := 0 } : Room)) (fun a U => a = #[(.ref va), (.int vi), (.long vx)] ∧ Z.Warmed39 U.vm ∧ U.heap = h0) (fun _ _ _ _ _ => True) (fun _ U o U' => ∃ v L, o = .returned v ∧ Q5 Z va vi vx nh nt vf h0 n0 v U'.heap L ∧ FrameEnd U o U' L ({ frames := 0, cells := 0, slots := 0, locals := 0 } : Room).cells ({ frames := 0, cells := 0, slots := 0, locals := 0 } : Room).slots) := by
  refine MetFree.of_bodySF (plainFor_of_name pn_5) hisR ?_
  intro p e s m args below meth c s₁ Bd hml0 hP hK
  obtain ⟨rfl, hZ, hh⟩ := hP
  have hx := Bd.exec
  have hby := Bd.bytes
  have hml : c.maxLocals = 4 := hml0
  have hown : s.vm.findClass "com/example/wedgestone/wedgestone/algorithm/LongTable" = some m.cls := findClass_of_methodNamed Bd.named
  have hnm := (name_of_methodNamed Bd.named Bd.method).1
  have X0 : Stand p l e ({ frames := 0, cells := 0, slots := 0, locals := 0 } : Room) s m #[(.ref va), (.int vi), (.long vx)] below meth c s₁ [] 0 0 := Stand.of_body Bd
  have e0 : s₁.heap = h0 := by rw [← hh, Bd.state]; rfl
  have N0 := Fr.nil n0
  have pre0 : ∀ t, Steps p.tables e below (s₁.setTop (mkF m 0 #[.val (.ref va), .val (.int vi), .val (.long vx), .second] [])) t → Steps p.tables e below (s₁.setTop (entryFrame m #[(.ref va), (.int vi), (.long vx)] 4)) t := fun t k => castTop (ef_5 m va vi vx) k
  obtain ⟨hd, tl, E_va, F_head, F_tail, V_hd, V_tl, ne_va_hd, ne_va_tl, ne_hd_tl, g_hd, g_tl⟩ := HT
  have hnh0 : ¬ nh < 0 := by obtain ⟨_, _, _, M, _⟩ := V_hd; exact M
  obtain ⟨T1, X1, e1, st1⟩ := getF X0 hx hZ hown (host := "") (Or.inl (hw _ (List.mem_of_getElem? (i := 20) rfl))) Via.refl e0 F_head (g := (mkF m 2 #[.val (.ref va), .val (.int vi), .val (.long vx), .second] [(.ref va), (.int vi)])) rfl rfl (hb hby d5_2)
  have Vo2 := V_hd
  obtain ⟨cl2, Ar2, S2, M2, H2⟩ := Vo2
  by_cases hb3 : vi < nh
  · obtain ⟨T4, X4, e4, st4⟩ := getF X1 hx hZ hown (host := "") (Or.inl (hw _ (List.mem_of_getElem? (i := 20) rfl))) Via.refl e1 F_head (g := (mkF m 10 #[.val (.ref va), .val (.int vi), .val (.long vx), .second] [(.ref va)])) rfl rfl (hb hby d5_10)
    have hin5 : ¬ (vi < 0 ∨ cl2.slots.size ≤ (vi).toNatClampNeg) := inb_of S2 ⟨hi0, hb3⟩
    obtain ⟨T5, h5, X5, e5, W5, st5⟩ := stJ X4 hx hZ e4 Ar2 (j := vi) hin5 (g := (mkF m 15 #[.val (.ref va), .val (.int vi), .val (.long vx), .second] [(.long vx), (.int vi), (.ref hd)])) rfl rfl (hb hby d5_15)
    have Z6 : n0 ≤ h5.size := Nat.le_trans Z0 (Keep.of_wr W5).1
    have E7_va := E_va.wr W5
    have F8_va_head := F_head.other W5 (Or.inl ne_va_hd)
    have F9_va_tail := F_tail.other W5 (Or.inl ne_va_hd)
    have V11_tl := V_tl.other W5 (Ne.symm ne_hd_tl)
    have V5 := own_arf_setL V_hd W5
    have N5 := Fr.snoc X5 N0 g_hd
    obtain ⟨fs, hr, hrun, hended, hW, hsame⟩ := X5.leave (v := none) (fun _ => rfl)
    refine ⟨_, _, pre0 _ ?_, hrun, hended, _, _, rfl, ?_, ⟨_, rfl⟩, hW, hsame.mono (by decide) (by decide)⟩
    · show Steps p.tables e below (s₁.setTop (mkF m 0 #[.val (.ref va), .val (.int vi), .val (.long vx), .second] [])) _
      refine XS.iloadN X0.here hx rfl (hb hby d5_0) rfl ?_
      show Steps p.tables e below (s₁.setTop (mkF m 1 #[.val (.ref va), .val (.int vi), .val (.long vx), .second] [(.int vi)])) _
      refine XS.aloadN X0.here hx rfl (hb hby d5_1) rfl rfl ?_
      show Steps p.tables e below (s₁.setTop (mkF m 2 #[.val (.ref va), .val (.int vi), .val (.long vx), .second] [(.ref va), (.int vi)])) _
      refine st1 _ ?_
      show Steps p.tables e below (T1.setTop (mkF m 5 #[.val (.ref va), .val (.int vi), .val (.long vx), .second] [(.ref hd), (.int vi)])) _
      refine X1.arraylength hx (by rw [e1]; exact Ar2.1) (State.isArrayOf_alike hZ.alike Ar2.2.1) (g := (mkF m 5 #[.val (.ref va), .val (.int vi), .val (.long vx), .second] [(.ref hd), (.int vi)])) rfl rfl (hb hby d5_5) _ ?_
      rw [len_of S2 M2]
      show Steps p.tables e below (T1.setTop (mkF m 6 #[.val (.ref va), .val (.int vi), .val (.long vx), .second] [(.int nh), (.int vi)])) _
      refine XS.icmpNo X1.here hx rfl (hb hby d5_6) rfl (tlt hb3).2.1 ?_
      show Steps p.tables e below (T1.setTop (mkF m 9 #[.val (.ref va), .val (.int vi), .val (.long vx), .second] [])) _
      refine XS.aloadN X1.here hx rfl (hb hby d5_9) rfl rfl ?_
      show Steps p.tables e below (T1.setTop (mkF m 10 #[.val (.ref va), .val (.int vi), .val (.long vx), .second] [(.ref va)])) _
      refine st4 _ ?_
      show Steps p.tables e below (T4.setTop (mkF m 13 #[.val (.ref va), .val (.int vi), .val (.long vx), .second] [(.ref hd)])) _
      refine XS.iloadN X4.here hx rfl (hb hby d5_13) rfl ?_
      show Steps p.tables e below (T4.setTop (mkF m 14 #[.val (.ref va), .val (.int vi), .val (.long vx), .second] [(.int vi), (.ref hd)])) _
      refine XS.lloadN X4.here hx rfl (hb hby d5_14) rfl ?_
      show Steps p.tables e below (T4.setTop (mkF m 15 #[.val (.ref va), .val (.int vi), .val (.long vx), .second] [(.long vx), (.int vi), (.ref hd)])) _
      refine st5 _ ?_
      show Steps p.tables e below (T5.setTop (mkF m 16 #[.val (.ref va), .val (.int vi), .val (.long vx), .second] [])) _
      refine XS.goto X5.here hx rfl (pc0 := 16) (pc' := 32) rfl (hb hby d5_16) (by decide) (by decide) ?_
      show Steps p.tables e below (T5.setTop (mkF m 32 #[.val (.ref va), .val (.int vi), .val (.long vx), .second] [])) _
      exact X5.returnOut hx Bd.returns (hb hby d5_32) hr
    · show Q5 Z va vi vx nh nt vf h0 n0 _ T5.heap _
      rw [e5]
      exact ⟨rfl, N5, Z6, E7_va, ⟨hd, tl, E7_va, F8_va_head, F9_va_tail, V5, (own_tab_h (hd := hd) hi0 hb3 V11_tl), ne_va_hd, ne_va_tl, ne_hd_tl, g_hd, g_tl⟩⟩
  · obtain ⟨T12, X12, e12, st12⟩ := getF X1 hx hZ hown (host := "") (Or.inl (hw _ (List.mem_of_getElem? (i := 22) rfl))) Via.refl e1 F_tail (g := (mkF m 20 #[.val (.ref va), .val (.int vi), .val (.long vx), .second] [(.ref va)])) rfl rfl (hb hby d5_20)
    obtain ⟨T13, X13, e13, st13⟩ := getF X12 hx hZ hown (host := "") (Or.inl (hw _ (List.mem_of_getElem? (i := 20) rfl))) Via.refl e12 F_head (g := (mkF m 25 #[.val (.ref va), .val (.int vi), .val (.long vx), .second] [(.ref va), (.int vi), (.ref tl)])) rfl rfl (hb hby d5_25)
    have Vo15 := V_tl
    obtain ⟨cl15, Ar15, S15, M15, H15⟩ := Vo15
    have hin14 : ¬ ((vi - nh) < 0 ∨ cl15.slots.size ≤ ((vi - nh)).toNatClampNeg) := inb_of S15 ⟨own_sub0 hi0 hb3 hnh0, own_subl hi0 hb3 hnh0 hi1⟩
    obtain ⟨T14, h14, X14, e14, W14, st14⟩ := stJ X13 hx hZ e13 Ar15 (j := (vi - nh)) hin14 (g := (mkF m 31 #[.val (.ref va), .val (.int vi), .val (.long vx), .second] [(.long vx), (.int (vi - nh)), (.ref tl)])) rfl rfl (hb hby d5_31)
    have Z16 : n0 ≤ h14.size := Nat.le_trans Z0 (Keep.of_wr W14).1
    have E17_va := E_va.wr W14
    have F18_va_head := F_head.other W14 (Or.inl ne_va_tl)
    have F19_va_tail := F_tail.other W14 (Or.inl ne_va_tl)
    have V20_hd := V_hd.other W14 ne_hd_tl
    have V14 := own_arf_setL V_tl W14
    have N14 := Fr.snoc X14 N0 g_tl
    obtain ⟨fs, hr, hrun, hended, hW, hsame⟩ := X14.leave (v := none) (fun _ => rfl)
    refine ⟨_, _, pre0 _ ?_, hrun, hended, _, _, rfl, ?_, ⟨_, rfl⟩, hW, hsame.mono (by decide) (by decide)⟩
    · show Steps p.tables e below (s₁.setTop (mkF m 0 #[.val (.ref va), .val (.int vi), .val (.long vx), .second] [])) _
      refine XS.iloadN X0.here hx rfl (hb hby d5_0) rfl ?_
      show Steps p.tables e below (s₁.setTop (mkF m 1 #[.val (.ref va), .val (.int vi), .val (.long vx), .second] [(.int vi)])) _
      refine XS.aloadN X0.here hx rfl (hb hby d5_1) rfl rfl ?_
      show Steps p.tables e below (s₁.setTop (mkF m 2 #[.val (.ref va), .val (.int vi), .val (.long vx), .second] [(.ref va), (.int vi)])) _
      refine st1 _ ?_
      show Steps p.tables e below (T1.setTop (mkF m 5 #[.val (.ref va), .val (.int vi), .val (.long vx), .second] [(.ref hd), (.int vi)])) _
      refine X1.arraylength hx (by rw [e1]; exact Ar2.1) (State.isArrayOf_alike hZ.alike Ar2.2.1) (g := (mkF m 5 #[.val (.ref va), .val (.int vi), .val (.long vx), .second] [(.ref hd), (.int vi)])) rfl rfl (hb hby d5_5) _ ?_
      rw [len_of S2 M2]
      show Steps p.tables e below (T1.setTop (mkF m 6 #[.val (.ref va), .val (.int vi), .val (.long vx), .second] [(.int nh), (.int vi)])) _
      refine XS.icmpYes X1.here hx rfl (pc0 := 6) (pc' := 19) rfl (hb hby d5_6) rfl (flt hb3).2.1 (by decide) (by decide) ?_
      show Steps p.tables e below (T1.setTop (mkF m 19 #[.val (.ref va), .val (.int vi), .val (.long vx), .second] [])) _
      refine XS.aloadN X1.here hx rfl (hb hby d5_19) rfl rfl ?_
      show Steps p.tables e below (T1.setTop (mkF m 20 #[.val (.ref va), .val (.int vi), .val (.long vx), .second] [(.ref va)])) _
      refine st12 _ ?_
      show Steps p.tables e below (T12.setTop (mkF m 23 #[.val (.ref va), .val (.int vi), .val (.long vx), .second] [(.ref tl)])) _
      refine XS.iloadN X12.here hx rfl (hb hby d5_23) rfl ?_
      show Steps p.tables e below (T12.setTop (mkF m 24 #[.val (.ref va), .val (.int vi), .val (.long vx), .second] [(.int vi), (.ref tl)])) _
      refine XS.aloadN X12.here hx rfl (hb hby d5_24) rfl rfl ?_
      show Steps p.tables e below (T12.setTop (mkF m 25 #[.val (.ref va), .val (.int vi), .val (.long vx), .second] [(.ref va), (.int vi), (.ref tl)])) _
      refine st13 _ ?_
      show Steps p.tables e below (T13.setTop (mkF m 28 #[.val (.ref va), .val (.int vi), .val (.long vx), .second] [(.ref hd), (.int vi), (.ref tl)])) _
      refine X13.arraylength hx (by rw [e13]; exact Ar2.1) (State.isArrayOf_alike hZ.alike Ar2.2.1) (g := (mkF m 28 #[.val (.ref va), .val (.int vi), .val (.long vx), .second] [(.ref hd), (.int vi), (.ref tl)])) rfl rfl (hb hby d5_28) _ ?_
      rw [len_of S2 M2]
      show Steps p.tables e below (T13.setTop (mkF m 29 #[.val (.ref va), .val (.int vi), .val (.long vx), .second] [(.int nh), (.int vi), (.ref tl)])) _
      refine XS.isub X13.here hx rfl (hb hby d5_29) rfl ?_
      show Steps p.tables e below (T13.setTop (mkF m 30 #[.val (.ref va), .val (.int vi), .val (.long vx), .second] [(.int (vi - nh)), (.ref tl)])) _
      refine XS.lloadN X13.here hx rfl (hb hby d5_30) rfl ?_
      show Steps p.tables e below (T13.setTop (mkF m 31 #[.val (.ref va), .val (.int vi), .val (.long vx), .second] [(.long vx), (.int (vi - nh)), (.ref tl)])) _
      refine st14 _ ?_
      show Steps p.tables e below (T14.setTop (mkF m 32 #[.val (.ref va), .val (.int vi), .val (.long vx), .second] [])) _
      exact X14.returnOut hx Bd.returns (hb hby d5_32) hr
    · show Q5 Z va vi vx nh nt vf h0 n0 _ T14.heap _
      rw [e14]
      exact ⟨rfl, N14, Z16, E17_va, ⟨hd, tl, E17_va, F18_va_head, F19_va_tail, (own_tab_t1 hi0 hb3 V20_hd), (own_tab_t2 hi0 hb3 hnh0 V14), ne_va_hd, ne_va_tl, ne_hd_tl, g_hd, g_tl⟩⟩
theorem d6_0 : decode prog_19_method_6_code 0 = .ok (.iload_n 1, 1) := by decide +kernel
theorem d6_1 : decode prog_19_method_6_code 1 = .ok (.aload_n 0, 1) := by decide +kernel
theorem d6_2 : decode prog_19_method_6_code 2 = .ok (.getfield 21, 3) := by decide +kernel
theorem d6_5 : decode prog_19_method_6_code 5 = .ok (.arraylength, 1) := by decide +kernel
theorem d6_6 : decode prog_19_method_6_code 6 = .ok (.if_icmp .ge 16, 3) := by decide +kernel
theorem d6_9 : decode prog_19_method_6_code 9 = .ok (.aload_n 0, 1) := by decide +kernel
theorem d6_10 : decode prog_19_method_6_code 10 = .ok (.getfield 21, 3) := by decide +kernel
theorem d6_13 : decode prog_19_method_6_code 13 = .ok (.iload_n 1, 1) := by decide +kernel
theorem d6_14 : decode prog_19_method_6_code 14 = .ok (.dup2, 1) := by decide +kernel
theorem d6_15 : decode prog_19_method_6_code 15 = .ok (.laload, 1) := by decide +kernel
theorem d6_16 : decode prog_19_method_6_code 16 = .ok (.lload_n 2, 1) := by decide +kernel
theorem d6_17 : decode prog_19_method_6_code 17 = .ok (.ladd, 1) := by decide +kernel
theorem d6_18 : decode prog_19_method_6_code 18 = .ok (.lastore, 1) := by decide +kernel
theorem d6_19 : decode prog_19_method_6_code 19 = .ok (.goto 19, 3) := by decide +kernel
theorem d6_22 : decode prog_19_method_6_code 22 = .ok (.aload_n 0, 1) := by decide +kernel
theorem d6_23 : decode prog_19_method_6_code 23 = .ok (.getfield 25, 3) := by decide +kernel
theorem d6_26 : decode prog_19_method_6_code 26 = .ok (.iload_n 1, 1) := by decide +kernel
theorem d6_27 : decode prog_19_method_6_code 27 = .ok (.aload_n 0, 1) := by decide +kernel
theorem d6_28 : decode prog_19_method_6_code 28 = .ok (.getfield 21, 3) := by decide +kernel
theorem d6_31 : decode prog_19_method_6_code 31 = .ok (.arraylength, 1) := by decide +kernel
theorem d6_32 : decode prog_19_method_6_code 32 = .ok (.isub, 1) := by decide +kernel
theorem d6_33 : decode prog_19_method_6_code 33 = .ok (.dup2, 1) := by decide +kernel
theorem d6_34 : decode prog_19_method_6_code 34 = .ok (.laload, 1) := by decide +kernel
theorem d6_35 : decode prog_19_method_6_code 35 = .ok (.lload_n 2, 1) := by decide +kernel
theorem d6_36 : decode prog_19_method_6_code 36 = .ok (.ladd, 1) := by decide +kernel
theorem d6_37 : decode prog_19_method_6_code 37 = .ok (.lastore, 1) := by decide +kernel
theorem d6_38 : decode prog_19_method_6_code 38 = .ok (.return_, 1) := by decide +kernel
theorem pn_6 : plainName "com/example/wedgestone/wedgestone/algorithm/LongTable" = true := by first | (simp [plainName, overriddenIn]; done) | decide +kernel
theorem ef_6 (m : MethodId) (va : Addr) (vi : Int32) (vx : Int64) : entryFrame m #[(.ref va), (.int vi), (.long vx)] 4 = mkF m 0 #[.val (.ref va), .val (.int vi), .val (.long vx), .second] [] := by first | (simp [entryFrame, mkF, argsToLocals, Value.category]; done) | rfl
def Q6 (Z : State) (va : Addr) (vi : Int32) (vx : Int64) (nh : Int32) (nt : Int32) (vf : Nat → Int64) (h0 : Heap) (n0 : Nat) (v : Option Value) (h : Heap) (L : List Loc) : Prop := v = none ∧ Fr n0 L ∧ n0 ≤ h.size ∧ Exa Z h va "com/example/wedgestone/wedgestone/algorithm/LongTable" ∧ own_Tab Z h n0 va nh nt (own_upd vf vi (vf (vi).toNatClampNeg + vx))
set_option maxRecDepth 65536 in
set_option maxHeartbeats 40000000 in
theorem rm6 (l : Launch) (Z : State) (a0 : Array Value) (hw : ∀ d ∈ tables_1, d.before a0 Z = true) (ws : List Jvm.Cond) (va : Addr) (vi : Int32) (vx : Int64) (nh : Int32) (nt : Int32) (vf : Nat → Int64) (h0 : Heap) (n0 : Nat) (Z0 : n0 ≤ h0.size) (HT : own_Tab Z h0 n0 va nh nt vf) (hi0 : ¬ vi < 0) (hi1 : vi.toInt < nh.toInt + nt.toInt) :
    MetFree l (⟨"com/example/wedgestone/wedgestone/algorithm/LongTable", "add", "(IJ)V"⟩ : MethodName) (head1 (Jvm.Cond.code (⟨"com/example/wedgestone/wedgestone/algorithm/LongTable", "add", "(IJ)V"⟩ : MethodName) prog_19_method_6_code 4 none :: ws) ({ frames := 0, cells := 0, slots := 0, locals := 0 } : Room)) (fun a U => a = #[(.ref va), (.int vi), (.long vx)] ∧ Z.Warmed39 U.vm ∧ U.heap = h0) (fun _ _ _ _ _ => True) (fun _ U o U' => ∃ v L, o = .returned v ∧ Q6 Z va vi vx nh nt vf h0 n0 v U'.heap L ∧ FrameEnd U o U' L ({ frames := 0, cells := 0, slots := 0, locals := 0 } : Room).cells ({ frames := 0, cells := 0, slots := 0, locals := 0 } : Room).slots) := by
  refine MetFree.of_bodySF (plainFor_of_name pn_6) hisR ?_
  intro p e s m args below meth c s₁ Bd hml0 hP hK
  obtain ⟨rfl, hZ, hh⟩ := hP
  have hx := Bd.exec
  have hby := Bd.bytes
  have hml : c.maxLocals = 4 := hml0
  have hown : s.vm.findClass "com/example/wedgestone/wedgestone/algorithm/LongTable" = some m.cls := findClass_of_methodNamed Bd.named
  have hnm := (name_of_methodNamed Bd.named Bd.method).1
  have X0 : Stand p l e ({ frames := 0, cells := 0, slots := 0, locals := 0 } : Room) s m #[(.ref va), (.int vi), (.long vx)] below meth c s₁ [] 0 0 := Stand.of_body Bd
  have e0 : s₁.heap = h0 := by rw [← hh, Bd.state]; rfl
  have N0 := Fr.nil n0
  have pre0 : ∀ t, Steps p.tables e below (s₁.setTop (mkF m 0 #[.val (.ref va), .val (.int vi), .val (.long vx), .second] [])) t → Steps p.tables e below (s₁.setTop (entryFrame m #[(.ref va), (.int vi), (.long vx)] 4)) t := fun t k => castTop (ef_6 m va vi vx) k
  obtain ⟨hd, tl, E_va, F_head, F_tail, V_hd, V_tl, ne_va_hd, ne_va_tl, ne_hd_tl, g_hd, g_tl⟩ := HT
  have hnh0 : ¬ nh < 0 := by obtain ⟨_, _, _, M, _⟩ := V_hd; exact M
  obtain ⟨T1, X1, e1, st1⟩ := getF X0 hx hZ hown (host := "") (Or.inl (hw _ (List.mem_of_getElem? (i := 20) rfl))) Via.refl e0 F_head (g := (mkF m 2 #[.val (.ref va), .val (.int vi), .val (.long vx), .second] [(.ref va), (.int vi)])) rfl rfl (hb hby d6_2)
  have Vo2 := V_hd
  obtain ⟨cl2, Ar2, S2, M2, H2⟩ := Vo2
  by_cases hb3 : vi < nh
  · obtain ⟨T4, X4, e4, st4⟩ := getF X1 hx hZ hown (host := "") (Or.inl (hw _ (List.mem_of_getElem? (i := 20) rfl))) Via.refl e1 F_head (g := (mkF m 10 #[.val (.ref va), .val (.int vi), .val (.long vx), .second] [(.ref va)])) rfl rfl (hb hby d6_10)
    have hin6 : ¬ (vi < 0 ∨ cl2.slots.size ≤ (vi).toNatClampNeg) := inb_of S2 ⟨hi0, hb3⟩
    obtain ⟨T6, h6, X6, e6, W6, st6⟩ := stJ X4 hx hZ e4 Ar2 (j := vi) hin6 (g := (mkF m 18 #[.val (.ref va), .val (.int vi), .val (.long vx), .second] [(.long ((vf (vi).toNatClampNeg) + vx)), (.int vi), (.ref hd)])) rfl rfl (hb hby d6_18)
    have Z7 : n0 ≤ h6.size := Nat.le_trans Z0 (Keep.of_wr W6).1
    have E8_va := E_va.wr W6
    have F9_va_head := F_head.other W6 (Or.inl ne_va_hd)
    have F10_va_tail := F_tail.other W6 (Or.inl ne_va_hd)
    have V12_tl := V_tl.other W6 (Ne.symm ne_hd_tl)
    have V6 := own_arf_setL V_hd W6
    have N6 := Fr.snoc X6 N0 g_hd
    obtain ⟨fs, hr, hrun, hended, hW, hsame⟩ := X6.leave (v := none) (fun _ => rfl)
    refine ⟨_, _, pre0 _ ?_, hrun, hended, _, _, rfl, ?_, ⟨_, rfl⟩, hW, hsame.mono (by decide) (by decide)⟩
    · show Steps p.tables e below (s₁.setTop (mkF m 0 #[.val (.ref va), .val (.int vi), .val (.long vx), .second] [])) _
      refine XS.iloadN X0.here hx rfl (hb hby d6_0) rfl ?_
      show Steps p.tables e below (s₁.setTop (mkF m 1 #[.val (.ref va), .val (.int vi), .val (.long vx), .second] [(.int vi)])) _
      refine XS.aloadN X0.here hx rfl (hb hby d6_1) rfl rfl ?_
      show Steps p.tables e below (s₁.setTop (mkF m 2 #[.val (.ref va), .val (.int vi), .val (.long vx), .second] [(.ref va), (.int vi)])) _
      refine st1 _ ?_
      show Steps p.tables e below (T1.setTop (mkF m 5 #[.val (.ref va), .val (.int vi), .val (.long vx), .second] [(.ref hd), (.int vi)])) _
      refine X1.arraylength hx (by rw [e1]; exact Ar2.1) (State.isArrayOf_alike hZ.alike Ar2.2.1) (g := (mkF m 5 #[.val (.ref va), .val (.int vi), .val (.long vx), .second] [(.ref hd), (.int vi)])) rfl rfl (hb hby d6_5) _ ?_
      rw [len_of S2 M2]
      show Steps p.tables e below (T1.setTop (mkF m 6 #[.val (.ref va), .val (.int vi), .val (.long vx), .second] [(.int nh), (.int vi)])) _
      refine XS.icmpNo X1.here hx rfl (hb hby d6_6) rfl (tlt hb3).2.1 ?_
      show Steps p.tables e below (T1.setTop (mkF m 9 #[.val (.ref va), .val (.int vi), .val (.long vx), .second] [])) _
      refine XS.aloadN X1.here hx rfl (hb hby d6_9) rfl rfl ?_
      show Steps p.tables e below (T1.setTop (mkF m 10 #[.val (.ref va), .val (.int vi), .val (.long vx), .second] [(.ref va)])) _
      refine st4 _ ?_
      show Steps p.tables e below (T4.setTop (mkF m 13 #[.val (.ref va), .val (.int vi), .val (.long vx), .second] [(.ref hd)])) _
      refine XS.iloadN X4.here hx rfl (hb hby d6_13) rfl ?_
      show Steps p.tables e below (T4.setTop (mkF m 14 #[.val (.ref va), .val (.int vi), .val (.long vx), .second] [(.int vi), (.ref hd)])) _
      refine Jvm.Free.XT.dup2 X4.here hx rfl (hb hby d6_14) rfl rfl rfl ?_
      show Steps p.tables e below (T4.setTop (mkF m 15 #[.val (.ref va), .val (.int vi), .val (.long vx), .second] [(.int vi), (.ref hd), (.int vi), (.ref hd)])) _
      have hin5 : ¬ (vi < 0 ∨ cl2.slots.size ≤ (vi).toNatClampNeg) := inb_of S2 ⟨hi0, hb3⟩
      refine X4.laload hx (j := vi) (v := (.long (vf (vi).toNatClampNeg))) (by rw [e4]; exact Ar2.1) (State.isArrayOf_alike hZ.alike Ar2.2.1) Ar2.2.2 hin5 (own_arf_at H2 S2 hin5) (g := (mkF m 15 #[.val (.ref va), .val (.int vi), .val (.long vx), .second] [(.int vi), (.ref hd), (.int vi), (.ref hd)])) rfl rfl (hb hby d6_15) _ ?_
      show Steps p.tables e below (T4.setTop (mkF m 16 #[.val (.ref va), .val (.int vi), .val (.long vx), .second] [(.long (vf (vi).toNatClampNeg)), (.int vi), (.ref hd)])) _
      refine XS.lloadN X4.here hx rfl (hb hby d6_16) rfl ?_
      show Steps p.tables e below (T4.setTop (mkF m 17 #[.val (.ref va), .val (.int vi), .val (.long vx), .second] [(.long vx), (.long (vf (vi).toNatClampNeg)), (.int vi), (.ref hd)])) _
      refine XS.ladd X4.here hx rfl (hb hby d6_17) rfl ?_
      show Steps p.tables e below (T4.setTop (mkF m 18 #[.val (.ref va), .val (.int vi), .val (.long vx), .second] [(.long ((vf (vi).toNatClampNeg) + vx)), (.int vi), (.ref hd)])) _
      refine st6 _ ?_
      show Steps p.tables e below (T6.setTop (mkF m 19 #[.val (.ref va), .val (.int vi), .val (.long vx), .second] [])) _
      refine XS.goto X6.here hx rfl (pc0 := 19) (pc' := 38) rfl (hb hby d6_19) (by decide) (by decide) ?_
      show Steps p.tables e below (T6.setTop (mkF m 38 #[.val (.ref va), .val (.int vi), .val (.long vx), .second] [])) _
      exact X6.returnOut hx Bd.returns (hb hby d6_38) hr
    · show Q6 Z va vi vx nh nt vf h0 n0 _ T6.heap _
      rw [e6]
      exact ⟨rfl, N6, Z7, E8_va, ⟨hd, tl, E8_va, F9_va_head, F10_va_tail, V6, (own_tab_h (hd := hd) hi0 hb3 V12_tl), ne_va_hd, ne_va_tl, ne_hd_tl, g_hd, g_tl⟩⟩
  · obtain ⟨T13, X13, e13, st13⟩ := getF X1 hx hZ hown (host := "") (Or.inl (hw _ (List.mem_of_getElem? (i := 22) rfl))) Via.refl e1 F_tail (g := (mkF m 23 #[.val (.ref va), .val (.int vi), .val (.long vx), .second] [(.ref va)])) rfl rfl (hb hby d6_23)
    obtain ⟨T14, X14, e14, st14⟩ := getF X13 hx hZ hown (host := "") (Or.inl (hw _ (List.mem_of_getElem? (i := 20) rfl))) Via.refl e13 F_head (g := (mkF m 28 #[.val (.ref va), .val (.int vi), .val (.long vx), .second] [(.ref va), (.int vi), (.ref tl)])) rfl rfl (hb hby d6_28)
    have Vo15 := V_tl
    obtain ⟨cl15, Ar15, S15, M15, H15⟩ := Vo15
    have hin17 : ¬ ((vi - nh) < 0 ∨ cl15.slots.size ≤ ((vi - nh)).toNatClampNeg) := inb_of S15 ⟨own_sub0 hi0 hb3 hnh0, own_subl hi0 hb3 hnh0 hi1⟩
    obtain ⟨T17, h17, X17, e17, W17, st17⟩ := stJ X14 hx hZ e14 Ar15 (j := (vi - nh)) hin17 (g := (mkF m 37 #[.val (.ref va), .val (.int vi), .val (.long vx), .second] [(.long (((fun i => vf (nh.toNatClampNeg + i)) ((vi - nh)).toNatClampNeg) + vx)), (.int (vi - nh)), (.ref tl)])) rfl rfl (hb hby d6_37)
    have Z18 : n0 ≤ h17.size := Nat.le_trans Z0 (Keep.of_wr W17).1
    have E19_va := E_va.wr W17
    have F20_va_head := F_head.other W17 (Or.inl ne_va_tl)
    have F21_va_tail := F_tail.other W17 (Or.inl ne_va_tl)
    have V22_hd := V_hd.other W17 ne_hd_tl
    have V17 := own_arf_setL V_tl W17
    have N17 := Fr.snoc X17 N0 g_tl
    obtain ⟨fs, hr, hrun, hended, hW, hsame⟩ := X17.leave (v := none) (fun _ => rfl)
    refine ⟨_, _, pre0 _ ?_, hrun, hended, _, _, rfl, ?_, ⟨_, rfl⟩, hW, hsame.mono (by decide) (by decide)⟩
    · show Steps p.tables e below (s₁.setTop (mkF m 0 #[.val (.ref va), .val (.int vi), .val (.long vx), .second] [])) _
      refine XS.iloadN X0.here hx rfl (hb hby d6_0) rfl ?_
      show Steps p.tables e below (s₁.setTop (mkF m 1 #[.val (.ref va), .val (.int vi), .val (.long vx), .second] [(.int vi)])) _
      refine XS.aloadN X0.here hx rfl (hb hby d6_1) rfl rfl ?_
      show Steps p.tables e below (s₁.setTop (mkF m 2 #[.val (.ref va), .val (.int vi), .val (.long vx), .second] [(.ref va), (.int vi)])) _
      refine st1 _ ?_
      show Steps p.tables e below (T1.setTop (mkF m 5 #[.val (.ref va), .val (.int vi), .val (.long vx), .second] [(.ref hd), (.int vi)])) _
      refine X1.arraylength hx (by rw [e1]; exact Ar2.1) (State.isArrayOf_alike hZ.alike Ar2.2.1) (g := (mkF m 5 #[.val (.ref va), .val (.int vi), .val (.long vx), .second] [(.ref hd), (.int vi)])) rfl rfl (hb hby d6_5) _ ?_
      rw [len_of S2 M2]
      show Steps p.tables e below (T1.setTop (mkF m 6 #[.val (.ref va), .val (.int vi), .val (.long vx), .second] [(.int nh), (.int vi)])) _
      refine XS.icmpYes X1.here hx rfl (pc0 := 6) (pc' := 22) rfl (hb hby d6_6) rfl (flt hb3).2.1 (by decide) (by decide) ?_
      show Steps p.tables e below (T1.setTop (mkF m 22 #[.val (.ref va), .val (.int vi), .val (.long vx), .second] [])) _
      refine XS.aloadN X1.here hx rfl (hb hby d6_22) rfl rfl ?_
      show Steps p.tables e below (T1.setTop (mkF m 23 #[.val (.ref va), .val (.int vi), .val (.long vx), .second] [(.ref va)])) _
      refine st13 _ ?_
      show Steps p.tables e below (T13.setTop (mkF m 26 #[.val (.ref va), .val (.int vi), .val (.long vx), .second] [(.ref tl)])) _
      refine XS.iloadN X13.here hx rfl (hb hby d6_26) rfl ?_
      show Steps p.tables e below (T13.setTop (mkF m 27 #[.val (.ref va), .val (.int vi), .val (.long vx), .second] [(.int vi), (.ref tl)])) _
      refine XS.aloadN X13.here hx rfl (hb hby d6_27) rfl rfl ?_
      show Steps p.tables e below (T13.setTop (mkF m 28 #[.val (.ref va), .val (.int vi), .val (.long vx), .second] [(.ref va), (.int vi), (.ref tl)])) _
      refine st14 _ ?_
      show Steps p.tables e below (T14.setTop (mkF m 31 #[.val (.ref va), .val (.int vi), .val (.long vx), .second] [(.ref hd), (.int vi), (.ref tl)])) _
      refine X14.arraylength hx (by rw [e14]; exact Ar2.1) (State.isArrayOf_alike hZ.alike Ar2.2.1) (g := (mkF m 31 #[.val (.ref va), .val (.int vi), .val (.long vx), .second] [(.ref hd), (.int vi), (.ref tl)])) rfl rfl (hb hby d6_31) _ ?_
      rw [len_of S2 M2]
      show Steps p.tables e below (T14.setTop (mkF m 32 #[.val (.ref va), .val (.int vi), .val (.long vx), .second] [(.int nh), (.int vi), (.ref tl)])) _
      refine XS.isub X14.here hx rfl (hb hby d6_32) rfl ?_
      show Steps p.tables e below (T14.setTop (mkF m 33 #[.val (.ref va), .val (.int vi), .val (.long vx), .second] [(.int (vi - nh)), (.ref tl)])) _
      refine Jvm.Free.XT.dup2 X14.here hx rfl (hb hby d6_33) rfl rfl rfl ?_
      show Steps p.tables e below (T14.setTop (mkF m 34 #[.val (.ref va), .val (.int vi), .val (.long vx), .second] [(.int (vi - nh)), (.ref tl), (.int (vi - nh)), (.ref tl)])) _
      have hin16 : ¬ ((vi - nh) < 0 ∨ cl15.slots.size ≤ ((vi - nh)).toNatClampNeg) := inb_of S15 ⟨own_sub0 hi0 hb3 hnh0, own_subl hi0 hb3 hnh0 hi1⟩
      refine X14.laload hx (j := (vi - nh)) (v := (.long ((fun i => vf (nh.toNatClampNeg + i)) ((vi - nh)).toNatClampNeg))) (by rw [e14]; exact Ar15.1) (State.isArrayOf_alike hZ.alike Ar15.2.1) Ar15.2.2 hin16 (own_arf_at H15 S15 hin16) (g := (mkF m 34 #[.val (.ref va), .val (.int vi), .val (.long vx), .second] [(.int (vi - nh)), (.ref tl), (.int (vi - nh)), (.ref tl)])) rfl rfl (hb hby d6_34) _ ?_
      show Steps p.tables e below (T14.setTop (mkF m 35 #[.val (.ref va), .val (.int vi), .val (.long vx), .second] [(.long ((fun i => vf (nh.toNatClampNeg + i)) ((vi - nh)).toNatClampNeg)), (.int (vi - nh)), (.ref tl)])) _
      refine XS.lloadN X14.here hx rfl (hb hby d6_35) rfl ?_
      show Steps p.tables e below (T14.setTop (mkF m 36 #[.val (.ref va), .val (.int vi), .val (.long vx), .second] [(.long vx), (.long ((fun i => vf (nh.toNatClampNeg + i)) ((vi - nh)).toNatClampNeg)), (.int (vi - nh)), (.ref tl)])) _
      refine XS.ladd X14.here hx rfl (hb hby d6_36) rfl ?_
      show Steps p.tables e below (T14.setTop (mkF m 37 #[.val (.ref va), .val (.int vi), .val (.long vx), .second] [(.long (((fun i => vf (nh.toNatClampNeg + i)) ((vi - nh)).toNatClampNeg) + vx)), (.int (vi - nh)), (.ref tl)])) _
      refine st17 _ ?_
      show Steps p.tables e below (T17.setTop (mkF m 38 #[.val (.ref va), .val (.int vi), .val (.long vx), .second] [])) _
      exact X17.returnOut hx Bd.returns (hb hby d6_38) hr
    · show Q6 Z va vi vx nh nt vf h0 n0 _ T17.heap _
      rw [e17]
      exact ⟨rfl, N17, Z18, E19_va, ⟨hd, tl, E19_va, F20_va_head, F21_va_tail, (own_tab_t1 hi0 hb3 V22_hd), (own_tab_t2 (vx := vf (vi).toNatClampNeg + vx) hi0 hb3 hnh0 (by rw [← own_subx hi0 hb3 hnh0]; exact V17)), ne_va_hd, ne_va_tl, ne_hd_tl, g_hd, g_tl⟩⟩
theorem d8_0 : decode method_3_code 0 = .ok (.iload_n 0, 1) := by decide +kernel
theorem d8_1 : decode method_3_code 1 = .ok (.iload_n 1, 1) := by decide +kernel
theorem d8_2 : decode method_3_code 2 = .ok (.if_icmp .ne 5, 3) := by decide +kernel
theorem d8_5 : decode method_3_code 5 = .ok (.lload_n 3, 1) := by decide +kernel
theorem d8_6 : decode method_3_code 6 = .ok (.lreturn, 1) := by decide +kernel
theorem d8_7 : decode method_3_code 7 = .ok (.iload_n 0, 1) := by decide +kernel
theorem d8_8 : decode method_3_code 8 = .ok (.iload_n 2, 1) := by decide +kernel
theorem d8_9 : decode method_3_code 9 = .ok (.if_icmp .ne 6, 3) := by decide +kernel
theorem d8_12 : decode method_3_code 12 = .ok (.lload 5, 2) := by decide +kernel
theorem d8_14 : decode method_3_code 14 = .ok (.lreturn, 1) := by decide +kernel
theorem d8_15 : decode method_3_code 15 = .ok (.lconst 0, 1) := by decide +kernel
theorem d8_16 : decode method_3_code 16 = .ok (.lreturn, 1) := by decide +kernel
theorem pn_8 : plainName "com/example/wedgestone/wedgestone/algorithm/LongTableAddPinLaw" = true := by first | (simp [plainName, overriddenIn]; done) | decide +kernel
theorem ef_8 (m : MethodId) (vm : Int32) (vi : Int32) (vj : Int32) (vs : Int64) (vo : Int64) : entryFrame m #[(.int vm), (.int vi), (.int vj), (.long vs), (.long vo)] 7 = mkF m 0 #[.val (.int vm), .val (.int vi), .val (.int vj), .val (.long vs), .second, .val (.long vo), .second] [] := by first | (simp [entryFrame, mkF, argsToLocals, Value.category]; done) | rfl
def F8 (vm : Int32) (vi : Int32) (vj : Int32) (vs : Int64) (vo : Int64) : Int64 := (if vm = vi then vs else (if vm = vj then vo else (0 : Int64)))
def Q8 (Z : State) (vm : Int32) (vi : Int32) (vj : Int32) (vs : Int64) (vo : Int64) (h0 : Heap) (n0 : Nat) (v : Option Value) (h : Heap) (L : List Loc) : Prop := v = some (.long (F8 vm vi vj vs vo)) ∧ Fr n0 L ∧ h = h0
set_option maxRecDepth 65536 in
set_option maxHeartbeats 40000000 in
theorem rm8 (l : Launch) (Z : State) (a0 : Array Value) (hw : ∀ d ∈ tables_1, d.before a0 Z = true) (ws : List Jvm.Cond) (vm : Int32) (vi : Int32) (vj : Int32) (vs : Int64) (vo : Int64) (h0 : Heap) (n0 : Nat) (Z0 : n0 ≤ h0.size)  :
    MetFree l (⟨"com/example/wedgestone/wedgestone/algorithm/LongTableAddPinLaw", "expect", "(IIIJJ)J"⟩ : MethodName) (head1 (Jvm.Cond.code (⟨"com/example/wedgestone/wedgestone/algorithm/LongTableAddPinLaw", "expect", "(IIIJJ)J"⟩ : MethodName) method_3_code 7 (some .long) :: ws) ({ frames := 0, cells := 0, slots := 0, locals := 0 } : Room)) (fun a U => a = #[(.int vm), (.int vi), (.int vj), (.long vs), (.long vo)] ∧ Z.Warmed39 U.vm ∧ U.heap = h0) (fun _ _ _ _ _ => True) (fun _ U o U' => ∃ v L, o = .returned v ∧ Q8 Z vm vi vj vs vo h0 n0 v U'.heap L ∧ FrameEnd U o U' L ({ frames := 0, cells := 0, slots := 0, locals := 0 } : Room).cells ({ frames := 0, cells := 0, slots := 0, locals := 0 } : Room).slots) := by
  refine MetFree.of_bodySF (plainFor_of_name pn_8) hisR ?_
  intro p e s m args below meth c s₁ Bd hml0 hP hK
  obtain ⟨rfl, hZ, hh⟩ := hP
  have hx := Bd.exec
  have hby := Bd.bytes
  have hml : c.maxLocals = 7 := hml0
  have hown : s.vm.findClass "com/example/wedgestone/wedgestone/algorithm/LongTableAddPinLaw" = some m.cls := findClass_of_methodNamed Bd.named
  have hnm := (name_of_methodNamed Bd.named Bd.method).1
  have X0 : Stand p l e ({ frames := 0, cells := 0, slots := 0, locals := 0 } : Room) s m #[(.int vm), (.int vi), (.int vj), (.long vs), (.long vo)] below meth c s₁ [] 0 0 := Stand.of_body Bd
  have e0 : s₁.heap = h0 := by rw [← hh, Bd.state]; rfl
  have N0 := Fr.nil n0
  have pre0 : ∀ t, Steps p.tables e below (s₁.setTop (mkF m 0 #[.val (.int vm), .val (.int vi), .val (.int vj), .val (.long vs), .second, .val (.long vo), .second] [])) t → Steps p.tables e below (s₁.setTop (entryFrame m #[(.int vm), (.int vi), (.int vj), (.long vs), (.long vo)] 7)) t := fun t k => castTop (ef_8 m vm vi vj vs vo) k
  by_cases hb1 : vm = vi
  · obtain ⟨fs, hr, hrun, hended, hW, hsame⟩ := X0.leave (v := some (.long vs)) (fun h => by rw [Bd.returns] at h; cases h)
    refine ⟨_, _, pre0 _ ?_, hrun, hended, _, _, rfl, ?_, ⟨_, rfl⟩, hW, hsame.mono (by decide) (by decide)⟩
    · show Steps p.tables e below (s₁.setTop (mkF m 0 #[.val (.int vm), .val (.int vi), .val (.int vj), .val (.long vs), .second, .val (.long vo), .second] [])) _
      refine XS.iloadN X0.here hx rfl (hb hby d8_0) rfl ?_
      show Steps p.tables e below (s₁.setTop (mkF m 1 #[.val (.int vm), .val (.int vi), .val (.int vj), .val (.long vs), .second, .val (.long vo), .second] [(.int vm)])) _
      refine XS.iloadN X0.here hx rfl (hb hby d8_1) rfl ?_
      show Steps p.tables e below (s₁.setTop (mkF m 2 #[.val (.int vm), .val (.int vi), .val (.int vj), .val (.long vs), .second, .val (.long vo), .second] [(.int vi), (.int vm)])) _
      refine XS.icmpNo X0.here hx rfl (hb hby d8_2) rfl (teq hb1).2 ?_
      show Steps p.tables e below (s₁.setTop (mkF m 5 #[.val (.int vm), .val (.int vi), .val (.int vj), .val (.long vs), .second, .val (.long vo), .second] [])) _
      refine XS.lloadN X0.here hx rfl (hb hby d8_5) rfl ?_
      show Steps p.tables e below (s₁.setTop (mkF m 6 #[.val (.int vm), .val (.int vi), .val (.int vj), .val (.long vs), .second, .val (.long vo), .second] [(.long vs)])) _
      exact X0.lreturnOut hx Bd.returns (hb hby d8_6) hr
    · show Q8 Z vm vi vj vs vo h0 n0 _ s₁.heap _
      rw [e0]
      exact ⟨(congrArg (fun z => some (Value.long z)) (Eq.symm (if_pos hb1))), N0, rfl⟩
  · by_cases hb2 : vm = vj
    · obtain ⟨fs, hr, hrun, hended, hW, hsame⟩ := X0.leave (v := some (.long vo)) (fun h => by rw [Bd.returns] at h; cases h)
      refine ⟨_, _, pre0 _ ?_, hrun, hended, _, _, rfl, ?_, ⟨_, rfl⟩, hW, hsame.mono (by decide) (by decide)⟩
      · show Steps p.tables e below (s₁.setTop (mkF m 0 #[.val (.int vm), .val (.int vi), .val (.int vj), .val (.long vs), .second, .val (.long vo), .second] [])) _
        refine XS.iloadN X0.here hx rfl (hb hby d8_0) rfl ?_
        show Steps p.tables e below (s₁.setTop (mkF m 1 #[.val (.int vm), .val (.int vi), .val (.int vj), .val (.long vs), .second, .val (.long vo), .second] [(.int vm)])) _
        refine XS.iloadN X0.here hx rfl (hb hby d8_1) rfl ?_
        show Steps p.tables e below (s₁.setTop (mkF m 2 #[.val (.int vm), .val (.int vi), .val (.int vj), .val (.long vs), .second, .val (.long vo), .second] [(.int vi), (.int vm)])) _
        refine XS.icmpYes X0.here hx rfl (pc0 := 2) (pc' := 7) rfl (hb hby d8_2) rfl (feq hb1).2 (by decide) (by decide) ?_
        show Steps p.tables e below (s₁.setTop (mkF m 7 #[.val (.int vm), .val (.int vi), .val (.int vj), .val (.long vs), .second, .val (.long vo), .second] [])) _
        refine XS.iloadN X0.here hx rfl (hb hby d8_7) rfl ?_
        show Steps p.tables e below (s₁.setTop (mkF m 8 #[.val (.int vm), .val (.int vi), .val (.int vj), .val (.long vs), .second, .val (.long vo), .second] [(.int vm)])) _
        refine XS.iloadN X0.here hx rfl (hb hby d8_8) rfl ?_
        show Steps p.tables e below (s₁.setTop (mkF m 9 #[.val (.int vm), .val (.int vi), .val (.int vj), .val (.long vs), .second, .val (.long vo), .second] [(.int vj), (.int vm)])) _
        refine XS.icmpNo X0.here hx rfl (hb hby d8_9) rfl (teq hb2).2 ?_
        show Steps p.tables e below (s₁.setTop (mkF m 12 #[.val (.int vm), .val (.int vi), .val (.int vj), .val (.long vs), .second, .val (.long vo), .second] [])) _
        refine XS.lload X0.here hx rfl (hb hby d8_12) rfl ?_
        show Steps p.tables e below (s₁.setTop (mkF m 14 #[.val (.int vm), .val (.int vi), .val (.int vj), .val (.long vs), .second, .val (.long vo), .second] [(.long vo)])) _
        exact X0.lreturnOut hx Bd.returns (hb hby d8_14) hr
      · show Q8 Z vm vi vj vs vo h0 n0 _ s₁.heap _
        rw [e0]
        exact ⟨(congrArg (fun z => some (Value.long z)) (Eq.symm (Eq.trans (if_neg hb1) (if_pos hb2)))), N0, rfl⟩
    · obtain ⟨fs, hr, hrun, hended, hW, hsame⟩ := X0.leave (v := some (.long (0 : Int64))) (fun h => by rw [Bd.returns] at h; cases h)
      refine ⟨_, _, pre0 _ ?_, hrun, hended, _, _, rfl, ?_, ⟨_, rfl⟩, hW, hsame.mono (by decide) (by decide)⟩
      · show Steps p.tables e below (s₁.setTop (mkF m 0 #[.val (.int vm), .val (.int vi), .val (.int vj), .val (.long vs), .second, .val (.long vo), .second] [])) _
        refine XS.iloadN X0.here hx rfl (hb hby d8_0) rfl ?_
        show Steps p.tables e below (s₁.setTop (mkF m 1 #[.val (.int vm), .val (.int vi), .val (.int vj), .val (.long vs), .second, .val (.long vo), .second] [(.int vm)])) _
        refine XS.iloadN X0.here hx rfl (hb hby d8_1) rfl ?_
        show Steps p.tables e below (s₁.setTop (mkF m 2 #[.val (.int vm), .val (.int vi), .val (.int vj), .val (.long vs), .second, .val (.long vo), .second] [(.int vi), (.int vm)])) _
        refine XS.icmpYes X0.here hx rfl (pc0 := 2) (pc' := 7) rfl (hb hby d8_2) rfl (feq hb1).2 (by decide) (by decide) ?_
        show Steps p.tables e below (s₁.setTop (mkF m 7 #[.val (.int vm), .val (.int vi), .val (.int vj), .val (.long vs), .second, .val (.long vo), .second] [])) _
        refine XS.iloadN X0.here hx rfl (hb hby d8_7) rfl ?_
        show Steps p.tables e below (s₁.setTop (mkF m 8 #[.val (.int vm), .val (.int vi), .val (.int vj), .val (.long vs), .second, .val (.long vo), .second] [(.int vm)])) _
        refine XS.iloadN X0.here hx rfl (hb hby d8_8) rfl ?_
        show Steps p.tables e below (s₁.setTop (mkF m 9 #[.val (.int vm), .val (.int vi), .val (.int vj), .val (.long vs), .second, .val (.long vo), .second] [(.int vj), (.int vm)])) _
        refine XS.icmpYes X0.here hx rfl (pc0 := 9) (pc' := 15) rfl (hb hby d8_9) rfl (feq hb2).2 (by decide) (by decide) ?_
        show Steps p.tables e below (s₁.setTop (mkF m 15 #[.val (.int vm), .val (.int vi), .val (.int vj), .val (.long vs), .second, .val (.long vo), .second] [])) _
        refine XS.lconst X0.here hx rfl (hb hby d8_15) ?_
        show Steps p.tables e below (s₁.setTop (mkF m 16 #[.val (.int vm), .val (.int vi), .val (.int vj), .val (.long vs), .second, .val (.long vo), .second] [(.long (0 : Int64))])) _
        exact X0.lreturnOut hx Bd.returns (hb hby d8_16) hr
      · show Q8 Z vm vi vj vs vo h0 n0 _ s₁.heap _
        rw [e0]
        exact ⟨(congrArg (fun z => some (Value.long z)) (Eq.symm (Eq.trans (if_neg hb1) (if_neg hb2)))), N0, rfl⟩

def own_mh (x1 : Int32) : Int32 := ((x1 &&& (3 : Int32)) + (1 : Int32))
def own_i (x2 : Int32) : Int32 := (x2 &&& (3 : Int32))
def own_j (x2 : Int32) : Int32 := ((own_i x2 + (1 : Int32)) &&& (3 : Int32))
theorem own_mh_v (x1 : Int32) : 1 ≤ (own_mh x1).toInt := by
  have e1 : (x1 &&& (3 : Int32)).toInt = x1.toInt % 2 ^ 2 := Jvm.Kit.i32_mask x1 3 (by decide) (by decide)
  have e2 : (own_mh x1).toInt = (x1 &&& (3 : Int32)).toInt + (1 : Int32).toInt := Jvm.Kit.i32_add (by rw [e1]; show -2 ^ 31 ≤ _ + (1 : Int); omega) (by rw [e1]; show _ + (1 : Int) < 2 ^ 31; omega)
  have e3 : (1 : Int32).toInt = 1 := rfl
  rw [e2, e1, e3]; omega
theorem own_i_v (x2 : Int32) : 0 ≤ (own_i x2).toInt ∧ (own_i x2).toInt < 4 := by
  have e1 : (own_i x2).toInt = x2.toInt % 2 ^ 2 := Jvm.Kit.i32_mask x2 3 (by decide) (by decide)
  rw [e1]; omega
theorem own_j_v (x2 : Int32) : (own_j x2).toInt = ((own_i x2).toInt + 1) % 4 := by
  have hi := own_i_v x2
  have e1 : (own_j x2).toInt = (own_i x2 + (1 : Int32)).toInt % 2 ^ 2 := Jvm.Kit.i32_mask _ 3 (by decide) (by decide)
  have e2 : (own_i x2 + (1 : Int32)).toInt = (own_i x2).toInt + (1 : Int32).toInt := Jvm.Kit.i32_add (by show -2 ^ 31 ≤ _ + (1 : Int); omega) (by show _ + (1 : Int) < 2 ^ 31; omega)
  have e3 : (1 : Int32).toInt = 1 := rfl
  rw [e1, e2, e3]; omega
theorem own_i0 (x2 : Int32) : ¬ own_i x2 < 0 := by
  have := own_i_v x2
  rw [Int32.lt_iff_toInt_lt]; show ¬ _ < (0 : Int); omega
theorem own_j0 (x2 : Int32) : ¬ own_j x2 < 0 := by
  have := own_j_v x2; have := own_i_v x2
  rw [Int32.lt_iff_toInt_lt]; show ¬ _ < (0 : Int); omega
theorem own_ij (x2 : Int32) : ¬ own_i x2 = own_j x2 := by
  have := own_j_v x2; have := own_i_v x2
  rw [← Int32.toInt_inj]; omega
theorem own_l0 : 0 ≤ (4 : Int64).toInt := by decide
theorem own_l1 : (4 : Int64).toInt ≤ 4 := by decide
theorem own_tot (x1 : Int32) : (F3 (4 : Int64) (own_mh x1)).toInt + (((4 : Int64) - (F3 (4 : Int64) (own_mh x1)).toInt64).toInt32).toInt = 4 := by
  rw [own_total own_l0 own_l1 (own_mh_v x1)]; rfl
theorem own_i1 (x1 x2 : Int32) : (own_i x2).toInt < (F3 (4 : Int64) (own_mh x1)).toInt + (((4 : Int64) - (F3 (4 : Int64) (own_mh x1)).toInt64).toInt32).toInt := by
  rw [own_tot]; exact (own_i_v x2).2
theorem own_j1 (x1 x2 : Int32) : (own_j x2).toInt < (F3 (4 : Int64) (own_mh x1)).toInt + (((4 : Int64) - (F3 (4 : Int64) (own_mh x1)).toInt64).toInt32).toInt := by
  rw [own_tot, own_j_v]; omega
theorem own_k1 (x1 k : Int32) (h : k.toInt < 4) : k.toInt < (F3 (4 : Int64) (own_mh x1)).toInt + (((4 : Int64) - (F3 (4 : Int64) (own_mh x1)).toInt64).toInt32).toInt := by
  rw [own_tot]; exact h
def own_f (x2 : Int32) (x4 x5 : Int64) : Nat → Int64 := own_upd (own_upd (fun _ => (0 : Int64)) (own_i x2) x4) (own_j x2) x5
theorem own_cell (x2 : Int32) (x3 x4 x5 : Int64) (k : Int32) (hk : ¬ k < 0) : own_upd (own_f x2 x4 x5) (own_i x2) (own_f x2 x4 x5 (own_i x2).toNatClampNeg + x3) k.toNatClampNeg = F8 k (own_i x2) (own_j x2) (x4 + x3) x5 := by
  unfold F8 own_f own_upd
  simp only [own_ixeq (own_i0 x2) hk, own_ixeq (own_j0 x2) hk, own_ixeq (own_j0 x2) (own_i0 x2), own_ij x2, if_true, if_false]
  by_cases h : k = own_i x2
  · rw [if_pos h, if_pos h]
  · rw [if_neg h, if_neg h, if_neg h]
theorem own_length (x1 : Int32) : F9 (F3 (4 : Int64) (own_mh x1)) (((4 : Int64) - (F3 (4 : Int64) (own_mh x1)).toInt64).toInt32) = 4 := by
  have h := own_tot x1
  unfold F9
  rw [← Int64.toInt_inj, Jvm.Kit.i64_add (by simp only [Int32.toInt_toInt64]; omega) (by simp only [Int32.toInt_toInt64]; omega)]
  simp only [Int32.toInt_toInt64]; rw [h]; rfl

theorem pd_2 : parseMethodDescriptor "(JI)V" = some ⟨[.long, .int], none⟩ := by decide +kernel
theorem pd_3 : parseMethodDescriptor "(IJ)V" = some ⟨[.int, .long], none⟩ := by decide +kernel
theorem pd_4 : parseMethodDescriptor "(I)J" = some ⟨[.int], some .long⟩ := by decide +kernel
theorem pd_5 : parseMethodDescriptor "(IIIJJ)J" = some ⟨[.int, .int, .int, .long, .long], some .long⟩ := by decide +kernel
theorem pd_6 : parseMethodDescriptor "()J" = some ⟨[], some .long⟩ := by decide +kernel
theorem pn_0 : plainName "com/example/wedgestone/wedgestone/algorithm/LongTableAddPinLaw" = true := by first | (simp [plainName, overriddenIn]; done) | decide +kernel
theorem ef_0 (m : MethodId) (x1 : Int32) (x2 : Int32) (x3 : Int64) (x4 : Int64) (x5 : Int64) : entryFrame m #[(.int x1), (.int x2), (.long x3), (.long x4), (.long x5)] maxLocals = mkF m 0 #[.val (.int x1), .val (.int x2), .val (.long x3), .second, .val (.long x4), .second, .val (.long x5), .second, .unset, .unset, .unset, .unset, .unset, .unset] [] := by first | (simp [entryFrame, mkF, argsToLocals, Value.category, maxLocals]; done) | rfl
def F0 (x1 : Int32) (x2 : Int32) (x3 : Int64) (x4 : Int64) (x5 : Int64) : Int32 := (if (F9 (((((F3 (4 : Int64) ((x1 &&& (3 : Int32)) + (1 : Int32))))))) (((((((4 : Int64) - ((F3 (4 : Int64) ((x1 &&& (3 : Int32)) + (1 : Int32))).toInt64)).toInt32)))))) = (4 : Int64) then (1 : Int32) else (0 : Int32))
def Q0 (Z : State) (x1 : Int32) (x2 : Int32) (x3 : Int64) (x4 : Int64) (x5 : Int64) (h0 : Heap) (n0 : Nat) (v : Option Value) (h : Heap) (L : List Loc) : Prop := v = some (.int (F0 x1 x2 x3 x4 x5)) ∧ Fr n0 L
set_option maxRecDepth 65536 in
set_option maxHeartbeats 40000000 in
theorem rm0 (l : Launch) (Z : State) (a0 : Array Value) (hw : ∀ d ∈ tables_1, d.before a0 Z = true) (ws : List Jvm.Cond) (x1 : Int32) (x2 : Int32) (x3 : Int64) (x4 : Int64) (x5 : Int64) (h0 : Heap) (n0 : Nat) (Z0 : n0 ≤ h0.size)  :
    MetFree l x (head1 (Jvm.Cond.code x code maxLocals ret :: ws) room_1) (fun a U => a = #[(.int x1), (.int x2), (.long x3), (.long x4), (.long x5)] ∧ Z.Warmed39 U.vm ∧ U.heap = h0) (fun _ _ _ _ _ => True) (fun _ U o U' => ∃ v L, o = .returned v ∧ Q0 Z x1 x2 x3 x4 x5 h0 n0 v U'.heap L ∧ FrameEnd U o U' L room_1.cells room_1.slots) := by
  refine MetFree.of_bodySF (plainFor_of_name pn_0) hisR ?_
  intro p e s m args below meth c s₁ Bd hml0 hP hK
  obtain ⟨rfl, hZ, hh⟩ := hP
  have hx := Bd.exec
  have hby := Bd.bytes
  have hml : c.maxLocals = 14 := hml0
  have hown : s.vm.findClass "com/example/wedgestone/wedgestone/algorithm/LongTableAddPinLaw" = some m.cls := findClass_of_methodNamed Bd.named
  have hnm := (name_of_methodNamed Bd.named Bd.method).1
  have X0 : Stand p l e room_1 s m #[(.int x1), (.int x2), (.long x3), (.long x4), (.long x5)] below meth c s₁ [] 0 0 := Stand.of_body Bd
  have e0 : s₁.heap = h0 := by rw [← hh, Bd.state]; rfl
  have N0 := Fr.nil n0
  have pre0 : ∀ t, Steps p.tables e below (s₁.setTop (mkF m 0 #[.val (.int x1), .val (.int x2), .val (.long x3), .second, .val (.long x4), .second, .val (.long x5), .second, .unset, .unset, .unset, .unset, .unset, .unset] [])) t → Steps p.tables e below (s₁.setTop (entryFrame m #[(.int x1), (.int x2), (.long x3), (.long x4), (.long x5)] maxLocals)) t := fun t k => castTop (ef_0 m x1 x2 x3 x4 x5) k
  obtain ⟨T1, h1, X1, e1, E1, A1, D1, -, st1⟩ := newO X0 hx hZ hown (hw _ (List.mem_of_getElem? (i := 0) rfl)) (hw _ (List.mem_of_getElem? (i := 1) rfl)) (hw _ (List.mem_of_getElem? (i := 2) rfl)) e0 (g := (mkF m 20 #[.val (.int x1), .val (.int x2), .val (.long x3), .second, .val (.long x4), .second, .val (.long x5), .second, .val (.int ((x1 &&& (3 : Int32)) + (1 : Int32))), .val (.int (x2 &&& (3 : Int32))), .val (.int (((x2 &&& (3 : Int32)) + (1 : Int32)) &&& (3 : Int32))), .unset, .unset, .unset] [])) rfl (hb hby at_20) (by decide) (by decide)
  obtain ⟨b1, g1⟩ : ∃ z, z = h0.size := ⟨_, rfl⟩
  rw [← g1] at A1 D1 st1
  have g_b1 : n0 ≤ b1 := Nat.le_trans Z0 (Nat.le_of_eq g1.symm)
  have Z2 : n0 ≤ h1.size := Nat.le_trans Z0 E1.1
  have F1_head : Fld Z h1 b1 "com/example/wedgestone/wedgestone/algorithm/LongTable" "head" "[J" .null := D1 (Or.inr (hw _ (List.mem_of_getElem? (i := 21) rfl))) (ty := (.array .long)) (by decide)
  have F1_tail : Fld Z h1 b1 "com/example/wedgestone/wedgestone/algorithm/LongTable" "tail" "[J" .null := D1 (Or.inr (hw _ (List.mem_of_getElem? (i := 23) rfl))) (ty := (.array .long)) (by decide)
  obtain ⟨_, _, ⟨T3, L3, k3, n3⟩, -, X3, ⟨Lc3, hQ3, l3, y3, z3⟩, st3⟩ := X1.specialBack hx (y := (⟨"com/example/wedgestone/wedgestone/algorithm/LongTable", "<init>", "(JI)V"⟩ : MethodName)) rfl hown (mvT hZ (hw _ (List.mem_of_getElem? (i := 4) rfl))) (mvT hZ (hw _ (List.mem_of_getElem? (i := 5) rfl))) (mvT hZ (hw _ (List.mem_of_getElem? (i := 6) rfl))) (by decide) (backOf (W := 1) (rm1 l Z a0 hw [] b1 (4 : Int64) ((x1 &&& (3 : Int32)) + (1 : Int32))  h1 n0 Z2 A1 g_b1 F1_head F1_tail (own_l0) (own_l1) (own_mh_v x1)) hZ (hw _ (List.mem_of_getElem? (i := 6) rfl)) (hw _ (List.mem_of_getElem? (i := 2) rfl)) (by decide) (by decide)) (g := (mkF m 29 #[.val (.int x1), .val (.int x2), .val (.long x3), .second, .val (.long x4), .second, .val (.long x5), .second, .val (.int ((x1 &&& (3 : Int32)) + (1 : Int32))), .val (.int (x2 &&& (3 : Int32))), .val (.int (((x2 &&& (3 : Int32)) + (1 : Int32)) &&& (3 : Int32))), .unset, .unset, .unset] [(.int ((x1 &&& (3 : Int32)) + (1 : Int32))), (.long (4 : Int64)), (.ref b1), (.ref b1)])) rfl (by rw [hml]; rfl) (Steps.refl _) (a := b1) (argsL := [(.long (4 : Int64)), (.int ((x1 &&& (3 : Int32)) + (1 : Int32)))]) (rest := [(.ref b1)]) (lenOf pd_2 rfl) rfl (by show 2 * 0 + _ ≤ _; exact Nat.le_of_eq rfl) (hb hby at_29) (fun _ _ => ⟨rfl, e1, (by decide : 1 + 2 ≤ _), (by decide : 2 + 8 ≤ _)⟩)
  dsimp only [Pt.U, Pt.locs, Pt.cells, Pt.slots] at X3 l3 y3 z3 st3 hQ3
  subst l3 y3 z3
  obtain ⟨rfl, N3q, Q3_0, Q3_1, Q3_2⟩ := hQ3
  have Z3 : n0 ≤ T3.heap.size := Q3_0
  have N3 := Fr.app N0 N3q
  obtain ⟨cq4, kq4, q4a, q4b, q4c⟩ := isOf hZ rfl Q3_1
  obtain ⟨_, _, ⟨T4, L4, k4, n4⟩, -, X4, ⟨Lc4, hQ4, l4, y4, z4⟩, st4⟩ := X3.virtualBack hx (y := (⟨"com/example/wedgestone/wedgestone/algorithm/LongTable", "set", "(IJ)V"⟩ : MethodName)) (z := (⟨"com/example/wedgestone/wedgestone/algorithm/LongTable", "set", "(IJ)V"⟩ : MethodName)) hown (mvT hZ (hw _ (List.mem_of_getElem? (i := 24) rfl))) (mvT hZ (hw _ (List.mem_of_getElem? (i := 25) rfl))) (notFace_of_selects (args := #[]) (mvT hZ (hw _ (List.mem_of_getElem? (i := 27) rfl)))) (mvT hZ (hw _ (List.mem_of_getElem? (i := 27) rfl))) (mvT hZ (hw _ (List.mem_of_getElem? (i := 26) rfl))) (by decide) (backOf (W := 0) (rm5 l Z a0 hw [] b1 (x2 &&& (3 : Int32)) x4 ((F3 (4 : Int64) ((x1 &&& (3 : Int32)) + (1 : Int32)))) ((((4 : Int64) - ((F3 (4 : Int64) ((x1 &&& (3 : Int32)) + (1 : Int32))).toInt64)).toInt32)) ((fun _ => (0 : Int64))) T3.heap n0 Z3 Q3_2 (own_i0 x2) (own_i1 x1 x2)) hZ (hw _ (List.mem_of_getElem? (i := 28) rfl)) (hw _ (List.mem_of_getElem? (i := 2) rfl)) (by decide) (by decide)) q4a q4c (g := (mkF m 40 #[.val (.int x1), .val (.int x2), .val (.long x3), .second, .val (.long x4), .second, .val (.long x5), .second, .val (.int ((x1 &&& (3 : Int32)) + (1 : Int32))), .val (.int (x2 &&& (3 : Int32))), .val (.int (((x2 &&& (3 : Int32)) + (1 : Int32)) &&& (3 : Int32))), .val (.ref b1), .unset, .unset] [(.long x4), (.int (x2 &&& (3 : Int32))), (.ref b1)])) rfl (by rw [hml]; rfl) (Steps.refl _) (argsL := [(.int (x2 &&& (3 : Int32))), (.long x4)]) (rest := []) (lenOf pd_3 rfl) rfl (by show 2 * 0 + _ ≤ _; exact Nat.le_of_eq rfl) (hb hby at_40) (fun _ _ => ⟨rfl, rfl, (by decide : 3 + 0 ≤ _), (by decide : 10 + 0 ≤ _)⟩)
  dsimp only [Pt.U, Pt.locs, Pt.cells, Pt.slots] at X4 l4 y4 z4 st4 hQ4
  subst l4 y4 z4
  obtain ⟨rfl, N4q, Q4_0, Q4_1, Q4_2⟩ := hQ4
  have Z4 : n0 ≤ T4.heap.size := Q4_0
  have N4 := Fr.app N3 N4q
  obtain ⟨cq5, kq5, q5a, q5b, q5c⟩ := isOf hZ rfl Q4_1
  obtain ⟨_, _, ⟨T5, L5, k5, n5⟩, -, X5, ⟨Lc5, hQ5, l5, y5, z5⟩, st5⟩ := X4.virtualBack hx (y := (⟨"com/example/wedgestone/wedgestone/algorithm/LongTable", "set", "(IJ)V"⟩ : MethodName)) (z := (⟨"com/example/wedgestone/wedgestone/algorithm/LongTable", "set", "(IJ)V"⟩ : MethodName)) hown (mvT hZ (hw _ (List.mem_of_getElem? (i := 24) rfl))) (mvT hZ (hw _ (List.mem_of_getElem? (i := 25) rfl))) (notFace_of_selects (args := #[]) (mvT hZ (hw _ (List.mem_of_getElem? (i := 27) rfl)))) (mvT hZ (hw _ (List.mem_of_getElem? (i := 27) rfl))) (mvT hZ (hw _ (List.mem_of_getElem? (i := 26) rfl))) (by decide) (backOf (W := 0) (rm5 l Z a0 hw [] b1 (((x2 &&& (3 : Int32)) + (1 : Int32)) &&& (3 : Int32)) x5 (((F3 (4 : Int64) ((x1 &&& (3 : Int32)) + (1 : Int32))))) (((((4 : Int64) - ((F3 (4 : Int64) ((x1 &&& (3 : Int32)) + (1 : Int32))).toInt64)).toInt32))) ((own_upd ((fun _ => (0 : Int64))) (x2 &&& (3 : Int32)) x4)) T4.heap n0 Z4 Q4_2 (own_j0 x2) (own_j1 x1 x2)) hZ (hw _ (List.mem_of_getElem? (i := 28) rfl)) (hw _ (List.mem_of_getElem? (i := 2) rfl)) (by decide) (by decide)) q5a q5c (g := (mkF m 49 #[.val (.int x1), .val (.int x2), .val (.long x3), .second, .val (.long x4), .second, .val (.long x5), .second, .val (.int ((x1 &&& (3 : Int32)) + (1 : Int32))), .val (.int (x2 &&& (3 : Int32))), .val (.int (((x2 &&& (3 : Int32)) + (1 : Int32)) &&& (3 : Int32))), .val (.ref b1), .unset, .unset] [(.long x5), (.int (((x2 &&& (3 : Int32)) + (1 : Int32)) &&& (3 : Int32))), (.ref b1)])) rfl (by rw [hml]; rfl) (Steps.refl _) (argsL := [(.int (((x2 &&& (3 : Int32)) + (1 : Int32)) &&& (3 : Int32))), (.long x5)]) (rest := []) (lenOf pd_3 rfl) rfl (by show 2 * 0 + _ ≤ _; exact Nat.le_of_eq rfl) (hb hby at_49) (fun _ _ => ⟨rfl, rfl, (by decide : 3 + 0 ≤ _), (by decide : 10 + 0 ≤ _)⟩)
  dsimp only [Pt.U, Pt.locs, Pt.cells, Pt.slots] at X5 l5 y5 z5 st5 hQ5
  subst l5 y5 z5
  obtain ⟨rfl, N5q, Q5_0, Q5_1, Q5_2⟩ := hQ5
  have Z5 : n0 ≤ T5.heap.size := Q5_0
  have N5 := Fr.app N4 N5q
  obtain ⟨cq6, kq6, q6a, q6b, q6c⟩ := isOf hZ rfl Q5_1
  obtain ⟨_, _, ⟨T6, L6, k6, n6⟩, -, X6, ⟨Lc6, hQ6, l6, y6, z6⟩, st6⟩ := X5.virtualBack hx (y := (⟨"com/example/wedgestone/wedgestone/algorithm/LongTable", "add", "(IJ)V"⟩ : MethodName)) (z := (⟨"com/example/wedgestone/wedgestone/algorithm/LongTable", "add", "(IJ)V"⟩ : MethodName)) hown (mvT hZ (hw _ (List.mem_of_getElem? (i := 29) rfl))) (mvT hZ (hw _ (List.mem_of_getElem? (i := 30) rfl))) (notFace_of_selects (args := #[]) (mvT hZ (hw _ (List.mem_of_getElem? (i := 32) rfl)))) (mvT hZ (hw _ (List.mem_of_getElem? (i := 32) rfl))) (mvT hZ (hw _ (List.mem_of_getElem? (i := 31) rfl))) (by decide) (backOf (W := 0) (rm6 l Z a0 hw [] b1 (x2 &&& (3 : Int32)) x3 ((((F3 (4 : Int64) ((x1 &&& (3 : Int32)) + (1 : Int32)))))) ((((((4 : Int64) - ((F3 (4 : Int64) ((x1 &&& (3 : Int32)) + (1 : Int32))).toInt64)).toInt32)))) ((own_upd ((own_upd ((fun _ => (0 : Int64))) (x2 &&& (3 : Int32)) x4)) (((x2 &&& (3 : Int32)) + (1 : Int32)) &&& (3 : Int32)) x5)) T5.heap n0 Z5 Q5_2 (own_i0 x2) (own_i1 x1 x2)) hZ (hw _ (List.mem_of_getElem? (i := 33) rfl)) (hw _ (List.mem_of_getElem? (i := 2) rfl)) (by decide) (by decide)) q6a q6c (g := (mkF m 57 #[.val (.int x1), .val (.int x2), .val (.long x3), .second, .val (.long x4), .second, .val (.long x5), .second, .val (.int ((x1 &&& (3 : Int32)) + (1 : Int32))), .val (.int (x2 &&& (3 : Int32))), .val (.int (((x2 &&& (3 : Int32)) + (1 : Int32)) &&& (3 : Int32))), .val (.ref b1), .unset, .unset] [(.long x3), (.int (x2 &&& (3 : Int32))), (.ref b1)])) rfl (by rw [hml]; rfl) (Steps.refl _) (argsL := [(.int (x2 &&& (3 : Int32))), (.long x3)]) (rest := []) (lenOf pd_3 rfl) rfl (by show 2 * 0 + _ ≤ _; exact Nat.le_of_eq rfl) (hb hby at_57) (fun _ _ => ⟨rfl, rfl, (by decide : 3 + 0 ≤ _), (by decide : 10 + 0 ≤ _)⟩)
  dsimp only [Pt.U, Pt.locs, Pt.cells, Pt.slots] at X6 l6 y6 z6 st6 hQ6
  subst l6 y6 z6
  obtain ⟨rfl, N6q, Q6_0, Q6_1, Q6_2⟩ := hQ6
  have Z6 : n0 ≤ T6.heap.size := Q6_0
  have N6 := Fr.app N5 N6q
  obtain ⟨cq7, kq7, q7a, q7b, q7c⟩ := isOf hZ rfl Q6_1
  obtain ⟨_, _, ⟨T7, L7, k7, n7⟩, -, X7, ⟨Lc7, hQ7, l7, y7, z7⟩, st7⟩ := X6.virtualBack hx (y := (⟨"com/example/wedgestone/wedgestone/algorithm/LongTable", "get", "(I)J"⟩ : MethodName)) (z := (⟨"com/example/wedgestone/wedgestone/algorithm/LongTable", "get", "(I)J"⟩ : MethodName)) hown (mvT hZ (hw _ (List.mem_of_getElem? (i := 34) rfl))) (mvT hZ (hw _ (List.mem_of_getElem? (i := 35) rfl))) (notFace_of_selects (args := #[]) (mvT hZ (hw _ (List.mem_of_getElem? (i := 37) rfl)))) (mvT hZ (hw _ (List.mem_of_getElem? (i := 37) rfl))) (mvT hZ (hw _ (List.mem_of_getElem? (i := 36) rfl))) (by decide) (backOf (W := 0) (rm7 l Z a0 hw [] b1 (0 : Int32) (((((F3 (4 : Int64) ((x1 &&& (3 : Int32)) + (1 : Int32))))))) (((((((4 : Int64) - ((F3 (4 : Int64) ((x1 &&& (3 : Int32)) + (1 : Int32))).toInt64)).toInt32))))) ((own_upd ((own_upd ((own_upd ((fun _ => (0 : Int64))) (x2 &&& (3 : Int32)) x4)) (((x2 &&& (3 : Int32)) + (1 : Int32)) &&& (3 : Int32)) x5)) (x2 &&& (3 : Int32)) (((own_upd ((own_upd ((fun _ => (0 : Int64))) (x2 &&& (3 : Int32)) x4)) (((x2 &&& (3 : Int32)) + (1 : Int32)) &&& (3 : Int32)) x5)) ((x2 &&& (3 : Int32))).toNatClampNeg + x3))) T6.heap n0 Z6 Q6_2 (by decide) (own_k1 x1 _ (by decide))) hZ (hw _ (List.mem_of_getElem? (i := 38) rfl)) (hw _ (List.mem_of_getElem? (i := 2) rfl)) (by decide) (by decide)) q7a q7c (g := (mkF m 69 #[.val (.int x1), .val (.int x2), .val (.long x3), .second, .val (.long x4), .second, .val (.long x5), .second, .val (.int ((x1 &&& (3 : Int32)) + (1 : Int32))), .val (.int (x2 &&& (3 : Int32))), .val (.int (((x2 &&& (3 : Int32)) + (1 : Int32)) &&& (3 : Int32))), .val (.ref b1), .val (.long (x4 + x3)), .second] [(.int (0 : Int32)), (.ref b1)])) rfl (by rw [hml]; rfl) (Steps.refl _) (argsL := [(.int (0 : Int32))]) (rest := []) (lenOf pd_4 rfl) rfl (by show 2 * 0 + _ ≤ _; exact Nat.le_of_eq rfl) (hb hby at_69) (fun _ _ => ⟨rfl, rfl, (by decide : 3 + 0 ≤ _), (by decide : 10 + 0 ≤ _)⟩)
  dsimp only [Pt.U, Pt.locs, Pt.cells, Pt.slots] at X7 l7 y7 z7 st7 hQ7
  subst l7 y7 z7
  obtain ⟨rfl, N7q, e7⟩ := hQ7
  have N7 := Fr.app N6 N7q
  obtain ⟨_, _, ⟨T8, L8, k8, n8⟩, -, X8, ⟨Lc8, hQ8, l8, y8, z8⟩, st8⟩ := Jvm.LawKit.callS X7 hx (y := (⟨"com/example/wedgestone/wedgestone/algorithm/LongTableAddPinLaw", "expect", "(IIIJJ)J"⟩ : MethodName)) hown (mvT hZ (hw _ (List.mem_of_getElem? (i := 39) rfl))) (mvT hZ (hw _ (List.mem_of_getElem? (i := 40) rfl))) (mvT hZ (hw _ (List.mem_of_getElem? (i := 41) rfl))) (mvT hZ (hw _ (List.mem_of_getElem? (i := 42) rfl))) (by decide) (backOf (W := 2) (rm8 l Z a0 hw [] (0 : Int32) (x2 &&& (3 : Int32)) (((x2 &&& (3 : Int32)) + (1 : Int32)) &&& (3 : Int32)) (x4 + x3) x5  T6.heap n0 Z6 ) hZ (hw _ (List.mem_of_getElem? (i := 42) rfl)) (hw _ (List.mem_of_getElem? (i := 41) rfl)) (by decide) (by decide)) (g := (mkF m 81 #[.val (.int x1), .val (.int x2), .val (.long x3), .second, .val (.long x4), .second, .val (.long x5), .second, .val (.int ((x1 &&& (3 : Int32)) + (1 : Int32))), .val (.int (x2 &&& (3 : Int32))), .val (.int (((x2 &&& (3 : Int32)) + (1 : Int32)) &&& (3 : Int32))), .val (.ref b1), .val (.long (x4 + x3)), .second] [(.long x5), (.long (x4 + x3)), (.int (((x2 &&& (3 : Int32)) + (1 : Int32)) &&& (3 : Int32))), (.int (x2 &&& (3 : Int32))), (.int (0 : Int32)), (.long (((own_upd ((own_upd ((own_upd ((fun _ => (0 : Int64))) (x2 &&& (3 : Int32)) x4)) (((x2 &&& (3 : Int32)) + (1 : Int32)) &&& (3 : Int32)) x5)) (x2 &&& (3 : Int32)) (((own_upd ((own_upd ((fun _ => (0 : Int64))) (x2 &&& (3 : Int32)) x4)) (((x2 &&& (3 : Int32)) + (1 : Int32)) &&& (3 : Int32)) x5)) ((x2 &&& (3 : Int32))).toNatClampNeg + x3))) ((0 : Int32)).toNatClampNeg))])) rfl (by rw [hml]; rfl) (argsL := [(.int (0 : Int32)), (.int (x2 &&& (3 : Int32))), (.int (((x2 &&& (3 : Int32)) + (1 : Int32)) &&& (3 : Int32))), (.long (x4 + x3)), (.long x5)]) (rest := [(.long (((own_upd ((own_upd ((own_upd ((fun _ => (0 : Int64))) (x2 &&& (3 : Int32)) x4)) (((x2 &&& (3 : Int32)) + (1 : Int32)) &&& (3 : Int32)) x5)) (x2 &&& (3 : Int32)) (((own_upd ((own_upd ((fun _ => (0 : Int64))) (x2 &&& (3 : Int32)) x4)) (((x2 &&& (3 : Int32)) + (1 : Int32)) &&& (3 : Int32)) x5)) ((x2 &&& (3 : Int32))).toNatClampNeg + x3))) ((0 : Int32)).toNatClampNeg))]) (lenOf pd_5 rfl) rfl (by show 2 * 0 + _ ≤ _; exact Nat.le_of_eq rfl) (hb hby at_81) (fun _ _ => ⟨rfl, e7, (by decide : 3 + 0 ≤ _), (by decide : 10 + 0 ≤ _)⟩)
  dsimp only [Pt.U, Pt.locs, Pt.cells, Pt.slots] at X8 l8 y8 z8 st8 hQ8
  subst l8 y8 z8
  obtain ⟨rfl, N8q, e8⟩ := hQ8
  have N8 := Fr.app N7 N8q
  obtain ⟨cq9, kq9, q9a, q9b, q9c⟩ := isOf hZ e8 Q6_1
  obtain ⟨_, _, ⟨T9, L9, k9, n9⟩, -, X9, ⟨Lc9, hQ9, l9, y9, z9⟩, st9⟩ := X8.virtualBack hx (y := (⟨"com/example/wedgestone/wedgestone/algorithm/LongTable", "get", "(I)J"⟩ : MethodName)) (z := (⟨"com/example/wedgestone/wedgestone/algorithm/LongTable", "get", "(I)J"⟩ : MethodName)) hown (mvT hZ (hw _ (List.mem_of_getElem? (i := 34) rfl))) (mvT hZ (hw _ (List.mem_of_getElem? (i := 35) rfl))) (notFace_of_selects (args := #[]) (mvT hZ (hw _ (List.mem_of_getElem? (i := 37) rfl)))) (mvT hZ (hw _ (List.mem_of_getElem? (i := 37) rfl))) (mvT hZ (hw _ (List.mem_of_getElem? (i := 36) rfl))) (by decide) (backOf (W := 0) (rm7 l Z a0 hw [] b1 (1 : Int32) (((((F3 (4 : Int64) ((x1 &&& (3 : Int32)) + (1 : Int32))))))) (((((((4 : Int64) - ((F3 (4 : Int64) ((x1 &&& (3 : Int32)) + (1 : Int32))).toInt64)).toInt32))))) ((own_upd ((own_upd ((own_upd ((fun _ => (0 : Int64))) (x2 &&& (3 : Int32)) x4)) (((x2 &&& (3 : Int32)) + (1 : Int32)) &&& (3 : Int32)) x5)) (x2 &&& (3 : Int32)) (((own_upd ((own_upd ((fun _ => (0 : Int64))) (x2 &&& (3 : Int32)) x4)) (((x2 &&& (3 : Int32)) + (1 : Int32)) &&& (3 : Int32)) x5)) ((x2 &&& (3 : Int32))).toNatClampNeg + x3))) T6.heap n0 Z6 Q6_2 (by decide) (own_k1 x1 _ (by decide))) hZ (hw _ (List.mem_of_getElem? (i := 38) rfl)) (hw _ (List.mem_of_getElem? (i := 2) rfl)) (by decide) (by decide)) q9a q9c (g := (mkF m 91 #[.val (.int x1), .val (.int x2), .val (.long x3), .second, .val (.long x4), .second, .val (.long x5), .second, .val (.int ((x1 &&& (3 : Int32)) + (1 : Int32))), .val (.int (x2 &&& (3 : Int32))), .val (.int (((x2 &&& (3 : Int32)) + (1 : Int32)) &&& (3 : Int32))), .val (.ref b1), .val (.long (x4 + x3)), .second] [(.int (1 : Int32)), (.ref b1)])) rfl (by rw [hml]; rfl) (Steps.refl _) (argsL := [(.int (1 : Int32))]) (rest := []) (lenOf pd_4 rfl) rfl (by show 2 * 0 + _ ≤ _; exact Nat.le_of_eq rfl) (hb hby at_91) (fun _ _ => ⟨rfl, e8, (by decide : 3 + 0 ≤ _), (by decide : 10 + 0 ≤ _)⟩)
  dsimp only [Pt.U, Pt.locs, Pt.cells, Pt.slots] at X9 l9 y9 z9 st9 hQ9
  subst l9 y9 z9
  obtain ⟨rfl, N9q, e9⟩ := hQ9
  have N9 := Fr.app N8 N9q
  obtain ⟨_, _, ⟨T10, L10, k10, n10⟩, -, X10, ⟨Lc10, hQ10, l10, y10, z10⟩, st10⟩ := Jvm.LawKit.callS X9 hx (y := (⟨"com/example/wedgestone/wedgestone/algorithm/LongTableAddPinLaw", "expect", "(IIIJJ)J"⟩ : MethodName)) hown (mvT hZ (hw _ (List.mem_of_getElem? (i := 39) rfl))) (mvT hZ (hw _ (List.mem_of_getElem? (i := 40) rfl))) (mvT hZ (hw _ (List.mem_of_getElem? (i := 41) rfl))) (mvT hZ (hw _ (List.mem_of_getElem? (i := 42) rfl))) (by decide) (backOf (W := 2) (rm8 l Z a0 hw [] (1 : Int32) (x2 &&& (3 : Int32)) (((x2 &&& (3 : Int32)) + (1 : Int32)) &&& (3 : Int32)) (x4 + x3) x5  T6.heap n0 Z6 ) hZ (hw _ (List.mem_of_getElem? (i := 42) rfl)) (hw _ (List.mem_of_getElem? (i := 41) rfl)) (by decide) (by decide)) (g := (mkF m 103 #[.val (.int x1), .val (.int x2), .val (.long x3), .second, .val (.long x4), .second, .val (.long x5), .second, .val (.int ((x1 &&& (3 : Int32)) + (1 : Int32))), .val (.int (x2 &&& (3 : Int32))), .val (.int (((x2 &&& (3 : Int32)) + (1 : Int32)) &&& (3 : Int32))), .val (.ref b1), .val (.long (x4 + x3)), .second] [(.long x5), (.long (x4 + x3)), (.int (((x2 &&& (3 : Int32)) + (1 : Int32)) &&& (3 : Int32))), (.int (x2 &&& (3 : Int32))), (.int (1 : Int32)), (.long (((own_upd ((own_upd ((own_upd ((fun _ => (0 : Int64))) (x2 &&& (3 : Int32)) x4)) (((x2 &&& (3 : Int32)) + (1 : Int32)) &&& (3 : Int32)) x5)) (x2 &&& (3 : Int32)) (((own_upd ((own_upd ((fun _ => (0 : Int64))) (x2 &&& (3 : Int32)) x4)) (((x2 &&& (3 : Int32)) + (1 : Int32)) &&& (3 : Int32)) x5)) ((x2 &&& (3 : Int32))).toNatClampNeg + x3))) ((1 : Int32)).toNatClampNeg))])) rfl (by rw [hml]; rfl) (argsL := [(.int (1 : Int32)), (.int (x2 &&& (3 : Int32))), (.int (((x2 &&& (3 : Int32)) + (1 : Int32)) &&& (3 : Int32))), (.long (x4 + x3)), (.long x5)]) (rest := [(.long (((own_upd ((own_upd ((own_upd ((fun _ => (0 : Int64))) (x2 &&& (3 : Int32)) x4)) (((x2 &&& (3 : Int32)) + (1 : Int32)) &&& (3 : Int32)) x5)) (x2 &&& (3 : Int32)) (((own_upd ((own_upd ((fun _ => (0 : Int64))) (x2 &&& (3 : Int32)) x4)) (((x2 &&& (3 : Int32)) + (1 : Int32)) &&& (3 : Int32)) x5)) ((x2 &&& (3 : Int32))).toNatClampNeg + x3))) ((1 : Int32)).toNatClampNeg))]) (lenOf pd_5 rfl) rfl (by show 2 * 0 + _ ≤ _; exact Nat.le_of_eq rfl) (hb hby at_103) (fun _ _ => ⟨rfl, e9, (by decide : 3 + 0 ≤ _), (by decide : 10 + 0 ≤ _)⟩)
  dsimp only [Pt.U, Pt.locs, Pt.cells, Pt.slots] at X10 l10 y10 z10 st10 hQ10
  subst l10 y10 z10
  obtain ⟨rfl, N10q, e10⟩ := hQ10
  have N10 := Fr.app N9 N10q
  obtain ⟨cq11, kq11, q11a, q11b, q11c⟩ := isOf hZ e10 Q6_1
  obtain ⟨_, _, ⟨T11, L11, k11, n11⟩, -, X11, ⟨Lc11, hQ11, l11, y11, z11⟩, st11⟩ := X10.virtualBack hx (y := (⟨"com/example/wedgestone/wedgestone/algorithm/LongTable", "get", "(I)J"⟩ : MethodName)) (z := (⟨"com/example/wedgestone/wedgestone/algorithm/LongTable", "get", "(I)J"⟩ : MethodName)) hown (mvT hZ (hw _ (List.mem_of_getElem? (i := 34) rfl))) (mvT hZ (hw _ (List.mem_of_getElem? (i := 35) rfl))) (notFace_of_selects (args := #[]) (mvT hZ (hw _ (List.mem_of_getElem? (i := 37) rfl)))) (mvT hZ (hw _ (List.mem_of_getElem? (i := 37) rfl))) (mvT hZ (hw _ (List.mem_of_getElem? (i := 36) rfl))) (by decide) (backOf (W := 0) (rm7 l Z a0 hw [] b1 (2 : Int32) (((((F3 (4 : Int64) ((x1 &&& (3 : Int32)) + (1 : Int32))))))) (((((((4 : Int64) - ((F3 (4 : Int64) ((x1 &&& (3 : Int32)) + (1 : Int32))).toInt64)).toInt32))))) ((own_upd ((own_upd ((own_upd ((fun _ => (0 : Int64))) (x2 &&& (3 : Int32)) x4)) (((x2 &&& (3 : Int32)) + (1 : Int32)) &&& (3 : Int32)) x5)) (x2 &&& (3 : Int32)) (((own_upd ((own_upd ((fun _ => (0 : Int64))) (x2 &&& (3 : Int32)) x4)) (((x2 &&& (3 : Int32)) + (1 : Int32)) &&& (3 : Int32)) x5)) ((x2 &&& (3 : Int32))).toNatClampNeg + x3))) T6.heap n0 Z6 Q6_2 (by decide) (own_k1 x1 _ (by decide))) hZ (hw _ (List.mem_of_getElem? (i := 38) rfl)) (hw _ (List.mem_of_getElem? (i := 2) rfl)) (by decide) (by decide)) q11a q11c (g := (mkF m 113 #[.val (.int x1), .val (.int x2), .val (.long x3), .second, .val (.long x4), .second, .val (.long x5), .second, .val (.int ((x1 &&& (3 : Int32)) + (1 : Int32))), .val (.int (x2 &&& (3 : Int32))), .val (.int (((x2 &&& (3 : Int32)) + (1 : Int32)) &&& (3 : Int32))), .val (.ref b1), .val (.long (x4 + x3)), .second] [(.int (2 : Int32)), (.ref b1)])) rfl (by rw [hml]; rfl) (Steps.refl _) (argsL := [(.int (2 : Int32))]) (rest := []) (lenOf pd_4 rfl) rfl (by show 2 * 0 + _ ≤ _; exact Nat.le_of_eq rfl) (hb hby at_113) (fun _ _ => ⟨rfl, e10, (by decide : 3 + 0 ≤ _), (by decide : 10 + 0 ≤ _)⟩)
  dsimp only [Pt.U, Pt.locs, Pt.cells, Pt.slots] at X11 l11 y11 z11 st11 hQ11
  subst l11 y11 z11
  obtain ⟨rfl, N11q, e11⟩ := hQ11
  have N11 := Fr.app N10 N11q
  obtain ⟨_, _, ⟨T12, L12, k12, n12⟩, -, X12, ⟨Lc12, hQ12, l12, y12, z12⟩, st12⟩ := Jvm.LawKit.callS X11 hx (y := (⟨"com/example/wedgestone/wedgestone/algorithm/LongTableAddPinLaw", "expect", "(IIIJJ)J"⟩ : MethodName)) hown (mvT hZ (hw _ (List.mem_of_getElem? (i := 39) rfl))) (mvT hZ (hw _ (List.mem_of_getElem? (i := 40) rfl))) (mvT hZ (hw _ (List.mem_of_getElem? (i := 41) rfl))) (mvT hZ (hw _ (List.mem_of_getElem? (i := 42) rfl))) (by decide) (backOf (W := 2) (rm8 l Z a0 hw [] (2 : Int32) (x2 &&& (3 : Int32)) (((x2 &&& (3 : Int32)) + (1 : Int32)) &&& (3 : Int32)) (x4 + x3) x5  T6.heap n0 Z6 ) hZ (hw _ (List.mem_of_getElem? (i := 42) rfl)) (hw _ (List.mem_of_getElem? (i := 41) rfl)) (by decide) (by decide)) (g := (mkF m 125 #[.val (.int x1), .val (.int x2), .val (.long x3), .second, .val (.long x4), .second, .val (.long x5), .second, .val (.int ((x1 &&& (3 : Int32)) + (1 : Int32))), .val (.int (x2 &&& (3 : Int32))), .val (.int (((x2 &&& (3 : Int32)) + (1 : Int32)) &&& (3 : Int32))), .val (.ref b1), .val (.long (x4 + x3)), .second] [(.long x5), (.long (x4 + x3)), (.int (((x2 &&& (3 : Int32)) + (1 : Int32)) &&& (3 : Int32))), (.int (x2 &&& (3 : Int32))), (.int (2 : Int32)), (.long (((own_upd ((own_upd ((own_upd ((fun _ => (0 : Int64))) (x2 &&& (3 : Int32)) x4)) (((x2 &&& (3 : Int32)) + (1 : Int32)) &&& (3 : Int32)) x5)) (x2 &&& (3 : Int32)) (((own_upd ((own_upd ((fun _ => (0 : Int64))) (x2 &&& (3 : Int32)) x4)) (((x2 &&& (3 : Int32)) + (1 : Int32)) &&& (3 : Int32)) x5)) ((x2 &&& (3 : Int32))).toNatClampNeg + x3))) ((2 : Int32)).toNatClampNeg))])) rfl (by rw [hml]; rfl) (argsL := [(.int (2 : Int32)), (.int (x2 &&& (3 : Int32))), (.int (((x2 &&& (3 : Int32)) + (1 : Int32)) &&& (3 : Int32))), (.long (x4 + x3)), (.long x5)]) (rest := [(.long (((own_upd ((own_upd ((own_upd ((fun _ => (0 : Int64))) (x2 &&& (3 : Int32)) x4)) (((x2 &&& (3 : Int32)) + (1 : Int32)) &&& (3 : Int32)) x5)) (x2 &&& (3 : Int32)) (((own_upd ((own_upd ((fun _ => (0 : Int64))) (x2 &&& (3 : Int32)) x4)) (((x2 &&& (3 : Int32)) + (1 : Int32)) &&& (3 : Int32)) x5)) ((x2 &&& (3 : Int32))).toNatClampNeg + x3))) ((2 : Int32)).toNatClampNeg))]) (lenOf pd_5 rfl) rfl (by show 2 * 0 + _ ≤ _; exact Nat.le_of_eq rfl) (hb hby at_125) (fun _ _ => ⟨rfl, e11, (by decide : 3 + 0 ≤ _), (by decide : 10 + 0 ≤ _)⟩)
  dsimp only [Pt.U, Pt.locs, Pt.cells, Pt.slots] at X12 l12 y12 z12 st12 hQ12
  subst l12 y12 z12
  obtain ⟨rfl, N12q, e12⟩ := hQ12
  have N12 := Fr.app N11 N12q
  obtain ⟨cq13, kq13, q13a, q13b, q13c⟩ := isOf hZ e12 Q6_1
  obtain ⟨_, _, ⟨T13, L13, k13, n13⟩, -, X13, ⟨Lc13, hQ13, l13, y13, z13⟩, st13⟩ := X12.virtualBack hx (y := (⟨"com/example/wedgestone/wedgestone/algorithm/LongTable", "get", "(I)J"⟩ : MethodName)) (z := (⟨"com/example/wedgestone/wedgestone/algorithm/LongTable", "get", "(I)J"⟩ : MethodName)) hown (mvT hZ (hw _ (List.mem_of_getElem? (i := 34) rfl))) (mvT hZ (hw _ (List.mem_of_getElem? (i := 35) rfl))) (notFace_of_selects (args := #[]) (mvT hZ (hw _ (List.mem_of_getElem? (i := 37) rfl)))) (mvT hZ (hw _ (List.mem_of_getElem? (i := 37) rfl))) (mvT hZ (hw _ (List.mem_of_getElem? (i := 36) rfl))) (by decide) (backOf (W := 0) (rm7 l Z a0 hw [] b1 (3 : Int32) (((((F3 (4 : Int64) ((x1 &&& (3 : Int32)) + (1 : Int32))))))) (((((((4 : Int64) - ((F3 (4 : Int64) ((x1 &&& (3 : Int32)) + (1 : Int32))).toInt64)).toInt32))))) ((own_upd ((own_upd ((own_upd ((fun _ => (0 : Int64))) (x2 &&& (3 : Int32)) x4)) (((x2 &&& (3 : Int32)) + (1 : Int32)) &&& (3 : Int32)) x5)) (x2 &&& (3 : Int32)) (((own_upd ((own_upd ((fun _ => (0 : Int64))) (x2 &&& (3 : Int32)) x4)) (((x2 &&& (3 : Int32)) + (1 : Int32)) &&& (3 : Int32)) x5)) ((x2 &&& (3 : Int32))).toNatClampNeg + x3))) T6.heap n0 Z6 Q6_2 (by decide) (own_k1 x1 _ (by decide))) hZ (hw _ (List.mem_of_getElem? (i := 38) rfl)) (hw _ (List.mem_of_getElem? (i := 2) rfl)) (by decide) (by decide)) q13a q13c (g := (mkF m 135 #[.val (.int x1), .val (.int x2), .val (.long x3), .second, .val (.long x4), .second, .val (.long x5), .second, .val (.int ((x1 &&& (3 : Int32)) + (1 : Int32))), .val (.int (x2 &&& (3 : Int32))), .val (.int (((x2 &&& (3 : Int32)) + (1 : Int32)) &&& (3 : Int32))), .val (.ref b1), .val (.long (x4 + x3)), .second] [(.int (3 : Int32)), (.ref b1)])) rfl (by rw [hml]; rfl) (Steps.refl _) (argsL := [(.int (3 : Int32))]) (rest := []) (lenOf pd_4 rfl) rfl (by show 2 * 0 + _ ≤ _; exact Nat.le_of_eq rfl) (hb hby at_135) (fun _ _ => ⟨rfl, e12, (by decide : 3 + 0 ≤ _), (by decide : 10 + 0 ≤ _)⟩)
  dsimp only [Pt.U, Pt.locs, Pt.cells, Pt.slots] at X13 l13 y13 z13 st13 hQ13
  subst l13 y13 z13
  obtain ⟨rfl, N13q, e13⟩ := hQ13
  have N13 := Fr.app N12 N13q
  obtain ⟨_, _, ⟨T14, L14, k14, n14⟩, -, X14, ⟨Lc14, hQ14, l14, y14, z14⟩, st14⟩ := Jvm.LawKit.callS X13 hx (y := (⟨"com/example/wedgestone/wedgestone/algorithm/LongTableAddPinLaw", "expect", "(IIIJJ)J"⟩ : MethodName)) hown (mvT hZ (hw _ (List.mem_of_getElem? (i := 39) rfl))) (mvT hZ (hw _ (List.mem_of_getElem? (i := 40) rfl))) (mvT hZ (hw _ (List.mem_of_getElem? (i := 41) rfl))) (mvT hZ (hw _ (List.mem_of_getElem? (i := 42) rfl))) (by decide) (backOf (W := 2) (rm8 l Z a0 hw [] (3 : Int32) (x2 &&& (3 : Int32)) (((x2 &&& (3 : Int32)) + (1 : Int32)) &&& (3 : Int32)) (x4 + x3) x5  T6.heap n0 Z6 ) hZ (hw _ (List.mem_of_getElem? (i := 42) rfl)) (hw _ (List.mem_of_getElem? (i := 41) rfl)) (by decide) (by decide)) (g := (mkF m 147 #[.val (.int x1), .val (.int x2), .val (.long x3), .second, .val (.long x4), .second, .val (.long x5), .second, .val (.int ((x1 &&& (3 : Int32)) + (1 : Int32))), .val (.int (x2 &&& (3 : Int32))), .val (.int (((x2 &&& (3 : Int32)) + (1 : Int32)) &&& (3 : Int32))), .val (.ref b1), .val (.long (x4 + x3)), .second] [(.long x5), (.long (x4 + x3)), (.int (((x2 &&& (3 : Int32)) + (1 : Int32)) &&& (3 : Int32))), (.int (x2 &&& (3 : Int32))), (.int (3 : Int32)), (.long (((own_upd ((own_upd ((own_upd ((fun _ => (0 : Int64))) (x2 &&& (3 : Int32)) x4)) (((x2 &&& (3 : Int32)) + (1 : Int32)) &&& (3 : Int32)) x5)) (x2 &&& (3 : Int32)) (((own_upd ((own_upd ((fun _ => (0 : Int64))) (x2 &&& (3 : Int32)) x4)) (((x2 &&& (3 : Int32)) + (1 : Int32)) &&& (3 : Int32)) x5)) ((x2 &&& (3 : Int32))).toNatClampNeg + x3))) ((3 : Int32)).toNatClampNeg))])) rfl (by rw [hml]; rfl) (argsL := [(.int (3 : Int32)), (.int (x2 &&& (3 : Int32))), (.int (((x2 &&& (3 : Int32)) + (1 : Int32)) &&& (3 : Int32))), (.long (x4 + x3)), (.long x5)]) (rest := [(.long (((own_upd ((own_upd ((own_upd ((fun _ => (0 : Int64))) (x2 &&& (3 : Int32)) x4)) (((x2 &&& (3 : Int32)) + (1 : Int32)) &&& (3 : Int32)) x5)) (x2 &&& (3 : Int32)) (((own_upd ((own_upd ((fun _ => (0 : Int64))) (x2 &&& (3 : Int32)) x4)) (((x2 &&& (3 : Int32)) + (1 : Int32)) &&& (3 : Int32)) x5)) ((x2 &&& (3 : Int32))).toNatClampNeg + x3))) ((3 : Int32)).toNatClampNeg))]) (lenOf pd_5 rfl) rfl (by show 2 * 0 + _ ≤ _; exact Nat.le_of_eq rfl) (hb hby at_147) (fun _ _ => ⟨rfl, e13, (by decide : 3 + 0 ≤ _), (by decide : 10 + 0 ≤ _)⟩)
  dsimp only [Pt.U, Pt.locs, Pt.cells, Pt.slots] at X14 l14 y14 z14 st14 hQ14
  subst l14 y14 z14
  obtain ⟨rfl, N14q, e14⟩ := hQ14
  have N14 := Fr.app N13 N14q
  obtain ⟨cq15, kq15, q15a, q15b, q15c⟩ := isOf hZ e14 Q6_1
  obtain ⟨_, _, ⟨T15, L15, k15, n15⟩, -, X15, ⟨Lc15, hQ15, l15, y15, z15⟩, st15⟩ := X14.virtualBack hx (y := (⟨"com/example/wedgestone/wedgestone/algorithm/LongTable", "length", "()J"⟩ : MethodName)) (z := (⟨"com/example/wedgestone/wedgestone/algorithm/LongTable", "length", "()J"⟩ : MethodName)) hown (mvT hZ (hw _ (List.mem_of_getElem? (i := 43) rfl))) (mvT hZ (hw _ (List.mem_of_getElem? (i := 44) rfl))) (notFace_of_selects (args := #[]) (mvT hZ (hw _ (List.mem_of_getElem? (i := 46) rfl)))) (mvT hZ (hw _ (List.mem_of_getElem? (i := 46) rfl))) (mvT hZ (hw _ (List.mem_of_getElem? (i := 45) rfl))) (by decide) (backOf (W := 0) (rm9 l Z a0 hw [] b1 (((((F3 (4 : Int64) ((x1 &&& (3 : Int32)) + (1 : Int32))))))) (((((((4 : Int64) - ((F3 (4 : Int64) ((x1 &&& (3 : Int32)) + (1 : Int32))).toInt64)).toInt32))))) ((own_upd ((own_upd ((own_upd ((fun _ => (0 : Int64))) (x2 &&& (3 : Int32)) x4)) (((x2 &&& (3 : Int32)) + (1 : Int32)) &&& (3 : Int32)) x5)) (x2 &&& (3 : Int32)) (((own_upd ((own_upd ((fun _ => (0 : Int64))) (x2 &&& (3 : Int32)) x4)) (((x2 &&& (3 : Int32)) + (1 : Int32)) &&& (3 : Int32)) x5)) ((x2 &&& (3 : Int32))).toNatClampNeg + x3))) T6.heap n0 Z6 Q6_2) hZ (hw _ (List.mem_of_getElem? (i := 47) rfl)) (hw _ (List.mem_of_getElem? (i := 2) rfl)) (by decide) (by decide)) q15a q15c (g := (mkF m 156 #[.val (.int x1), .val (.int x2), .val (.long x3), .second, .val (.long x4), .second, .val (.long x5), .second, .val (.int ((x1 &&& (3 : Int32)) + (1 : Int32))), .val (.int (x2 &&& (3 : Int32))), .val (.int (((x2 &&& (3 : Int32)) + (1 : Int32)) &&& (3 : Int32))), .val (.ref b1), .val (.long (x4 + x3)), .second] [(.ref b1)])) rfl (by rw [hml]; rfl) (Steps.refl _) (argsL := []) (rest := []) (lenOf pd_6 rfl) rfl (by show 2 * 0 + _ ≤ _; exact Nat.le_of_eq rfl) (hb hby at_156) (fun _ _ => ⟨rfl, e14, (by decide : 3 + 0 ≤ _), (by decide : 10 + 0 ≤ _)⟩)
  dsimp only [Pt.U, Pt.locs, Pt.cells, Pt.slots] at X15 l15 y15 z15 st15 hQ15
  subst l15 y15 z15
  obtain ⟨rfl, N15q, e15⟩ := hQ15
  have N15 := Fr.app N14 N15q
  obtain ⟨fs, hr, hrun, hended, hW, hsame⟩ := X15.leave (v := some (.int (if (F9 (((((F3 (4 : Int64) ((x1 &&& (3 : Int32)) + (1 : Int32))))))) (((((((4 : Int64) - ((F3 (4 : Int64) ((x1 &&& (3 : Int32)) + (1 : Int32))).toInt64)).toInt32)))))) = (4 : Int64) then (1 : Int32) else (0 : Int32)))) (fun h => by rw [Bd.returns] at h; cases h)
  refine ⟨_, _, pre0 _ ?_, hrun, hended, _, _, rfl, ?_, ⟨_, rfl⟩, hW, hsame.mono (by decide) (by decide)⟩
  · show Steps p.tables e below (s₁.setTop (mkF m 0 #[.val (.int x1), .val (.int x2), .val (.long x3), .second, .val (.long x4), .second, .val (.long x5), .second, .unset, .unset, .unset, .unset, .unset, .unset] [])) _
    refine XS.iloadN X0.here hx rfl (hb hby at_0) rfl ?_
    show Steps p.tables e below (s₁.setTop (mkF m 1 #[.val (.int x1), .val (.int x2), .val (.long x3), .second, .val (.long x4), .second, .val (.long x5), .second, .unset, .unset, .unset, .unset, .unset, .unset] [(.int x1)])) _
    refine XS.iconst X0.here hx rfl (hb hby at_1) ?_
    show Steps p.tables e below (s₁.setTop (mkF m 2 #[.val (.int x1), .val (.int x2), .val (.long x3), .second, .val (.long x4), .second, .val (.long x5), .second, .unset, .unset, .unset, .unset, .unset, .unset] [(.int (3 : Int32)), (.int x1)])) _
    refine XS.iand X0.here hx rfl (hb hby at_2) rfl ?_
    show Steps p.tables e below (s₁.setTop (mkF m 3 #[.val (.int x1), .val (.int x2), .val (.long x3), .second, .val (.long x4), .second, .val (.long x5), .second, .unset, .unset, .unset, .unset, .unset, .unset] [(.int (x1 &&& (3 : Int32)))])) _
    refine XS.iconst X0.here hx rfl (hb hby at_3) ?_
    show Steps p.tables e below (s₁.setTop (mkF m 4 #[.val (.int x1), .val (.int x2), .val (.long x3), .second, .val (.long x4), .second, .val (.long x5), .second, .unset, .unset, .unset, .unset, .unset, .unset] [(.int (1 : Int32)), (.int (x1 &&& (3 : Int32)))])) _
    refine XS.iadd X0.here hx rfl (hb hby at_4) rfl ?_
    show Steps p.tables e below (s₁.setTop (mkF m 5 #[.val (.int x1), .val (.int x2), .val (.long x3), .second, .val (.long x4), .second, .val (.long x5), .second, .unset, .unset, .unset, .unset, .unset, .unset] [(.int ((x1 &&& (3 : Int32)) + (1 : Int32)))])) _
    refine XS.istore X0.here hx rfl (hb hby at_5) rfl (l' := #[.val (.int x1), .val (.int x2), .val (.long x3), .second, .val (.long x4), .second, .val (.long x5), .second, .val (.int ((x1 &&& (3 : Int32)) + (1 : Int32))), .unset, .unset, .unset, .unset, .unset]) rfl ?_
    show Steps p.tables e below (s₁.setTop (mkF m 7 #[.val (.int x1), .val (.int x2), .val (.long x3), .second, .val (.long x4), .second, .val (.long x5), .second, .val (.int ((x1 &&& (3 : Int32)) + (1 : Int32))), .unset, .unset, .unset, .unset, .unset] [])) _
    refine XS.iloadN X0.here hx rfl (hb hby at_7) rfl ?_
    show Steps p.tables e below (s₁.setTop (mkF m 8 #[.val (.int x1), .val (.int x2), .val (.long x3), .second, .val (.long x4), .second, .val (.long x5), .second, .val (.int ((x1 &&& (3 : Int32)) + (1 : Int32))), .unset, .unset, .unset, .unset, .unset] [(.int x2)])) _
    refine XS.iconst X0.here hx rfl (hb hby at_8) ?_
    show Steps p.tables e below (s₁.setTop (mkF m 9 #[.val (.int x1), .val (.int x2), .val (.long x3), .second, .val (.long x4), .second, .val (.long x5), .second, .val (.int ((x1 &&& (3 : Int32)) + (1 : Int32))), .unset, .unset, .unset, .unset, .unset] [(.int (3 : Int32)), (.int x2)])) _
    refine XS.iand X0.here hx rfl (hb hby at_9) rfl ?_
    show Steps p.tables e below (s₁.setTop (mkF m 10 #[.val (.int x1), .val (.int x2), .val (.long x3), .second, .val (.long x4), .second, .val (.long x5), .second, .val (.int ((x1 &&& (3 : Int32)) + (1 : Int32))), .unset, .unset, .unset, .unset, .unset] [(.int (x2 &&& (3 : Int32)))])) _
    refine XS.istore X0.here hx rfl (hb hby at_10) rfl (l' := #[.val (.int x1), .val (.int x2), .val (.long x3), .second, .val (.long x4), .second, .val (.long x5), .second, .val (.int ((x1 &&& (3 : Int32)) + (1 : Int32))), .val (.int (x2 &&& (3 : Int32))), .unset, .unset, .unset, .unset]) rfl ?_
    show Steps p.tables e below (s₁.setTop (mkF m 12 #[.val (.int x1), .val (.int x2), .val (.long x3), .second, .val (.long x4), .second, .val (.long x5), .second, .val (.int ((x1 &&& (3 : Int32)) + (1 : Int32))), .val (.int (x2 &&& (3 : Int32))), .unset, .unset, .unset, .unset] [])) _
    refine XS.iload X0.here hx rfl (hb hby at_12) rfl ?_
    show Steps p.tables e below (s₁.setTop (mkF m 14 #[.val (.int x1), .val (.int x2), .val (.long x3), .second, .val (.long x4), .second, .val (.long x5), .second, .val (.int ((x1 &&& (3 : Int32)) + (1 : Int32))), .val (.int (x2 &&& (3 : Int32))), .unset, .unset, .unset, .unset] [(.int (x2 &&& (3 : Int32)))])) _
    refine XS.iconst X0.here hx rfl (hb hby at_14) ?_
    show Steps p.tables e below (s₁.setTop (mkF m 15 #[.val (.int x1), .val (.int x2), .val (.long x3), .second, .val (.long x4), .second, .val (.long x5), .second, .val (.int ((x1 &&& (3 : Int32)) + (1 : Int32))), .val (.int (x2 &&& (3 : Int32))), .unset, .unset, .unset, .unset] [(.int (1 : Int32)), (.int (x2 &&& (3 : Int32)))])) _
    refine XS.iadd X0.here hx rfl (hb hby at_15) rfl ?_
    show Steps p.tables e below (s₁.setTop (mkF m 16 #[.val (.int x1), .val (.int x2), .val (.long x3), .second, .val (.long x4), .second, .val (.long x5), .second, .val (.int ((x1 &&& (3 : Int32)) + (1 : Int32))), .val (.int (x2 &&& (3 : Int32))), .unset, .unset, .unset, .unset] [(.int ((x2 &&& (3 : Int32)) + (1 : Int32)))])) _
    refine XS.iconst X0.here hx rfl (hb hby at_16) ?_
    show Steps p.tables e below (s₁.setTop (mkF m 17 #[.val (.int x1), .val (.int x2), .val (.long x3), .second, .val (.long x4), .second, .val (.long x5), .second, .val (.int ((x1 &&& (3 : Int32)) + (1 : Int32))), .val (.int (x2 &&& (3 : Int32))), .unset, .unset, .unset, .unset] [(.int (3 : Int32)), (.int ((x2 &&& (3 : Int32)) + (1 : Int32)))])) _
    refine XS.iand X0.here hx rfl (hb hby at_17) rfl ?_
    show Steps p.tables e below (s₁.setTop (mkF m 18 #[.val (.int x1), .val (.int x2), .val (.long x3), .second, .val (.long x4), .second, .val (.long x5), .second, .val (.int ((x1 &&& (3 : Int32)) + (1 : Int32))), .val (.int (x2 &&& (3 : Int32))), .unset, .unset, .unset, .unset] [(.int (((x2 &&& (3 : Int32)) + (1 : Int32)) &&& (3 : Int32)))])) _
    refine XS.istore X0.here hx rfl (hb hby at_18) rfl (l' := #[.val (.int x1), .val (.int x2), .val (.long x3), .second, .val (.long x4), .second, .val (.long x5), .second, .val (.int ((x1 &&& (3 : Int32)) + (1 : Int32))), .val (.int (x2 &&& (3 : Int32))), .val (.int (((x2 &&& (3 : Int32)) + (1 : Int32)) &&& (3 : Int32))), .unset, .unset, .unset]) rfl ?_
    show Steps p.tables e below (s₁.setTop (mkF m 20 #[.val (.int x1), .val (.int x2), .val (.long x3), .second, .val (.long x4), .second, .val (.long x5), .second, .val (.int ((x1 &&& (3 : Int32)) + (1 : Int32))), .val (.int (x2 &&& (3 : Int32))), .val (.int (((x2 &&& (3 : Int32)) + (1 : Int32)) &&& (3 : Int32))), .unset, .unset, .unset] [])) _
    refine st1 _ ?_
    show Steps p.tables e below (T1.setTop (mkF m 23 #[.val (.int x1), .val (.int x2), .val (.long x3), .second, .val (.long x4), .second, .val (.long x5), .second, .val (.int ((x1 &&& (3 : Int32)) + (1 : Int32))), .val (.int (x2 &&& (3 : Int32))), .val (.int (((x2 &&& (3 : Int32)) + (1 : Int32)) &&& (3 : Int32))), .unset, .unset, .unset] [(.ref b1)])) _
    refine XS.dup X1.here hx rfl (hb hby at_23) rfl rfl ?_
    show Steps p.tables e below (T1.setTop (mkF m 24 #[.val (.int x1), .val (.int x2), .val (.long x3), .second, .val (.long x4), .second, .val (.long x5), .second, .val (.int ((x1 &&& (3 : Int32)) + (1 : Int32))), .val (.int (x2 &&& (3 : Int32))), .val (.int (((x2 &&& (3 : Int32)) + (1 : Int32)) &&& (3 : Int32))), .unset, .unset, .unset] [(.ref b1), (.ref b1)])) _
    refine X1.ldc2Long hx hown (mvT hZ (hw _ (List.mem_of_getElem? (i := 3) rfl))) (g := (mkF m 24 #[.val (.int x1), .val (.int x2), .val (.long x3), .second, .val (.long x4), .second, .val (.long x5), .second, .val (.int ((x1 &&& (3 : Int32)) + (1 : Int32))), .val (.int (x2 &&& (3 : Int32))), .val (.int (((x2 &&& (3 : Int32)) + (1 : Int32)) &&& (3 : Int32))), .unset, .unset, .unset] [(.ref b1), (.ref b1)])) rfl (hb hby at_24) _ ?_
    show Steps p.tables e below (T1.setTop (mkF m 27 #[.val (.int x1), .val (.int x2), .val (.long x3), .second, .val (.long x4), .second, .val (.long x5), .second, .val (.int ((x1 &&& (3 : Int32)) + (1 : Int32))), .val (.int (x2 &&& (3 : Int32))), .val (.int (((x2 &&& (3 : Int32)) + (1 : Int32)) &&& (3 : Int32))), .unset, .unset, .unset] [(.long (4 : Int64)), (.ref b1), (.ref b1)])) _
    refine XS.iload X1.here hx rfl (hb hby at_27) rfl ?_
    show Steps p.tables e below (T1.setTop (mkF m 29 #[.val (.int x1), .val (.int x2), .val (.long x3), .second, .val (.long x4), .second, .val (.long x5), .second, .val (.int ((x1 &&& (3 : Int32)) + (1 : Int32))), .val (.int (x2 &&& (3 : Int32))), .val (.int (((x2 &&& (3 : Int32)) + (1 : Int32)) &&& (3 : Int32))), .unset, .unset, .unset] [(.int ((x1 &&& (3 : Int32)) + (1 : Int32))), (.long (4 : Int64)), (.ref b1), (.ref b1)])) _
    refine st3.trans ?_
    show Steps p.tables e below (T3.setTop (mkF m 32 #[.val (.int x1), .val (.int x2), .val (.long x3), .second, .val (.long x4), .second, .val (.long x5), .second, .val (.int ((x1 &&& (3 : Int32)) + (1 : Int32))), .val (.int (x2 &&& (3 : Int32))), .val (.int (((x2 &&& (3 : Int32)) + (1 : Int32)) &&& (3 : Int32))), .unset, .unset, .unset] [(.ref b1)])) _
    refine XS.astore X3.here hx rfl (hb hby at_32) rfl rfl (l' := #[.val (.int x1), .val (.int x2), .val (.long x3), .second, .val (.long x4), .second, .val (.long x5), .second, .val (.int ((x1 &&& (3 : Int32)) + (1 : Int32))), .val (.int (x2 &&& (3 : Int32))), .val (.int (((x2 &&& (3 : Int32)) + (1 : Int32)) &&& (3 : Int32))), .val (.ref b1), .unset, .unset]) rfl ?_
    show Steps p.tables e below (T3.setTop (mkF m 34 #[.val (.int x1), .val (.int x2), .val (.long x3), .second, .val (.long x4), .second, .val (.long x5), .second, .val (.int ((x1 &&& (3 : Int32)) + (1 : Int32))), .val (.int (x2 &&& (3 : Int32))), .val (.int (((x2 &&& (3 : Int32)) + (1 : Int32)) &&& (3 : Int32))), .val (.ref b1), .unset, .unset] [])) _
    refine XS.aload X3.here hx rfl (hb hby at_34) rfl rfl ?_
    show Steps p.tables e below (T3.setTop (mkF m 36 #[.val (.int x1), .val (.int x2), .val (.long x3), .second, .val (.long x4), .second, .val (.long x5), .second, .val (.int ((x1 &&& (3 : Int32)) + (1 : Int32))), .val (.int (x2 &&& (3 : Int32))), .val (.int (((x2 &&& (3 : Int32)) + (1 : Int32)) &&& (3 : Int32))), .val (.ref b1), .unset, .unset] [(.ref b1)])) _
    refine XS.iload X3.here hx rfl (hb hby at_36) rfl ?_
    show Steps p.tables e below (T3.setTop (mkF m 38 #[.val (.int x1), .val (.int x2), .val (.long x3), .second, .val (.long x4), .second, .val (.long x5), .second, .val (.int ((x1 &&& (3 : Int32)) + (1 : Int32))), .val (.int (x2 &&& (3 : Int32))), .val (.int (((x2 &&& (3 : Int32)) + (1 : Int32)) &&& (3 : Int32))), .val (.ref b1), .unset, .unset] [(.int (x2 &&& (3 : Int32))), (.ref b1)])) _
    refine XS.lload X3.here hx rfl (hb hby at_38) rfl ?_
    show Steps p.tables e below (T3.setTop (mkF m 40 #[.val (.int x1), .val (.int x2), .val (.long x3), .second, .val (.long x4), .second, .val (.long x5), .second, .val (.int ((x1 &&& (3 : Int32)) + (1 : Int32))), .val (.int (x2 &&& (3 : Int32))), .val (.int (((x2 &&& (3 : Int32)) + (1 : Int32)) &&& (3 : Int32))), .val (.ref b1), .unset, .unset] [(.long x4), (.int (x2 &&& (3 : Int32))), (.ref b1)])) _
    refine st4.trans ?_
    show Steps p.tables e below (T4.setTop (mkF m 43 #[.val (.int x1), .val (.int x2), .val (.long x3), .second, .val (.long x4), .second, .val (.long x5), .second, .val (.int ((x1 &&& (3 : Int32)) + (1 : Int32))), .val (.int (x2 &&& (3 : Int32))), .val (.int (((x2 &&& (3 : Int32)) + (1 : Int32)) &&& (3 : Int32))), .val (.ref b1), .unset, .unset] [])) _
    refine XS.aload X4.here hx rfl (hb hby at_43) rfl rfl ?_
    show Steps p.tables e below (T4.setTop (mkF m 45 #[.val (.int x1), .val (.int x2), .val (.long x3), .second, .val (.long x4), .second, .val (.long x5), .second, .val (.int ((x1 &&& (3 : Int32)) + (1 : Int32))), .val (.int (x2 &&& (3 : Int32))), .val (.int (((x2 &&& (3 : Int32)) + (1 : Int32)) &&& (3 : Int32))), .val (.ref b1), .unset, .unset] [(.ref b1)])) _
    refine XS.iload X4.here hx rfl (hb hby at_45) rfl ?_
    show Steps p.tables e below (T4.setTop (mkF m 47 #[.val (.int x1), .val (.int x2), .val (.long x3), .second, .val (.long x4), .second, .val (.long x5), .second, .val (.int ((x1 &&& (3 : Int32)) + (1 : Int32))), .val (.int (x2 &&& (3 : Int32))), .val (.int (((x2 &&& (3 : Int32)) + (1 : Int32)) &&& (3 : Int32))), .val (.ref b1), .unset, .unset] [(.int (((x2 &&& (3 : Int32)) + (1 : Int32)) &&& (3 : Int32))), (.ref b1)])) _
    refine XS.lload X4.here hx rfl (hb hby at_47) rfl ?_
    show Steps p.tables e below (T4.setTop (mkF m 49 #[.val (.int x1), .val (.int x2), .val (.long x3), .second, .val (.long x4), .second, .val (.long x5), .second, .val (.int ((x1 &&& (3 : Int32)) + (1 : Int32))), .val (.int (x2 &&& (3 : Int32))), .val (.int (((x2 &&& (3 : Int32)) + (1 : Int32)) &&& (3 : Int32))), .val (.ref b1), .unset, .unset] [(.long x5), (.int (((x2 &&& (3 : Int32)) + (1 : Int32)) &&& (3 : Int32))), (.ref b1)])) _
    refine st5.trans ?_
    show Steps p.tables e below (T5.setTop (mkF m 52 #[.val (.int x1), .val (.int x2), .val (.long x3), .second, .val (.long x4), .second, .val (.long x5), .second, .val (.int ((x1 &&& (3 : Int32)) + (1 : Int32))), .val (.int (x2 &&& (3 : Int32))), .val (.int (((x2 &&& (3 : Int32)) + (1 : Int32)) &&& (3 : Int32))), .val (.ref b1), .unset, .unset] [])) _
    refine XS.aload X5.here hx rfl (hb hby at_52) rfl rfl ?_
    show Steps p.tables e below (T5.setTop (mkF m 54 #[.val (.int x1), .val (.int x2), .val (.long x3), .second, .val (.long x4), .second, .val (.long x5), .second, .val (.int ((x1 &&& (3 : Int32)) + (1 : Int32))), .val (.int (x2 &&& (3 : Int32))), .val (.int (((x2 &&& (3 : Int32)) + (1 : Int32)) &&& (3 : Int32))), .val (.ref b1), .unset, .unset] [(.ref b1)])) _
    refine XS.iload X5.here hx rfl (hb hby at_54) rfl ?_
    show Steps p.tables e below (T5.setTop (mkF m 56 #[.val (.int x1), .val (.int x2), .val (.long x3), .second, .val (.long x4), .second, .val (.long x5), .second, .val (.int ((x1 &&& (3 : Int32)) + (1 : Int32))), .val (.int (x2 &&& (3 : Int32))), .val (.int (((x2 &&& (3 : Int32)) + (1 : Int32)) &&& (3 : Int32))), .val (.ref b1), .unset, .unset] [(.int (x2 &&& (3 : Int32))), (.ref b1)])) _
    refine XS.lloadN X5.here hx rfl (hb hby at_56) rfl ?_
    show Steps p.tables e below (T5.setTop (mkF m 57 #[.val (.int x1), .val (.int x2), .val (.long x3), .second, .val (.long x4), .second, .val (.long x5), .second, .val (.int ((x1 &&& (3 : Int32)) + (1 : Int32))), .val (.int (x2 &&& (3 : Int32))), .val (.int (((x2 &&& (3 : Int32)) + (1 : Int32)) &&& (3 : Int32))), .val (.ref b1), .unset, .unset] [(.long x3), (.int (x2 &&& (3 : Int32))), (.ref b1)])) _
    refine st6.trans ?_
    show Steps p.tables e below (T6.setTop (mkF m 60 #[.val (.int x1), .val (.int x2), .val (.long x3), .second, .val (.long x4), .second, .val (.long x5), .second, .val (.int ((x1 &&& (3 : Int32)) + (1 : Int32))), .val (.int (x2 &&& (3 : Int32))), .val (.int (((x2 &&& (3 : Int32)) + (1 : Int32)) &&& (3 : Int32))), .val (.ref b1), .unset, .unset] [])) _
    refine XS.lload X6.here hx rfl (hb hby at_60) rfl ?_
    show Steps p.tables e below (T6.setTop (mkF m 62 #[.val (.int x1), .val (.int x2), .val (.long x3), .second, .val (.long x4), .second, .val (.long x5), .second, .val (.int ((x1 &&& (3 : Int32)) + (1 : Int32))), .val (.int (x2 &&& (3 : Int32))), .val (.int (((x2 &&& (3 : Int32)) + (1 : Int32)) &&& (3 : Int32))), .val (.ref b1), .unset, .unset] [(.long x4)])) _
    refine XS.lloadN X6.here hx rfl (hb hby at_62) rfl ?_
    show Steps p.tables e below (T6.setTop (mkF m 63 #[.val (.int x1), .val (.int x2), .val (.long x3), .second, .val (.long x4), .second, .val (.long x5), .second, .val (.int ((x1 &&& (3 : Int32)) + (1 : Int32))), .val (.int (x2 &&& (3 : Int32))), .val (.int (((x2 &&& (3 : Int32)) + (1 : Int32)) &&& (3 : Int32))), .val (.ref b1), .unset, .unset] [(.long x3), (.long x4)])) _
    refine XS.ladd X6.here hx rfl (hb hby at_63) rfl ?_
    show Steps p.tables e below (T6.setTop (mkF m 64 #[.val (.int x1), .val (.int x2), .val (.long x3), .second, .val (.long x4), .second, .val (.long x5), .second, .val (.int ((x1 &&& (3 : Int32)) + (1 : Int32))), .val (.int (x2 &&& (3 : Int32))), .val (.int (((x2 &&& (3 : Int32)) + (1 : Int32)) &&& (3 : Int32))), .val (.ref b1), .unset, .unset] [(.long (x4 + x3))])) _
    refine XS.lstore X6.here hx rfl (hb hby at_64) rfl (l' := #[.val (.int x1), .val (.int x2), .val (.long x3), .second, .val (.long x4), .second, .val (.long x5), .second, .val (.int ((x1 &&& (3 : Int32)) + (1 : Int32))), .val (.int (x2 &&& (3 : Int32))), .val (.int (((x2 &&& (3 : Int32)) + (1 : Int32)) &&& (3 : Int32))), .val (.ref b1), .val (.long (x4 + x3)), .second]) rfl ?_
    show Steps p.tables e below (T6.setTop (mkF m 66 #[.val (.int x1), .val (.int x2), .val (.long x3), .second, .val (.long x4), .second, .val (.long x5), .second, .val (.int ((x1 &&& (3 : Int32)) + (1 : Int32))), .val (.int (x2 &&& (3 : Int32))), .val (.int (((x2 &&& (3 : Int32)) + (1 : Int32)) &&& (3 : Int32))), .val (.ref b1), .val (.long (x4 + x3)), .second] [])) _
    refine XS.aload X6.here hx rfl (hb hby at_66) rfl rfl ?_
    show Steps p.tables e below (T6.setTop (mkF m 68 #[.val (.int x1), .val (.int x2), .val (.long x3), .second, .val (.long x4), .second, .val (.long x5), .second, .val (.int ((x1 &&& (3 : Int32)) + (1 : Int32))), .val (.int (x2 &&& (3 : Int32))), .val (.int (((x2 &&& (3 : Int32)) + (1 : Int32)) &&& (3 : Int32))), .val (.ref b1), .val (.long (x4 + x3)), .second] [(.ref b1)])) _
    refine XS.iconst X6.here hx rfl (hb hby at_68) ?_
    show Steps p.tables e below (T6.setTop (mkF m 69 #[.val (.int x1), .val (.int x2), .val (.long x3), .second, .val (.long x4), .second, .val (.long x5), .second, .val (.int ((x1 &&& (3 : Int32)) + (1 : Int32))), .val (.int (x2 &&& (3 : Int32))), .val (.int (((x2 &&& (3 : Int32)) + (1 : Int32)) &&& (3 : Int32))), .val (.ref b1), .val (.long (x4 + x3)), .second] [(.int (0 : Int32)), (.ref b1)])) _
    refine st7.trans ?_
    show Steps p.tables e below (T7.setTop (mkF m 72 #[.val (.int x1), .val (.int x2), .val (.long x3), .second, .val (.long x4), .second, .val (.long x5), .second, .val (.int ((x1 &&& (3 : Int32)) + (1 : Int32))), .val (.int (x2 &&& (3 : Int32))), .val (.int (((x2 &&& (3 : Int32)) + (1 : Int32)) &&& (3 : Int32))), .val (.ref b1), .val (.long (x4 + x3)), .second] [(.long (((own_upd ((own_upd ((own_upd ((fun _ => (0 : Int64))) (x2 &&& (3 : Int32)) x4)) (((x2 &&& (3 : Int32)) + (1 : Int32)) &&& (3 : Int32)) x5)) (x2 &&& (3 : Int32)) (((own_upd ((own_upd ((fun _ => (0 : Int64))) (x2 &&& (3 : Int32)) x4)) (((x2 &&& (3 : Int32)) + (1 : Int32)) &&& (3 : Int32)) x5)) ((x2 &&& (3 : Int32))).toNatClampNeg + x3))) ((0 : Int32)).toNatClampNeg))])) _
    refine XS.iconst X7.here hx rfl (hb hby at_72) ?_
    show Steps p.tables e below (T7.setTop (mkF m 73 #[.val (.int x1), .val (.int x2), .val (.long x3), .second, .val (.long x4), .second, .val (.long x5), .second, .val (.int ((x1 &&& (3 : Int32)) + (1 : Int32))), .val (.int (x2 &&& (3 : Int32))), .val (.int (((x2 &&& (3 : Int32)) + (1 : Int32)) &&& (3 : Int32))), .val (.ref b1), .val (.long (x4 + x3)), .second] [(.int (0 : Int32)), (.long (((own_upd ((own_upd ((own_upd ((fun _ => (0 : Int64))) (x2 &&& (3 : Int32)) x4)) (((x2 &&& (3 : Int32)) + (1 : Int32)) &&& (3 : Int32)) x5)) (x2 &&& (3 : Int32)) (((own_upd ((own_upd ((fun _ => (0 : Int64))) (x2 &&& (3 : Int32)) x4)) (((x2 &&& (3 : Int32)) + (1 : Int32)) &&& (3 : Int32)) x5)) ((x2 &&& (3 : Int32))).toNatClampNeg + x3))) ((0 : Int32)).toNatClampNeg))])) _
    refine XS.iload X7.here hx rfl (hb hby at_73) rfl ?_
    show Steps p.tables e below (T7.setTop (mkF m 75 #[.val (.int x1), .val (.int x2), .val (.long x3), .second, .val (.long x4), .second, .val (.long x5), .second, .val (.int ((x1 &&& (3 : Int32)) + (1 : Int32))), .val (.int (x2 &&& (3 : Int32))), .val (.int (((x2 &&& (3 : Int32)) + (1 : Int32)) &&& (3 : Int32))), .val (.ref b1), .val (.long (x4 + x3)), .second] [(.int (x2 &&& (3 : Int32))), (.int (0 : Int32)), (.long (((own_upd ((own_upd ((own_upd ((fun _ => (0 : Int64))) (x2 &&& (3 : Int32)) x4)) (((x2 &&& (3 : Int32)) + (1 : Int32)) &&& (3 : Int32)) x5)) (x2 &&& (3 : Int32)) (((own_upd ((own_upd ((fun _ => (0 : Int64))) (x2 &&& (3 : Int32)) x4)) (((x2 &&& (3 : Int32)) + (1 : Int32)) &&& (3 : Int32)) x5)) ((x2 &&& (3 : Int32))).toNatClampNeg + x3))) ((0 : Int32)).toNatClampNeg))])) _
    refine XS.iload X7.here hx rfl (hb hby at_75) rfl ?_
    show Steps p.tables e below (T7.setTop (mkF m 77 #[.val (.int x1), .val (.int x2), .val (.long x3), .second, .val (.long x4), .second, .val (.long x5), .second, .val (.int ((x1 &&& (3 : Int32)) + (1 : Int32))), .val (.int (x2 &&& (3 : Int32))), .val (.int (((x2 &&& (3 : Int32)) + (1 : Int32)) &&& (3 : Int32))), .val (.ref b1), .val (.long (x4 + x3)), .second] [(.int (((x2 &&& (3 : Int32)) + (1 : Int32)) &&& (3 : Int32))), (.int (x2 &&& (3 : Int32))), (.int (0 : Int32)), (.long (((own_upd ((own_upd ((own_upd ((fun _ => (0 : Int64))) (x2 &&& (3 : Int32)) x4)) (((x2 &&& (3 : Int32)) + (1 : Int32)) &&& (3 : Int32)) x5)) (x2 &&& (3 : Int32)) (((own_upd ((own_upd ((fun _ => (0 : Int64))) (x2 &&& (3 : Int32)) x4)) (((x2 &&& (3 : Int32)) + (1 : Int32)) &&& (3 : Int32)) x5)) ((x2 &&& (3 : Int32))).toNatClampNeg + x3))) ((0 : Int32)).toNatClampNeg))])) _
    refine XS.lload X7.here hx rfl (hb hby at_77) rfl ?_
    show Steps p.tables e below (T7.setTop (mkF m 79 #[.val (.int x1), .val (.int x2), .val (.long x3), .second, .val (.long x4), .second, .val (.long x5), .second, .val (.int ((x1 &&& (3 : Int32)) + (1 : Int32))), .val (.int (x2 &&& (3 : Int32))), .val (.int (((x2 &&& (3 : Int32)) + (1 : Int32)) &&& (3 : Int32))), .val (.ref b1), .val (.long (x4 + x3)), .second] [(.long (x4 + x3)), (.int (((x2 &&& (3 : Int32)) + (1 : Int32)) &&& (3 : Int32))), (.int (x2 &&& (3 : Int32))), (.int (0 : Int32)), (.long (((own_upd ((own_upd ((own_upd ((fun _ => (0 : Int64))) (x2 &&& (3 : Int32)) x4)) (((x2 &&& (3 : Int32)) + (1 : Int32)) &&& (3 : Int32)) x5)) (x2 &&& (3 : Int32)) (((own_upd ((own_upd ((fun _ => (0 : Int64))) (x2 &&& (3 : Int32)) x4)) (((x2 &&& (3 : Int32)) + (1 : Int32)) &&& (3 : Int32)) x5)) ((x2 &&& (3 : Int32))).toNatClampNeg + x3))) ((0 : Int32)).toNatClampNeg))])) _
    refine XS.lload X7.here hx rfl (hb hby at_79) rfl ?_
    show Steps p.tables e below (T7.setTop (mkF m 81 #[.val (.int x1), .val (.int x2), .val (.long x3), .second, .val (.long x4), .second, .val (.long x5), .second, .val (.int ((x1 &&& (3 : Int32)) + (1 : Int32))), .val (.int (x2 &&& (3 : Int32))), .val (.int (((x2 &&& (3 : Int32)) + (1 : Int32)) &&& (3 : Int32))), .val (.ref b1), .val (.long (x4 + x3)), .second] [(.long x5), (.long (x4 + x3)), (.int (((x2 &&& (3 : Int32)) + (1 : Int32)) &&& (3 : Int32))), (.int (x2 &&& (3 : Int32))), (.int (0 : Int32)), (.long (((own_upd ((own_upd ((own_upd ((fun _ => (0 : Int64))) (x2 &&& (3 : Int32)) x4)) (((x2 &&& (3 : Int32)) + (1 : Int32)) &&& (3 : Int32)) x5)) (x2 &&& (3 : Int32)) (((own_upd ((own_upd ((fun _ => (0 : Int64))) (x2 &&& (3 : Int32)) x4)) (((x2 &&& (3 : Int32)) + (1 : Int32)) &&& (3 : Int32)) x5)) ((x2 &&& (3 : Int32))).toNatClampNeg + x3))) ((0 : Int32)).toNatClampNeg))])) _
    refine st8 _ ?_
    show Steps p.tables e below (T8.setTop (mkF m 84 #[.val (.int x1), .val (.int x2), .val (.long x3), .second, .val (.long x4), .second, .val (.long x5), .second, .val (.int ((x1 &&& (3 : Int32)) + (1 : Int32))), .val (.int (x2 &&& (3 : Int32))), .val (.int (((x2 &&& (3 : Int32)) + (1 : Int32)) &&& (3 : Int32))), .val (.ref b1), .val (.long (x4 + x3)), .second] [(.long (F8 (0 : Int32) (x2 &&& (3 : Int32)) (((x2 &&& (3 : Int32)) + (1 : Int32)) &&& (3 : Int32)) (x4 + x3) x5)), (.long (((own_upd ((own_upd ((own_upd ((fun _ => (0 : Int64))) (x2 &&& (3 : Int32)) x4)) (((x2 &&& (3 : Int32)) + (1 : Int32)) &&& (3 : Int32)) x5)) (x2 &&& (3 : Int32)) (((own_upd ((own_upd ((fun _ => (0 : Int64))) (x2 &&& (3 : Int32)) x4)) (((x2 &&& (3 : Int32)) + (1 : Int32)) &&& (3 : Int32)) x5)) ((x2 &&& (3 : Int32))).toNatClampNeg + x3))) ((0 : Int32)).toNatClampNeg))])) _
    refine XS.lcmp X8.here hx rfl (hb hby at_84) rfl ?_
    show Steps p.tables e below (T8.setTop (mkF m 85 #[.val (.int x1), .val (.int x2), .val (.long x3), .second, .val (.long x4), .second, .val (.long x5), .second, .val (.int ((x1 &&& (3 : Int32)) + (1 : Int32))), .val (.int (x2 &&& (3 : Int32))), .val (.int (((x2 &&& (3 : Int32)) + (1 : Int32)) &&& (3 : Int32))), .val (.ref b1), .val (.long (x4 + x3)), .second] [(.int (lcmpW (((own_upd ((own_upd ((own_upd ((fun _ => (0 : Int64))) (x2 &&& (3 : Int32)) x4)) (((x2 &&& (3 : Int32)) + (1 : Int32)) &&& (3 : Int32)) x5)) (x2 &&& (3 : Int32)) (((own_upd ((own_upd ((fun _ => (0 : Int64))) (x2 &&& (3 : Int32)) x4)) (((x2 &&& (3 : Int32)) + (1 : Int32)) &&& (3 : Int32)) x5)) ((x2 &&& (3 : Int32))).toNatClampNeg + x3))) ((0 : Int32)).toNatClampNeg) (F8 (0 : Int32) (x2 &&& (3 : Int32)) (((x2 &&& (3 : Int32)) + (1 : Int32)) &&& (3 : Int32)) (x4 + x3) x5)))])) _
    refine XS.ifNo X8.here hx rfl (hb hby at_85) rfl (own_leq (own_cell x2 x3 x4 x5 0 (by decide) : (((own_upd ((own_upd ((own_upd ((fun _ => (0 : Int64))) (x2 &&& (3 : Int32)) x4)) (((x2 &&& (3 : Int32)) + (1 : Int32)) &&& (3 : Int32)) x5)) (x2 &&& (3 : Int32)) (((own_upd ((own_upd ((fun _ => (0 : Int64))) (x2 &&& (3 : Int32)) x4)) (((x2 &&& (3 : Int32)) + (1 : Int32)) &&& (3 : Int32)) x5)) ((x2 &&& (3 : Int32))).toNatClampNeg + x3))) ((0 : Int32)).toNatClampNeg) = (F8 (0 : Int32) (x2 &&& (3 : Int32)) (((x2 &&& (3 : Int32)) + (1 : Int32)) &&& (3 : Int32)) (x4 + x3) x5))).2 ?_
    show Steps p.tables e below (T8.setTop (mkF m 88 #[.val (.int x1), .val (.int x2), .val (.long x3), .second, .val (.long x4), .second, .val (.long x5), .second, .val (.int ((x1 &&& (3 : Int32)) + (1 : Int32))), .val (.int (x2 &&& (3 : Int32))), .val (.int (((x2 &&& (3 : Int32)) + (1 : Int32)) &&& (3 : Int32))), .val (.ref b1), .val (.long (x4 + x3)), .second] [])) _
    refine XS.aload X8.here hx rfl (hb hby at_88) rfl rfl ?_
    show Steps p.tables e below (T8.setTop (mkF m 90 #[.val (.int x1), .val (.int x2), .val (.long x3), .second, .val (.long x4), .second, .val (.long x5), .second, .val (.int ((x1 &&& (3 : Int32)) + (1 : Int32))), .val (.int (x2 &&& (3 : Int32))), .val (.int (((x2 &&& (3 : Int32)) + (1 : Int32)) &&& (3 : Int32))), .val (.ref b1), .val (.long (x4 + x3)), .second] [(.ref b1)])) _
    refine XS.iconst X8.here hx rfl (hb hby at_90) ?_
    show Steps p.tables e below (T8.setTop (mkF m 91 #[.val (.int x1), .val (.int x2), .val (.long x3), .second, .val (.long x4), .second, .val (.long x5), .second, .val (.int ((x1 &&& (3 : Int32)) + (1 : Int32))), .val (.int (x2 &&& (3 : Int32))), .val (.int (((x2 &&& (3 : Int32)) + (1 : Int32)) &&& (3 : Int32))), .val (.ref b1), .val (.long (x4 + x3)), .second] [(.int (1 : Int32)), (.ref b1)])) _
    refine st9.trans ?_
    show Steps p.tables e below (T9.setTop (mkF m 94 #[.val (.int x1), .val (.int x2), .val (.long x3), .second, .val (.long x4), .second, .val (.long x5), .second, .val (.int ((x1 &&& (3 : Int32)) + (1 : Int32))), .val (.int (x2 &&& (3 : Int32))), .val (.int (((x2 &&& (3 : Int32)) + (1 : Int32)) &&& (3 : Int32))), .val (.ref b1), .val (.long (x4 + x3)), .second] [(.long (((own_upd ((own_upd ((own_upd ((fun _ => (0 : Int64))) (x2 &&& (3 : Int32)) x4)) (((x2 &&& (3 : Int32)) + (1 : Int32)) &&& (3 : Int32)) x5)) (x2 &&& (3 : Int32)) (((own_upd ((own_upd ((fun _ => (0 : Int64))) (x2 &&& (3 : Int32)) x4)) (((x2 &&& (3 : Int32)) + (1 : Int32)) &&& (3 : Int32)) x5)) ((x2 &&& (3 : Int32))).toNatClampNeg + x3))) ((1 : Int32)).toNatClampNeg))])) _
    refine XS.iconst X9.here hx rfl (hb hby at_94) ?_
    show Steps p.tables e below (T9.setTop (mkF m 95 #[.val (.int x1), .val (.int x2), .val (.long x3), .second, .val (.long x4), .second, .val (.long x5), .second, .val (.int ((x1 &&& (3 : Int32)) + (1 : Int32))), .val (.int (x2 &&& (3 : Int32))), .val (.int (((x2 &&& (3 : Int32)) + (1 : Int32)) &&& (3 : Int32))), .val (.ref b1), .val (.long (x4 + x3)), .second] [(.int (1 : Int32)), (.long (((own_upd ((own_upd ((own_upd ((fun _ => (0 : Int64))) (x2 &&& (3 : Int32)) x4)) (((x2 &&& (3 : Int32)) + (1 : Int32)) &&& (3 : Int32)) x5)) (x2 &&& (3 : Int32)) (((own_upd ((own_upd ((fun _ => (0 : Int64))) (x2 &&& (3 : Int32)) x4)) (((x2 &&& (3 : Int32)) + (1 : Int32)) &&& (3 : Int32)) x5)) ((x2 &&& (3 : Int32))).toNatClampNeg + x3))) ((1 : Int32)).toNatClampNeg))])) _
    refine XS.iload X9.here hx rfl (hb hby at_95) rfl ?_
    show Steps p.tables e below (T9.setTop (mkF m 97 #[.val (.int x1), .val (.int x2), .val (.long x3), .second, .val (.long x4), .second, .val (.long x5), .second, .val (.int ((x1 &&& (3 : Int32)) + (1 : Int32))), .val (.int (x2 &&& (3 : Int32))), .val (.int (((x2 &&& (3 : Int32)) + (1 : Int32)) &&& (3 : Int32))), .val (.ref b1), .val (.long (x4 + x3)), .second] [(.int (x2 &&& (3 : Int32))), (.int (1 : Int32)), (.long (((own_upd ((own_upd ((own_upd ((fun _ => (0 : Int64))) (x2 &&& (3 : Int32)) x4)) (((x2 &&& (3 : Int32)) + (1 : Int32)) &&& (3 : Int32)) x5)) (x2 &&& (3 : Int32)) (((own_upd ((own_upd ((fun _ => (0 : Int64))) (x2 &&& (3 : Int32)) x4)) (((x2 &&& (3 : Int32)) + (1 : Int32)) &&& (3 : Int32)) x5)) ((x2 &&& (3 : Int32))).toNatClampNeg + x3))) ((1 : Int32)).toNatClampNeg))])) _
    refine XS.iload X9.here hx rfl (hb hby at_97) rfl ?_
    show Steps p.tables e below (T9.setTop (mkF m 99 #[.val (.int x1), .val (.int x2), .val (.long x3), .second, .val (.long x4), .second, .val (.long x5), .second, .val (.int ((x1 &&& (3 : Int32)) + (1 : Int32))), .val (.int (x2 &&& (3 : Int32))), .val (.int (((x2 &&& (3 : Int32)) + (1 : Int32)) &&& (3 : Int32))), .val (.ref b1), .val (.long (x4 + x3)), .second] [(.int (((x2 &&& (3 : Int32)) + (1 : Int32)) &&& (3 : Int32))), (.int (x2 &&& (3 : Int32))), (.int (1 : Int32)), (.long (((own_upd ((own_upd ((own_upd ((fun _ => (0 : Int64))) (x2 &&& (3 : Int32)) x4)) (((x2 &&& (3 : Int32)) + (1 : Int32)) &&& (3 : Int32)) x5)) (x2 &&& (3 : Int32)) (((own_upd ((own_upd ((fun _ => (0 : Int64))) (x2 &&& (3 : Int32)) x4)) (((x2 &&& (3 : Int32)) + (1 : Int32)) &&& (3 : Int32)) x5)) ((x2 &&& (3 : Int32))).toNatClampNeg + x3))) ((1 : Int32)).toNatClampNeg))])) _
    refine XS.lload X9.here hx rfl (hb hby at_99) rfl ?_
    show Steps p.tables e below (T9.setTop (mkF m 101 #[.val (.int x1), .val (.int x2), .val (.long x3), .second, .val (.long x4), .second, .val (.long x5), .second, .val (.int ((x1 &&& (3 : Int32)) + (1 : Int32))), .val (.int (x2 &&& (3 : Int32))), .val (.int (((x2 &&& (3 : Int32)) + (1 : Int32)) &&& (3 : Int32))), .val (.ref b1), .val (.long (x4 + x3)), .second] [(.long (x4 + x3)), (.int (((x2 &&& (3 : Int32)) + (1 : Int32)) &&& (3 : Int32))), (.int (x2 &&& (3 : Int32))), (.int (1 : Int32)), (.long (((own_upd ((own_upd ((own_upd ((fun _ => (0 : Int64))) (x2 &&& (3 : Int32)) x4)) (((x2 &&& (3 : Int32)) + (1 : Int32)) &&& (3 : Int32)) x5)) (x2 &&& (3 : Int32)) (((own_upd ((own_upd ((fun _ => (0 : Int64))) (x2 &&& (3 : Int32)) x4)) (((x2 &&& (3 : Int32)) + (1 : Int32)) &&& (3 : Int32)) x5)) ((x2 &&& (3 : Int32))).toNatClampNeg + x3))) ((1 : Int32)).toNatClampNeg))])) _
    refine XS.lload X9.here hx rfl (hb hby at_101) rfl ?_
    show Steps p.tables e below (T9.setTop (mkF m 103 #[.val (.int x1), .val (.int x2), .val (.long x3), .second, .val (.long x4), .second, .val (.long x5), .second, .val (.int ((x1 &&& (3 : Int32)) + (1 : Int32))), .val (.int (x2 &&& (3 : Int32))), .val (.int (((x2 &&& (3 : Int32)) + (1 : Int32)) &&& (3 : Int32))), .val (.ref b1), .val (.long (x4 + x3)), .second] [(.long x5), (.long (x4 + x3)), (.int (((x2 &&& (3 : Int32)) + (1 : Int32)) &&& (3 : Int32))), (.int (x2 &&& (3 : Int32))), (.int (1 : Int32)), (.long (((own_upd ((own_upd ((own_upd ((fun _ => (0 : Int64))) (x2 &&& (3 : Int32)) x4)) (((x2 &&& (3 : Int32)) + (1 : Int32)) &&& (3 : Int32)) x5)) (x2 &&& (3 : Int32)) (((own_upd ((own_upd ((fun _ => (0 : Int64))) (x2 &&& (3 : Int32)) x4)) (((x2 &&& (3 : Int32)) + (1 : Int32)) &&& (3 : Int32)) x5)) ((x2 &&& (3 : Int32))).toNatClampNeg + x3))) ((1 : Int32)).toNatClampNeg))])) _
    refine st10 _ ?_
    show Steps p.tables e below (T10.setTop (mkF m 106 #[.val (.int x1), .val (.int x2), .val (.long x3), .second, .val (.long x4), .second, .val (.long x5), .second, .val (.int ((x1 &&& (3 : Int32)) + (1 : Int32))), .val (.int (x2 &&& (3 : Int32))), .val (.int (((x2 &&& (3 : Int32)) + (1 : Int32)) &&& (3 : Int32))), .val (.ref b1), .val (.long (x4 + x3)), .second] [(.long (F8 (1 : Int32) (x2 &&& (3 : Int32)) (((x2 &&& (3 : Int32)) + (1 : Int32)) &&& (3 : Int32)) (x4 + x3) x5)), (.long (((own_upd ((own_upd ((own_upd ((fun _ => (0 : Int64))) (x2 &&& (3 : Int32)) x4)) (((x2 &&& (3 : Int32)) + (1 : Int32)) &&& (3 : Int32)) x5)) (x2 &&& (3 : Int32)) (((own_upd ((own_upd ((fun _ => (0 : Int64))) (x2 &&& (3 : Int32)) x4)) (((x2 &&& (3 : Int32)) + (1 : Int32)) &&& (3 : Int32)) x5)) ((x2 &&& (3 : Int32))).toNatClampNeg + x3))) ((1 : Int32)).toNatClampNeg))])) _
    refine XS.lcmp X10.here hx rfl (hb hby at_106) rfl ?_
    show Steps p.tables e below (T10.setTop (mkF m 107 #[.val (.int x1), .val (.int x2), .val (.long x3), .second, .val (.long x4), .second, .val (.long x5), .second, .val (.int ((x1 &&& (3 : Int32)) + (1 : Int32))), .val (.int (x2 &&& (3 : Int32))), .val (.int (((x2 &&& (3 : Int32)) + (1 : Int32)) &&& (3 : Int32))), .val (.ref b1), .val (.long (x4 + x3)), .second] [(.int (lcmpW (((own_upd ((own_upd ((own_upd ((fun _ => (0 : Int64))) (x2 &&& (3 : Int32)) x4)) (((x2 &&& (3 : Int32)) + (1 : Int32)) &&& (3 : Int32)) x5)) (x2 &&& (3 : Int32)) (((own_upd ((own_upd ((fun _ => (0 : Int64))) (x2 &&& (3 : Int32)) x4)) (((x2 &&& (3 : Int32)) + (1 : Int32)) &&& (3 : Int32)) x5)) ((x2 &&& (3 : Int32))).toNatClampNeg + x3))) ((1 : Int32)).toNatClampNeg) (F8 (1 : Int32) (x2 &&& (3 : Int32)) (((x2 &&& (3 : Int32)) + (1 : Int32)) &&& (3 : Int32)) (x4 + x3) x5)))])) _
    refine XS.ifNo X10.here hx rfl (hb hby at_107) rfl (own_leq (own_cell x2 x3 x4 x5 1 (by decide) : (((own_upd ((own_upd ((own_upd ((fun _ => (0 : Int64))) (x2 &&& (3 : Int32)) x4)) (((x2 &&& (3 : Int32)) + (1 : Int32)) &&& (3 : Int32)) x5)) (x2 &&& (3 : Int32)) (((own_upd ((own_upd ((fun _ => (0 : Int64))) (x2 &&& (3 : Int32)) x4)) (((x2 &&& (3 : Int32)) + (1 : Int32)) &&& (3 : Int32)) x5)) ((x2 &&& (3 : Int32))).toNatClampNeg + x3))) ((1 : Int32)).toNatClampNeg) = (F8 (1 : Int32) (x2 &&& (3 : Int32)) (((x2 &&& (3 : Int32)) + (1 : Int32)) &&& (3 : Int32)) (x4 + x3) x5))).2 ?_
    show Steps p.tables e below (T10.setTop (mkF m 110 #[.val (.int x1), .val (.int x2), .val (.long x3), .second, .val (.long x4), .second, .val (.long x5), .second, .val (.int ((x1 &&& (3 : Int32)) + (1 : Int32))), .val (.int (x2 &&& (3 : Int32))), .val (.int (((x2 &&& (3 : Int32)) + (1 : Int32)) &&& (3 : Int32))), .val (.ref b1), .val (.long (x4 + x3)), .second] [])) _
    refine XS.aload X10.here hx rfl (hb hby at_110) rfl rfl ?_
    show Steps p.tables e below (T10.setTop (mkF m 112 #[.val (.int x1), .val (.int x2), .val (.long x3), .second, .val (.long x4), .second, .val (.long x5), .second, .val (.int ((x1 &&& (3 : Int32)) + (1 : Int32))), .val (.int (x2 &&& (3 : Int32))), .val (.int (((x2 &&& (3 : Int32)) + (1 : Int32)) &&& (3 : Int32))), .val (.ref b1), .val (.long (x4 + x3)), .second] [(.ref b1)])) _
    refine XS.iconst X10.here hx rfl (hb hby at_112) ?_
    show Steps p.tables e below (T10.setTop (mkF m 113 #[.val (.int x1), .val (.int x2), .val (.long x3), .second, .val (.long x4), .second, .val (.long x5), .second, .val (.int ((x1 &&& (3 : Int32)) + (1 : Int32))), .val (.int (x2 &&& (3 : Int32))), .val (.int (((x2 &&& (3 : Int32)) + (1 : Int32)) &&& (3 : Int32))), .val (.ref b1), .val (.long (x4 + x3)), .second] [(.int (2 : Int32)), (.ref b1)])) _
    refine st11.trans ?_
    show Steps p.tables e below (T11.setTop (mkF m 116 #[.val (.int x1), .val (.int x2), .val (.long x3), .second, .val (.long x4), .second, .val (.long x5), .second, .val (.int ((x1 &&& (3 : Int32)) + (1 : Int32))), .val (.int (x2 &&& (3 : Int32))), .val (.int (((x2 &&& (3 : Int32)) + (1 : Int32)) &&& (3 : Int32))), .val (.ref b1), .val (.long (x4 + x3)), .second] [(.long (((own_upd ((own_upd ((own_upd ((fun _ => (0 : Int64))) (x2 &&& (3 : Int32)) x4)) (((x2 &&& (3 : Int32)) + (1 : Int32)) &&& (3 : Int32)) x5)) (x2 &&& (3 : Int32)) (((own_upd ((own_upd ((fun _ => (0 : Int64))) (x2 &&& (3 : Int32)) x4)) (((x2 &&& (3 : Int32)) + (1 : Int32)) &&& (3 : Int32)) x5)) ((x2 &&& (3 : Int32))).toNatClampNeg + x3))) ((2 : Int32)).toNatClampNeg))])) _
    refine XS.iconst X11.here hx rfl (hb hby at_116) ?_
    show Steps p.tables e below (T11.setTop (mkF m 117 #[.val (.int x1), .val (.int x2), .val (.long x3), .second, .val (.long x4), .second, .val (.long x5), .second, .val (.int ((x1 &&& (3 : Int32)) + (1 : Int32))), .val (.int (x2 &&& (3 : Int32))), .val (.int (((x2 &&& (3 : Int32)) + (1 : Int32)) &&& (3 : Int32))), .val (.ref b1), .val (.long (x4 + x3)), .second] [(.int (2 : Int32)), (.long (((own_upd ((own_upd ((own_upd ((fun _ => (0 : Int64))) (x2 &&& (3 : Int32)) x4)) (((x2 &&& (3 : Int32)) + (1 : Int32)) &&& (3 : Int32)) x5)) (x2 &&& (3 : Int32)) (((own_upd ((own_upd ((fun _ => (0 : Int64))) (x2 &&& (3 : Int32)) x4)) (((x2 &&& (3 : Int32)) + (1 : Int32)) &&& (3 : Int32)) x5)) ((x2 &&& (3 : Int32))).toNatClampNeg + x3))) ((2 : Int32)).toNatClampNeg))])) _
    refine XS.iload X11.here hx rfl (hb hby at_117) rfl ?_
    show Steps p.tables e below (T11.setTop (mkF m 119 #[.val (.int x1), .val (.int x2), .val (.long x3), .second, .val (.long x4), .second, .val (.long x5), .second, .val (.int ((x1 &&& (3 : Int32)) + (1 : Int32))), .val (.int (x2 &&& (3 : Int32))), .val (.int (((x2 &&& (3 : Int32)) + (1 : Int32)) &&& (3 : Int32))), .val (.ref b1), .val (.long (x4 + x3)), .second] [(.int (x2 &&& (3 : Int32))), (.int (2 : Int32)), (.long (((own_upd ((own_upd ((own_upd ((fun _ => (0 : Int64))) (x2 &&& (3 : Int32)) x4)) (((x2 &&& (3 : Int32)) + (1 : Int32)) &&& (3 : Int32)) x5)) (x2 &&& (3 : Int32)) (((own_upd ((own_upd ((fun _ => (0 : Int64))) (x2 &&& (3 : Int32)) x4)) (((x2 &&& (3 : Int32)) + (1 : Int32)) &&& (3 : Int32)) x5)) ((x2 &&& (3 : Int32))).toNatClampNeg + x3))) ((2 : Int32)).toNatClampNeg))])) _
    refine XS.iload X11.here hx rfl (hb hby at_119) rfl ?_
    show Steps p.tables e below (T11.setTop (mkF m 121 #[.val (.int x1), .val (.int x2), .val (.long x3), .second, .val (.long x4), .second, .val (.long x5), .second, .val (.int ((x1 &&& (3 : Int32)) + (1 : Int32))), .val (.int (x2 &&& (3 : Int32))), .val (.int (((x2 &&& (3 : Int32)) + (1 : Int32)) &&& (3 : Int32))), .val (.ref b1), .val (.long (x4 + x3)), .second] [(.int (((x2 &&& (3 : Int32)) + (1 : Int32)) &&& (3 : Int32))), (.int (x2 &&& (3 : Int32))), (.int (2 : Int32)), (.long (((own_upd ((own_upd ((own_upd ((fun _ => (0 : Int64))) (x2 &&& (3 : Int32)) x4)) (((x2 &&& (3 : Int32)) + (1 : Int32)) &&& (3 : Int32)) x5)) (x2 &&& (3 : Int32)) (((own_upd ((own_upd ((fun _ => (0 : Int64))) (x2 &&& (3 : Int32)) x4)) (((x2 &&& (3 : Int32)) + (1 : Int32)) &&& (3 : Int32)) x5)) ((x2 &&& (3 : Int32))).toNatClampNeg + x3))) ((2 : Int32)).toNatClampNeg))])) _
    refine XS.lload X11.here hx rfl (hb hby at_121) rfl ?_
    show Steps p.tables e below (T11.setTop (mkF m 123 #[.val (.int x1), .val (.int x2), .val (.long x3), .second, .val (.long x4), .second, .val (.long x5), .second, .val (.int ((x1 &&& (3 : Int32)) + (1 : Int32))), .val (.int (x2 &&& (3 : Int32))), .val (.int (((x2 &&& (3 : Int32)) + (1 : Int32)) &&& (3 : Int32))), .val (.ref b1), .val (.long (x4 + x3)), .second] [(.long (x4 + x3)), (.int (((x2 &&& (3 : Int32)) + (1 : Int32)) &&& (3 : Int32))), (.int (x2 &&& (3 : Int32))), (.int (2 : Int32)), (.long (((own_upd ((own_upd ((own_upd ((fun _ => (0 : Int64))) (x2 &&& (3 : Int32)) x4)) (((x2 &&& (3 : Int32)) + (1 : Int32)) &&& (3 : Int32)) x5)) (x2 &&& (3 : Int32)) (((own_upd ((own_upd ((fun _ => (0 : Int64))) (x2 &&& (3 : Int32)) x4)) (((x2 &&& (3 : Int32)) + (1 : Int32)) &&& (3 : Int32)) x5)) ((x2 &&& (3 : Int32))).toNatClampNeg + x3))) ((2 : Int32)).toNatClampNeg))])) _
    refine XS.lload X11.here hx rfl (hb hby at_123) rfl ?_
    show Steps p.tables e below (T11.setTop (mkF m 125 #[.val (.int x1), .val (.int x2), .val (.long x3), .second, .val (.long x4), .second, .val (.long x5), .second, .val (.int ((x1 &&& (3 : Int32)) + (1 : Int32))), .val (.int (x2 &&& (3 : Int32))), .val (.int (((x2 &&& (3 : Int32)) + (1 : Int32)) &&& (3 : Int32))), .val (.ref b1), .val (.long (x4 + x3)), .second] [(.long x5), (.long (x4 + x3)), (.int (((x2 &&& (3 : Int32)) + (1 : Int32)) &&& (3 : Int32))), (.int (x2 &&& (3 : Int32))), (.int (2 : Int32)), (.long (((own_upd ((own_upd ((own_upd ((fun _ => (0 : Int64))) (x2 &&& (3 : Int32)) x4)) (((x2 &&& (3 : Int32)) + (1 : Int32)) &&& (3 : Int32)) x5)) (x2 &&& (3 : Int32)) (((own_upd ((own_upd ((fun _ => (0 : Int64))) (x2 &&& (3 : Int32)) x4)) (((x2 &&& (3 : Int32)) + (1 : Int32)) &&& (3 : Int32)) x5)) ((x2 &&& (3 : Int32))).toNatClampNeg + x3))) ((2 : Int32)).toNatClampNeg))])) _
    refine st12 _ ?_
    show Steps p.tables e below (T12.setTop (mkF m 128 #[.val (.int x1), .val (.int x2), .val (.long x3), .second, .val (.long x4), .second, .val (.long x5), .second, .val (.int ((x1 &&& (3 : Int32)) + (1 : Int32))), .val (.int (x2 &&& (3 : Int32))), .val (.int (((x2 &&& (3 : Int32)) + (1 : Int32)) &&& (3 : Int32))), .val (.ref b1), .val (.long (x4 + x3)), .second] [(.long (F8 (2 : Int32) (x2 &&& (3 : Int32)) (((x2 &&& (3 : Int32)) + (1 : Int32)) &&& (3 : Int32)) (x4 + x3) x5)), (.long (((own_upd ((own_upd ((own_upd ((fun _ => (0 : Int64))) (x2 &&& (3 : Int32)) x4)) (((x2 &&& (3 : Int32)) + (1 : Int32)) &&& (3 : Int32)) x5)) (x2 &&& (3 : Int32)) (((own_upd ((own_upd ((fun _ => (0 : Int64))) (x2 &&& (3 : Int32)) x4)) (((x2 &&& (3 : Int32)) + (1 : Int32)) &&& (3 : Int32)) x5)) ((x2 &&& (3 : Int32))).toNatClampNeg + x3))) ((2 : Int32)).toNatClampNeg))])) _
    refine XS.lcmp X12.here hx rfl (hb hby at_128) rfl ?_
    show Steps p.tables e below (T12.setTop (mkF m 129 #[.val (.int x1), .val (.int x2), .val (.long x3), .second, .val (.long x4), .second, .val (.long x5), .second, .val (.int ((x1 &&& (3 : Int32)) + (1 : Int32))), .val (.int (x2 &&& (3 : Int32))), .val (.int (((x2 &&& (3 : Int32)) + (1 : Int32)) &&& (3 : Int32))), .val (.ref b1), .val (.long (x4 + x3)), .second] [(.int (lcmpW (((own_upd ((own_upd ((own_upd ((fun _ => (0 : Int64))) (x2 &&& (3 : Int32)) x4)) (((x2 &&& (3 : Int32)) + (1 : Int32)) &&& (3 : Int32)) x5)) (x2 &&& (3 : Int32)) (((own_upd ((own_upd ((fun _ => (0 : Int64))) (x2 &&& (3 : Int32)) x4)) (((x2 &&& (3 : Int32)) + (1 : Int32)) &&& (3 : Int32)) x5)) ((x2 &&& (3 : Int32))).toNatClampNeg + x3))) ((2 : Int32)).toNatClampNeg) (F8 (2 : Int32) (x2 &&& (3 : Int32)) (((x2 &&& (3 : Int32)) + (1 : Int32)) &&& (3 : Int32)) (x4 + x3) x5)))])) _
    refine XS.ifNo X12.here hx rfl (hb hby at_129) rfl (own_leq (own_cell x2 x3 x4 x5 2 (by decide) : (((own_upd ((own_upd ((own_upd ((fun _ => (0 : Int64))) (x2 &&& (3 : Int32)) x4)) (((x2 &&& (3 : Int32)) + (1 : Int32)) &&& (3 : Int32)) x5)) (x2 &&& (3 : Int32)) (((own_upd ((own_upd ((fun _ => (0 : Int64))) (x2 &&& (3 : Int32)) x4)) (((x2 &&& (3 : Int32)) + (1 : Int32)) &&& (3 : Int32)) x5)) ((x2 &&& (3 : Int32))).toNatClampNeg + x3))) ((2 : Int32)).toNatClampNeg) = (F8 (2 : Int32) (x2 &&& (3 : Int32)) (((x2 &&& (3 : Int32)) + (1 : Int32)) &&& (3 : Int32)) (x4 + x3) x5))).2 ?_
    show Steps p.tables e below (T12.setTop (mkF m 132 #[.val (.int x1), .val (.int x2), .val (.long x3), .second, .val (.long x4), .second, .val (.long x5), .second, .val (.int ((x1 &&& (3 : Int32)) + (1 : Int32))), .val (.int (x2 &&& (3 : Int32))), .val (.int (((x2 &&& (3 : Int32)) + (1 : Int32)) &&& (3 : Int32))), .val (.ref b1), .val (.long (x4 + x3)), .second] [])) _
    refine XS.aload X12.here hx rfl (hb hby at_132) rfl rfl ?_
    show Steps p.tables e below (T12.setTop (mkF m 134 #[.val (.int x1), .val (.int x2), .val (.long x3), .second, .val (.long x4), .second, .val (.long x5), .second, .val (.int ((x1 &&& (3 : Int32)) + (1 : Int32))), .val (.int (x2 &&& (3 : Int32))), .val (.int (((x2 &&& (3 : Int32)) + (1 : Int32)) &&& (3 : Int32))), .val (.ref b1), .val (.long (x4 + x3)), .second] [(.ref b1)])) _
    refine XS.iconst X12.here hx rfl (hb hby at_134) ?_
    show Steps p.tables e below (T12.setTop (mkF m 135 #[.val (.int x1), .val (.int x2), .val (.long x3), .second, .val (.long x4), .second, .val (.long x5), .second, .val (.int ((x1 &&& (3 : Int32)) + (1 : Int32))), .val (.int (x2 &&& (3 : Int32))), .val (.int (((x2 &&& (3 : Int32)) + (1 : Int32)) &&& (3 : Int32))), .val (.ref b1), .val (.long (x4 + x3)), .second] [(.int (3 : Int32)), (.ref b1)])) _
    refine st13.trans ?_
    show Steps p.tables e below (T13.setTop (mkF m 138 #[.val (.int x1), .val (.int x2), .val (.long x3), .second, .val (.long x4), .second, .val (.long x5), .second, .val (.int ((x1 &&& (3 : Int32)) + (1 : Int32))), .val (.int (x2 &&& (3 : Int32))), .val (.int (((x2 &&& (3 : Int32)) + (1 : Int32)) &&& (3 : Int32))), .val (.ref b1), .val (.long (x4 + x3)), .second] [(.long (((own_upd ((own_upd ((own_upd ((fun _ => (0 : Int64))) (x2 &&& (3 : Int32)) x4)) (((x2 &&& (3 : Int32)) + (1 : Int32)) &&& (3 : Int32)) x5)) (x2 &&& (3 : Int32)) (((own_upd ((own_upd ((fun _ => (0 : Int64))) (x2 &&& (3 : Int32)) x4)) (((x2 &&& (3 : Int32)) + (1 : Int32)) &&& (3 : Int32)) x5)) ((x2 &&& (3 : Int32))).toNatClampNeg + x3))) ((3 : Int32)).toNatClampNeg))])) _
    refine XS.iconst X13.here hx rfl (hb hby at_138) ?_
    show Steps p.tables e below (T13.setTop (mkF m 139 #[.val (.int x1), .val (.int x2), .val (.long x3), .second, .val (.long x4), .second, .val (.long x5), .second, .val (.int ((x1 &&& (3 : Int32)) + (1 : Int32))), .val (.int (x2 &&& (3 : Int32))), .val (.int (((x2 &&& (3 : Int32)) + (1 : Int32)) &&& (3 : Int32))), .val (.ref b1), .val (.long (x4 + x3)), .second] [(.int (3 : Int32)), (.long (((own_upd ((own_upd ((own_upd ((fun _ => (0 : Int64))) (x2 &&& (3 : Int32)) x4)) (((x2 &&& (3 : Int32)) + (1 : Int32)) &&& (3 : Int32)) x5)) (x2 &&& (3 : Int32)) (((own_upd ((own_upd ((fun _ => (0 : Int64))) (x2 &&& (3 : Int32)) x4)) (((x2 &&& (3 : Int32)) + (1 : Int32)) &&& (3 : Int32)) x5)) ((x2 &&& (3 : Int32))).toNatClampNeg + x3))) ((3 : Int32)).toNatClampNeg))])) _
    refine XS.iload X13.here hx rfl (hb hby at_139) rfl ?_
    show Steps p.tables e below (T13.setTop (mkF m 141 #[.val (.int x1), .val (.int x2), .val (.long x3), .second, .val (.long x4), .second, .val (.long x5), .second, .val (.int ((x1 &&& (3 : Int32)) + (1 : Int32))), .val (.int (x2 &&& (3 : Int32))), .val (.int (((x2 &&& (3 : Int32)) + (1 : Int32)) &&& (3 : Int32))), .val (.ref b1), .val (.long (x4 + x3)), .second] [(.int (x2 &&& (3 : Int32))), (.int (3 : Int32)), (.long (((own_upd ((own_upd ((own_upd ((fun _ => (0 : Int64))) (x2 &&& (3 : Int32)) x4)) (((x2 &&& (3 : Int32)) + (1 : Int32)) &&& (3 : Int32)) x5)) (x2 &&& (3 : Int32)) (((own_upd ((own_upd ((fun _ => (0 : Int64))) (x2 &&& (3 : Int32)) x4)) (((x2 &&& (3 : Int32)) + (1 : Int32)) &&& (3 : Int32)) x5)) ((x2 &&& (3 : Int32))).toNatClampNeg + x3))) ((3 : Int32)).toNatClampNeg))])) _
    refine XS.iload X13.here hx rfl (hb hby at_141) rfl ?_
    show Steps p.tables e below (T13.setTop (mkF m 143 #[.val (.int x1), .val (.int x2), .val (.long x3), .second, .val (.long x4), .second, .val (.long x5), .second, .val (.int ((x1 &&& (3 : Int32)) + (1 : Int32))), .val (.int (x2 &&& (3 : Int32))), .val (.int (((x2 &&& (3 : Int32)) + (1 : Int32)) &&& (3 : Int32))), .val (.ref b1), .val (.long (x4 + x3)), .second] [(.int (((x2 &&& (3 : Int32)) + (1 : Int32)) &&& (3 : Int32))), (.int (x2 &&& (3 : Int32))), (.int (3 : Int32)), (.long (((own_upd ((own_upd ((own_upd ((fun _ => (0 : Int64))) (x2 &&& (3 : Int32)) x4)) (((x2 &&& (3 : Int32)) + (1 : Int32)) &&& (3 : Int32)) x5)) (x2 &&& (3 : Int32)) (((own_upd ((own_upd ((fun _ => (0 : Int64))) (x2 &&& (3 : Int32)) x4)) (((x2 &&& (3 : Int32)) + (1 : Int32)) &&& (3 : Int32)) x5)) ((x2 &&& (3 : Int32))).toNatClampNeg + x3))) ((3 : Int32)).toNatClampNeg))])) _
    refine XS.lload X13.here hx rfl (hb hby at_143) rfl ?_
    show Steps p.tables e below (T13.setTop (mkF m 145 #[.val (.int x1), .val (.int x2), .val (.long x3), .second, .val (.long x4), .second, .val (.long x5), .second, .val (.int ((x1 &&& (3 : Int32)) + (1 : Int32))), .val (.int (x2 &&& (3 : Int32))), .val (.int (((x2 &&& (3 : Int32)) + (1 : Int32)) &&& (3 : Int32))), .val (.ref b1), .val (.long (x4 + x3)), .second] [(.long (x4 + x3)), (.int (((x2 &&& (3 : Int32)) + (1 : Int32)) &&& (3 : Int32))), (.int (x2 &&& (3 : Int32))), (.int (3 : Int32)), (.long (((own_upd ((own_upd ((own_upd ((fun _ => (0 : Int64))) (x2 &&& (3 : Int32)) x4)) (((x2 &&& (3 : Int32)) + (1 : Int32)) &&& (3 : Int32)) x5)) (x2 &&& (3 : Int32)) (((own_upd ((own_upd ((fun _ => (0 : Int64))) (x2 &&& (3 : Int32)) x4)) (((x2 &&& (3 : Int32)) + (1 : Int32)) &&& (3 : Int32)) x5)) ((x2 &&& (3 : Int32))).toNatClampNeg + x3))) ((3 : Int32)).toNatClampNeg))])) _
    refine XS.lload X13.here hx rfl (hb hby at_145) rfl ?_
    show Steps p.tables e below (T13.setTop (mkF m 147 #[.val (.int x1), .val (.int x2), .val (.long x3), .second, .val (.long x4), .second, .val (.long x5), .second, .val (.int ((x1 &&& (3 : Int32)) + (1 : Int32))), .val (.int (x2 &&& (3 : Int32))), .val (.int (((x2 &&& (3 : Int32)) + (1 : Int32)) &&& (3 : Int32))), .val (.ref b1), .val (.long (x4 + x3)), .second] [(.long x5), (.long (x4 + x3)), (.int (((x2 &&& (3 : Int32)) + (1 : Int32)) &&& (3 : Int32))), (.int (x2 &&& (3 : Int32))), (.int (3 : Int32)), (.long (((own_upd ((own_upd ((own_upd ((fun _ => (0 : Int64))) (x2 &&& (3 : Int32)) x4)) (((x2 &&& (3 : Int32)) + (1 : Int32)) &&& (3 : Int32)) x5)) (x2 &&& (3 : Int32)) (((own_upd ((own_upd ((fun _ => (0 : Int64))) (x2 &&& (3 : Int32)) x4)) (((x2 &&& (3 : Int32)) + (1 : Int32)) &&& (3 : Int32)) x5)) ((x2 &&& (3 : Int32))).toNatClampNeg + x3))) ((3 : Int32)).toNatClampNeg))])) _
    refine st14 _ ?_
    show Steps p.tables e below (T14.setTop (mkF m 150 #[.val (.int x1), .val (.int x2), .val (.long x3), .second, .val (.long x4), .second, .val (.long x5), .second, .val (.int ((x1 &&& (3 : Int32)) + (1 : Int32))), .val (.int (x2 &&& (3 : Int32))), .val (.int (((x2 &&& (3 : Int32)) + (1 : Int32)) &&& (3 : Int32))), .val (.ref b1), .val (.long (x4 + x3)), .second] [(.long (F8 (3 : Int32) (x2 &&& (3 : Int32)) (((x2 &&& (3 : Int32)) + (1 : Int32)) &&& (3 : Int32)) (x4 + x3) x5)), (.long (((own_upd ((own_upd ((own_upd ((fun _ => (0 : Int64))) (x2 &&& (3 : Int32)) x4)) (((x2 &&& (3 : Int32)) + (1 : Int32)) &&& (3 : Int32)) x5)) (x2 &&& (3 : Int32)) (((own_upd ((own_upd ((fun _ => (0 : Int64))) (x2 &&& (3 : Int32)) x4)) (((x2 &&& (3 : Int32)) + (1 : Int32)) &&& (3 : Int32)) x5)) ((x2 &&& (3 : Int32))).toNatClampNeg + x3))) ((3 : Int32)).toNatClampNeg))])) _
    refine XS.lcmp X14.here hx rfl (hb hby at_150) rfl ?_
    show Steps p.tables e below (T14.setTop (mkF m 151 #[.val (.int x1), .val (.int x2), .val (.long x3), .second, .val (.long x4), .second, .val (.long x5), .second, .val (.int ((x1 &&& (3 : Int32)) + (1 : Int32))), .val (.int (x2 &&& (3 : Int32))), .val (.int (((x2 &&& (3 : Int32)) + (1 : Int32)) &&& (3 : Int32))), .val (.ref b1), .val (.long (x4 + x3)), .second] [(.int (lcmpW (((own_upd ((own_upd ((own_upd ((fun _ => (0 : Int64))) (x2 &&& (3 : Int32)) x4)) (((x2 &&& (3 : Int32)) + (1 : Int32)) &&& (3 : Int32)) x5)) (x2 &&& (3 : Int32)) (((own_upd ((own_upd ((fun _ => (0 : Int64))) (x2 &&& (3 : Int32)) x4)) (((x2 &&& (3 : Int32)) + (1 : Int32)) &&& (3 : Int32)) x5)) ((x2 &&& (3 : Int32))).toNatClampNeg + x3))) ((3 : Int32)).toNatClampNeg) (F8 (3 : Int32) (x2 &&& (3 : Int32)) (((x2 &&& (3 : Int32)) + (1 : Int32)) &&& (3 : Int32)) (x4 + x3) x5)))])) _
    refine XS.ifNo X14.here hx rfl (hb hby at_151) rfl (own_leq (own_cell x2 x3 x4 x5 3 (by decide) : (((own_upd ((own_upd ((own_upd ((fun _ => (0 : Int64))) (x2 &&& (3 : Int32)) x4)) (((x2 &&& (3 : Int32)) + (1 : Int32)) &&& (3 : Int32)) x5)) (x2 &&& (3 : Int32)) (((own_upd ((own_upd ((fun _ => (0 : Int64))) (x2 &&& (3 : Int32)) x4)) (((x2 &&& (3 : Int32)) + (1 : Int32)) &&& (3 : Int32)) x5)) ((x2 &&& (3 : Int32))).toNatClampNeg + x3))) ((3 : Int32)).toNatClampNeg) = (F8 (3 : Int32) (x2 &&& (3 : Int32)) (((x2 &&& (3 : Int32)) + (1 : Int32)) &&& (3 : Int32)) (x4 + x3) x5))).2 ?_
    show Steps p.tables e below (T14.setTop (mkF m 154 #[.val (.int x1), .val (.int x2), .val (.long x3), .second, .val (.long x4), .second, .val (.long x5), .second, .val (.int ((x1 &&& (3 : Int32)) + (1 : Int32))), .val (.int (x2 &&& (3 : Int32))), .val (.int (((x2 &&& (3 : Int32)) + (1 : Int32)) &&& (3 : Int32))), .val (.ref b1), .val (.long (x4 + x3)), .second] [])) _
    refine XS.aload X14.here hx rfl (hb hby at_154) rfl rfl ?_
    show Steps p.tables e below (T14.setTop (mkF m 156 #[.val (.int x1), .val (.int x2), .val (.long x3), .second, .val (.long x4), .second, .val (.long x5), .second, .val (.int ((x1 &&& (3 : Int32)) + (1 : Int32))), .val (.int (x2 &&& (3 : Int32))), .val (.int (((x2 &&& (3 : Int32)) + (1 : Int32)) &&& (3 : Int32))), .val (.ref b1), .val (.long (x4 + x3)), .second] [(.ref b1)])) _
    refine st15.trans ?_
    show Steps p.tables e below (T15.setTop (mkF m 159 #[.val (.int x1), .val (.int x2), .val (.long x3), .second, .val (.long x4), .second, .val (.long x5), .second, .val (.int ((x1 &&& (3 : Int32)) + (1 : Int32))), .val (.int (x2 &&& (3 : Int32))), .val (.int (((x2 &&& (3 : Int32)) + (1 : Int32)) &&& (3 : Int32))), .val (.ref b1), .val (.long (x4 + x3)), .second] [(.long (F9 (((((F3 (4 : Int64) ((x1 &&& (3 : Int32)) + (1 : Int32))))))) (((((((4 : Int64) - ((F3 (4 : Int64) ((x1 &&& (3 : Int32)) + (1 : Int32))).toInt64)).toInt32)))))))])) _
    refine X15.ldc2Long hx hown (mvT hZ (hw _ (List.mem_of_getElem? (i := 3) rfl))) (g := (mkF m 159 #[.val (.int x1), .val (.int x2), .val (.long x3), .second, .val (.long x4), .second, .val (.long x5), .second, .val (.int ((x1 &&& (3 : Int32)) + (1 : Int32))), .val (.int (x2 &&& (3 : Int32))), .val (.int (((x2 &&& (3 : Int32)) + (1 : Int32)) &&& (3 : Int32))), .val (.ref b1), .val (.long (x4 + x3)), .second] [(.long (F9 (((((F3 (4 : Int64) ((x1 &&& (3 : Int32)) + (1 : Int32))))))) (((((((4 : Int64) - ((F3 (4 : Int64) ((x1 &&& (3 : Int32)) + (1 : Int32))).toInt64)).toInt32)))))))])) rfl (hb hby at_159) _ ?_
    show Steps p.tables e below (T15.setTop (mkF m 162 #[.val (.int x1), .val (.int x2), .val (.long x3), .second, .val (.long x4), .second, .val (.long x5), .second, .val (.int ((x1 &&& (3 : Int32)) + (1 : Int32))), .val (.int (x2 &&& (3 : Int32))), .val (.int (((x2 &&& (3 : Int32)) + (1 : Int32)) &&& (3 : Int32))), .val (.ref b1), .val (.long (x4 + x3)), .second] [(.long (4 : Int64)), (.long (F9 (((((F3 (4 : Int64) ((x1 &&& (3 : Int32)) + (1 : Int32))))))) (((((((4 : Int64) - ((F3 (4 : Int64) ((x1 &&& (3 : Int32)) + (1 : Int32))).toInt64)).toInt32)))))))])) _
    refine XS.lcmp X15.here hx rfl (hb hby at_162) rfl ?_
    show Steps p.tables e below (T15.setTop (mkF m 163 #[.val (.int x1), .val (.int x2), .val (.long x3), .second, .val (.long x4), .second, .val (.long x5), .second, .val (.int ((x1 &&& (3 : Int32)) + (1 : Int32))), .val (.int (x2 &&& (3 : Int32))), .val (.int (((x2 &&& (3 : Int32)) + (1 : Int32)) &&& (3 : Int32))), .val (.ref b1), .val (.long (x4 + x3)), .second] [(.int (lcmpW (F9 (((((F3 (4 : Int64) ((x1 &&& (3 : Int32)) + (1 : Int32))))))) (((((((4 : Int64) - ((F3 (4 : Int64) ((x1 &&& (3 : Int32)) + (1 : Int32))).toInt64)).toInt32)))))) (4 : Int64)))])) _
    refine own_dia (u := ((1 : Int32) : Int32)) (v := (0 : Int32)) ((F9 (((((F3 (4 : Int64) ((x1 &&& (3 : Int32)) + (1 : Int32))))))) (((((((4 : Int64) - ((F3 (4 : Int64) ((x1 &&& (3 : Int32)) + (1 : Int32))).toInt64)).toInt32)))))) = (4 : Int64)) (fun z16 => (mkF m 171 #[.val (.int x1), .val (.int x2), .val (.long x3), .second, .val (.long x4), .second, .val (.long x5), .second, .val (.int ((x1 &&& (3 : Int32)) + (1 : Int32))), .val (.int (x2 &&& (3 : Int32))), .val (.int (((x2 &&& (3 : Int32)) + (1 : Int32)) &&& (3 : Int32))), .val (.ref b1), .val (.long (x4 + x3)), .second] [(.int z16)])) (fun hc16 k16 => ?_) (fun hc16 k16 => ?_) ?_
    · refine XS.ifNo X15.here hx rfl (hb hby at_163) rfl (own_leq hc16).2 ?_
      show Steps p.tables e below (T15.setTop (mkF m 166 #[.val (.int x1), .val (.int x2), .val (.long x3), .second, .val (.long x4), .second, .val (.long x5), .second, .val (.int ((x1 &&& (3 : Int32)) + (1 : Int32))), .val (.int (x2 &&& (3 : Int32))), .val (.int (((x2 &&& (3 : Int32)) + (1 : Int32)) &&& (3 : Int32))), .val (.ref b1), .val (.long (x4 + x3)), .second] [])) _
      refine XS.iconst X15.here hx rfl (hb hby at_166) ?_
      show Steps p.tables e below (T15.setTop (mkF m 167 #[.val (.int x1), .val (.int x2), .val (.long x3), .second, .val (.long x4), .second, .val (.long x5), .second, .val (.int ((x1 &&& (3 : Int32)) + (1 : Int32))), .val (.int (x2 &&& (3 : Int32))), .val (.int (((x2 &&& (3 : Int32)) + (1 : Int32)) &&& (3 : Int32))), .val (.ref b1), .val (.long (x4 + x3)), .second] [(.int (1 : Int32))])) _
      refine XS.goto X15.here hx rfl (pc0 := 167) (pc' := 171) rfl (hb hby at_167) (by decide) (by decide) ?_
      exact k16
    · refine XS.ifYes X15.here hx rfl (pc0 := 163) (pc' := 170) rfl (hb hby at_163) rfl (own_lne hc16).2 (by decide) (by decide) ?_
      show Steps p.tables e below (T15.setTop (mkF m 170 #[.val (.int x1), .val (.int x2), .val (.long x3), .second, .val (.long x4), .second, .val (.long x5), .second, .val (.int ((x1 &&& (3 : Int32)) + (1 : Int32))), .val (.int (x2 &&& (3 : Int32))), .val (.int (((x2 &&& (3 : Int32)) + (1 : Int32)) &&& (3 : Int32))), .val (.ref b1), .val (.long (x4 + x3)), .second] [])) _
      refine XS.iconst X15.here hx rfl (hb hby at_170) ?_
      exact k16
    -- meets at 171
    show Steps p.tables e below (T15.setTop (mkF m 171 #[.val (.int x1), .val (.int x2), .val (.long x3), .second, .val (.long x4), .second, .val (.long x5), .second, .val (.int ((x1 &&& (3 : Int32)) + (1 : Int32))), .val (.int (x2 &&& (3 : Int32))), .val (.int (((x2 &&& (3 : Int32)) + (1 : Int32)) &&& (3 : Int32))), .val (.ref b1), .val (.long (x4 + x3)), .second] [(.int (if (F9 (((((F3 (4 : Int64) ((x1 &&& (3 : Int32)) + (1 : Int32))))))) (((((((4 : Int64) - ((F3 (4 : Int64) ((x1 &&& (3 : Int32)) + (1 : Int32))).toInt64)).toInt32)))))) = (4 : Int64) then (1 : Int32) else (0 : Int32)))])) _
    exact retN X15 hx (t := .boolean) Bd.returns (by simp) (hb hby at_171) (by rw [own_nb (own_b01 (Or.inr rfl) (Or.inl rfl))]; exact hr)
  · show Q0 Z x1 x2 x3 x4 x5 h0 n0 _ T15.heap _
    rw [e15]
    exact ⟨rfl, N15⟩

theorem own_plain (x1 x2 : Int32) (x3 x4 x5 : Int64) : F0 x1 x2 x3 x4 x5 = 1 := if_pos (own_length x1)

set_option maxRecDepth 65536 in
set_option maxHeartbeats 40000000 in
theorem comes_1 {Post : Tables → Env → Array Value → State → Outcome → State → Prop} (hpost : ∀ tb e args s v u, (limb_1_1.after args s (.returned v) u = true ∧ limb_1_2.after args s (.returned v) u = true ∧ True) → FrameEnd s (.returned v) u (Jvm.fieldLocs frame_1_writes args s ++ Jvm.arrayLocs frame_1_arrays args s ++ Jvm.staticLocs frame_1_statics s) 16 128 → Post tb e args s (.returned v) u) :
    ArmFor flags0 classFile x code maxLocals ret World_1 tables_1 room_1 Calls_1 rest_1 Pre_1 Post := by
  intro l hfl _ _ p e ha hc hk s m args below hf hA hF happ hP
  obtain ⟨hcalls, hrest, hpre⟩ := hP
  obtain ⟨-, -, -, hnamed, -, -, -, hat⟩ := (Spec.applies_iff hf).mp happ
  obtain ⟨hg, hn⟩ := and_e (Cond.before_iff.mp (show (Jvm.Cond.and given_1 narrow_1).before args s = true from hpre))
  obtain ⟨hcount, t0⟩ := and_e hg
  obtain ⟨k0, t1⟩ := and_e t0
  obtain ⟨k1, t2⟩ := and_e t1
  obtain ⟨k2, t3⟩ := and_e t2
  obtain ⟨k3, t4⟩ := and_e t3
  have k4 := t4
  obtain ⟨w0, w1, w2, w3, w4, rfl⟩ : ∃ w0 w1 w2 w3 w4 : Value, args = #[w0, w1, w2, w3, w4] := by
    have hs : args.size = 5 := by simpa [Cond.value, given_1] using hcount
    obtain ⟨L⟩ := args
    match L, hs with
    | [w0, w1, w2, w3, w4], _ => exact ⟨w0, w1, w2, w3, w4, rfl⟩
  have hw := fun d (hd : d ∈ tables_1) => atoms_spec (ws := Jvm.Cond.code x code maxLocals ret :: tables_1) hat d (List.mem_cons_of_mem _ hd)
  obtain ⟨i0, ei0⟩ := is_v k0
  obtain rfl : w0 = (.int i0) := Option.some.inj ei0
  obtain ⟨i1, ei1⟩ := is_v k1
  obtain rfl : w1 = (.int i1) := Option.some.inj ei1
  obtain ⟨i2, ei2⟩ := isL_v k2
  obtain rfl : w2 = (.long i2) := Option.some.inj ei2
  obtain ⟨i3, ei3⟩ := isL_v k3
  obtain rfl : w3 = (.long i3) := Option.some.inj ei3
  obtain ⟨i4, ei4⟩ := isL_v k4
  obtain rfl : w4 = (.long i4) := Option.some.inj ei4
  obtain ⟨n, o, h1, h2, h3, _, L, rfl, ⟨hv, N⟩, hq⟩ := rm0 l s _ hw tables_1 i0 i1 i2 i3 i4 s.heap s.heap.size (Nat.le_refl _) p e ha hc hk s m _ below hf ((Spec.applies_iff_loose hf).mp happ).1 ⟨rfl, State.Warmed39.refl s, rfl⟩ trivial
  rw [own_plain i0 i1 i2 i3 i4] at hv
  subst hv
  refine ⟨n, _, h1, h2, h3, hpost _ _ _ _ _ _ ⟨Cond.after_iff.mpr rfl, Cond.after_iff.mpr (eq_i res_at (Term.int_eval (1)) rfl), trivial⟩ ⟨hq.1, hq.2.1, (hq.2.2.sift fun y hy => Or.inr (N y hy)).mono (by decide) (by decide)⟩⟩
theorem main_1_1 : Claimed_1_1 := comes_1 fun _ _ _ _ _ _ h hF => ⟨h.1, hF⟩
theorem main_1_2 : Claimed_1_2 := comes_1 fun _ _ _ _ _ _ h hF => ⟨h.2.1, hF⟩
end Jvm.Pilot.@@N@@
namespace Jvm.Pilot.@@N@@
open Jvm Jvm.ClassFile Sem Op Lib Jvm.Free Jvm.Stand Jvm.Pilot.@@N@@.Jvm.D
/-! MADE BY PROGRAM (witnessworld.py) out of the Statement's table words and the real class files: 13 classes; the members and pool entries that the words name. The judged class is class 1, her method 1. -/
namespace start1
open Jvm.ClassFile
def u (s : String) : CpInfo := .utf8 (stringToUtf16 s)
/-- a pool by its gaps: so many unusable entries, then the entry; so many at the end -/
def gap : Nat → List CpInfo → List CpInfo
  | 0, r => r
  | n + 1, r => .unusable :: gap n r
def poolList (es : List (Nat × CpInfo)) (last : Nat) : List CpInfo := es.foldr (fun e r => gap e.1 (e.2 :: r)) (gap last [])
def pool (es : List (Nat × CpInfo)) (last : Nat) : Array CpInfo := ⟨poolList es last⟩
def fileOf (pool : Array CpInfo) (this : Nat) (attrs : Array Attribute := #[]) (ms : Array MethodInfo := #[]) (fl : Nat := 33) (sup : Nat := 0) (ifs : Array Nat := #[]) (fds : Array FieldInfo := #[]) : ClassFile where
  minorVersion := 0
  majorVersion := 65
  constantPool := pool
  accessFlags := fl
  thisClass := this
  superClass := sup
  interfaces := ifs
  fields := fds
  methods := ms
  attributes := attrs
def plain (name : String) (sup : Option ClassId) : Class where
  name := name
  kind := .ordinary
  loader := none
  accessFlags := 33
  super := sup
  interfaces := #[]
  cf := none
  fields := #[]
  methods := #[]
  instanceTypes := #[]
  staticTypes := #[]
  resolved := #[]
  callSites := []
  init := .initialized
  statics := none
  mirror := none

def pool0 : Array CpInfo := pool [(5, u "<init>"), (0, u "()V"), (1, .class_ 10), (1, u "java/lang/Object")] 113

def k0c0 : Code := { maxStack := 0, maxLocals := 1, code := object_method_1_code, exceptionTable := #[], attributes := #[] }
def k0m0 : Method := { name := "<init>", desc := "()V", sig := { parameters := [], returnType := none }, accessFlags := 1, code := some k0c0 }
/-- java/lang/Object -/
def k0 : Class := { plain "java/lang/Object" none with
  accessFlags := 33
  interfaces := #[]
  cf := some (fileOf pool0 8 #[] #[{ accessFlags := 1, nameIndex := 5, descriptorIndex := 6, attributes := #[] }] 33 0 #[] #[])
  fields := #[]
  methods := #[k0m0]
  instanceTypes := #[]
  staticTypes := #[]
  resolved := Array.replicate 124 none
  statics := none }

def pool1 : Array CpInfo := pool [(2, .class_ 4), (1, u "java/lang/Object"), (0, u "<init>"), (0, u "()V"), (0, .class_ 8), (0, u "com/example/wedgestone/wedgestone/algorithm/LongTable"), (0, .long 4), (1, .methodref 7 12), (0, .nameAndType 5 13), (0, u "(JI)V"), (0, .methodref 7 15), (0, .nameAndType 16 17), (0, u "set"), (0, u "(IJ)V"), (0, .methodref 7 19), (0, .nameAndType 20 17), (0, u "add"), (0, .methodref 7 22), (0, .nameAndType 23 24), (0, u "get"), (0, u "(I)J"), (0, .methodref 26 27), (0, .class_ 28), (0, .nameAndType 29 30), (0, u "com/example/wedgestone/wedgestone/algorithm/LongTableAddPinLaw"), (0, u "expect"), (0, u "(IIIJJ)J"), (0, .methodref 7 32), (0, .nameAndType 33 34), (0, u "length"), (0, u "()J"), (2, u "law"), (0, u "(IIJJJ)Z")] 3

def k1m0 : Method := { name := "<init>", desc := "()V", sig := { parameters := [], returnType := none }, accessFlags := 1, code := none }
def k1c1 : Code := { maxStack := 9, maxLocals := 14, code := code, exceptionTable := #[], attributes := #[] }
def k1m1 : Method := { name := "law", desc := "(IIJJJ)Z", sig := { parameters := [.int, .int, .long, .long, .long], returnType := some .boolean }, accessFlags := 9, code := some k1c1 }
def k1c2 : Code := { maxStack := 2, maxLocals := 7, code := method_3_code, exceptionTable := #[], attributes := #[] }
def k1m2 : Method := { name := "expect", desc := "(IIIJJ)J", sig := { parameters := [.int, .int, .int, .long, .long], returnType := some .long }, accessFlags := 10, code := some k1c2 }
/-- com/example/wedgestone/wedgestone/algorithm/LongTableAddPinLaw -/
def k1 : Class := { plain "com/example/wedgestone/wedgestone/algorithm/LongTableAddPinLaw" (some 0) with
  accessFlags := 49
  interfaces := #[]
  cf := some (fileOf pool1 26 #[] #[{ accessFlags := 1, nameIndex := 5, descriptorIndex := 6, attributes := #[] }, { accessFlags := 9, nameIndex := 37, descriptorIndex := 38, attributes := #[] }, { accessFlags := 10, nameIndex := 29, descriptorIndex := 30, attributes := #[] }] 49 2 #[] #[])
  fields := #[]
  methods := #[k1m0, k1m1, k1m2]
  instanceTypes := #[]
  staticTypes := #[]
  resolved := Array.replicate 42 none
  statics := none }

def pool2 : Array CpInfo := pool [(5, .class_ 7), (1, u "com/example/wedgestone/wedgestone/algorithm/LongTable"), (0, u "<init>"), (0, u "(JI)V"), (0, .methodref 11 12), (0, .class_ 13), (0, .nameAndType 8 14), (0, u "java/lang/Object"), (0, u "()V"), (0, .methodref 16 17), (0, .class_ 18), (0, .nameAndType 19 20), (0, u "com/example/wedgestone/wedgestone/algorithm/Tables"), (0, u "headLength"), (0, u "(JI)I"), (0, .fieldref 5 22), (0, .nameAndType 23 24), (0, u "head"), (0, u "[J"), (0, .fieldref 5 26), (0, .nameAndType 27 24), (0, u "tail"), (13, u "set"), (0, u "(IJ)V"), (7, u "length"), (0, u "()J"), (0, u "get"), (0, u "(I)J"), (1, u "add")] 4

def k2c0 : Code := { maxStack := 5, maxLocals := 5, code := prog_19_method_2_code, exceptionTable := #[], attributes := #[] }
def k2m0 : Method := { name := "<init>", desc := "(JI)V", sig := { parameters := [.long, .int], returnType := none }, accessFlags := 0, code := some k2c0 }
def k2c1 : Code := { maxStack := 4, maxLocals := 1, code := prog_19_method_3_code, exceptionTable := #[], attributes := #[] }
def k2m1 : Method := { name := "length", desc := "()J", sig := { parameters := [], returnType := some .long }, accessFlags := 1, code := some k2c1 }
def k2c2 : Code := { maxStack := 3, maxLocals := 2, code := prog_19_method_4_code, exceptionTable := #[], attributes := #[] }
def k2m2 : Method := { name := "get", desc := "(I)J", sig := { parameters := [.int], returnType := some .long }, accessFlags := 1, code := some k2c2 }
def k2c3 : Code := { maxStack := 4, maxLocals := 4, code := prog_19_method_5_code, exceptionTable := #[], attributes := #[] }
def k2m3 : Method := { name := "set", desc := "(IJ)V", sig := { parameters := [.int, .long], returnType := none }, accessFlags := 1, code := some k2c3 }
def k2c4 : Code := { maxStack := 6, maxLocals := 4, code := prog_19_method_6_code, exceptionTable := #[], attributes := #[] }
def k2m4 : Method := { name := "add", desc := "(IJ)V", sig := { parameters := [.int, .long], returnType := none }, accessFlags := 1, code := some k2c4 }
/-- com/example/wedgestone/wedgestone/algorithm/LongTable -/
def k2 : Class := { plain "com/example/wedgestone/wedgestone/algorithm/LongTable" (some 0) with
  accessFlags := 49
  interfaces := #[]
  cf := some (fileOf pool2 5 #[] #[{ accessFlags := 0, nameIndex := 8, descriptorIndex := 9, attributes := #[] }, { accessFlags := 1, nameIndex := 50, descriptorIndex := 51, attributes := #[] }, { accessFlags := 1, nameIndex := 52, descriptorIndex := 53, attributes := #[] }, { accessFlags := 1, nameIndex := 41, descriptorIndex := 42, attributes := #[] }, { accessFlags := 1, nameIndex := 55, descriptorIndex := 42, attributes := #[] }] 49 11 #[] #[{ accessFlags := 18, nameIndex := 23, descriptorIndex := 24, attributes := #[] }, { accessFlags := 18, nameIndex := 27, descriptorIndex := 24, attributes := #[] }])
  fields := #[{ name := "head", type := (.array .long), accessFlags := 18, slot := 0, constantValue := 0 }, { name := "tail", type := (.array .long), accessFlags := 18, slot := 1, constantValue := 0 }]
  methods := #[k2m0, k2m1, k2m2, k2m3, k2m4]
  instanceTypes := #[(.array .long), (.array .long)]
  staticTypes := #[]
  resolved := Array.replicate 60 none
  statics := none }

def pool3 : Array CpInfo := pool [(2, .class_ 4), (1, u "java/lang/Object"), (0, u "<init>"), (0, u "()V"), (0, .class_ 8), (0, u "com/example/wedgestone/wedgestone/algorithm/Tables"), (0, .long 2147483648), (10, .methodref 21 22), (0, .class_ 23), (0, .nameAndType 24 25), (0, u "java/lang/Math"), (0, u "min"), (0, u "(JJ)J"), (0, u "MAX_LENGTH"), (0, u "J"), (3, u "headLength"), (0, u "(JI)I")] 18

def k3m0 : Method := { name := "<init>", desc := "()V", sig := { parameters := [], returnType := none }, accessFlags := 2, code := none }
def k3c1 : Code := { maxStack := 5, maxLocals := 3, code := prog_30_method_2_code, exceptionTable := #[], attributes := #[] }
def k3m1 : Method := { name := "headLength", desc := "(JI)I", sig := { parameters := [.long, .int], returnType := some .int }, accessFlags := 8, code := some k3c1 }
/-- com/example/wedgestone/wedgestone/algorithm/Tables -/
def k3 : Class := { plain "com/example/wedgestone/wedgestone/algorithm/Tables" (some 0) with
  accessFlags := 48
  interfaces := #[]
  cf := some (fileOf pool3 7 #[] #[{ accessFlags := 2, nameIndex := 5, descriptorIndex := 6, attributes := #[] }, { accessFlags := 8, nameIndex := 31, descriptorIndex := 32, attributes := #[] }] 48 2 #[] #[{ accessFlags := 24, nameIndex := 26, descriptorIndex := 27, attributes := #[] }])
  fields := #[{ name := "MAX_LENGTH", type := .long, accessFlags := 24, slot := 0, constantValue := 0 }]
  methods := #[k3m0, k3m1]
  instanceTypes := #[]
  staticTypes := #[.long]
  resolved := Array.replicate 51 none
  statics := none }

def pool4 : Array CpInfo := pool [(1, .class_ 2), (0, u "java/lang/Math"), (1, .class_ 6), (1, u "java/lang/Object"), (0, u "<init>"), (0, u "()V"), (89, .class_ 100), (1, u "java/lang/Math$RandomNumberGeneratorHolder"), (20, u "(JJ)J"), (50, u "negativeZeroFloatBits"), (0, u "J"), (2, u "negativeZeroDoubleBits"), (24, u "min"), (43, u "$assertionsDisabled"), (0, u "Z"), (91, u "twoToTheDoubleScaleDown"), (0, u "D"), (4, u "twoToTheDoubleScaleUp"), (9, u "E"), (3, u "PI"), (2, u "TAU"), (2, u "DEGREES_TO_RADIANS"), (0, u "RADIANS_TO_DEGREES")] 94

def k4m0 : Method := { name := "<init>", desc := "()V", sig := { parameters := [], returnType := none }, accessFlags := 2, code := none }
def k4c1 : Code := { maxStack := 4, maxLocals := 4, code := jdk_29_method_70_code, exceptionTable := #[], attributes := #[] }
def k4m1 : Method := { name := "min", desc := "(JJ)J", sig := { parameters := [.long, .long], returnType := some .long }, accessFlags := 9, code := some k4c1 }
/-- java/lang/Math -/
def k4 : Class := { plain "java/lang/Math" (some 0) with
  accessFlags := 49
  interfaces := #[]
  cf := some (fileOf pool4 1 #[.nestMembers #[98]] #[{ accessFlags := 2, nameIndex := 7, descriptorIndex := 8, attributes := #[] }, { accessFlags := 9, nameIndex := 201, descriptorIndex := 121, attributes := #[] }] 49 4 #[] #[{ accessFlags := 25, nameIndex := 354, descriptorIndex := 339, attributes := #[] }, { accessFlags := 25, nameIndex := 358, descriptorIndex := 339, attributes := #[] }, { accessFlags := 25, nameIndex := 361, descriptorIndex := 339, attributes := #[] }, { accessFlags := 26, nameIndex := 364, descriptorIndex := 339, attributes := #[] }, { accessFlags := 26, nameIndex := 365, descriptorIndex := 339, attributes := #[] }, { accessFlags := 26, nameIndex := 172, descriptorIndex := 173, attributes := #[] }, { accessFlags := 26, nameIndex := 176, descriptorIndex := 173, attributes := #[] }, { accessFlags := 8, nameIndex := 344, descriptorIndex := 339, attributes := #[] }, { accessFlags := 8, nameIndex := 338, descriptorIndex := 339, attributes := #[] }, { accessFlags := 4120, nameIndex := 245, descriptorIndex := 246, attributes := #[] }])
  fields := #[{ name := "E", type := .double, accessFlags := 25, slot := 0, constantValue := 0 }, { name := "PI", type := .double, accessFlags := 25, slot := 1, constantValue := 0 }, { name := "TAU", type := .double, accessFlags := 25, slot := 2, constantValue := 0 }, { name := "DEGREES_TO_RADIANS", type := .double, accessFlags := 26, slot := 3, constantValue := 0 }, { name := "RADIANS_TO_DEGREES", type := .double, accessFlags := 26, slot := 4, constantValue := 0 }, { name := "negativeZeroFloatBits", type := .long, accessFlags := 26, slot := 5, constantValue := 0 }, { name := "negativeZeroDoubleBits", type := .long, accessFlags := 26, slot := 6, constantValue := 0 }, { name := "twoToTheDoubleScaleUp", type := .double, accessFlags := 8, slot := 7, constantValue := 0 }, { name := "twoToTheDoubleScaleDown", type := .double, accessFlags := 8, slot := 8, constantValue := 0 }, { name := "$assertionsDisabled", type := .boolean, accessFlags := 4120, slot := 9, constantValue := 0 }]
  methods := #[k4m0, k4m1]
  instanceTypes := #[]
  staticTypes := #[.double, .double, .double, .double, .double, .long, .long, .double, .double, .boolean]
  resolved := Array.replicate 460 none
  statics := none }

def pool5 : Array CpInfo := pool [(1, u "java/lang/Cloneable"), (0, .class_ 1), (0, u "java/lang/Object"), (0, .class_ 3)] 3

/-- java/lang/Cloneable -/
def k5 : Class := { plain "java/lang/Cloneable" (some 0) with
  accessFlags := 1537
  interfaces := #[]
  cf := some (fileOf pool5 2 #[] #[] 1537 4 #[] #[])
  fields := #[]
  methods := #[]
  instanceTypes := #[]
  staticTypes := #[]
  resolved := Array.replicate 8 none
  statics := none }

def pool6 : Array CpInfo := pool [(1, u "java/io/Serializable"), (0, .class_ 1), (0, u "java/lang/Object"), (0, .class_ 3)] 3

/-- java/io/Serializable -/
def k6 : Class := { plain "java/io/Serializable" (some 0) with
  accessFlags := 1537
  interfaces := #[]
  cf := some (fileOf pool6 2 #[] #[] 1537 4 #[] #[])
  fields := #[]
  methods := #[]
  instanceTypes := #[]
  staticTypes := #[]
  resolved := Array.replicate 8 none
  statics := none }

/-- the primitive byte -/
def k7 : Class := { plain "byte" none with kind := .primitive 'B', accessFlags := 0x411 }
/-- [B -/
def k8 : Class := { plain "[B" (some 0) with kind := .array 7 .byte, interfaces := #[5, 6], accessFlags := 1041 }

/-- the primitive int -/
def k9 : Class := { plain "int" none with kind := .primitive 'I', accessFlags := 0x411 }
/-- [I -/
def k10 : Class := { plain "[I" (some 0) with kind := .array 9 .int, interfaces := #[5, 6], accessFlags := 1041 }

/-- the primitive long -/
def k11 : Class := { plain "long" none with kind := .primitive 'J', accessFlags := 0x411 }
/-- [J -/
def k12 : Class := { plain "[J" (some 0) with kind := .array 11 .long, interfaces := #[5, 6], accessFlags := 1041 }

def heap : Heap := #[]
def classes : Array Class := #[k0, k1, k2, k3, k4, k5, k6, k7, k8, k9, k10, k11, k12]
def interned : List (Array UInt16 × Addr) := []
def slotsUsed : Nat := 0
def theMethod : MethodId := ⟨1, 1⟩
def args0 : Array Value := #[.int 5, .int 5, .long 7, .long 7, .long 7]
def aboutOver (below : List Frame) : State where
  vm := { classes := classes, interned := interned.toArray }
  heap := heap
  slotsUsed := slotsUsed
  threads := #[{ frames := .invoking theMethod args0 :: below }]
def below0 : List Frame := [.native { method := ⟨0, 0⟩, args := #[] }]
def about1 : State := aboutOver below0
def p0 : Program := .bare "" "" ""
def e0 : Env := launch0.env 0 0 0
theorem w_frames : about1.frames = Frame.invoking theMethod args0 :: below0 := rfl
set_option maxRecDepth 65536 in
theorem w_args : argsFit about1.vm theMethod args0 = true := by decide +kernel
set_option maxRecDepth 65536 in
theorem w_heap : heapFits about1 = true := by decide +kernel
set_option maxRecDepth 65536 in
theorem w_runnable : about1.curStatus? = some .runnable := by decide +kernel
set_option maxRecDepth 65536 in
theorem w_alone : about1.alone = true := by decide +kernel
set_option maxRecDepth 65536 in
theorem w_named : about1.methodNamed? x = some theMethod := by decide +kernel
set_option maxRecDepth 65536 in
theorem w_hears : about1.hears theMethod below0 = true := by decide +kernel
set_option maxRecDepth 65536 in
theorem w_ripe : about1.ripe theMethod args0 below0 = true := by decide +kernel
theorem w_running : about1.status = .running := rfl
set_option maxRecDepth 65536 in
theorem w_room : about1.hasRoom e0.platform room_1 = true :=
  launch0.hasRoom_least _ room_1 (by decide +kernel) (by decide +kernel) (by decide +kernel) (by decide +kernel) (by decide +kernel) (by decide +kernel)
theorem allAtoms_all (ts : List Jvm.Cond) (a : Array Jvm.Value) (st : Jvm.State) : (allAtoms ts).before a st = ts.all (fun c => c.before a st) := by
  induction ts with
  | nil => rfl
  | cons c t ih =>
    show (Jvm.Cond.and c (allAtoms t)).before a st = _
    rw [Jvm.Cond.before_and, ih, List.all_cons]
def words1 : List Jvm.Cond := Jvm.Cond.code x code maxLocals ret :: tables_1
/-- a 'code' word, met by the world's own term for the bytes: nothing is compared byte by byte -/
theorem code_word {y : MethodName} {bytes : ByteArray} {mx : Nat} {rt : Option FieldType} {a : Array Value} {s : State} {m : MethodId} {meth : Method} {c : Code} (h1 : s.methodNamed? y = some m) (h2 : s.vm.method? m = some meth) (h3 : meth.code = some c) (h4 : c.code = bytes)
    (h5 : (c.maxLocals == mx && c.exceptionTable.isEmpty && decide (c.maxStack ≤ mostOperands) && decide (meth.sig.returnType = rt) && !meth.locks && decide (parseMethodDescriptor y.desc = some meth.sig)) = true) : (Jvm.Cond.code y bytes mx rt).before a s = true := by
  simp only [Bool.and_eq_true, beq_iff_eq, Bool.not_eq_true', decide_eq_true_eq] at h5
  obtain ⟨⟨⟨⟨⟨g1, g2⟩, g3⟩, g4⟩, g5⟩, g6⟩ := h5
  simp [Cond.before, Cond.holds, Cond.value, h1, h2, h3, h4, g1, g2, g3, g4, g5, g6]
def isCode : Jvm.Cond → Bool
  | .code _ _ _ _ => true
  | _ => false
theorem all_split {L : List Jvm.Cond} {P : Jvm.Cond → Bool} (h1 : L.all (fun c => isCode c || P c) = true) (h2 : ∀ c ∈ L.filter isCode, P c = true) : L.all P = true := by
  refine List.all_eq_true.mpr fun c hc => ?_
  have h := List.all_eq_true.mp h1 c hc
  rcases Bool.eq_false_or_eq_true (isCode c) with hi | hi
  · exact h2 c (List.mem_filter.mpr ⟨hc, hi⟩)
  · simpa [hi] using h
set_option maxRecDepth 65536 in
theorem w_c0 : (Jvm.Cond.code x code maxLocals ret).before args0 about1 = true := code_word (m := ⟨1, 1⟩) (meth := k1m1) (c := k1c1) (by decide +kernel) rfl rfl rfl (by decide +kernel)
set_option maxRecDepth 65536 in
theorem w_c1 : (Jvm.Cond.code ({ cls := "com/example/wedgestone/wedgestone/algorithm/LongTable", name := "<init>", desc := "(JI)V" } : Jvm.MethodName) prog_19_method_2_code (5 : Nat) (Option.none : Option Jvm.ClassFile.FieldType)).before args0 about1 = true := code_word (m := ⟨2, 0⟩) (meth := k2m0) (c := k2c0) (by decide +kernel) rfl rfl rfl (by decide +kernel)
set_option maxRecDepth 65536 in
theorem w_c2 : (Jvm.Cond.code ({ cls := "java/lang/Object", name := "<init>", desc := "()V" } : Jvm.MethodName) object_method_1_code (1 : Nat) (Option.none : Option Jvm.ClassFile.FieldType)).before args0 about1 = true := code_word (m := ⟨0, 0⟩) (meth := k0m0) (c := k0c0) (by decide +kernel) rfl rfl rfl (by decide +kernel)
set_option maxRecDepth 65536 in
theorem w_c3 : (Jvm.Cond.code ({ cls := "com/example/wedgestone/wedgestone/algorithm/Tables", name := "headLength", desc := "(JI)I" } : Jvm.MethodName) prog_30_method_2_code (3 : Nat) (Option.some Jvm.ClassFile.FieldType.int)).before args0 about1 = true := code_word (m := ⟨3, 1⟩) (meth := k3m1) (c := k3c1) (by decide +kernel) rfl rfl rfl (by decide +kernel)
set_option maxRecDepth 65536 in
theorem w_c4 : (Jvm.Cond.code ({ cls := "java/lang/Math", name := "min", desc := "(JJ)J" } : Jvm.MethodName) jdk_29_method_70_code (4 : Nat) (Option.some Jvm.ClassFile.FieldType.long)).before args0 about1 = true := code_word (m := ⟨4, 1⟩) (meth := k4m1) (c := k4c1) (by decide +kernel) rfl rfl rfl (by decide +kernel)
set_option maxRecDepth 65536 in
theorem w_c5 : (Jvm.Cond.code ({ cls := "com/example/wedgestone/wedgestone/algorithm/LongTable", name := "set", desc := "(IJ)V" } : Jvm.MethodName) prog_19_method_5_code (4 : Nat) (Option.none : Option Jvm.ClassFile.FieldType)).before args0 about1 = true := code_word (m := ⟨2, 3⟩) (meth := k2m3) (c := k2c3) (by decide +kernel) rfl rfl rfl (by decide +kernel)
set_option maxRecDepth 65536 in
theorem w_c6 : (Jvm.Cond.code ({ cls := "com/example/wedgestone/wedgestone/algorithm/LongTable", name := "add", desc := "(IJ)V" } : Jvm.MethodName) prog_19_method_6_code (4 : Nat) (Option.none : Option Jvm.ClassFile.FieldType)).before args0 about1 = true := code_word (m := ⟨2, 4⟩) (meth := k2m4) (c := k2c4) (by decide +kernel) rfl rfl rfl (by decide +kernel)
set_option maxRecDepth 65536 in
theorem w_c7 : (Jvm.Cond.code ({ cls := "com/example/wedgestone/wedgestone/algorithm/LongTable", name := "get", desc := "(I)J" } : Jvm.MethodName) prog_19_method_4_code (2 : Nat) (Option.some Jvm.ClassFile.FieldType.long)).before args0 about1 = true := code_word (m := ⟨2, 2⟩) (meth := k2m2) (c := k2c2) (by decide +kernel) rfl rfl rfl (by decide +kernel)
set_option maxRecDepth 65536 in
theorem w_c8 : (Jvm.Cond.code ({ cls := "com/example/wedgestone/wedgestone/algorithm/LongTableAddPinLaw", name := "expect", desc := "(IIIJJ)J" } : Jvm.MethodName) method_3_code (7 : Nat) (Option.some Jvm.ClassFile.FieldType.long)).before args0 about1 = true := code_word (m := ⟨1, 2⟩) (meth := k1m2) (c := k1c2) (by decide +kernel) rfl rfl rfl (by decide +kernel)
set_option maxRecDepth 65536 in
theorem w_c9 : (Jvm.Cond.code ({ cls := "com/example/wedgestone/wedgestone/algorithm/LongTable", name := "length", desc := "()J" } : Jvm.MethodName) prog_19_method_3_code (1 : Nat) (Option.some Jvm.ClassFile.FieldType.long)).before args0 about1 = true := code_word (m := ⟨2, 1⟩) (meth := k2m1) (c := k2c1) (by decide +kernel) rfl rfl rfl (by decide +kernel)
def codes1 : List Jvm.Cond := [Jvm.Cond.code x code maxLocals ret, Jvm.Cond.code ({ cls := "com/example/wedgestone/wedgestone/algorithm/LongTable", name := "<init>", desc := "(JI)V" } : Jvm.MethodName) prog_19_method_2_code (5 : Nat) (Option.none : Option Jvm.ClassFile.FieldType), Jvm.Cond.code ({ cls := "java/lang/Object", name := "<init>", desc := "()V" } : Jvm.MethodName) object_method_1_code (1 : Nat) (Option.none : Option Jvm.ClassFile.FieldType), Jvm.Cond.code ({ cls := "com/example/wedgestone/wedgestone/algorithm/Tables", name := "headLength", desc := "(JI)I" } : Jvm.MethodName) prog_30_method_2_code (3 : Nat) (Option.some Jvm.ClassFile.FieldType.int), Jvm.Cond.code ({ cls := "java/lang/Math", name := "min", desc := "(JJ)J" } : Jvm.MethodName) jdk_29_method_70_code (4 : Nat) (Option.some Jvm.ClassFile.FieldType.long), Jvm.Cond.code ({ cls := "com/example/wedgestone/wedgestone/algorithm/LongTable", name := "set", desc := "(IJ)V" } : Jvm.MethodName) prog_19_method_5_code (4 : Nat) (Option.none : Option Jvm.ClassFile.FieldType), Jvm.Cond.code ({ cls := "com/example/wedgestone/wedgestone/algorithm/LongTable", name := "add", desc := "(IJ)V" } : Jvm.MethodName) prog_19_method_6_code (4 : Nat) (Option.none : Option Jvm.ClassFile.FieldType), Jvm.Cond.code ({ cls := "com/example/wedgestone/wedgestone/algorithm/LongTable", name := "get", desc := "(I)J" } : Jvm.MethodName) prog_19_method_4_code (2 : Nat) (Option.some Jvm.ClassFile.FieldType.long), Jvm.Cond.code ({ cls := "com/example/wedgestone/wedgestone/algorithm/LongTableAddPinLaw", name := "expect", desc := "(IIIJJ)J" } : Jvm.MethodName) method_3_code (7 : Nat) (Option.some Jvm.ClassFile.FieldType.long), Jvm.Cond.code ({ cls := "com/example/wedgestone/wedgestone/algorithm/LongTable", name := "length", desc := "()J" } : Jvm.MethodName) prog_19_method_3_code (1 : Nat) (Option.some Jvm.ClassFile.FieldType.long)]
set_option maxRecDepth 65536 in
theorem codes_eq : words1.filter isCode = codes1 := rfl
theorem w_codes : ∀ c ∈ words1.filter isCode, c.before args0 about1 = true := by
  rw [codes_eq]
  intro c hc
  simp only [codes1, List.mem_cons, List.not_mem_nil, or_false] at hc
  rcases hc with rfl | rfl | rfl | rfl | rfl | rfl | rfl | rfl | rfl | rfl
  · exact w_c0
  · exact w_c1
  · exact w_c2
  · exact w_c3
  · exact w_c4
  · exact w_c5
  · exact w_c6
  · exact w_c7
  · exact w_c8
  · exact w_c9
set_option maxRecDepth 65536 in
theorem w_t1 : (words1.take 24).all (fun c => isCode c || c.before args0 about1) = true := by decide +kernel
set_option maxRecDepth 65536 in
theorem w_t2 : ((words1.drop 24).take 24).all (fun c => isCode c || c.before args0 about1) = true := by decide +kernel
set_option maxRecDepth 65536 in
theorem w_t3 : ((words1.drop 24).drop 24).all (fun c => isCode c || c.before args0 about1) = true := by decide +kernel
theorem w_tables : (allAtoms (Jvm.Cond.code x code maxLocals ret :: tables_1)).before args0 about1 = true := by
  rw [allAtoms_all]
  show words1.all (fun c => c.before args0 about1) = true
  refine all_split ?_ w_codes
  rw [← List.take_append_drop 24 words1, List.all_append, w_t1, ← List.take_append_drop 24 (words1.drop 24), List.all_append, w_t2, w_t3]
  rfl
set_option maxRecDepth 65536 in
theorem w_case : (Jvm.Cond.and given_1 narrow_1).before args0 about1 = true := by decide +kernel
theorem w_applies : (headSpec (Jvm.Cond.code x code maxLocals ret :: tables_1) room_1).applies x e0.platform about1 = true :=
  (Spec.applies_iff w_frames).mpr ⟨w_running, w_runnable, w_alone, w_named, w_hears, w_ripe, w_room, w_tables⟩
theorem atStart : AtStart classFile x code maxLocals ret World_1 tables_1 room_1 Calls_1 rest_1 Pre_1 launch0 p0 e0 about1 theMethod args0 below0 :=
  ⟨lists_1, trivial, launch0.admits_env _ _ _, launch0.least_env, fairChoices_fair.cas, fairChoices_fair.clock, w_frames, w_args, w_heap, w_applies, trivial, trivial, w_case⟩
end start1
theorem witness_1 : WitnessClaimed_1 := ⟨start1.p0, start1.e0, start1.about1, start1.theMethod, start1.args0, start1.below0, start1.atStart⟩
end Jvm.Pilot.@@N@@
