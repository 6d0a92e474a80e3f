import JvmDerived
import JvmDerived.Pilot.@@N@@Statement
import JvmDerived.Pilot.@@N@@Code
set_option linter.unusedVariables false
set_option linter.unusedSimpArgs false
@@BLOCK:NumsL.lean.txt@@
namespace Jvm.RoadKit
open Sem ClassFile Op Lib Jvm.Stand Jvm.Free Jvm.LawKit
section New
variable {p : Program} {l : Launch} {e : Env} {R : Room} {s : State} {m : MethodId} {args : Array Value} {below : List Frame} {meth : Method} {c : Code} {T : State} {locs : List Loc} {cells slots : Nat}
theorem retI (X : Stand p l e R s m args below meth c T locs cells slots) (hx : p.tables.exec = Jvm.exec) {pc : Nat} {Ls : Array Slot} {z : Int32} {rest : List Value} (hret : meth.sig.returnType = some .int) (hd : decode c.code pc = .ok (.ireturn, 1)) {fs : List Frame}
    (hl : ∀ (f : JFrame) (acts : List Action), f.method = m → f.locked = none → f.entered = [] → (doReturn e (T.setTop f) acts (some (.int z))).1 = T.setFrames fs) : Steps p.tables e below (T.setTop (mkF m pc Ls (.int z :: rest))) (T.setFrames fs) := by
  have hm' : T.vm.method? m = some meth := X.method'
  have hn : narrow .int (.int z) = .int z := rfl
  show Steps p.tables e below (T.setTop { method := m, pc := pc, locals := Ls, stack := _ :: rest, locked := none }) _
  jvm_step X.here [X.here.top, hx, hd, hm', hret, hn]
  first | (intro acts; rw [hl _ acts rfl rfl rfl]) | rw [hl _ _ rfl rfl rfl]
  exact Steps.refl _
end New
theorem own_dia {tb : Tables} {e : Env} {below : List Frame} {T tgt : State} {g : JFrame} {A : Type} {u v : A} (q : Prop) [Decidable q] (f : A → JFrame)
    (h1 : q → Steps tb e below (T.setTop (f u)) tgt → Steps tb e below (T.setTop g) tgt) (h0 : ¬ q → Steps tb e below (T.setTop (f v)) tgt → Steps tb e below (T.setTop g) tgt)
    (k : Steps tb e below (T.setTop (f (if q then u else v))) tgt) : Steps tb e below (T.setTop g) tgt := by
  by_cases hq : q
  · rw [if_pos hq] at k; exact h1 hq k
  · rw [if_neg hq] at k; exact h0 hq k
theorem own_cast {tb : Tables} {e : Env} {below : List Frame} {T tgt : State} {A : Type} {u v : A} (f : A → JFrame) (h : u = v) (k : Steps tb e below (T.setTop (f v)) tgt) : Steps tb e below (T.setTop (f u)) tgt := h ▸ k
theorem own_llt {x y : Int64} (h : x < y) : ifCond.holds .lt (lcmpW x y) = true ∧ ifCond.holds .ge (lcmpW x y) = false := by
  rw [if0, if0]; exact ⟨(tlt ((lw_lt x y).mpr h)).1, (tlt ((lw_lt x y).mpr h)).2.1⟩
theorem own_lge {x y : Int64} (h : ¬ x < y) : ifCond.holds .lt (lcmpW x y) = false ∧ ifCond.holds .ge (lcmpW x y) = true := by
  rw [if0, if0]; exact ⟨(flt fun q => h ((lw_lt x y).mp q)).1, (flt fun q => h ((lw_lt x y).mp q)).2.1⟩
theorem own_lgt {x y : Int64} (h : y < x) : ifCond.holds .gt (lcmpW x y) = true ∧ ifCond.holds .le (lcmpW x y) = false := by
  rw [if0, if0]; exact ⟨(tlt ((lw_gt x y).mpr h)).2.2.1, (tlt ((lw_gt x y).mpr h)).2.2.2⟩
theorem own_lle {x y : Int64} (h : ¬ y < x) : ifCond.holds .gt (lcmpW x y) = false ∧ ifCond.holds .le (lcmpW x y) = true := by
  rw [if0, if0]; exact ⟨(flt fun q => h ((lw_gt x y).mp q)).2.2.1, (flt fun q => h ((lw_gt x y).mp q)).2.2.2⟩
theorem own_leq {x y : Int64} (h : x = y) : ifCond.holds .eq (lcmpW x y) = true ∧ ifCond.holds .ne (lcmpW x y) = false := by
  rw [if0, if0]; exact ⟨(teq ((lw_eq x y).mpr h)).1, (teq ((lw_eq x y).mpr h)).2⟩
theorem own_lne {x y : Int64} (h : ¬ x = y) : ifCond.holds .eq (lcmpW x y) = false ∧ ifCond.holds .ne (lcmpW x y) = true := by
  rw [if0, if0]; exact ⟨(feq fun q => h ((lw_eq x y).mp q)).1, (feq fun q => h ((lw_eq x y).mp q)).2⟩
theorem own_bt {q : Prop} [Decidable q] (h : q) : ifCond.holds .ne (if q then (1 : Int32) else (0 : Int32)) = true ∧ ifCond.holds .eq (if q then (1 : Int32) else (0 : Int32)) = false := by
  rw [if_pos h]; exact ⟨rfl, rfl⟩
theorem own_bf {q : Prop} [Decidable q] (h : ¬ q) : ifCond.holds .ne (if q then (1 : Int32) else (0 : Int32)) = false ∧ ifCond.holds .eq (if q then (1 : Int32) else (0 : Int32)) = true := by
  rw [if_neg h]; exact ⟨rfl, rfl⟩
theorem own_ct {q : Prop} [Decidable q] (h : q) : ifCond.holds .ne (if q then (0 : Int32) else (1 : Int32)) = false ∧ ifCond.holds .eq (if q then (0 : Int32) else (1 : Int32)) = true := by
  rw [if_pos h]; exact ⟨rfl, rfl⟩
theorem own_cf {q : Prop} [Decidable q] (h : ¬ q) : ifCond.holds .ne (if q then (0 : Int32) else (1 : Int32)) = true ∧ ifCond.holds .eq (if q then (0 : Int32) else (1 : Int32)) = false := by
  rw [if_neg h]; exact ⟨rfl, rfl⟩
theorem own_b01 {q : Prop} [Decidable q] {x y : Int32} (hx : x = 0 ∨ x = 1) (hy : y = 0 ∨ y = 1) : (if q then x else y) = 0 ∨ (if q then x else y) = 1 := by
  split <;> assumption
def Arf (Z : State) (h : Heap) (a : Addr) (ty : FieldType) (n : Int32) (f : Nat → Value) : Prop :=
  ∃ c : Cell, Arr Z h a c ty ∧ c.slots.size = n.toNatClampNeg ∧ ¬ n < 0 ∧ ∀ i, i < n.toNatClampNeg → c.slots[i]? = some (f i)
theorem Arf.lt {Z : State} {h : Heap} {a : Addr} {ty : FieldType} {n : Int32} {f : Nat → Value} (F : Arf Z h a ty n f) : a < h.size := by
  obtain ⟨c, A, -⟩ := F; exact A.lt
theorem Arf.ext {Z : State} {h h' : Heap} {a : Addr} {ty : FieldType} {n : Int32} {f : Nat → Value} (F : Arf Z h a ty n f) (E : Ext h h') : Arf Z h' a ty n f := by
  obtain ⟨c, A, r⟩ := F; exact ⟨c, A.ext E, r⟩
theorem Arf.other {Z : State} {h h' : Heap} {a b : Addr} {sl : Nat} {v : Value} {ty : FieldType} {n : Int32} {f : Nat → Value} (F : Arf Z h b ty n f) (W : Wr h h' a sl v) (q : b ≠ a) : Arf Z h' b ty n f := by
  obtain ⟨c, A, r⟩ := F; exact ⟨c, A.other W q, r⟩
theorem Arf.keep {Z : State} {h h' : Heap} {a : Addr} {ws : List Addr} {ty : FieldType} {n : Int32} {f : Nat → Value} (F : Arf Z h a ty n f) (K : Keep h h' ws) (q : a ∉ ws) : Arf Z h' a ty n f := by
  obtain ⟨c, A, r⟩ := F; exact ⟨c, ⟨K.2.1 a c A.1 q, A.2⟩, r⟩
theorem own_arf_new {Z : State} {h : Heap} {a : Addr} {k : ClassId} {ty : FieldType} {z : Int32} (A : Arr Z h a (newA k ty z) ty) (q : ¬ z < 0) : Arf Z h a ty z (fun _ => defaultValue ty) :=
  ⟨_, A, sz_new _ _ _, q, fun i hi => by simp [newA, hi]⟩
theorem own_arf_set {Z : State} {h h' : Heap} {a : Addr} {ty : FieldType} {n : Int32} {f : Nat → Value} {j : Nat} {v : Value} (F : Arf Z h a ty n f) (W : Wr h h' a j v) : Arf Z h' a ty n (fun i => if i = j then v else f i) := by
  obtain ⟨c, A, S, M, H⟩ := F
  refine ⟨_, A.same W, by rw [sz_set]; exact S, M, fun i hi => ?_⟩
  show _ = some (if i = j then v else f i)
  by_cases u : i = j
  · subst u; rw [if_pos rfl]; rw [← S] at hi; simp [Cell.setSlot, hi]
  · rw [if_neg u]; have := H i hi; simp only [Cell.setSlot]; rw [Array.getElem?_setIfInBounds_ne (Ne.symm u)]; exact this
theorem own_arf_fn {Z : State} {h : Heap} {a : Addr} {ty : FieldType} {n : Int32} {f g : Nat → Value} (F : Arf Z h a ty n f) (q : ∀ i, i < n.toNatClampNeg → f i = g i) : Arf Z h a ty n g := by
  obtain ⟨c, A, S, M, H⟩ := F
  exact ⟨c, A, S, M, fun i hi => by rw [← q i hi]; exact H i hi⟩
theorem own_arf_setI {Z : State} {h h' : Heap} {a : Addr} {ty : FieldType} {n : Int32} {f : Nat → Int32} {j : Nat} {v : Int32} (F : Arf Z h a ty n (fun i => Value.int (f i))) (W : Wr h h' a j (.int v)) : Arf Z h' a ty n (fun i => Value.int (if i = j then v else f i)) :=
  own_arf_fn (own_arf_set F W) fun i _ => by by_cases u : i = j <;> simp [u]
theorem own_arf_setL {Z : State} {h h' : Heap} {a : Addr} {ty : FieldType} {n : Int32} {f : Nat → Int64} {j : Nat} {v : Int64} (F : Arf Z h a ty n (fun i => Value.long (f i))) (W : Wr h h' a j (.long v)) : Arf Z h' a ty n (fun i => Value.long (if i = j then v else f i)) :=
  own_arf_fn (own_arf_set F W) fun i _ => by by_cases u : i = j <;> simp [u]
theorem own_arf_at {c : Cell} {n j : Int32} {f : Nat → Value} (H : ∀ i, i < n.toNatClampNeg → c.slots[i]? = some (f i)) (S : c.slots.size = n.toNatClampNeg) (q : ¬ (j < 0 ∨ c.slots.size ≤ j.toNatClampNeg)) : c.slots[j.toNatClampNeg]? = some (f j.toNatClampNeg) :=
  H _ (by rw [← S]; exact Nat.lt_of_not_le fun y => q (Or.inr y))
theorem own_nb {x : Int32} (h : x = 0 ∨ x = 1) : nar .boolean x = x := by
  rcases h with rfl | rfl <;> rfl
end Jvm.RoadKit
namespace Jvm.Pilot.@@N@@
open Jvm Jvm.ClassFile Sem Op Lib Jvm.Free Jvm.Stand Jvm.LawKit Jvm.RoadKit Bundle Jvm.Pilot.@@N@@.Jvm.D
theorem d1_0 : decode prog_78_method_2_code 0 = .ok (.lload_n 0, 1) := by decide +kernel
theorem d1_1 : decode prog_78_method_2_code 1 = .ok (.lconst 0, 1) := by decide +kernel
theorem d1_2 : decode prog_78_method_2_code 2 = .ok (.lcmp, 1) := by decide +kernel
theorem d1_3 : decode prog_78_method_2_code 3 = .ok (.ifCond .lt 15, 3) := by decide +kernel
theorem d1_6 : decode prog_78_method_2_code 6 = .ok (.lload_n 0, 1) := by decide +kernel
theorem d1_7 : decode prog_78_method_2_code 7 = .ok (.ldc2_w 31, 3) := by decide +kernel
theorem d1_10 : decode prog_78_method_2_code 10 = .ok (.lcmp, 1) := by decide +kernel
theorem d1_11 : decode prog_78_method_2_code 11 = .ok (.ifCond .gt 7, 3) := by decide +kernel
theorem d1_14 : decode prog_78_method_2_code 14 = .ok (.iconst 1, 1) := by decide +kernel
theorem d1_15 : decode prog_78_method_2_code 15 = .ok (.goto 4, 3) := by decide +kernel
theorem d1_18 : decode prog_78_method_2_code 18 = .ok (.iconst 0, 1) := by decide +kernel
theorem d1_19 : decode prog_78_method_2_code 19 = .ok (.ireturn, 1) := by decide +kernel
theorem pn_1 : plainName "com/example/threadkeep/threadkeep/store/TokenUsage" = true := by first | (simp [plainName, overriddenIn]; done) | decide +kernel
theorem ef_1 (m : MethodId) (vt : Int64) : entryFrame m #[(.long vt)] 2 = mkF m 0 #[.val (.long vt), .second] [] := by first | (simp [entryFrame, mkF, argsToLocals, Value.category]; done) | rfl
def F1 (vt : Int64) : Int32 := (if vt < (0 : Int64) then (0 : Int32) else (if (2147483647 : Int64) < vt then (0 : Int32) else (1 : Int32)))
def Q1 (Z : State) (vt : Int64) (h0 : Heap) (n0 : Nat) (v : Option Value) (h : Heap) (L : List Loc) : Prop := v = some (.int (F1 vt)) ∧ Fr n0 L ∧ h = h0
set_option maxRecDepth 65536 in
set_option maxHeartbeats 40000000 in
theorem rm1 (l : Launch) (Z : State) (a0 : Array Value) (hw : ∀ d ∈ tables_1, d.before a0 Z = true) (ws : List Jvm.Cond) (vt : Int64) (h0 : Heap) (n0 : Nat) (Z0 : n0 ≤ h0.size)  :
    MetFree l (⟨"com/example/threadkeep/threadkeep/store/TokenUsage", "isCount", "(J)Z"⟩ : MethodName) (head1 (Jvm.Cond.code (⟨"com/example/threadkeep/threadkeep/store/TokenUsage", "isCount", "(J)Z"⟩ : MethodName) prog_78_method_2_code 2 (some .boolean) :: ws) ({ frames := 0, cells := 0, slots := 0, locals := 0 } : Room)) (fun a U => a = #[(.long vt)] ∧ Z.Warmed39 U.vm ∧ U.heap = h0) (fun _ _ _ _ _ => True) (fun _ U o U' => ∃ v L, o = .returned v ∧ Q1 Z vt h0 n0 v U'.heap L ∧ FrameEnd U o U' L ({ frames := 0, cells := 0, slots := 0, locals := 0 } : Room).cells ({ frames := 0, cells := 0, slots := 0, locals := 0 } : Room).slots) := by
  refine MetFree.of_bodySF (plainFor_of_name pn_1) hisR ?_
  intro p e s m args below meth c s₁ Bd hml0 hP hK
  obtain ⟨rfl, hZ, hh⟩ := hP
  have hx := Bd.exec
  have hby := Bd.bytes
  have hml : c.maxLocals = 2 := hml0
  have hown : s.vm.findClass "com/example/threadkeep/threadkeep/store/TokenUsage" = some m.cls := findClass_of_methodNamed Bd.named
  have hnm := (name_of_methodNamed Bd.named Bd.method).1
  have X0 : Stand p l e ({ frames := 0, cells := 0, slots := 0, locals := 0 } : Room) s m #[(.long vt)] below meth c s₁ [] 0 0 := Stand.of_body Bd
  have e0 : s₁.heap = h0 := by rw [← hh, Bd.state]; rfl
  have N0 := Fr.nil n0
  have pre0 : ∀ t, Steps p.tables e below (s₁.setTop (mkF m 0 #[.val (.long vt), .second] [])) t → Steps p.tables e below (s₁.setTop (entryFrame m #[(.long vt)] 2)) t := fun t k => castTop (ef_1 m vt) k
  obtain ⟨fs, hr, hrun, hended, hW, hsame⟩ := X0.leave (v := some (.int (if vt < (0 : Int64) then (0 : Int32) else (if (2147483647 : Int64) < vt then (0 : Int32) else (1 : Int32))))) (fun h => by rw [Bd.returns] at h; cases h)
  refine ⟨_, _, pre0 _ ?_, hrun, hended, _, _, rfl, ?_, ⟨_, rfl⟩, hW, hsame.mono (by decide) (by decide)⟩
  · show Steps p.tables e below (s₁.setTop (mkF m 0 #[.val (.long vt), .second] [])) _
    refine XS.lloadN X0.here hx rfl (hb hby d1_0) rfl ?_
    show Steps p.tables e below (s₁.setTop (mkF m 1 #[.val (.long vt), .second] [(.long vt)])) _
    refine XS.lconst X0.here hx rfl (hb hby d1_1) ?_
    show Steps p.tables e below (s₁.setTop (mkF m 2 #[.val (.long vt), .second] [(.long (0 : Int64)), (.long vt)])) _
    refine XS.lcmp X0.here hx rfl (hb hby d1_2) rfl ?_
    show Steps p.tables e below (s₁.setTop (mkF m 3 #[.val (.long vt), .second] [(.int (lcmpW vt (0 : Int64)))])) _
    refine own_dia (u := ((0 : Int32) : Int32)) (v := (if (2147483647 : Int64) < vt then (0 : Int32) else (1 : Int32))) (vt < (0 : Int64)) (fun z1 => (mkF m 19 #[.val (.long vt), .second] [(.int z1)])) (fun hc1 k1 => ?_) (fun hc1 k1 => ?_) ?_
    · refine XS.ifYes X0.here hx rfl (pc0 := 3) (pc' := 18) rfl (hb hby d1_3) rfl (own_llt hc1).1 (by decide) (by decide) ?_
      show Steps p.tables e below (s₁.setTop (mkF m 18 #[.val (.long vt), .second] [])) _
      refine XS.iconst X0.here hx rfl (hb hby d1_18) ?_
      exact k1
    · refine XS.ifNo X0.here hx rfl (hb hby d1_3) rfl (own_lge hc1).1 ?_
      show Steps p.tables e below (s₁.setTop (mkF m 6 #[.val (.long vt), .second] [])) _
      refine XS.lloadN X0.here hx rfl (hb hby d1_6) rfl ?_
      show Steps p.tables e below (s₁.setTop (mkF m 7 #[.val (.long vt), .second] [(.long vt)])) _
      refine X0.ldc2Long hx hown (mvT hZ (hw _ (List.mem_of_getElem? (i := 4) rfl))) (g := (mkF m 7 #[.val (.long vt), .second] [(.long vt)])) rfl (hb hby d1_7) _ ?_
      show Steps p.tables e below (s₁.setTop (mkF m 10 #[.val (.long vt), .second] [(.long (2147483647 : Int64)), (.long vt)])) _
      refine XS.lcmp X0.here hx rfl (hb hby d1_10) rfl ?_
      show Steps p.tables e below (s₁.setTop (mkF m 11 #[.val (.long vt), .second] [(.int (lcmpW vt (2147483647 : Int64)))])) _
      refine own_dia (u := ((0 : Int32) : Int32)) (v := (1 : Int32)) ((2147483647 : Int64) < vt) (fun z2 => (mkF m 19 #[.val (.long vt), .second] [(.int z2)])) (fun hc2 k2 => ?_) (fun hc2 k2 => ?_) ?_
      · refine XS.ifYes X0.here hx rfl (pc0 := 11) (pc' := 18) rfl (hb hby d1_11) rfl (own_lgt hc2).1 (by decide) (by decide) ?_
        show Steps p.tables e below (s₁.setTop (mkF m 18 #[.val (.long vt), .second] [])) _
        refine XS.iconst X0.here hx rfl (hb hby d1_18) ?_
        exact k2
      · refine XS.ifNo X0.here hx rfl (hb hby d1_11) rfl (own_lle hc2).1 ?_
        show Steps p.tables e below (s₁.setTop (mkF m 14 #[.val (.long vt), .second] [])) _
        refine XS.iconst X0.here hx rfl (hb hby d1_14) ?_
        show Steps p.tables e below (s₁.setTop (mkF m 15 #[.val (.long vt), .second] [(.int (1 : Int32))])) _
        refine XS.goto X0.here hx rfl (pc0 := 15) (pc' := 19) rfl (hb hby d1_15) (by decide) (by decide) ?_
        exact k2
      -- meets at 19
      exact k1
    -- meets at 19
    show Steps p.tables e below (s₁.setTop (mkF m 19 #[.val (.long vt), .second] [(.int (if vt < (0 : Int64) then (0 : Int32) else (if (2147483647 : Int64) < vt then (0 : Int32) else (1 : Int32))))])) _
    exact retN X0 hx (t := .boolean) Bd.returns (by simp) (hb hby d1_19) (by rw [own_nb (own_b01 (Or.inl rfl) (own_b01 (Or.inl rfl) (Or.inr rfl)))]; exact hr)
  · show Q1 Z vt h0 n0 _ s₁.heap _
    rw [e0]
    exact ⟨rfl, N0, rfl⟩
theorem pd_0 : parseMethodDescriptor "(J)Z" = some ⟨[.long], some .boolean⟩ := by decide +kernel
theorem pn_0 : plainName "com/example/threadkeep/threadkeep/store/TokenUsageIsCountPinLaw" = true := by first | (simp [plainName, overriddenIn]; done) | decide +kernel
theorem ef_0 (m : MethodId) (x1 : Int64) (x2 : Int32) : entryFrame m #[(.long x1), (.int x2)] maxLocals = mkF m 0 #[.val (.long x1), .second, .val (.int x2), .unset, .unset, .unset, .unset, .unset] [] := by first | (simp [entryFrame, mkF, argsToLocals, Value.category, maxLocals]; done) | rfl
def F0 (x1 : Int64) (x2 : Int32) : Int32 := (if (F1 x1) = (if ((x1.toUInt64 >>> ((31 : Int32) &&& 0x3f).toInt64.toUInt64).toInt64) = (0 : Int64) then (1 : Int32) else (0 : Int32)) then (if (F1 (((x2 &&& (7 : Int32)) - (4 : Int32)).toInt64)) = (if (((x2 &&& (7 : Int32)) - (4 : Int32)).toInt64) < (0 : Int64) then (0 : Int32) else (1 : Int32)) then (if (F1 ((2147483647 : Int64) + (((x2 &&& (7 : Int32)) - (4 : Int32)).toInt64))) = (if (0 : Int64) < (((x2 &&& (7 : Int32)) - (4 : Int32)).toInt64) then (0 : Int32) else (1 : Int32)) then (1 : Int32) else (0 : Int32)) else (0 : Int32)) else (0 : Int32))
def Q0 (Z : State) (x1 : Int64) (x2 : Int32) (h0 : Heap) (n0 : Nat) (v : Option Value) (h : Heap) (L : List Loc) : Prop := v = some (.int (F0 x1 x2)) ∧ Fr n0 L
set_option maxRecDepth 65536 in
set_option maxHeartbeats 40000000 in
theorem rm0 (l : Launch) (Z : State) (a0 : Array Value) (hw : ∀ d ∈ tables_1, d.before a0 Z = true) (ws : List Jvm.Cond) (x1 : Int64) (x2 : Int32) (h0 : Heap) (n0 : Nat) (Z0 : n0 ≤ h0.size)  :
    MetFree l x (head1 (Jvm.Cond.code x code maxLocals ret :: ws) room_1) (fun a U => a = #[(.long x1), (.int x2)] ∧ Z.Warmed39 U.vm ∧ U.heap = h0) (fun _ _ _ _ _ => True) (fun _ U o U' => ∃ v L, o = .returned v ∧ Q0 Z x1 x2 h0 n0 v U'.heap L ∧ FrameEnd U o U' L room_1.cells room_1.slots) := by
  refine MetFree.of_bodySF (plainFor_of_name pn_0) hisR ?_
  intro p e s m args below meth c s₁ Bd hml0 hP hK
  obtain ⟨rfl, hZ, hh⟩ := hP
  have hx := Bd.exec
  have hby := Bd.bytes
  have hml : c.maxLocals = 8 := hml0
  have hown : s.vm.findClass "com/example/threadkeep/threadkeep/store/TokenUsageIsCountPinLaw" = some m.cls := findClass_of_methodNamed Bd.named
  have hnm := (name_of_methodNamed Bd.named Bd.method).1
  have X0 : Stand p l e room_1 s m #[(.long x1), (.int x2)] below meth c s₁ [] 0 0 := Stand.of_body Bd
  have e0 : s₁.heap = h0 := by rw [← hh, Bd.state]; rfl
  have N0 := Fr.nil n0
  have pre0 : ∀ t, Steps p.tables e below (s₁.setTop (mkF m 0 #[.val (.long x1), .second, .val (.int x2), .unset, .unset, .unset, .unset, .unset] [])) t → Steps p.tables e below (s₁.setTop (entryFrame m #[(.long x1), (.int x2)] maxLocals)) t := fun t k => castTop (ef_0 m x1 x2) k
  obtain ⟨_, _, ⟨T1, L1, k1, n1⟩, -, X1, ⟨Lc1, hQ1, l1, y1, z1⟩, st1⟩ := Jvm.LawKit.callS X0 hx (y := (⟨"com/example/threadkeep/threadkeep/store/TokenUsage", "isCount", "(J)Z"⟩ : MethodName)) hown (mvT hZ (hw _ (List.mem_of_getElem? (i := 0) rfl))) (mvT hZ (hw _ (List.mem_of_getElem? (i := 1) rfl))) (mvT hZ (hw _ (List.mem_of_getElem? (i := 2) rfl))) (mvT hZ (hw _ (List.mem_of_getElem? (i := 3) rfl))) (by decide) (backOf (W := 0) (rm1 l Z a0 hw [] x1  h0 n0 Z0 ) hZ (hw _ (List.mem_of_getElem? (i := 3) rfl)) (hw _ (List.mem_of_getElem? (i := 2) rfl)) (by decide) (by decide)) (g := (mkF m 1 #[.val (.long x1), .second, .val (.int x2), .unset, .unset, .unset, .unset, .unset] [(.long x1)])) rfl (by rw [hml]; rfl) (argsL := [(.long x1)]) (rest := []) (lenOf pd_0 rfl) rfl (by show 2 * 0 + _ ≤ _; exact Nat.le_of_eq rfl) (hb hby at_1) (fun _ _ => ⟨rfl, e0, (by decide : 0 + 0 ≤ _), (by decide : 0 + 0 ≤ _)⟩)
  dsimp only [Pt.U, Pt.locs, Pt.cells, Pt.slots] at X1 l1 y1 z1 st1 hQ1
  subst l1 y1 z1
  obtain ⟨rfl, N1q, e1⟩ := hQ1
  have N1 := Fr.app N0 N1q
  obtain ⟨_, _, ⟨T4, L4, k4, n4⟩, -, X4, ⟨Lc4, hQ4, l4, y4, z4⟩, st4⟩ := Jvm.LawKit.callS X1 hx (y := (⟨"com/example/threadkeep/threadkeep/store/TokenUsage", "isCount", "(J)Z"⟩ : MethodName)) hown (mvT hZ (hw _ (List.mem_of_getElem? (i := 0) rfl))) (mvT hZ (hw _ (List.mem_of_getElem? (i := 1) rfl))) (mvT hZ (hw _ (List.mem_of_getElem? (i := 2) rfl))) (mvT hZ (hw _ (List.mem_of_getElem? (i := 3) rfl))) (by decide) (backOf (W := 0) (rm1 l Z a0 hw [] (((x2 &&& (7 : Int32)) - (4 : Int32)).toInt64)  h0 n0 Z0 ) hZ (hw _ (List.mem_of_getElem? (i := 3) rfl)) (hw _ (List.mem_of_getElem? (i := 2) rfl)) (by decide) (by decide)) (g := (mkF m 38 #[.val (.long x1), .second, .val (.int x2), .val (.int (if (F1 x1) = (if ((x1.toUInt64 >>> ((31 : Int32) &&& 0x3f).toInt64.toUInt64).toInt64) = (0 : Int64) then (1 : Int32) else (0 : Int32)) then (1 : Int32) else (0 : Int32))), .val (.long (((x2 &&& (7 : Int32)) - (4 : Int32)).toInt64)), .second, .unset, .unset] [(.long (((x2 &&& (7 : Int32)) - (4 : Int32)).toInt64))])) rfl (by rw [hml]; rfl) (argsL := [(.long (((x2 &&& (7 : Int32)) - (4 : Int32)).toInt64))]) (rest := []) (lenOf pd_0 rfl) rfl (by show 2 * 0 + _ ≤ _; exact Nat.le_of_eq rfl) (hb hby at_38) (fun _ _ => ⟨rfl, e1, (by decide : 0 + 0 ≤ _), (by decide : 0 + 0 ≤ _)⟩)
  dsimp only [Pt.U, Pt.locs, Pt.cells, Pt.slots] at X4 l4 y4 z4 st4 hQ4
  subst l4 y4 z4
  obtain ⟨rfl, N4q, e4⟩ := hQ4
  have N4 := Fr.app N1 N4q
  obtain ⟨_, _, ⟨T7, L7, k7, n7⟩, -, X7, ⟨Lc7, hQ7, l7, y7, z7⟩, st7⟩ := Jvm.LawKit.callS X4 hx (y := (⟨"com/example/threadkeep/threadkeep/store/TokenUsage", "isCount", "(J)Z"⟩ : MethodName)) hown (mvT hZ (hw _ (List.mem_of_getElem? (i := 0) rfl))) (mvT hZ (hw _ (List.mem_of_getElem? (i := 1) rfl))) (mvT hZ (hw _ (List.mem_of_getElem? (i := 2) rfl))) (mvT hZ (hw _ (List.mem_of_getElem? (i := 3) rfl))) (by decide) (backOf (W := 0) (rm1 l Z a0 hw [] ((2147483647 : Int64) + (((x2 &&& (7 : Int32)) - (4 : Int32)).toInt64))  h0 n0 Z0 ) hZ (hw _ (List.mem_of_getElem? (i := 3) rfl)) (hw _ (List.mem_of_getElem? (i := 2) rfl)) (by decide) (by decide)) (g := (mkF m 69 #[.val (.long x1), .second, .val (.int x2), .val (.int (if (F1 x1) = (if ((x1.toUInt64 >>> ((31 : Int32) &&& 0x3f).toInt64.toUInt64).toInt64) = (0 : Int64) then (1 : Int32) else (0 : Int32)) then (1 : Int32) else (0 : Int32))), .val (.long (((x2 &&& (7 : Int32)) - (4 : Int32)).toInt64)), .second, .val (.int (if (F1 (((x2 &&& (7 : Int32)) - (4 : Int32)).toInt64)) = (if (((x2 &&& (7 : Int32)) - (4 : Int32)).toInt64) < (0 : Int64) then (0 : Int32) else (1 : Int32)) then (1 : Int32) else (0 : Int32))), .unset] [(.long ((2147483647 : Int64) + (((x2 &&& (7 : Int32)) - (4 : Int32)).toInt64)))])) rfl (by rw [hml]; rfl) (argsL := [(.long ((2147483647 : Int64) + (((x2 &&& (7 : Int32)) - (4 : Int32)).toInt64)))]) (rest := []) (lenOf pd_0 rfl) rfl (by show 2 * 0 + _ ≤ _; exact Nat.le_of_eq rfl) (hb hby at_69) (fun _ _ => ⟨rfl, e4, (by decide : 0 + 0 ≤ _), (by decide : 0 + 0 ≤ _)⟩)
  dsimp only [Pt.U, Pt.locs, Pt.cells, Pt.slots] at X7 l7 y7 z7 st7 hQ7
  subst l7 y7 z7
  obtain ⟨rfl, N7q, e7⟩ := hQ7
  have N7 := Fr.app N4 N7q
  obtain ⟨fs, hr, hrun, hended, hW, hsame⟩ := X7.leave (v := some (.int (if (F1 x1) = (if ((x1.toUInt64 >>> ((31 : Int32) &&& 0x3f).toInt64.toUInt64).toInt64) = (0 : Int64) then (1 : Int32) else (0 : Int32)) then (if (F1 (((x2 &&& (7 : Int32)) - (4 : Int32)).toInt64)) = (if (((x2 &&& (7 : Int32)) - (4 : Int32)).toInt64) < (0 : Int64) then (0 : Int32) else (1 : Int32)) then (if (F1 ((2147483647 : Int64) + (((x2 &&& (7 : Int32)) - (4 : Int32)).toInt64))) = (if (0 : Int64) < (((x2 &&& (7 : Int32)) - (4 : Int32)).toInt64) then (0 : Int32) else (1 : Int32)) then (1 : Int32) else (0 : Int32)) else (0 : Int32)) else (0 : Int32)))) (fun h => by rw [Bd.returns] at h; cases h)
  refine ⟨_, _, pre0 _ ?_, hrun, hended, _, _, rfl, ?_, ⟨_, rfl⟩, hW, hsame.mono (by decide) (by decide)⟩
  · show Steps p.tables e below (s₁.setTop (mkF m 0 #[.val (.long x1), .second, .val (.int x2), .unset, .unset, .unset, .unset, .unset] [])) _
    refine XS.lloadN X0.here hx rfl (hb hby at_0) rfl ?_
    show Steps p.tables e below (s₁.setTop (mkF m 1 #[.val (.long x1), .second, .val (.int x2), .unset, .unset, .unset, .unset, .unset] [(.long x1)])) _
    refine st1 _ ?_
    show Steps p.tables e below (T1.setTop (mkF m 4 #[.val (.long x1), .second, .val (.int x2), .unset, .unset, .unset, .unset, .unset] [(.int (F1 x1))])) _
    refine XS.lloadN X1.here hx rfl (hb hby at_4) rfl ?_
    show Steps p.tables e below (T1.setTop (mkF m 5 #[.val (.long x1), .second, .val (.int x2), .unset, .unset, .unset, .unset, .unset] [(.long x1), (.int (F1 x1))])) _
    refine XS.bipush X1.here hx rfl (hb hby at_5) ?_
    show Steps p.tables e below (T1.setTop (mkF m 7 #[.val (.long x1), .second, .val (.int x2), .unset, .unset, .unset, .unset, .unset] [(.int (31 : Int32)), (.long x1), (.int (F1 x1))])) _
    refine XS.lushr X1.here hx rfl (hb hby at_7) rfl ?_
    show Steps p.tables e below (T1.setTop (mkF m 8 #[.val (.long x1), .second, .val (.int x2), .unset, .unset, .unset, .unset, .unset] [(.long ((x1.toUInt64 >>> ((31 : Int32) &&& 0x3f).toInt64.toUInt64).toInt64)), (.int (F1 x1))])) _
    refine XS.lconst X1.here hx rfl (hb hby at_8) ?_
    show Steps p.tables e below (T1.setTop (mkF m 9 #[.val (.long x1), .second, .val (.int x2), .unset, .unset, .unset, .unset, .unset] [(.long (0 : Int64)), (.long ((x1.toUInt64 >>> ((31 : Int32) &&& 0x3f).toInt64.toUInt64).toInt64)), (.int (F1 x1))])) _
    refine XS.lcmp X1.here hx rfl (hb hby at_9) rfl ?_
    show Steps p.tables e below (T1.setTop (mkF m 10 #[.val (.long x1), .second, .val (.int x2), .unset, .unset, .unset, .unset, .unset] [(.int (lcmpW ((x1.toUInt64 >>> ((31 : Int32) &&& 0x3f).toInt64.toUInt64).toInt64) (0 : Int64))), (.int (F1 x1))])) _
    refine own_dia (u := ((1 : Int32) : Int32)) (v := (0 : Int32)) (((x1.toUInt64 >>> ((31 : Int32) &&& 0x3f).toInt64.toUInt64).toInt64) = (0 : Int64)) (fun z2 => (mkF m 18 #[.val (.long x1), .second, .val (.int x2), .unset, .unset, .unset, .unset, .unset] [(.int z2), (.int (F1 x1))])) (fun hc2 k2 => ?_) (fun hc2 k2 => ?_) ?_
    · refine XS.ifNo X1.here hx rfl (hb hby at_10) rfl (own_leq hc2).2 ?_
      show Steps p.tables e below (T1.setTop (mkF m 13 #[.val (.long x1), .second, .val (.int x2), .unset, .unset, .unset, .unset, .unset] [(.int (F1 x1))])) _
      refine XS.iconst X1.here hx rfl (hb hby at_13) ?_
      show Steps p.tables e below (T1.setTop (mkF m 14 #[.val (.long x1), .second, .val (.int x2), .unset, .unset, .unset, .unset, .unset] [(.int (1 : Int32)), (.int (F1 x1))])) _
      refine XS.goto X1.here hx rfl (pc0 := 14) (pc' := 18) rfl (hb hby at_14) (by decide) (by decide) ?_
      exact k2
    · refine XS.ifYes X1.here hx rfl (pc0 := 10) (pc' := 17) rfl (hb hby at_10) rfl (own_lne hc2).2 (by decide) (by decide) ?_
      show Steps p.tables e below (T1.setTop (mkF m 17 #[.val (.long x1), .second, .val (.int x2), .unset, .unset, .unset, .unset, .unset] [(.int (F1 x1))])) _
      refine XS.iconst X1.here hx rfl (hb hby at_17) ?_
      exact k2
    -- meets at 18
    show Steps p.tables e below (T1.setTop (mkF m 18 #[.val (.long x1), .second, .val (.int x2), .unset, .unset, .unset, .unset, .unset] [(.int (if ((x1.toUInt64 >>> ((31 : Int32) &&& 0x3f).toInt64.toUInt64).toInt64) = (0 : Int64) then (1 : Int32) else (0 : Int32))), (.int (F1 x1))])) _
    refine own_dia (u := ((1 : Int32) : Int32)) (v := (0 : Int32)) ((F1 x1) = (if ((x1.toUInt64 >>> ((31 : Int32) &&& 0x3f).toInt64.toUInt64).toInt64) = (0 : Int64) then (1 : Int32) else (0 : Int32))) (fun z3 => (mkF m 26 #[.val (.long x1), .second, .val (.int x2), .unset, .unset, .unset, .unset, .unset] [(.int z3)])) (fun hc3 k3 => ?_) (fun hc3 k3 => ?_) ?_
    · refine XS.icmpNo X1.here hx rfl (hb hby at_18) rfl (teq hc3).2 ?_
      show Steps p.tables e below (T1.setTop (mkF m 21 #[.val (.long x1), .second, .val (.int x2), .unset, .unset, .unset, .unset, .unset] [])) _
      refine XS.iconst X1.here hx rfl (hb hby at_21) ?_
      show Steps p.tables e below (T1.setTop (mkF m 22 #[.val (.long x1), .second, .val (.int x2), .unset, .unset, .unset, .unset, .unset] [(.int (1 : Int32))])) _
      refine XS.goto X1.here hx rfl (pc0 := 22) (pc' := 26) rfl (hb hby at_22) (by decide) (by decide) ?_
      exact k3
    · refine XS.icmpYes X1.here hx rfl (pc0 := 18) (pc' := 25) rfl (hb hby at_18) rfl (feq hc3).2 (by decide) (by decide) ?_
      show Steps p.tables e below (T1.setTop (mkF m 25 #[.val (.long x1), .second, .val (.int x2), .unset, .unset, .unset, .unset, .unset] [])) _
      refine XS.iconst X1.here hx rfl (hb hby at_25) ?_
      exact k3
    -- meets at 26
    show Steps p.tables e below (T1.setTop (mkF m 26 #[.val (.long x1), .second, .val (.int x2), .unset, .unset, .unset, .unset, .unset] [(.int (if (F1 x1) = (if ((x1.toUInt64 >>> ((31 : Int32) &&& 0x3f).toInt64.toUInt64).toInt64) = (0 : Int64) then (1 : Int32) else (0 : Int32)) then (1 : Int32) else (0 : Int32)))])) _
    refine XS.istoreN X1.here hx rfl (hb hby at_26) rfl (l' := #[.val (.long x1), .second, .val (.int x2), .val (.int (if (F1 x1) = (if ((x1.toUInt64 >>> ((31 : Int32) &&& 0x3f).toInt64.toUInt64).toInt64) = (0 : Int64) then (1 : Int32) else (0 : Int32)) then (1 : Int32) else (0 : Int32))), .unset, .unset, .unset, .unset]) rfl ?_
    show Steps p.tables e below (T1.setTop (mkF m 27 #[.val (.long x1), .second, .val (.int x2), .val (.int (if (F1 x1) = (if ((x1.toUInt64 >>> ((31 : Int32) &&& 0x3f).toInt64.toUInt64).toInt64) = (0 : Int64) then (1 : Int32) else (0 : Int32)) then (1 : Int32) else (0 : Int32))), .unset, .unset, .unset, .unset] [])) _
    refine XS.iloadN X1.here hx rfl (hb hby at_27) rfl ?_
    show Steps p.tables e below (T1.setTop (mkF m 28 #[.val (.long x1), .second, .val (.int x2), .val (.int (if (F1 x1) = (if ((x1.toUInt64 >>> ((31 : Int32) &&& 0x3f).toInt64.toUInt64).toInt64) = (0 : Int64) then (1 : Int32) else (0 : Int32)) then (1 : Int32) else (0 : Int32))), .unset, .unset, .unset, .unset] [(.int x2)])) _
    refine XS.bipush X1.here hx rfl (hb hby at_28) ?_
    show Steps p.tables e below (T1.setTop (mkF m 30 #[.val (.long x1), .second, .val (.int x2), .val (.int (if (F1 x1) = (if ((x1.toUInt64 >>> ((31 : Int32) &&& 0x3f).toInt64.toUInt64).toInt64) = (0 : Int64) then (1 : Int32) else (0 : Int32)) then (1 : Int32) else (0 : Int32))), .unset, .unset, .unset, .unset] [(.int (7 : Int32)), (.int x2)])) _
    refine XS.iand X1.here hx rfl (hb hby at_30) rfl ?_
    show Steps p.tables e below (T1.setTop (mkF m 31 #[.val (.long x1), .second, .val (.int x2), .val (.int (if (F1 x1) = (if ((x1.toUInt64 >>> ((31 : Int32) &&& 0x3f).toInt64.toUInt64).toInt64) = (0 : Int64) then (1 : Int32) else (0 : Int32)) then (1 : Int32) else (0 : Int32))), .unset, .unset, .unset, .unset] [(.int (x2 &&& (7 : Int32)))])) _
    refine XS.iconst X1.here hx rfl (hb hby at_31) ?_
    show Steps p.tables e below (T1.setTop (mkF m 32 #[.val (.long x1), .second, .val (.int x2), .val (.int (if (F1 x1) = (if ((x1.toUInt64 >>> ((31 : Int32) &&& 0x3f).toInt64.toUInt64).toInt64) = (0 : Int64) then (1 : Int32) else (0 : Int32)) then (1 : Int32) else (0 : Int32))), .unset, .unset, .unset, .unset] [(.int (4 : Int32)), (.int (x2 &&& (7 : Int32)))])) _
    refine XS.isub X1.here hx rfl (hb hby at_32) rfl ?_
    show Steps p.tables e below (T1.setTop (mkF m 33 #[.val (.long x1), .second, .val (.int x2), .val (.int (if (F1 x1) = (if ((x1.toUInt64 >>> ((31 : Int32) &&& 0x3f).toInt64.toUInt64).toInt64) = (0 : Int64) then (1 : Int32) else (0 : Int32)) then (1 : Int32) else (0 : Int32))), .unset, .unset, .unset, .unset] [(.int ((x2 &&& (7 : Int32)) - (4 : Int32)))])) _
    refine XS.i2l X1.here hx rfl (hb hby at_33) rfl ?_
    show Steps p.tables e below (T1.setTop (mkF m 34 #[.val (.long x1), .second, .val (.int x2), .val (.int (if (F1 x1) = (if ((x1.toUInt64 >>> ((31 : Int32) &&& 0x3f).toInt64.toUInt64).toInt64) = (0 : Int64) then (1 : Int32) else (0 : Int32)) then (1 : Int32) else (0 : Int32))), .unset, .unset, .unset, .unset] [(.long (((x2 &&& (7 : Int32)) - (4 : Int32)).toInt64))])) _
    refine XS.lstore X1.here hx rfl (hb hby at_34) rfl (l' := #[.val (.long x1), .second, .val (.int x2), .val (.int (if (F1 x1) = (if ((x1.toUInt64 >>> ((31 : Int32) &&& 0x3f).toInt64.toUInt64).toInt64) = (0 : Int64) then (1 : Int32) else (0 : Int32)) then (1 : Int32) else (0 : Int32))), .val (.long (((x2 &&& (7 : Int32)) - (4 : Int32)).toInt64)), .second, .unset, .unset]) rfl ?_
    show Steps p.tables e below (T1.setTop (mkF m 36 #[.val (.long x1), .second, .val (.int x2), .val (.int (if (F1 x1) = (if ((x1.toUInt64 >>> ((31 : Int32) &&& 0x3f).toInt64.toUInt64).toInt64) = (0 : Int64) then (1 : Int32) else (0 : Int32)) then (1 : Int32) else (0 : Int32))), .val (.long (((x2 &&& (7 : Int32)) - (4 : Int32)).toInt64)), .second, .unset, .unset] [])) _
    refine XS.lload X1.here hx rfl (hb hby at_36) rfl ?_
    show Steps p.tables e below (T1.setTop (mkF m 38 #[.val (.long x1), .second, .val (.int x2), .val (.int (if (F1 x1) = (if ((x1.toUInt64 >>> ((31 : Int32) &&& 0x3f).toInt64.toUInt64).toInt64) = (0 : Int64) then (1 : Int32) else (0 : Int32)) then (1 : Int32) else (0 : Int32))), .val (.long (((x2 &&& (7 : Int32)) - (4 : Int32)).toInt64)), .second, .unset, .unset] [(.long (((x2 &&& (7 : Int32)) - (4 : Int32)).toInt64))])) _
    refine st4 _ ?_
    show Steps p.tables e below (T4.setTop (mkF m 41 #[.val (.long x1), .second, .val (.int x2), .val (.int (if (F1 x1) = (if ((x1.toUInt64 >>> ((31 : Int32) &&& 0x3f).toInt64.toUInt64).toInt64) = (0 : Int64) then (1 : Int32) else (0 : Int32)) then (1 : Int32) else (0 : Int32))), .val (.long (((x2 &&& (7 : Int32)) - (4 : Int32)).toInt64)), .second, .unset, .unset] [(.int (F1 (((x2 &&& (7 : Int32)) - (4 : Int32)).toInt64)))])) _
    refine XS.lload X4.here hx rfl (hb hby at_41) rfl ?_
    show Steps p.tables e below (T4.setTop (mkF m 43 #[.val (.long x1), .second, .val (.int x2), .val (.int (if (F1 x1) = (if ((x1.toUInt64 >>> ((31 : Int32) &&& 0x3f).toInt64.toUInt64).toInt64) = (0 : Int64) then (1 : Int32) else (0 : Int32)) then (1 : Int32) else (0 : Int32))), .val (.long (((x2 &&& (7 : Int32)) - (4 : Int32)).toInt64)), .second, .unset, .unset] [(.long (((x2 &&& (7 : Int32)) - (4 : Int32)).toInt64)), (.int (F1 (((x2 &&& (7 : Int32)) - (4 : Int32)).toInt64)))])) _
    refine XS.lconst X4.here hx rfl (hb hby at_43) ?_
    show Steps p.tables e below (T4.setTop (mkF m 44 #[.val (.long x1), .second, .val (.int x2), .val (.int (if (F1 x1) = (if ((x1.toUInt64 >>> ((31 : Int32) &&& 0x3f).toInt64.toUInt64).toInt64) = (0 : Int64) then (1 : Int32) else (0 : Int32)) then (1 : Int32) else (0 : Int32))), .val (.long (((x2 &&& (7 : Int32)) - (4 : Int32)).toInt64)), .second, .unset, .unset] [(.long (0 : Int64)), (.long (((x2 &&& (7 : Int32)) - (4 : Int32)).toInt64)), (.int (F1 (((x2 &&& (7 : Int32)) - (4 : Int32)).toInt64)))])) _
    refine XS.lcmp X4.here hx rfl (hb hby at_44) rfl ?_
    show Steps p.tables e below (T4.setTop (mkF m 45 #[.val (.long x1), .second, .val (.int x2), .val (.int (if (F1 x1) = (if ((x1.toUInt64 >>> ((31 : Int32) &&& 0x3f).toInt64.toUInt64).toInt64) = (0 : Int64) then (1 : Int32) else (0 : Int32)) then (1 : Int32) else (0 : Int32))), .val (.long (((x2 &&& (7 : Int32)) - (4 : Int32)).toInt64)), .second, .unset, .unset] [(.int (lcmpW (((x2 &&& (7 : Int32)) - (4 : Int32)).toInt64) (0 : Int64))), (.int (F1 (((x2 &&& (7 : Int32)) - (4 : Int32)).toInt64)))])) _
    refine own_dia (u := ((0 : Int32) : Int32)) (v := (1 : Int32)) ((((x2 &&& (7 : Int32)) - (4 : Int32)).toInt64) < (0 : Int64)) (fun z5 => (mkF m 53 #[.val (.long x1), .second, .val (.int x2), .val (.int (if (F1 x1) = (if ((x1.toUInt64 >>> ((31 : Int32) &&& 0x3f).toInt64.toUInt64).toInt64) = (0 : Int64) then (1 : Int32) else (0 : Int32)) then (1 : Int32) else (0 : Int32))), .val (.long (((x2 &&& (7 : Int32)) - (4 : Int32)).toInt64)), .second, .unset, .unset] [(.int z5), (.int (F1 (((x2 &&& (7 : Int32)) - (4 : Int32)).toInt64)))])) (fun hc5 k5 => ?_) (fun hc5 k5 => ?_) ?_
    · refine XS.ifYes X4.here hx rfl (pc0 := 45) (pc' := 52) rfl (hb hby at_45) rfl (own_llt hc5).1 (by decide) (by decide) ?_
      show Steps p.tables e below (T4.setTop (mkF m 52 #[.val (.long x1), .second, .val (.int x2), .val (.int (if (F1 x1) = (if ((x1.toUInt64 >>> ((31 : Int32) &&& 0x3f).toInt64.toUInt64).toInt64) = (0 : Int64) then (1 : Int32) else (0 : Int32)) then (1 : Int32) else (0 : Int32))), .val (.long (((x2 &&& (7 : Int32)) - (4 : Int32)).toInt64)), .second, .unset, .unset] [(.int (F1 (((x2 &&& (7 : Int32)) - (4 : Int32)).toInt64)))])) _
      refine XS.iconst X4.here hx rfl (hb hby at_52) ?_
      exact k5
    · refine XS.ifNo X4.here hx rfl (hb hby at_45) rfl (own_lge hc5).1 ?_
      show Steps p.tables e below (T4.setTop (mkF m 48 #[.val (.long x1), .second, .val (.int x2), .val (.int (if (F1 x1) = (if ((x1.toUInt64 >>> ((31 : Int32) &&& 0x3f).toInt64.toUInt64).toInt64) = (0 : Int64) then (1 : Int32) else (0 : Int32)) then (1 : Int32) else (0 : Int32))), .val (.long (((x2 &&& (7 : Int32)) - (4 : Int32)).toInt64)), .second, .unset, .unset] [(.int (F1 (((x2 &&& (7 : Int32)) - (4 : Int32)).toInt64)))])) _
      refine XS.iconst X4.here hx rfl (hb hby at_48) ?_
      show Steps p.tables e below (T4.setTop (mkF m 49 #[.val (.long x1), .second, .val (.int x2), .val (.int (if (F1 x1) = (if ((x1.toUInt64 >>> ((31 : Int32) &&& 0x3f).toInt64.toUInt64).toInt64) = (0 : Int64) then (1 : Int32) else (0 : Int32)) then (1 : Int32) else (0 : Int32))), .val (.long (((x2 &&& (7 : Int32)) - (4 : Int32)).toInt64)), .second, .unset, .unset] [(.int (1 : Int32)), (.int (F1 (((x2 &&& (7 : Int32)) - (4 : Int32)).toInt64)))])) _
      refine XS.goto X4.here hx rfl (pc0 := 49) (pc' := 53) rfl (hb hby at_49) (by decide) (by decide) ?_
      exact k5
    -- meets at 53
    show Steps p.tables e below (T4.setTop (mkF m 53 #[.val (.long x1), .second, .val (.int x2), .val (.int (if (F1 x1) = (if ((x1.toUInt64 >>> ((31 : Int32) &&& 0x3f).toInt64.toUInt64).toInt64) = (0 : Int64) then (1 : Int32) else (0 : Int32)) then (1 : Int32) else (0 : Int32))), .val (.long (((x2 &&& (7 : Int32)) - (4 : Int32)).toInt64)), .second, .unset, .unset] [(.int (if (((x2 &&& (7 : Int32)) - (4 : Int32)).toInt64) < (0 : Int64) then (0 : Int32) else (1 : Int32))), (.int (F1 (((x2 &&& (7 : Int32)) - (4 : Int32)).toInt64)))])) _
    refine own_dia (u := ((1 : Int32) : Int32)) (v := (0 : Int32)) ((F1 (((x2 &&& (7 : Int32)) - (4 : Int32)).toInt64)) = (if (((x2 &&& (7 : Int32)) - (4 : Int32)).toInt64) < (0 : Int64) then (0 : Int32) else (1 : Int32))) (fun z6 => (mkF m 61 #[.val (.long x1), .second, .val (.int x2), .val (.int (if (F1 x1) = (if ((x1.toUInt64 >>> ((31 : Int32) &&& 0x3f).toInt64.toUInt64).toInt64) = (0 : Int64) then (1 : Int32) else (0 : Int32)) then (1 : Int32) else (0 : Int32))), .val (.long (((x2 &&& (7 : Int32)) - (4 : Int32)).toInt64)), .second, .unset, .unset] [(.int z6)])) (fun hc6 k6 => ?_) (fun hc6 k6 => ?_) ?_
    · refine XS.icmpNo X4.here hx rfl (hb hby at_53) rfl (teq hc6).2 ?_
      show Steps p.tables e below (T4.setTop (mkF m 56 #[.val (.long x1), .second, .val (.int x2), .val (.int (if (F1 x1) = (if ((x1.toUInt64 >>> ((31 : Int32) &&& 0x3f).toInt64.toUInt64).toInt64) = (0 : Int64) then (1 : Int32) else (0 : Int32)) then (1 : Int32) else (0 : Int32))), .val (.long (((x2 &&& (7 : Int32)) - (4 : Int32)).toInt64)), .second, .unset, .unset] [])) _
      refine XS.iconst X4.here hx rfl (hb hby at_56) ?_
      show Steps p.tables e below (T4.setTop (mkF m 57 #[.val (.long x1), .second, .val (.int x2), .val (.int (if (F1 x1) = (if ((x1.toUInt64 >>> ((31 : Int32) &&& 0x3f).toInt64.toUInt64).toInt64) = (0 : Int64) then (1 : Int32) else (0 : Int32)) then (1 : Int32) else (0 : Int32))), .val (.long (((x2 &&& (7 : Int32)) - (4 : Int32)).toInt64)), .second, .unset, .unset] [(.int (1 : Int32))])) _
      refine XS.goto X4.here hx rfl (pc0 := 57) (pc' := 61) rfl (hb hby at_57) (by decide) (by decide) ?_
      exact k6
    · refine XS.icmpYes X4.here hx rfl (pc0 := 53) (pc' := 60) rfl (hb hby at_53) rfl (feq hc6).2 (by decide) (by decide) ?_
      show Steps p.tables e below (T4.setTop (mkF m 60 #[.val (.long x1), .second, .val (.int x2), .val (.int (if (F1 x1) = (if ((x1.toUInt64 >>> ((31 : Int32) &&& 0x3f).toInt64.toUInt64).toInt64) = (0 : Int64) then (1 : Int32) else (0 : Int32)) then (1 : Int32) else (0 : Int32))), .val (.long (((x2 &&& (7 : Int32)) - (4 : Int32)).toInt64)), .second, .unset, .unset] [])) _
      refine XS.iconst X4.here hx rfl (hb hby at_60) ?_
      exact k6
    -- meets at 61
    show Steps p.tables e below (T4.setTop (mkF m 61 #[.val (.long x1), .second, .val (.int x2), .val (.int (if (F1 x1) = (if ((x1.toUInt64 >>> ((31 : Int32) &&& 0x3f).toInt64.toUInt64).toInt64) = (0 : Int64) then (1 : Int32) else (0 : Int32)) then (1 : Int32) else (0 : Int32))), .val (.long (((x2 &&& (7 : Int32)) - (4 : Int32)).toInt64)), .second, .unset, .unset] [(.int (if (F1 (((x2 &&& (7 : Int32)) - (4 : Int32)).toInt64)) = (if (((x2 &&& (7 : Int32)) - (4 : Int32)).toInt64) < (0 : Int64) then (0 : Int32) else (1 : Int32)) then (1 : Int32) else (0 : Int32)))])) _
    refine XS.istore X4.here hx rfl (hb hby at_61) rfl (l' := #[.val (.long x1), .second, .val (.int x2), .val (.int (if (F1 x1) = (if ((x1.toUInt64 >>> ((31 : Int32) &&& 0x3f).toInt64.toUInt64).toInt64) = (0 : Int64) then (1 : Int32) else (0 : Int32)) then (1 : Int32) else (0 : Int32))), .val (.long (((x2 &&& (7 : Int32)) - (4 : Int32)).toInt64)), .second, .val (.int (if (F1 (((x2 &&& (7 : Int32)) - (4 : Int32)).toInt64)) = (if (((x2 &&& (7 : Int32)) - (4 : Int32)).toInt64) < (0 : Int64) then (0 : Int32) else (1 : Int32)) then (1 : Int32) else (0 : Int32))), .unset]) rfl ?_
    show Steps p.tables e below (T4.setTop (mkF m 63 #[.val (.long x1), .second, .val (.int x2), .val (.int (if (F1 x1) = (if ((x1.toUInt64 >>> ((31 : Int32) &&& 0x3f).toInt64.toUInt64).toInt64) = (0 : Int64) then (1 : Int32) else (0 : Int32)) then (1 : Int32) else (0 : Int32))), .val (.long (((x2 &&& (7 : Int32)) - (4 : Int32)).toInt64)), .second, .val (.int (if (F1 (((x2 &&& (7 : Int32)) - (4 : Int32)).toInt64)) = (if (((x2 &&& (7 : Int32)) - (4 : Int32)).toInt64) < (0 : Int64) then (0 : Int32) else (1 : Int32)) then (1 : Int32) else (0 : Int32))), .unset] [])) _
    refine X4.ldc2Long hx hown (mvT hZ (hw _ (List.mem_of_getElem? (i := 5) rfl))) (g := (mkF m 63 #[.val (.long x1), .second, .val (.int x2), .val (.int (if (F1 x1) = (if ((x1.toUInt64 >>> ((31 : Int32) &&& 0x3f).toInt64.toUInt64).toInt64) = (0 : Int64) then (1 : Int32) else (0 : Int32)) then (1 : Int32) else (0 : Int32))), .val (.long (((x2 &&& (7 : Int32)) - (4 : Int32)).toInt64)), .second, .val (.int (if (F1 (((x2 &&& (7 : Int32)) - (4 : Int32)).toInt64)) = (if (((x2 &&& (7 : Int32)) - (4 : Int32)).toInt64) < (0 : Int64) then (0 : Int32) else (1 : Int32)) then (1 : Int32) else (0 : Int32))), .unset] [])) rfl (hb hby at_63) _ ?_
    show Steps p.tables e below (T4.setTop (mkF m 66 #[.val (.long x1), .second, .val (.int x2), .val (.int (if (F1 x1) = (if ((x1.toUInt64 >>> ((31 : Int32) &&& 0x3f).toInt64.toUInt64).toInt64) = (0 : Int64) then (1 : Int32) else (0 : Int32)) then (1 : Int32) else (0 : Int32))), .val (.long (((x2 &&& (7 : Int32)) - (4 : Int32)).toInt64)), .second, .val (.int (if (F1 (((x2 &&& (7 : Int32)) - (4 : Int32)).toInt64)) = (if (((x2 &&& (7 : Int32)) - (4 : Int32)).toInt64) < (0 : Int64) then (0 : Int32) else (1 : Int32)) then (1 : Int32) else (0 : Int32))), .unset] [(.long (2147483647 : Int64))])) _
    refine XS.lload X4.here hx rfl (hb hby at_66) rfl ?_
    show Steps p.tables e below (T4.setTop (mkF m 68 #[.val (.long x1), .second, .val (.int x2), .val (.int (if (F1 x1) = (if ((x1.toUInt64 >>> ((31 : Int32) &&& 0x3f).toInt64.toUInt64).toInt64) = (0 : Int64) then (1 : Int32) else (0 : Int32)) then (1 : Int32) else (0 : Int32))), .val (.long (((x2 &&& (7 : Int32)) - (4 : Int32)).toInt64)), .second, .val (.int (if (F1 (((x2 &&& (7 : Int32)) - (4 : Int32)).toInt64)) = (if (((x2 &&& (7 : Int32)) - (4 : Int32)).toInt64) < (0 : Int64) then (0 : Int32) else (1 : Int32)) then (1 : Int32) else (0 : Int32))), .unset] [(.long (((x2 &&& (7 : Int32)) - (4 : Int32)).toInt64)), (.long (2147483647 : Int64))])) _
    refine XS.ladd X4.here hx rfl (hb hby at_68) rfl ?_
    show Steps p.tables e below (T4.setTop (mkF m 69 #[.val (.long x1), .second, .val (.int x2), .val (.int (if (F1 x1) = (if ((x1.toUInt64 >>> ((31 : Int32) &&& 0x3f).toInt64.toUInt64).toInt64) = (0 : Int64) then (1 : Int32) else (0 : Int32)) then (1 : Int32) else (0 : Int32))), .val (.long (((x2 &&& (7 : Int32)) - (4 : Int32)).toInt64)), .second, .val (.int (if (F1 (((x2 &&& (7 : Int32)) - (4 : Int32)).toInt64)) = (if (((x2 &&& (7 : Int32)) - (4 : Int32)).toInt64) < (0 : Int64) then (0 : Int32) else (1 : Int32)) then (1 : Int32) else (0 : Int32))), .unset] [(.long ((2147483647 : Int64) + (((x2 &&& (7 : Int32)) - (4 : Int32)).toInt64)))])) _
    refine st7 _ ?_
    show Steps p.tables e below (T7.setTop (mkF m 72 #[.val (.long x1), .second, .val (.int x2), .val (.int (if (F1 x1) = (if ((x1.toUInt64 >>> ((31 : Int32) &&& 0x3f).toInt64.toUInt64).toInt64) = (0 : Int64) then (1 : Int32) else (0 : Int32)) then (1 : Int32) else (0 : Int32))), .val (.long (((x2 &&& (7 : Int32)) - (4 : Int32)).toInt64)), .second, .val (.int (if (F1 (((x2 &&& (7 : Int32)) - (4 : Int32)).toInt64)) = (if (((x2 &&& (7 : Int32)) - (4 : Int32)).toInt64) < (0 : Int64) then (0 : Int32) else (1 : Int32)) then (1 : Int32) else (0 : Int32))), .unset] [(.int (F1 ((2147483647 : Int64) + (((x2 &&& (7 : Int32)) - (4 : Int32)).toInt64))))])) _
    refine XS.lload X7.here hx rfl (hb hby at_72) rfl ?_
    show Steps p.tables e below (T7.setTop (mkF m 74 #[.val (.long x1), .second, .val (.int x2), .val (.int (if (F1 x1) = (if ((x1.toUInt64 >>> ((31 : Int32) &&& 0x3f).toInt64.toUInt64).toInt64) = (0 : Int64) then (1 : Int32) else (0 : Int32)) then (1 : Int32) else (0 : Int32))), .val (.long (((x2 &&& (7 : Int32)) - (4 : Int32)).toInt64)), .second, .val (.int (if (F1 (((x2 &&& (7 : Int32)) - (4 : Int32)).toInt64)) = (if (((x2 &&& (7 : Int32)) - (4 : Int32)).toInt64) < (0 : Int64) then (0 : Int32) else (1 : Int32)) then (1 : Int32) else (0 : Int32))), .unset] [(.long (((x2 &&& (7 : Int32)) - (4 : Int32)).toInt64)), (.int (F1 ((2147483647 : Int64) + (((x2 &&& (7 : Int32)) - (4 : Int32)).toInt64))))])) _
    refine XS.lconst X7.here hx rfl (hb hby at_74) ?_
    show Steps p.tables e below (T7.setTop (mkF m 75 #[.val (.long x1), .second, .val (.int x2), .val (.int (if (F1 x1) = (if ((x1.toUInt64 >>> ((31 : Int32) &&& 0x3f).toInt64.toUInt64).toInt64) = (0 : Int64) then (1 : Int32) else (0 : Int32)) then (1 : Int32) else (0 : Int32))), .val (.long (((x2 &&& (7 : Int32)) - (4 : Int32)).toInt64)), .second, .val (.int (if (F1 (((x2 &&& (7 : Int32)) - (4 : Int32)).toInt64)) = (if (((x2 &&& (7 : Int32)) - (4 : Int32)).toInt64) < (0 : Int64) then (0 : Int32) else (1 : Int32)) then (1 : Int32) else (0 : Int32))), .unset] [(.long (0 : Int64)), (.long (((x2 &&& (7 : Int32)) - (4 : Int32)).toInt64)), (.int (F1 ((2147483647 : Int64) + (((x2 &&& (7 : Int32)) - (4 : Int32)).toInt64))))])) _
    refine XS.lcmp X7.here hx rfl (hb hby at_75) rfl ?_
    show Steps p.tables e below (T7.setTop (mkF m 76 #[.val (.long x1), .second, .val (.int x2), .val (.int (if (F1 x1) = (if ((x1.toUInt64 >>> ((31 : Int32) &&& 0x3f).toInt64.toUInt64).toInt64) = (0 : Int64) then (1 : Int32) else (0 : Int32)) then (1 : Int32) else (0 : Int32))), .val (.long (((x2 &&& (7 : Int32)) - (4 : Int32)).toInt64)), .second, .val (.int (if (F1 (((x2 &&& (7 : Int32)) - (4 : Int32)).toInt64)) = (if (((x2 &&& (7 : Int32)) - (4 : Int32)).toInt64) < (0 : Int64) then (0 : Int32) else (1 : Int32)) then (1 : Int32) else (0 : Int32))), .unset] [(.int (lcmpW (((x2 &&& (7 : Int32)) - (4 : Int32)).toInt64) (0 : Int64))), (.int (F1 ((2147483647 : Int64) + (((x2 &&& (7 : Int32)) - (4 : Int32)).toInt64))))])) _
    refine own_dia (u := ((0 : Int32) : Int32)) (v := (1 : Int32)) ((0 : Int64) < (((x2 &&& (7 : Int32)) - (4 : Int32)).toInt64)) (fun z8 => (mkF m 84 #[.val (.long x1), .second, .val (.int x2), .val (.int (if (F1 x1) = (if ((x1.toUInt64 >>> ((31 : Int32) &&& 0x3f).toInt64.toUInt64).toInt64) = (0 : Int64) then (1 : Int32) else (0 : Int32)) then (1 : Int32) else (0 : Int32))), .val (.long (((x2 &&& (7 : Int32)) - (4 : Int32)).toInt64)), .second, .val (.int (if (F1 (((x2 &&& (7 : Int32)) - (4 : Int32)).toInt64)) = (if (((x2 &&& (7 : Int32)) - (4 : Int32)).toInt64) < (0 : Int64) then (0 : Int32) else (1 : Int32)) then (1 : Int32) else (0 : Int32))), .unset] [(.int z8), (.int (F1 ((2147483647 : Int64) + (((x2 &&& (7 : Int32)) - (4 : Int32)).toInt64))))])) (fun hc8 k8 => ?_) (fun hc8 k8 => ?_) ?_
    · refine XS.ifYes X7.here hx rfl (pc0 := 76) (pc' := 83) rfl (hb hby at_76) rfl (own_lgt hc8).1 (by decide) (by decide) ?_
      show Steps p.tables e below (T7.setTop (mkF m 83 #[.val (.long x1), .second, .val (.int x2), .val (.int (if (F1 x1) = (if ((x1.toUInt64 >>> ((31 : Int32) &&& 0x3f).toInt64.toUInt64).toInt64) = (0 : Int64) then (1 : Int32) else (0 : Int32)) then (1 : Int32) else (0 : Int32))), .val (.long (((x2 &&& (7 : Int32)) - (4 : Int32)).toInt64)), .second, .val (.int (if (F1 (((x2 &&& (7 : Int32)) - (4 : Int32)).toInt64)) = (if (((x2 &&& (7 : Int32)) - (4 : Int32)).toInt64) < (0 : Int64) then (0 : Int32) else (1 : Int32)) then (1 : Int32) else (0 : Int32))), .unset] [(.int (F1 ((2147483647 : Int64) + (((x2 &&& (7 : Int32)) - (4 : Int32)).toInt64))))])) _
      refine XS.iconst X7.here hx rfl (hb hby at_83) ?_
      exact k8
    · refine XS.ifNo X7.here hx rfl (hb hby at_76) rfl (own_lle hc8).1 ?_
      show Steps p.tables e below (T7.setTop (mkF m 79 #[.val (.long x1), .second, .val (.int x2), .val (.int (if (F1 x1) = (if ((x1.toUInt64 >>> ((31 : Int32) &&& 0x3f).toInt64.toUInt64).toInt64) = (0 : Int64) then (1 : Int32) else (0 : Int32)) then (1 : Int32) else (0 : Int32))), .val (.long (((x2 &&& (7 : Int32)) - (4 : Int32)).toInt64)), .second, .val (.int (if (F1 (((x2 &&& (7 : Int32)) - (4 : Int32)).toInt64)) = (if (((x2 &&& (7 : Int32)) - (4 : Int32)).toInt64) < (0 : Int64) then (0 : Int32) else (1 : Int32)) then (1 : Int32) else (0 : Int32))), .unset] [(.int (F1 ((2147483647 : Int64) + (((x2 &&& (7 : Int32)) - (4 : Int32)).toInt64))))])) _
      refine XS.iconst X7.here hx rfl (hb hby at_79) ?_
      show Steps p.tables e below (T7.setTop (mkF m 80 #[.val (.long x1), .second, .val (.int x2), .val (.int (if (F1 x1) = (if ((x1.toUInt64 >>> ((31 : Int32) &&& 0x3f).toInt64.toUInt64).toInt64) = (0 : Int64) then (1 : Int32) else (0 : Int32)) then (1 : Int32) else (0 : Int32))), .val (.long (((x2 &&& (7 : Int32)) - (4 : Int32)).toInt64)), .second, .val (.int (if (F1 (((x2 &&& (7 : Int32)) - (4 : Int32)).toInt64)) = (if (((x2 &&& (7 : Int32)) - (4 : Int32)).toInt64) < (0 : Int64) then (0 : Int32) else (1 : Int32)) then (1 : Int32) else (0 : Int32))), .unset] [(.int (1 : Int32)), (.int (F1 ((2147483647 : Int64) + (((x2 &&& (7 : Int32)) - (4 : Int32)).toInt64))))])) _
      refine XS.goto X7.here hx rfl (pc0 := 80) (pc' := 84) rfl (hb hby at_80) (by decide) (by decide) ?_
      exact k8
    -- meets at 84
    show Steps p.tables e below (T7.setTop (mkF m 84 #[.val (.long x1), .second, .val (.int x2), .val (.int (if (F1 x1) = (if ((x1.toUInt64 >>> ((31 : Int32) &&& 0x3f).toInt64.toUInt64).toInt64) = (0 : Int64) then (1 : Int32) else (0 : Int32)) then (1 : Int32) else (0 : Int32))), .val (.long (((x2 &&& (7 : Int32)) - (4 : Int32)).toInt64)), .second, .val (.int (if (F1 (((x2 &&& (7 : Int32)) - (4 : Int32)).toInt64)) = (if (((x2 &&& (7 : Int32)) - (4 : Int32)).toInt64) < (0 : Int64) then (0 : Int32) else (1 : Int32)) then (1 : Int32) else (0 : Int32))), .unset] [(.int (if (0 : Int64) < (((x2 &&& (7 : Int32)) - (4 : Int32)).toInt64) then (0 : Int32) else (1 : Int32))), (.int (F1 ((2147483647 : Int64) + (((x2 &&& (7 : Int32)) - (4 : Int32)).toInt64))))])) _
    refine own_dia (u := ((1 : Int32) : Int32)) (v := (0 : Int32)) ((F1 ((2147483647 : Int64) + (((x2 &&& (7 : Int32)) - (4 : Int32)).toInt64))) = (if (0 : Int64) < (((x2 &&& (7 : Int32)) - (4 : Int32)).toInt64) then (0 : Int32) else (1 : Int32))) (fun z9 => (mkF m 92 #[.val (.long x1), .second, .val (.int x2), .val (.int (if (F1 x1) = (if ((x1.toUInt64 >>> ((31 : Int32) &&& 0x3f).toInt64.toUInt64).toInt64) = (0 : Int64) then (1 : Int32) else (0 : Int32)) then (1 : Int32) else (0 : Int32))), .val (.long (((x2 &&& (7 : Int32)) - (4 : Int32)).toInt64)), .second, .val (.int (if (F1 (((x2 &&& (7 : Int32)) - (4 : Int32)).toInt64)) = (if (((x2 &&& (7 : Int32)) - (4 : Int32)).toInt64) < (0 : Int64) then (0 : Int32) else (1 : Int32)) then (1 : Int32) else (0 : Int32))), .unset] [(.int z9)])) (fun hc9 k9 => ?_) (fun hc9 k9 => ?_) ?_
    · refine XS.icmpNo X7.here hx rfl (hb hby at_84) rfl (teq hc9).2 ?_
      show Steps p.tables e below (T7.setTop (mkF m 87 #[.val (.long x1), .second, .val (.int x2), .val (.int (if (F1 x1) = (if ((x1.toUInt64 >>> ((31 : Int32) &&& 0x3f).toInt64.toUInt64).toInt64) = (0 : Int64) then (1 : Int32) else (0 : Int32)) then (1 : Int32) else (0 : Int32))), .val (.long (((x2 &&& (7 : Int32)) - (4 : Int32)).toInt64)), .second, .val (.int (if (F1 (((x2 &&& (7 : Int32)) - (4 : Int32)).toInt64)) = (if (((x2 &&& (7 : Int32)) - (4 : Int32)).toInt64) < (0 : Int64) then (0 : Int32) else (1 : Int32)) then (1 : Int32) else (0 : Int32))), .unset] [])) _
      refine XS.iconst X7.here hx rfl (hb hby at_87) ?_
      show Steps p.tables e below (T7.setTop (mkF m 88 #[.val (.long x1), .second, .val (.int x2), .val (.int (if (F1 x1) = (if ((x1.toUInt64 >>> ((31 : Int32) &&& 0x3f).toInt64.toUInt64).toInt64) = (0 : Int64) then (1 : Int32) else (0 : Int32)) then (1 : Int32) else (0 : Int32))), .val (.long (((x2 &&& (7 : Int32)) - (4 : Int32)).toInt64)), .second, .val (.int (if (F1 (((x2 &&& (7 : Int32)) - (4 : Int32)).toInt64)) = (if (((x2 &&& (7 : Int32)) - (4 : Int32)).toInt64) < (0 : Int64) then (0 : Int32) else (1 : Int32)) then (1 : Int32) else (0 : Int32))), .unset] [(.int (1 : Int32))])) _
      refine XS.goto X7.here hx rfl (pc0 := 88) (pc' := 92) rfl (hb hby at_88) (by decide) (by decide) ?_
      exact k9
    · refine XS.icmpYes X7.here hx rfl (pc0 := 84) (pc' := 91) rfl (hb hby at_84) rfl (feq hc9).2 (by decide) (by decide) ?_
      show Steps p.tables e below (T7.setTop (mkF m 91 #[.val (.long x1), .second, .val (.int x2), .val (.int (if (F1 x1) = (if ((x1.toUInt64 >>> ((31 : Int32) &&& 0x3f).toInt64.toUInt64).toInt64) = (0 : Int64) then (1 : Int32) else (0 : Int32)) then (1 : Int32) else (0 : Int32))), .val (.long (((x2 &&& (7 : Int32)) - (4 : Int32)).toInt64)), .second, .val (.int (if (F1 (((x2 &&& (7 : Int32)) - (4 : Int32)).toInt64)) = (if (((x2 &&& (7 : Int32)) - (4 : Int32)).toInt64) < (0 : Int64) then (0 : Int32) else (1 : Int32)) then (1 : Int32) else (0 : Int32))), .unset] [])) _
      refine XS.iconst X7.here hx rfl (hb hby at_91) ?_
      exact k9
    -- meets at 92
    show Steps p.tables e below (T7.setTop (mkF m 92 #[.val (.long x1), .second, .val (.int x2), .val (.int (if (F1 x1) = (if ((x1.toUInt64 >>> ((31 : Int32) &&& 0x3f).toInt64.toUInt64).toInt64) = (0 : Int64) then (1 : Int32) else (0 : Int32)) then (1 : Int32) else (0 : Int32))), .val (.long (((x2 &&& (7 : Int32)) - (4 : Int32)).toInt64)), .second, .val (.int (if (F1 (((x2 &&& (7 : Int32)) - (4 : Int32)).toInt64)) = (if (((x2 &&& (7 : Int32)) - (4 : Int32)).toInt64) < (0 : Int64) then (0 : Int32) else (1 : Int32)) then (1 : Int32) else (0 : Int32))), .unset] [(.int (if (F1 ((2147483647 : Int64) + (((x2 &&& (7 : Int32)) - (4 : Int32)).toInt64))) = (if (0 : Int64) < (((x2 &&& (7 : Int32)) - (4 : Int32)).toInt64) then (0 : Int32) else (1 : Int32)) then (1 : Int32) else (0 : Int32)))])) _
    refine XS.istore X7.here hx rfl (hb hby at_92) rfl (l' := #[.val (.long x1), .second, .val (.int x2), .val (.int (if (F1 x1) = (if ((x1.toUInt64 >>> ((31 : Int32) &&& 0x3f).toInt64.toUInt64).toInt64) = (0 : Int64) then (1 : Int32) else (0 : Int32)) then (1 : Int32) else (0 : Int32))), .val (.long (((x2 &&& (7 : Int32)) - (4 : Int32)).toInt64)), .second, .val (.int (if (F1 (((x2 &&& (7 : Int32)) - (4 : Int32)).toInt64)) = (if (((x2 &&& (7 : Int32)) - (4 : Int32)).toInt64) < (0 : Int64) then (0 : Int32) else (1 : Int32)) then (1 : Int32) else (0 : Int32))), .val (.int (if (F1 ((2147483647 : Int64) + (((x2 &&& (7 : Int32)) - (4 : Int32)).toInt64))) = (if (0 : Int64) < (((x2 &&& (7 : Int32)) - (4 : Int32)).toInt64) then (0 : Int32) else (1 : Int32)) then (1 : Int32) else (0 : Int32)))]) rfl ?_
    show Steps p.tables e below (T7.setTop (mkF m 94 #[.val (.long x1), .second, .val (.int x2), .val (.int (if (F1 x1) = (if ((x1.toUInt64 >>> ((31 : Int32) &&& 0x3f).toInt64.toUInt64).toInt64) = (0 : Int64) then (1 : Int32) else (0 : Int32)) then (1 : Int32) else (0 : Int32))), .val (.long (((x2 &&& (7 : Int32)) - (4 : Int32)).toInt64)), .second, .val (.int (if (F1 (((x2 &&& (7 : Int32)) - (4 : Int32)).toInt64)) = (if (((x2 &&& (7 : Int32)) - (4 : Int32)).toInt64) < (0 : Int64) then (0 : Int32) else (1 : Int32)) then (1 : Int32) else (0 : Int32))), .val (.int (if (F1 ((2147483647 : Int64) + (((x2 &&& (7 : Int32)) - (4 : Int32)).toInt64))) = (if (0 : Int64) < (((x2 &&& (7 : Int32)) - (4 : Int32)).toInt64) then (0 : Int32) else (1 : Int32)) then (1 : Int32) else (0 : Int32)))] [])) _
    refine XS.iloadN X7.here hx rfl (hb hby at_94) rfl ?_
    show Steps p.tables e below (T7.setTop (mkF m 95 #[.val (.long x1), .second, .val (.int x2), .val (.int (if (F1 x1) = (if ((x1.toUInt64 >>> ((31 : Int32) &&& 0x3f).toInt64.toUInt64).toInt64) = (0 : Int64) then (1 : Int32) else (0 : Int32)) then (1 : Int32) else (0 : Int32))), .val (.long (((x2 &&& (7 : Int32)) - (4 : Int32)).toInt64)), .second, .val (.int (if (F1 (((x2 &&& (7 : Int32)) - (4 : Int32)).toInt64)) = (if (((x2 &&& (7 : Int32)) - (4 : Int32)).toInt64) < (0 : Int64) then (0 : Int32) else (1 : Int32)) then (1 : Int32) else (0 : Int32))), .val (.int (if (F1 ((2147483647 : Int64) + (((x2 &&& (7 : Int32)) - (4 : Int32)).toInt64))) = (if (0 : Int64) < (((x2 &&& (7 : Int32)) - (4 : Int32)).toInt64) then (0 : Int32) else (1 : Int32)) then (1 : Int32) else (0 : Int32)))] [(.int (if (F1 x1) = (if ((x1.toUInt64 >>> ((31 : Int32) &&& 0x3f).toInt64.toUInt64).toInt64) = (0 : Int64) then (1 : Int32) else (0 : Int32)) then (1 : Int32) else (0 : Int32)))])) _
    refine own_dia (u := ((if (F1 (((x2 &&& (7 : Int32)) - (4 : Int32)).toInt64)) = (if (((x2 &&& (7 : Int32)) - (4 : Int32)).toInt64) < (0 : Int64) then (0 : Int32) else (1 : Int32)) then (if (F1 ((2147483647 : Int64) + (((x2 &&& (7 : Int32)) - (4 : Int32)).toInt64))) = (if (0 : Int64) < (((x2 &&& (7 : Int32)) - (4 : Int32)).toInt64) then (0 : Int32) else (1 : Int32)) then (1 : Int32) else (0 : Int32)) else (0 : Int32)) : Int32)) (v := (0 : Int32)) ((F1 x1) = (if ((x1.toUInt64 >>> ((31 : Int32) &&& 0x3f).toInt64.toUInt64).toInt64) = (0 : Int64) then (1 : Int32) else (0 : Int32))) (fun z10 => (mkF m 113 #[.val (.long x1), .second, .val (.int x2), .val (.int (if (F1 x1) = (if ((x1.toUInt64 >>> ((31 : Int32) &&& 0x3f).toInt64.toUInt64).toInt64) = (0 : Int64) then (1 : Int32) else (0 : Int32)) then (1 : Int32) else (0 : Int32))), .val (.long (((x2 &&& (7 : Int32)) - (4 : Int32)).toInt64)), .second, .val (.int (if (F1 (((x2 &&& (7 : Int32)) - (4 : Int32)).toInt64)) = (if (((x2 &&& (7 : Int32)) - (4 : Int32)).toInt64) < (0 : Int64) then (0 : Int32) else (1 : Int32)) then (1 : Int32) else (0 : Int32))), .val (.int (if (F1 ((2147483647 : Int64) + (((x2 &&& (7 : Int32)) - (4 : Int32)).toInt64))) = (if (0 : Int64) < (((x2 &&& (7 : Int32)) - (4 : Int32)).toInt64) then (0 : Int32) else (1 : Int32)) then (1 : Int32) else (0 : Int32)))] [(.int z10)])) (fun hc10 k10 => ?_) (fun hc10 k10 => ?_) ?_
    · refine XS.ifNo X7.here hx rfl (hb hby at_95) rfl (own_bt hc10).2 ?_
      show Steps p.tables e below (T7.setTop (mkF m 98 #[.val (.long x1), .second, .val (.int x2), .val (.int (if (F1 x1) = (if ((x1.toUInt64 >>> ((31 : Int32) &&& 0x3f).toInt64.toUInt64).toInt64) = (0 : Int64) then (1 : Int32) else (0 : Int32)) then (1 : Int32) else (0 : Int32))), .val (.long (((x2 &&& (7 : Int32)) - (4 : Int32)).toInt64)), .second, .val (.int (if (F1 (((x2 &&& (7 : Int32)) - (4 : Int32)).toInt64)) = (if (((x2 &&& (7 : Int32)) - (4 : Int32)).toInt64) < (0 : Int64) then (0 : Int32) else (1 : Int32)) then (1 : Int32) else (0 : Int32))), .val (.int (if (F1 ((2147483647 : Int64) + (((x2 &&& (7 : Int32)) - (4 : Int32)).toInt64))) = (if (0 : Int64) < (((x2 &&& (7 : Int32)) - (4 : Int32)).toInt64) then (0 : Int32) else (1 : Int32)) then (1 : Int32) else (0 : Int32)))] [])) _
      refine XS.iload X7.here hx rfl (hb hby at_98) rfl ?_
      show Steps p.tables e below (T7.setTop (mkF m 100 #[.val (.long x1), .second, .val (.int x2), .val (.int (if (F1 x1) = (if ((x1.toUInt64 >>> ((31 : Int32) &&& 0x3f).toInt64.toUInt64).toInt64) = (0 : Int64) then (1 : Int32) else (0 : Int32)) then (1 : Int32) else (0 : Int32))), .val (.long (((x2 &&& (7 : Int32)) - (4 : Int32)).toInt64)), .second, .val (.int (if (F1 (((x2 &&& (7 : Int32)) - (4 : Int32)).toInt64)) = (if (((x2 &&& (7 : Int32)) - (4 : Int32)).toInt64) < (0 : Int64) then (0 : Int32) else (1 : Int32)) then (1 : Int32) else (0 : Int32))), .val (.int (if (F1 ((2147483647 : Int64) + (((x2 &&& (7 : Int32)) - (4 : Int32)).toInt64))) = (if (0 : Int64) < (((x2 &&& (7 : Int32)) - (4 : Int32)).toInt64) then (0 : Int32) else (1 : Int32)) then (1 : Int32) else (0 : Int32)))] [(.int (if (F1 (((x2 &&& (7 : Int32)) - (4 : Int32)).toInt64)) = (if (((x2 &&& (7 : Int32)) - (4 : Int32)).toInt64) < (0 : Int64) then (0 : Int32) else (1 : Int32)) then (1 : Int32) else (0 : Int32)))])) _
      refine own_dia (u := ((if (F1 ((2147483647 : Int64) + (((x2 &&& (7 : Int32)) - (4 : Int32)).toInt64))) = (if (0 : Int64) < (((x2 &&& (7 : Int32)) - (4 : Int32)).toInt64) then (0 : Int32) else (1 : Int32)) then (1 : Int32) else (0 : Int32)) : Int32)) (v := (0 : Int32)) ((F1 (((x2 &&& (7 : Int32)) - (4 : Int32)).toInt64)) = (if (((x2 &&& (7 : Int32)) - (4 : Int32)).toInt64) < (0 : Int64) then (0 : Int32) else (1 : Int32))) (fun z11 => (mkF m 113 #[.val (.long x1), .second, .val (.int x2), .val (.int (if (F1 x1) = (if ((x1.toUInt64 >>> ((31 : Int32) &&& 0x3f).toInt64.toUInt64).toInt64) = (0 : Int64) then (1 : Int32) else (0 : Int32)) then (1 : Int32) else (0 : Int32))), .val (.long (((x2 &&& (7 : Int32)) - (4 : Int32)).toInt64)), .second, .val (.int (if (F1 (((x2 &&& (7 : Int32)) - (4 : Int32)).toInt64)) = (if (((x2 &&& (7 : Int32)) - (4 : Int32)).toInt64) < (0 : Int64) then (0 : Int32) else (1 : Int32)) then (1 : Int32) else (0 : Int32))), .val (.int (if (F1 ((2147483647 : Int64) + (((x2 &&& (7 : Int32)) - (4 : Int32)).toInt64))) = (if (0 : Int64) < (((x2 &&& (7 : Int32)) - (4 : Int32)).toInt64) then (0 : Int32) else (1 : Int32)) then (1 : Int32) else (0 : Int32)))] [(.int z11)])) (fun hc11 k11 => ?_) (fun hc11 k11 => ?_) ?_
      · refine XS.ifNo X7.here hx rfl (hb hby at_100) rfl (own_bt hc11).2 ?_
        show Steps p.tables e below (T7.setTop (mkF m 103 #[.val (.long x1), .second, .val (.int x2), .val (.int (if (F1 x1) = (if ((x1.toUInt64 >>> ((31 : Int32) &&& 0x3f).toInt64.toUInt64).toInt64) = (0 : Int64) then (1 : Int32) else (0 : Int32)) then (1 : Int32) else (0 : Int32))), .val (.long (((x2 &&& (7 : Int32)) - (4 : Int32)).toInt64)), .second, .val (.int (if (F1 (((x2 &&& (7 : Int32)) - (4 : Int32)).toInt64)) = (if (((x2 &&& (7 : Int32)) - (4 : Int32)).toInt64) < (0 : Int64) then (0 : Int32) else (1 : Int32)) then (1 : Int32) else (0 : Int32))), .val (.int (if (F1 ((2147483647 : Int64) + (((x2 &&& (7 : Int32)) - (4 : Int32)).toInt64))) = (if (0 : Int64) < (((x2 &&& (7 : Int32)) - (4 : Int32)).toInt64) then (0 : Int32) else (1 : Int32)) then (1 : Int32) else (0 : Int32)))] [])) _
        refine XS.iload X7.here hx rfl (hb hby at_103) rfl ?_
        show Steps p.tables e below (T7.setTop (mkF m 105 #[.val (.long x1), .second, .val (.int x2), .val (.int (if (F1 x1) = (if ((x1.toUInt64 >>> ((31 : Int32) &&& 0x3f).toInt64.toUInt64).toInt64) = (0 : Int64) then (1 : Int32) else (0 : Int32)) then (1 : Int32) else (0 : Int32))), .val (.long (((x2 &&& (7 : Int32)) - (4 : Int32)).toInt64)), .second, .val (.int (if (F1 (((x2 &&& (7 : Int32)) - (4 : Int32)).toInt64)) = (if (((x2 &&& (7 : Int32)) - (4 : Int32)).toInt64) < (0 : Int64) then (0 : Int32) else (1 : Int32)) then (1 : Int32) else (0 : Int32))), .val (.int (if (F1 ((2147483647 : Int64) + (((x2 &&& (7 : Int32)) - (4 : Int32)).toInt64))) = (if (0 : Int64) < (((x2 &&& (7 : Int32)) - (4 : Int32)).toInt64) then (0 : Int32) else (1 : Int32)) then (1 : Int32) else (0 : Int32)))] [(.int (if (F1 ((2147483647 : Int64) + (((x2 &&& (7 : Int32)) - (4 : Int32)).toInt64))) = (if (0 : Int64) < (((x2 &&& (7 : Int32)) - (4 : Int32)).toInt64) then (0 : Int32) else (1 : Int32)) then (1 : Int32) else (0 : Int32)))])) _
        refine own_dia (u := ((1 : Int32) : Int32)) (v := (0 : Int32)) ((F1 ((2147483647 : Int64) + (((x2 &&& (7 : Int32)) - (4 : Int32)).toInt64))) = (if (0 : Int64) < (((x2 &&& (7 : Int32)) - (4 : Int32)).toInt64) then (0 : Int32) else (1 : Int32))) (fun z12 => (mkF m 113 #[.val (.long x1), .second, .val (.int x2), .val (.int (if (F1 x1) = (if ((x1.toUInt64 >>> ((31 : Int32) &&& 0x3f).toInt64.toUInt64).toInt64) = (0 : Int64) then (1 : Int32) else (0 : Int32)) then (1 : Int32) else (0 : Int32))), .val (.long (((x2 &&& (7 : Int32)) - (4 : Int32)).toInt64)), .second, .val (.int (if (F1 (((x2 &&& (7 : Int32)) - (4 : Int32)).toInt64)) = (if (((x2 &&& (7 : Int32)) - (4 : Int32)).toInt64) < (0 : Int64) then (0 : Int32) else (1 : Int32)) then (1 : Int32) else (0 : Int32))), .val (.int (if (F1 ((2147483647 : Int64) + (((x2 &&& (7 : Int32)) - (4 : Int32)).toInt64))) = (if (0 : Int64) < (((x2 &&& (7 : Int32)) - (4 : Int32)).toInt64) then (0 : Int32) else (1 : Int32)) then (1 : Int32) else (0 : Int32)))] [(.int z12)])) (fun hc12 k12 => ?_) (fun hc12 k12 => ?_) ?_
        · refine XS.ifNo X7.here hx rfl (hb hby at_105) rfl (own_bt hc12).2 ?_
          show Steps p.tables e below (T7.setTop (mkF m 108 #[.val (.long x1), .second, .val (.int x2), .val (.int (if (F1 x1) = (if ((x1.toUInt64 >>> ((31 : Int32) &&& 0x3f).toInt64.toUInt64).toInt64) = (0 : Int64) then (1 : Int32) else (0 : Int32)) then (1 : Int32) else (0 : Int32))), .val (.long (((x2 &&& (7 : Int32)) - (4 : Int32)).toInt64)), .second, .val (.int (if (F1 (((x2 &&& (7 : Int32)) - (4 : Int32)).toInt64)) = (if (((x2 &&& (7 : Int32)) - (4 : Int32)).toInt64) < (0 : Int64) then (0 : Int32) else (1 : Int32)) then (1 : Int32) else (0 : Int32))), .val (.int (if (F1 ((2147483647 : Int64) + (((x2 &&& (7 : Int32)) - (4 : Int32)).toInt64))) = (if (0 : Int64) < (((x2 &&& (7 : Int32)) - (4 : Int32)).toInt64) then (0 : Int32) else (1 : Int32)) then (1 : Int32) else (0 : Int32)))] [])) _
          refine XS.iconst X7.here hx rfl (hb hby at_108) ?_
          show Steps p.tables e below (T7.setTop (mkF m 109 #[.val (.long x1), .second, .val (.int x2), .val (.int (if (F1 x1) = (if ((x1.toUInt64 >>> ((31 : Int32) &&& 0x3f).toInt64.toUInt64).toInt64) = (0 : Int64) then (1 : Int32) else (0 : Int32)) then (1 : Int32) else (0 : Int32))), .val (.long (((x2 &&& (7 : Int32)) - (4 : Int32)).toInt64)), .second, .val (.int (if (F1 (((x2 &&& (7 : Int32)) - (4 : Int32)).toInt64)) = (if (((x2 &&& (7 : Int32)) - (4 : Int32)).toInt64) < (0 : Int64) then (0 : Int32) else (1 : Int32)) then (1 : Int32) else (0 : Int32))), .val (.int (if (F1 ((2147483647 : Int64) + (((x2 &&& (7 : Int32)) - (4 : Int32)).toInt64))) = (if (0 : Int64) < (((x2 &&& (7 : Int32)) - (4 : Int32)).toInt64) then (0 : Int32) else (1 : Int32)) then (1 : Int32) else (0 : Int32)))] [(.int (1 : Int32))])) _
          refine XS.goto X7.here hx rfl (pc0 := 109) (pc' := 113) rfl (hb hby at_109) (by decide) (by decide) ?_
          exact k12
        · refine XS.ifYes X7.here hx rfl (pc0 := 105) (pc' := 112) rfl (hb hby at_105) rfl (own_bf hc12).2 (by decide) (by decide) ?_
          show Steps p.tables e below (T7.setTop (mkF m 112 #[.val (.long x1), .second, .val (.int x2), .val (.int (if (F1 x1) = (if ((x1.toUInt64 >>> ((31 : Int32) &&& 0x3f).toInt64.toUInt64).toInt64) = (0 : Int64) then (1 : Int32) else (0 : Int32)) then (1 : Int32) else (0 : Int32))), .val (.long (((x2 &&& (7 : Int32)) - (4 : Int32)).toInt64)), .second, .val (.int (if (F1 (((x2 &&& (7 : Int32)) - (4 : Int32)).toInt64)) = (if (((x2 &&& (7 : Int32)) - (4 : Int32)).toInt64) < (0 : Int64) then (0 : Int32) else (1 : Int32)) then (1 : Int32) else (0 : Int32))), .val (.int (if (F1 ((2147483647 : Int64) + (((x2 &&& (7 : Int32)) - (4 : Int32)).toInt64))) = (if (0 : Int64) < (((x2 &&& (7 : Int32)) - (4 : Int32)).toInt64) then (0 : Int32) else (1 : Int32)) then (1 : Int32) else (0 : Int32)))] [])) _
          refine XS.iconst X7.here hx rfl (hb hby at_112) ?_
          exact k12
        -- meets at 113
        exact k11
      · refine XS.ifYes X7.here hx rfl (pc0 := 100) (pc' := 112) rfl (hb hby at_100) rfl (own_bf hc11).2 (by decide) (by decide) ?_
        show Steps p.tables e below (T7.setTop (mkF m 112 #[.val (.long x1), .second, .val (.int x2), .val (.int (if (F1 x1) = (if ((x1.toUInt64 >>> ((31 : Int32) &&& 0x3f).toInt64.toUInt64).toInt64) = (0 : Int64) then (1 : Int32) else (0 : Int32)) then (1 : Int32) else (0 : Int32))), .val (.long (((x2 &&& (7 : Int32)) - (4 : Int32)).toInt64)), .second, .val (.int (if (F1 (((x2 &&& (7 : Int32)) - (4 : Int32)).toInt64)) = (if (((x2 &&& (7 : Int32)) - (4 : Int32)).toInt64) < (0 : Int64) then (0 : Int32) else (1 : Int32)) then (1 : Int32) else (0 : Int32))), .val (.int (if (F1 ((2147483647 : Int64) + (((x2 &&& (7 : Int32)) - (4 : Int32)).toInt64))) = (if (0 : Int64) < (((x2 &&& (7 : Int32)) - (4 : Int32)).toInt64) then (0 : Int32) else (1 : Int32)) then (1 : Int32) else (0 : Int32)))] [])) _
        refine XS.iconst X7.here hx rfl (hb hby at_112) ?_
        exact k11
      -- meets at 113
      exact k10
    · refine XS.ifYes X7.here hx rfl (pc0 := 95) (pc' := 112) rfl (hb hby at_95) rfl (own_bf hc10).2 (by decide) (by decide) ?_
      show Steps p.tables e below (T7.setTop (mkF m 112 #[.val (.long x1), .second, .val (.int x2), .val (.int (if (F1 x1) = (if ((x1.toUInt64 >>> ((31 : Int32) &&& 0x3f).toInt64.toUInt64).toInt64) = (0 : Int64) then (1 : Int32) else (0 : Int32)) then (1 : Int32) else (0 : Int32))), .val (.long (((x2 &&& (7 : Int32)) - (4 : Int32)).toInt64)), .second, .val (.int (if (F1 (((x2 &&& (7 : Int32)) - (4 : Int32)).toInt64)) = (if (((x2 &&& (7 : Int32)) - (4 : Int32)).toInt64) < (0 : Int64) then (0 : Int32) else (1 : Int32)) then (1 : Int32) else (0 : Int32))), .val (.int (if (F1 ((2147483647 : Int64) + (((x2 &&& (7 : Int32)) - (4 : Int32)).toInt64))) = (if (0 : Int64) < (((x2 &&& (7 : Int32)) - (4 : Int32)).toInt64) then (0 : Int32) else (1 : Int32)) then (1 : Int32) else (0 : Int32)))] [])) _
      refine XS.iconst X7.here hx rfl (hb hby at_112) ?_
      exact k10
    -- meets at 113
    show Steps p.tables e below (T7.setTop (mkF m 113 #[.val (.long x1), .second, .val (.int x2), .val (.int (if (F1 x1) = (if ((x1.toUInt64 >>> ((31 : Int32) &&& 0x3f).toInt64.toUInt64).toInt64) = (0 : Int64) then (1 : Int32) else (0 : Int32)) then (1 : Int32) else (0 : Int32))), .val (.long (((x2 &&& (7 : Int32)) - (4 : Int32)).toInt64)), .second, .val (.int (if (F1 (((x2 &&& (7 : Int32)) - (4 : Int32)).toInt64)) = (if (((x2 &&& (7 : Int32)) - (4 : Int32)).toInt64) < (0 : Int64) then (0 : Int32) else (1 : Int32)) then (1 : Int32) else (0 : Int32))), .val (.int (if (F1 ((2147483647 : Int64) + (((x2 &&& (7 : Int32)) - (4 : Int32)).toInt64))) = (if (0 : Int64) < (((x2 &&& (7 : Int32)) - (4 : Int32)).toInt64) then (0 : Int32) else (1 : Int32)) then (1 : Int32) else (0 : Int32)))] [(.int (if (F1 x1) = (if ((x1.toUInt64 >>> ((31 : Int32) &&& 0x3f).toInt64.toUInt64).toInt64) = (0 : Int64) then (1 : Int32) else (0 : Int32)) then (if (F1 (((x2 &&& (7 : Int32)) - (4 : Int32)).toInt64)) = (if (((x2 &&& (7 : Int32)) - (4 : Int32)).toInt64) < (0 : Int64) then (0 : Int32) else (1 : Int32)) then (if (F1 ((2147483647 : Int64) + (((x2 &&& (7 : Int32)) - (4 : Int32)).toInt64))) = (if (0 : Int64) < (((x2 &&& (7 : Int32)) - (4 : Int32)).toInt64) then (0 : Int32) else (1 : Int32)) then (1 : Int32) else (0 : Int32)) else (0 : Int32)) else (0 : Int32)))])) _
    exact retN X7 hx (t := .boolean) Bd.returns (by simp) (hb hby at_113) (by rw [own_nb (own_b01 (own_b01 (own_b01 (Or.inr rfl) (Or.inl rfl)) (Or.inl rfl)) (Or.inl rfl))]; exact hr)
  · show Q0 Z x1 x2 h0 n0 _ T7.heap _
    rw [e7]
    exact ⟨rfl, N7⟩

theorem own_ushr (t : Int64) : ((t.toUInt64 >>> ((31 : Int32) &&& 0x3f).toInt64.toUInt64).toInt64) = (0 : Int64) ↔ (0 ≤ t.toInt ∧ t.toInt < 2147483648) := by
  by_cases h : 0 ≤ t.toInt
  · have e := Jvm.Kit.i64_lushr (x := t) (Jvm.Kit.i64_nonneg.mpr h) (n := ((31 : Int32) &&& 0x3f).toInt64.toUInt64) (k := 31) (by decide) (by decide)
    rw [← Int64.toInt_inj, e]
    show t.toInt / 2 ^ 31 = 0 ↔ _
    omega
  · constructor
    · intro q
      exfalso
      have hb := t.toBitVec.isLt
      have e0 : t.toInt = t.toBitVec.toInt := rfl
      have hbig : 2 ^ 63 ≤ t.toBitVec.toNat := by
        rw [e0, BitVec.toInt_eq_toNat_cond] at h
        by_cases hc : 2 * t.toBitVec.toNat < 2 ^ 64
        · rw [if_pos hc] at h; omega
        · omega
      have e2 : ((t.toUInt64 >>> ((31 : Int32) &&& 0x3f).toInt64.toUInt64).toInt64).toBitVec.toNat = t.toBitVec.toNat / 2 ^ 31 := by
        simp only [UInt64.toBitVec_toInt64, UInt64.toBitVec_shiftRight, Int64.toBitVec_toUInt64]
        rw [show ((((31 : Int32) &&& 0x3f).toInt64).toBitVec % 64) = 31#64 from by decide]
        simp [BitVec.toNat_ushiftRight, Nat.shiftRight_eq_div_pow]
      rw [q] at e2
      have e3 : ((0 : Int64).toBitVec.toNat) = 0 := rfl
      rw [e3] at e2
      omega
    · intro q; omega
theorem own_whole (x1 : Int64) : F1 x1 = (if ((x1.toUInt64 >>> ((31 : Int32) &&& 0x3f).toInt64.toUInt64).toInt64) = (0 : Int64) then (1 : Int32) else (0 : Int32)) := by
  have l0 : (0 : Int64).toInt = 0 := rfl
  have lm : (2147483647 : Int64).toInt = 2147483647 := rfl
  unfold F1
  simp only [own_ushr, Int64.lt_iff_toInt_lt, l0, lm]
  (repeat' split) <;> first | rfl | (exfalso; omega)
theorem own_b (x2 : Int32) : -4 ≤ ((x2 &&& (7 : Int32)) - (4 : Int32)).toInt64.toInt ∧ ((x2 &&& (7 : Int32)) - (4 : Int32)).toInt64.toInt ≤ 3 := by
  have e1 : (x2 &&& (7 : Int32)).toInt = x2.toInt % 2 ^ 3 := Jvm.Kit.i32_mask x2 7 (by decide) (by decide)
  have l4 : (4 : Int32).toInt = 4 := rfl
  have e2 : ((x2 &&& (7 : Int32)) - (4 : Int32)).toInt = (x2 &&& (7 : Int32)).toInt - (4 : Int32).toInt := Jvm.Kit.i32_sub (by rw [l4]; omega) (by rw [l4]; omega)
  rw [Int32.toInt_toInt64, e2, l4]; omega
theorem own_low {b : Int64} (h : -4 ≤ b.toInt ∧ b.toInt ≤ 3) : F1 b = (if b < (0 : Int64) then (0 : Int32) else (1 : Int32)) := by
  have l0 : (0 : Int64).toInt = 0 := rfl
  have lm : (2147483647 : Int64).toInt = 2147483647 := rfl
  unfold F1
  simp only [Int64.lt_iff_toInt_lt, l0, lm]
  (repeat' split) <;> first | rfl | (exfalso; omega)
theorem own_high {b : Int64} (h : -4 ≤ b.toInt ∧ b.toInt ≤ 3) : F1 ((2147483647 : Int64) + b) = (if (0 : Int64) < b then (0 : Int32) else (1 : Int32)) := by
  have l0 : (0 : Int64).toInt = 0 := rfl
  have lm : (2147483647 : Int64).toInt = 2147483647 := rfl
  have e : ((2147483647 : Int64) + b).toInt = (2147483647 : Int64).toInt + b.toInt := Jvm.Kit.i64_add (by rw [lm]; omega) (by rw [lm]; omega)
  unfold F1
  simp only [Int64.lt_iff_toInt_lt, e, l0, lm]
  (repeat' split) <;> first | rfl | (exfalso; omega)
theorem own_plain (x1 : Int64) (x2 : Int32) : F0 x1 x2 = 1 := by
  unfold F0
  rw [if_pos (own_whole x1), if_pos (own_low (own_b x2)), if_pos (own_high (own_b x2))]

set_option maxRecDepth 65536 in
set_option maxHeartbeats 40000000 in
theorem comes_1 {Post : Tables → Env → Array Value → State → Outcome → State → Prop} (hpost : ∀ tb e args s v u, (limb_1_1.after args s (.returned v) u = true ∧ limb_1_2.after args s (.returned v) u = true ∧ True) → FrameEnd s (.returned v) u (Jvm.fieldLocs frame_1_writes args s ++ Jvm.arrayLocs frame_1_arrays args s ++ Jvm.staticLocs frame_1_statics s) 0 0 → Post tb e args s (.returned v) u) :
    ArmFor flags0 classFile x code maxLocals ret World_1 tables_1 room_1 Calls_1 rest_1 Pre_1 Post := by
  intro l hfl _ _ p e ha hc hk s m args below hf hA hF happ hP
  obtain ⟨hcalls, hrest, hpre⟩ := hP
  obtain ⟨-, -, -, hnamed, -, -, -, hat⟩ := (Spec.applies_iff hf).mp happ
  obtain ⟨hg, hn⟩ := and_e (Cond.before_iff.mp (show (Jvm.Cond.and given_1 narrow_1).before args s = true from hpre))
  obtain ⟨hcount, t0⟩ := and_e hg
  obtain ⟨k0, t1⟩ := and_e t0
  have k1 := t1
  obtain ⟨w0, w1, rfl⟩ : ∃ w0 w1 : Value, args = #[w0, w1] := by
    have hs : args.size = 2 := by simpa [Cond.value, given_1] using hcount
    obtain ⟨L⟩ := args
    match L, hs with
    | [w0, w1], _ => exact ⟨w0, w1, rfl⟩
  have hw := fun d (hd : d ∈ tables_1) => atoms_spec (ws := Jvm.Cond.code x code maxLocals ret :: tables_1) hat d (List.mem_cons_of_mem _ hd)
  obtain ⟨i0, ei0⟩ := isL_v k0
  obtain rfl : w0 = (.long i0) := Option.some.inj ei0
  obtain ⟨i1, ei1⟩ := is_v k1
  obtain rfl : w1 = (.int i1) := Option.some.inj ei1
  obtain ⟨n, o, h1, h2, h3, _, L, rfl, ⟨hv, N⟩, hq⟩ := rm0 l s _ hw tables_1 i0 i1 s.heap s.heap.size (Nat.le_refl _) p e ha hc hk s m _ below hf ((Spec.applies_iff_loose hf).mp happ).1 ⟨rfl, State.Warmed39.refl s, rfl⟩ trivial
  rw [own_plain i0 i1] at hv
  subst hv
  refine ⟨n, _, h1, h2, h3, hpost _ _ _ _ _ _ ⟨Cond.after_iff.mpr rfl, Cond.after_iff.mpr (eq_i res_at (Term.int_eval (1)) rfl), trivial⟩ ⟨hq.1, hq.2.1, (hq.2.2.sift fun y hy => Or.inr (N y hy)).mono (by decide) (by decide)⟩⟩
theorem main_1_1 : Claimed_1_1 := comes_1 fun _ _ _ _ _ _ h hF => ⟨h.1, hF⟩
theorem main_1_2 : Claimed_1_2 := comes_1 fun _ _ _ _ _ _ h hF => ⟨h.2.1, hF⟩
end Jvm.Pilot.@@N@@
namespace Jvm.Pilot.@@N@@
open Jvm Jvm.ClassFile Sem Op Lib Jvm.Free Jvm.Stand Jvm.Pilot.@@N@@.Jvm.D
/-! MADE BY PROGRAM (witnessworld.py) out of the Statement's table words and the real class files: 10 classes; the members and pool entries that the words name. The judged class is class 1, her method 1. -/
namespace start1
open Jvm.ClassFile
def u (s : String) : CpInfo := .utf8 (stringToUtf16 s)
/-- a pool by its gaps: so many unusable entries, then the entry; so many at the end -/
def gap : Nat → List CpInfo → List CpInfo
  | 0, r => r
  | n + 1, r => .unusable :: gap n r
def poolList (es : List (Nat × CpInfo)) (last : Nat) : List CpInfo := es.foldr (fun e r => gap e.1 (e.2 :: r)) (gap last [])
def pool (es : List (Nat × CpInfo)) (last : Nat) : Array CpInfo := ⟨poolList es last⟩
def fileOf (pool : Array CpInfo) (this : Nat) (attrs : Array Attribute := #[]) (ms : Array MethodInfo := #[]) (fl : Nat := 33) (sup : Nat := 0) (ifs : Array Nat := #[]) (fds : Array FieldInfo := #[]) : ClassFile where
  minorVersion := 0
  majorVersion := 65
  constantPool := pool
  accessFlags := fl
  thisClass := this
  superClass := sup
  interfaces := ifs
  fields := fds
  methods := ms
  attributes := attrs
def plain (name : String) (sup : Option ClassId) : Class where
  name := name
  kind := .ordinary
  loader := none
  accessFlags := 33
  super := sup
  interfaces := #[]
  cf := none
  fields := #[]
  methods := #[]
  instanceTypes := #[]
  staticTypes := #[]
  resolved := #[]
  callSites := []
  init := .initialized
  statics := none
  mirror := none

def pool0 : Array CpInfo := pool [(5, u "<init>"), (0, u "()V"), (1, .class_ 10), (1, u "java/lang/Object")] 113

def k0m0 : Method := { name := "<init>", desc := "()V", sig := { parameters := [], returnType := none }, accessFlags := 1, code := none }
/-- java/lang/Object -/
def k0 : Class := { plain "java/lang/Object" none with
  accessFlags := 33
  interfaces := #[]
  cf := some (fileOf pool0 8 #[] #[{ accessFlags := 1, nameIndex := 5, descriptorIndex := 6, attributes := #[] }] 33 0 #[] #[])
  fields := #[]
  methods := #[k0m0]
  instanceTypes := #[]
  staticTypes := #[]
  resolved := Array.replicate 124 none
  statics := none }

def pool1 : Array CpInfo := pool [(2, .class_ 4), (1, u "java/lang/Object"), (0, u "<init>"), (0, u "()V"), (0, .methodref 8 9), (0, .class_ 10), (0, .nameAndType 11 12), (0, u "com/example/threadkeep/threadkeep/store/TokenUsage"), (0, u "isCount"), (0, u "(J)Z"), (0, .long 2147483647), (1, .class_ 16), (0, u "com/example/threadkeep/threadkeep/store/TokenUsageIsCountPinLaw"), (2, u "law"), (0, u "(JI)Z")] 3

def k1m0 : Method := { name := "<init>", desc := "()V", sig := { parameters := [], returnType := none }, accessFlags := 1, code := none }
def k1c1 : Code := { maxStack := 5, maxLocals := 8, code := code, exceptionTable := #[], attributes := #[] }
def k1m1 : Method := { name := "law", desc := "(JI)Z", sig := { parameters := [.long, .int], returnType := some .boolean }, accessFlags := 9, code := some k1c1 }
/-- com/example/threadkeep/threadkeep/store/TokenUsageIsCountPinLaw -/
def k1 : Class := { plain "com/example/threadkeep/threadkeep/store/TokenUsageIsCountPinLaw" (some 0) with
  accessFlags := 49
  interfaces := #[]
  cf := some (fileOf pool1 15 #[] #[{ accessFlags := 1, nameIndex := 5, descriptorIndex := 6, attributes := #[] }, { accessFlags := 9, nameIndex := 19, descriptorIndex := 20, attributes := #[] }] 49 2 #[] #[])
  fields := #[]
  methods := #[k1m0, k1m1]
  instanceTypes := #[]
  staticTypes := #[]
  resolved := Array.replicate 24 none
  statics := none }

def pool2 : Array CpInfo := pool [(2, .class_ 4), (1, u "java/lang/Object"), (0, u "<init>"), (0, u "()V"), (0, .class_ 8), (0, u "java/lang/Record")] 13

def k2m0 : Method := { name := "<init>", desc := "()V", sig := { parameters := [], returnType := none }, accessFlags := 4, code := none }
/-- java/lang/Record -/
def k2 : Class := { plain "java/lang/Record" (some 0) with
  accessFlags := 1057
  interfaces := #[]
  cf := some (fileOf pool2 7 #[] #[{ accessFlags := 4, nameIndex := 5, descriptorIndex := 6, attributes := #[] }] 1057 2 #[] #[])
  fields := #[]
  methods := #[k2m0]
  instanceTypes := #[]
  staticTypes := #[]
  resolved := Array.replicate 22 none
  statics := none }

def pool3 : Array CpInfo := pool [(4, .class_ 6), (1, u "java/lang/Record"), (5, .class_ 14), (1, u "com/example/threadkeep/threadkeep/store/TokenUsage"), (8, u "promptTokens"), (0, u "J"), (2, u "completionTokens"), (2, u "totalTokens"), (0, .long 2147483647), (3, u "isCount"), (0, u "(J)Z"), (21, u "MAX_TOKENS")] 40

def k3c0 : Code := { maxStack := 4, maxLocals := 2, code := prog_78_method_2_code, exceptionTable := #[], attributes := #[] }
def k3m0 : Method := { name := "isCount", desc := "(J)Z", sig := { parameters := [.long], returnType := some .boolean }, accessFlags := 9, code := some k3c0 }
/-- com/example/threadkeep/threadkeep/store/TokenUsage -/
def k3 : Class := { plain "com/example/threadkeep/threadkeep/store/TokenUsage" (some 2) with
  accessFlags := 49
  interfaces := #[]
  cf := some (fileOf pool3 12 #[] #[{ accessFlags := 9, nameIndex := 35, descriptorIndex := 36, attributes := #[] }] 49 4 #[] #[{ accessFlags := 18, nameIndex := 23, descriptorIndex := 24, attributes := #[] }, { accessFlags := 18, nameIndex := 27, descriptorIndex := 24, attributes := #[] }, { accessFlags := 18, nameIndex := 30, descriptorIndex := 24, attributes := #[] }, { accessFlags := 25, nameIndex := 58, descriptorIndex := 24, attributes := #[] }])
  fields := #[{ name := "promptTokens", type := .long, accessFlags := 18, slot := 0, constantValue := 0 }, { name := "completionTokens", type := .long, accessFlags := 18, slot := 1, constantValue := 0 }, { name := "totalTokens", type := .long, accessFlags := 18, slot := 2, constantValue := 0 }, { name := "MAX_TOKENS", type := .long, accessFlags := 25, slot := 0, constantValue := 0 }]
  methods := #[k3m0]
  instanceTypes := #[.long, .long, .long]
  staticTypes := #[.long]
  resolved := Array.replicate 99 none
  statics := none }

def pool4 : Array CpInfo := pool [(1, u "java/lang/Cloneable"), (0, .class_ 1), (0, u "java/lang/Object"), (0, .class_ 3)] 3

/-- java/lang/Cloneable -/
def k4 : Class := { plain "java/lang/Cloneable" (some 0) with
  accessFlags := 1537
  interfaces := #[]
  cf := some (fileOf pool4 2 #[] #[] 1537 4 #[] #[])
  fields := #[]
  methods := #[]
  instanceTypes := #[]
  staticTypes := #[]
  resolved := Array.replicate 8 none
  statics := none }

def pool5 : Array CpInfo := pool [(1, u "java/io/Serializable"), (0, .class_ 1), (0, u "java/lang/Object"), (0, .class_ 3)] 3

/-- java/io/Serializable -/
def k5 : Class := { plain "java/io/Serializable" (some 0) with
  accessFlags := 1537
  interfaces := #[]
  cf := some (fileOf pool5 2 #[] #[] 1537 4 #[] #[])
  fields := #[]
  methods := #[]
  instanceTypes := #[]
  staticTypes := #[]
  resolved := Array.replicate 8 none
  statics := none }

/-- the primitive byte -/
def k6 : Class := { plain "byte" none with kind := .primitive 'B', accessFlags := 0x411 }
/-- [B -/
def k7 : Class := { plain "[B" (some 0) with kind := .array 6 .byte, interfaces := #[4, 5], accessFlags := 1041 }

/-- the primitive int -/
def k8 : Class := { plain "int" none with kind := .primitive 'I', accessFlags := 0x411 }
/-- [I -/
def k9 : Class := { plain "[I" (some 0) with kind := .array 8 .int, interfaces := #[4, 5], accessFlags := 1041 }

def heap : Heap := #[]
def classes : Array Class := #[k0, k1, k2, k3, k4, k5, k6, k7, k8, k9]
def interned : List (Array UInt16 × Addr) := []
def slotsUsed : Nat := 0
def theMethod : MethodId := ⟨1, 1⟩
def args0 : Array Value := #[.long 7, .int 5]
def aboutOver (below : List Frame) : State where
  vm := { classes := classes, interned := interned.toArray }
  heap := heap
  slotsUsed := slotsUsed
  threads := #[{ frames := .invoking theMethod args0 :: below }]
def below0 : List Frame := [.native { method := ⟨0, 0⟩, args := #[] }]
def about1 : State := aboutOver below0
def p0 : Program := .bare "" "" ""
def e0 : Env := launch0.env 0 0 0
theorem w_frames : about1.frames = Frame.invoking theMethod args0 :: below0 := rfl
set_option maxRecDepth 65536 in
theorem w_args : argsFit about1.vm theMethod args0 = true := by decide +kernel
set_option maxRecDepth 65536 in
theorem w_heap : heapFits about1 = true := by decide +kernel
set_option maxRecDepth 65536 in
theorem w_runnable : about1.curStatus? = some .runnable := by decide +kernel
set_option maxRecDepth 65536 in
theorem w_alone : about1.alone = true := by decide +kernel
set_option maxRecDepth 65536 in
theorem w_named : about1.methodNamed? x = some theMethod := by decide +kernel
set_option maxRecDepth 65536 in
theorem w_hears : about1.hears theMethod below0 = true := by decide +kernel
set_option maxRecDepth 65536 in
theorem w_ripe : about1.ripe theMethod args0 below0 = true := by decide +kernel
theorem w_running : about1.status = .running := rfl
set_option maxRecDepth 65536 in
theorem w_room : about1.hasRoom e0.platform room_1 = true :=
  launch0.hasRoom_least _ room_1 (by decide +kernel) (by decide +kernel) (by decide +kernel) (by decide +kernel) (by decide +kernel) (by decide +kernel)
theorem allAtoms_all (ts : List Jvm.Cond) (a : Array Jvm.Value) (st : Jvm.State) : (allAtoms ts).before a st = ts.all (fun c => c.before a st) := by
  induction ts with
  | nil => rfl
  | cons c t ih =>
    show (Jvm.Cond.and c (allAtoms t)).before a st = _
    rw [Jvm.Cond.before_and, ih, List.all_cons]
def words1 : List Jvm.Cond := Jvm.Cond.code x code maxLocals ret :: tables_1
/-- a 'code' word, met by the world's own term for the bytes: nothing is compared byte by byte -/
theorem code_word {y : MethodName} {bytes : ByteArray} {mx : Nat} {rt : Option FieldType} {a : Array Value} {s : State} {m : MethodId} {meth : Method} {c : Code} (h1 : s.methodNamed? y = some m) (h2 : s.vm.method? m = some meth) (h3 : meth.code = some c) (h4 : c.code = bytes)
    (h5 : (c.maxLocals == mx && c.exceptionTable.isEmpty && decide (c.maxStack ≤ mostOperands) && decide (meth.sig.returnType = rt) && !meth.locks && decide (parseMethodDescriptor y.desc = some meth.sig)) = true) : (Jvm.Cond.code y bytes mx rt).before a s = true := by
  simp only [Bool.and_eq_true, beq_iff_eq, Bool.not_eq_true', decide_eq_true_eq] at h5
  obtain ⟨⟨⟨⟨⟨g1, g2⟩, g3⟩, g4⟩, g5⟩, g6⟩ := h5
  simp [Cond.before, Cond.holds, Cond.value, h1, h2, h3, h4, g1, g2, g3, g4, g5, g6]
def isCode : Jvm.Cond → Bool
  | .code _ _ _ _ => true
  | _ => false
theorem all_split {L : List Jvm.Cond} {P : Jvm.Cond → Bool} (h1 : L.all (fun c => isCode c || P c) = true) (h2 : ∀ c ∈ L.filter isCode, P c = true) : L.all P = true := by
  refine List.all_eq_true.mpr fun c hc => ?_
  have h := List.all_eq_true.mp h1 c hc
  rcases Bool.eq_false_or_eq_true (isCode c) with hi | hi
  · exact h2 c (List.mem_filter.mpr ⟨hc, hi⟩)
  · simpa [hi] using h
set_option maxRecDepth 65536 in
theorem w_c0 : (Jvm.Cond.code x code maxLocals ret).before args0 about1 = true := code_word (m := ⟨1, 1⟩) (meth := k1m1) (c := k1c1) (by decide +kernel) rfl rfl rfl (by decide +kernel)
set_option maxRecDepth 65536 in
theorem w_c1 : (Jvm.Cond.code ({ cls := "com/example/threadkeep/threadkeep/store/TokenUsage", name := "isCount", desc := "(J)Z" } : Jvm.MethodName) prog_78_method_2_code (2 : Nat) (Option.some Jvm.ClassFile.FieldType.boolean)).before args0 about1 = true := code_word (m := ⟨3, 0⟩) (meth := k3m0) (c := k3c0) (by decide +kernel) rfl rfl rfl (by decide +kernel)
def codes1 : List Jvm.Cond := [Jvm.Cond.code x code maxLocals ret, Jvm.Cond.code ({ cls := "com/example/threadkeep/threadkeep/store/TokenUsage", name := "isCount", desc := "(J)Z" } : Jvm.MethodName) prog_78_method_2_code (2 : Nat) (Option.some Jvm.ClassFile.FieldType.boolean)]
set_option maxRecDepth 65536 in
theorem codes_eq : words1.filter isCode = codes1 := rfl
theorem w_codes : ∀ c ∈ words1.filter isCode, c.before args0 about1 = true := by
  rw [codes_eq]
  intro c hc
  simp only [codes1, List.mem_cons, List.not_mem_nil, or_false] at hc
  rcases hc with rfl | rfl
  · exact w_c0
  · exact w_c1
set_option maxRecDepth 65536 in
theorem w_t1 : words1.all (fun c => isCode c || c.before args0 about1) = true := by decide +kernel
theorem w_tables : (allAtoms (Jvm.Cond.code x code maxLocals ret :: tables_1)).before args0 about1 = true := by
  rw [allAtoms_all]
  show words1.all (fun c => c.before args0 about1) = true
  refine all_split ?_ w_codes
  rw [w_t1]
set_option maxRecDepth 65536 in
theorem w_case : (Jvm.Cond.and given_1 narrow_1).before args0 about1 = true := by decide +kernel
theorem w_applies : (headSpec (Jvm.Cond.code x code maxLocals ret :: tables_1) room_1).applies x e0.platform about1 = true :=
  (Spec.applies_iff w_frames).mpr ⟨w_running, w_runnable, w_alone, w_named, w_hears, w_ripe, w_room, w_tables⟩
theorem atStart : AtStart classFile x code maxLocals ret World_1 tables_1 room_1 Calls_1 rest_1 Pre_1 launch0 p0 e0 about1 theMethod args0 below0 :=
  ⟨lists_1, trivial, launch0.admits_env _ _ _, launch0.least_env, fairChoices_fair.cas, fairChoices_fair.clock, w_frames, w_args, w_heap, w_applies, trivial, trivial, w_case⟩
end start1
theorem witness_1 : WitnessClaimed_1 := ⟨start1.p0, start1.e0, start1.about1, start1.theMethod, start1.args0, start1.below0, start1.atStart⟩
end Jvm.Pilot.@@N@@
