import JvmDerived
import JvmDerived.Pilot.@@N@@Statement
import JvmDerived.Pilot.@@N@@Code
set_option linter.unusedVariables false
set_option linter.unusedSimpArgs false
namespace Jvm.RoadKit
open Sem ClassFile Op Lib Jvm.Stand Jvm.Free Jvm.LawKit
section New
variable {p : Program} {l : Launch} {e : Env} {R : Room} {s : State} {m : MethodId} {args : Array Value} {below : List Frame} {meth : Method} {c : Code} {T : State} {locs : List Loc} {cells slots : Nat}
theorem retI (X : Stand p l e R s m args below meth c T locs cells slots) (hx : p.tables.exec = Jvm.exec) {pc : Nat} {Ls : Array Slot} {z : Int32} {rest : List Value} (hret : meth.sig.returnType = some .int) (hd : decode c.code pc = .ok (.ireturn, 1)) {fs : List Frame}
    (hl : ∀ (f : JFrame) (acts : List Action), f.method = m → f.locked = none → f.entered = [] → (doReturn e (T.setTop f) acts (some (.int z))).1 = T.setFrames fs) : Steps p.tables e below (T.setTop (mkF m pc Ls (.int z :: rest))) (T.setFrames fs) :=
  retOut X hx hret rfl (Or.inl ⟨rfl, Or.inl rfl, _, rfl⟩) hd hl
theorem own_retL (X : Stand p l e R s m args below meth c T locs cells slots) (hx : p.tables.exec = Jvm.exec) {pc : Nat} {Ls : Array Slot} {z : Int64} {rest : List Value} (hret : meth.sig.returnType = some .long) (hd : decode c.code pc = .ok (.lreturn, 1)) {fs : List Frame}
    (hl : ∀ (f : JFrame) (acts : List Action), f.method = m → f.locked = none → f.entered = [] → (doReturn e (T.setTop f) acts (some (.long z))).1 = T.setFrames fs) : Steps p.tables e below (T.setTop (mkF m pc Ls (.long z :: rest))) (T.setFrames fs) :=
  retOut X hx hret rfl (Or.inr (Or.inl ⟨rfl, rfl, _, rfl⟩)) hd hl
theorem own_retA (X : Stand p l e R s m args below meth c T locs cells slots) (hx : p.tables.exec = Jvm.exec) {pc : Nat} {Ls : Array Slot} {z : Addr} {rest : List Value} {t : FieldType} (hret : meth.sig.returnType = some t) (ht : t.isReference = true) (hd : decode c.code pc = .ok (.areturn, 1)) {fs : List Frame}
    (hl : ∀ (f : JFrame) (acts : List Action), f.method = m → f.locked = none → f.entered = [] → (doReturn e (T.setTop f) acts (some (.ref z))).1 = T.setFrames fs) : Steps p.tables e below (T.setTop (mkF m pc Ls (.ref z :: rest))) (T.setFrames fs) :=
  retOut X hx hret (by cases t <;> first | rfl | (cases ht; done)) (Or.inr (Or.inr (Or.inr (Or.inr ⟨rfl, ht, rfl⟩)))) hd hl
theorem own_lrem {g : JFrame} {target : State} (X : Stand p l e R s m args below meth c T locs cells slots) (hx : p.tables.exec = Jvm.exec) (hg : g.method = m) {x y : Int64} {rest : List Value} (hd : decode c.code g.pc = .ok (.lrem, 1)) (hs : g.stack = .long y :: .long x :: rest) (hy : y ≠ 0)
    (hr : Steps p.tables e below (T.setTop { g with pc := g.pc + 1, stack := .long (x % y) :: rest }) target) : Steps p.tables e below (T.setTop g) target :=
  XS.lrem X.here hx hg hd hs hy (by rw [lrem_mod]; exact hr)
end New
/-- one step of a walk whose end is still to be found -/
theorem own_by {tb : Tables} {e : Env} {below : List Frame} {A A' : State} {P : State → Outcome → Prop} (k : ∀ t, Steps tb e below A' t → Steps tb e below A t) (h : ∃ s₂ o, Steps tb e below A' s₂ ∧ P s₂ o) : ∃ s₂ o, Steps tb e below A s₂ ∧ P s₂ o := by
  obtain ⟨s₂, o, h1, h2⟩ := h; exact ⟨s₂, o, k _ h1, h2⟩
theorem own_st {tb : Tables} {e : Env} {below : List Frame} {A A' t : State} (k : ∀ t, Steps tb e below A' t → Steps tb e below A t) (h : Steps tb e below A' t) : Steps tb e below A t := k _ h
/-- all roads that meet again -/
theorem own_cut {tb : Tables} {e : Env} {below : List Frame} {A : State} {P : State → Outcome → Prop} {Φ : State → Prop} (h1 : (∀ A', Φ A' → ∃ s₂ o, Steps tb e below A' s₂ ∧ P s₂ o) → ∃ s₂ o, Steps tb e below A s₂ ∧ P s₂ o) (h2 : ∀ A', Φ A' → ∃ s₂ o, Steps tb e below A' s₂ ∧ P s₂ o) : ∃ s₂ o, Steps tb e below A s₂ ∧ P s₂ o := h1 h2
/-- an array: its kind, its length, and what each place holds -/
def AF (Z : State) (h : Heap) (a : Addr) (ty : FieldType) (n : Int32) (f : Nat → Value) : Prop := ∃ c : Cell, Arr Z h a c ty ∧ c.slots.size = n.toNatClampNeg ∧ ¬ n < 0 ∧ ∀ i, i < c.slots.size → c.slots[i]? = some (f i)
section AFs
variable {Z : State} {h h' : Heap} {a b : Addr} {ty : FieldType} {n : Int32} {f f' : Nat → Value} {v : Value} {sl : Nat} {ws : List Addr}
theorem AF.lt (F : AF Z h a ty n f) : a < h.size := by obtain ⟨c, A, -⟩ := F; exact A.lt
theorem AF.ext (F : AF Z h a ty n f) (E : Ext h h') : AF Z h' a ty n f := by obtain ⟨c, A, r⟩ := F; exact ⟨c, A.ext E, r⟩
theorem AF.other (F : AF Z h b ty n f) (W : Wr h h' a sl v) (q : b ≠ a) : AF Z h' b ty n f := by obtain ⟨c, A, r⟩ := F; exact ⟨c, A.other W q, r⟩
theorem AF.keep (F : AF Z h a ty n f) (K : Keep h h' ws) (q : a ∉ ws) : AF Z h' a ty n f := by obtain ⟨c, A, r⟩ := F; exact ⟨c, ⟨K.2.1 a c A.1 q, A.2⟩, r⟩
theorem AF.to (F : AF Z h a ty n f) (q : ∀ i, i < n.toNatClampNeg → f i = f' i) : AF Z h a ty n f' := by
  obtain ⟨c, A, S, M, H⟩ := F; exact ⟨c, A, S, M, fun i hi => by rw [← q i (S ▸ hi)]; exact H i hi⟩
theorem AF.new {k : ClassId} (A : Arr Z h a (newA k ty n) ty) (q : ¬ n < 0) : AF Z h a ty n (fun _ => defaultValue ty) := ⟨_, A, sz_new _ _ _, q, fun i hi => by rw [sz_new] at hi; simp [newA, hi]⟩
theorem AF.set {c : Cell} {j : Int32} (A : Arr Z h a c ty) (S : c.slots.size = n.toNatClampNeg) (M : ¬ n < 0) (H : ∀ i, i < c.slots.size → c.slots[i]? = some (f i)) (hj : ¬ (j < 0 ∨ c.slots.size ≤ j.toNatClampNeg)) (W : Wr h h' a j.toNatClampNeg v) :
    AF Z h' a ty n (fun i => if i = j.toNatClampNeg then v else f i) := by
  refine ⟨_, A.same W, by rw [sz_set]; exact S, M, fun i hi => ?_⟩
  rw [sz_set] at hi
  have hj' : j.toNatClampNeg < c.slots.size := Nat.lt_of_not_le fun q => hj (Or.inr q)
  by_cases u : i = j.toNatClampNeg
  · subst u; simp [Cell.setSlot, hj']
  · have := H i hi; simp only [Cell.setSlot, if_neg u]
    rw [Array.getElem?_setIfInBounds_ne (Ne.symm u)]; exact this
end AFs
end Jvm.RoadKit
namespace Jvm.Pilot.@@N@@
open Jvm Jvm.ClassFile Sem Op Lib Jvm.Free Jvm.Stand Jvm.LawKit Jvm.RoadKit Bundle Jvm.Pilot.@@N@@.Jvm.D
def own_f1 (q0 : Int64) (q1 : Int64) : Int64 := (if q1 < q0 then q1 else q0)
theorem d1_0 : decode jdk_29_method_70_code 0 = .ok (.lload_n 0, 1) := by decide +kernel
theorem d1_1 : decode jdk_29_method_70_code 1 = .ok (.lload_n 2, 1) := by decide +kernel
theorem d1_2 : decode jdk_29_method_70_code 2 = .ok (.lcmp, 1) := by decide +kernel
theorem d1_3 : decode jdk_29_method_70_code 3 = .ok (.ifCond .gt 7, 3) := by decide +kernel
theorem d1_6 : decode jdk_29_method_70_code 6 = .ok (.lload_n 0, 1) := by decide +kernel
theorem d1_7 : decode jdk_29_method_70_code 7 = .ok (.goto 4, 3) := by decide +kernel
theorem d1_10 : decode jdk_29_method_70_code 10 = .ok (.lload_n 2, 1) := by decide +kernel
theorem d1_11 : decode jdk_29_method_70_code 11 = .ok (.lreturn, 1) := by decide +kernel
theorem ef_rm1 (m : MethodId) (q0 : Int64) (q1 : Int64) : entryFrame m #[(.long q0), (.long q1)] 4 = mkF m 0 #[.val (.long q0), .second, .val (.long q1), .second] [] := by first | (simp [entryFrame, mkF, argsToLocals, Value.category]; done) | rfl
def Q1 (Z : State) (q0 : Int64) (q1 : Int64) (h0 : Heap) (n0 : Nat) (v : Option Value) (h : Heap) (L : List Loc) : Prop := v = some (.long (own_f1 q0 q1)) ∧ Fr n0 L ∧ h = h0
set_option maxRecDepth 65536 in
set_option maxHeartbeats 40000000 in
theorem rm1 (l : Launch) (Z : State) (aw : Array Value) (hw : ∀ d ∈ tables_1, d.before aw Z = true) (ws : List Jvm.Cond) (q0 : Int64) (q1 : Int64) (h0 : Heap) (n0 : Nat) (Z0 : n0 ≤ h0.size) :
    MetFree l (⟨"java/lang/Math", "min", "(JJ)J"⟩ : MethodName) (head1 (Jvm.Cond.code (⟨"java/lang/Math", "min", "(JJ)J"⟩ : MethodName) jdk_29_method_70_code 4 (some .long) :: ws) ({ frames := 0, cells := 0, slots := 0, locals := 0 } : Room)) (fun a U => a = #[(.long q0), (.long q1)] ∧ Z.Warmed39 U.vm ∧ U.heap = h0) (fun _ _ _ _ _ => True) (fun _ U o U' => ∃ v L, o = .returned v ∧ Q1 Z q0 q1 h0 n0 v U'.heap L ∧ FrameEnd U o U' L ({ frames := 0, cells := 0, slots := 0, locals := 0 } : Room).cells ({ frames := 0, cells := 0, slots := 0, locals := 0 } : Room).slots) := by
  refine MetFree.of_bodySF (Jvm.Free.JP.mathPlain rfl (by decide +kernel)) hisR ?_
  intro p e s m args below meth c s₁ Bd hml0 hP hK
  obtain ⟨rfl, hZ, hh⟩ := hP
  have hx := Bd.exec
  have hby := Bd.bytes
  have hml : c.maxLocals = 4 := hml0
  have hown : s.vm.findClass "java/lang/Math" = some m.cls := findClass_of_methodNamed Bd.named
  have hnm := (name_of_methodNamed Bd.named Bd.method).1
  have X0 : Stand p l e ({ frames := 0, cells := 0, slots := 0, locals := 0 } : Room) s m #[(.long q0), (.long q1)] below meth c s₁ [] 0 0 := Stand.of_body Bd
  have e0 : s₁.heap = h0 := by rw [← hh, Bd.state]; rfl
  have N0 := Fr.nil n0
  have K0 : Keep h0 h0 [] := Keep.refl _ _
  refine own_by (A' := s₁.setTop (mkF m 0 #[.val (.long q0), .second, .val (.long q1), .second] [])) (fun t k => castTop (ef_rm1 m q0 q1) k) ?_
  refine own_by (A' := s₁.setTop (mkF m 3 #[.val (.long q0), .second, .val (.long q1), .second] [(.int (lcmpW q0 q1))])) (fun t kt => ?_) ?_
  · show Steps p.tables e below (s₁.setTop (mkF m 0 #[.val (.long q0), .second, .val (.long q1), .second] [])) t
    refine XS.lloadN X0.here hx rfl (hb hby d1_0) rfl ?_
    show Steps p.tables e below (s₁.setTop (mkF m 1 #[.val (.long q0), .second, .val (.long q1), .second] [(.long q0)])) t
    refine XS.lloadN X0.here hx rfl (hb hby d1_1) rfl ?_
    show Steps p.tables e below (s₁.setTop (mkF m 2 #[.val (.long q0), .second, .val (.long q1), .second] [(.long q1), (.long q0)])) t
    refine XS.lcmp X0.here hx rfl (hb hby d1_2) rfl ?_
    exact kt
  by_cases hc3_1 : q1 < q0
  · refine own_by (A' := s₁.setTop (mkF m 11 #[.val (.long q0), .second, .val (.long q1), .second] [(.long q1)])) (fun t kt => ?_) ?_
    · show Steps p.tables e below (s₁.setTop (mkF m 3 #[.val (.long q0), .second, .val (.long q1), .second] [(.int (lcmpW q0 q1))])) t
      refine XS.ifYes X0.here hx rfl (pc0 := 3) (pc' := 10) rfl (hb hby d1_3) rfl ((if0 _ _).trans (tlt ((lw_gt _ _).mpr hc3_1)).2.2.1) (by decide) (by decide) ?_
      show Steps p.tables e below (s₁.setTop (mkF m 10 #[.val (.long q0), .second, .val (.long q1), .second] [])) t
      refine XS.lloadN X0.here hx rfl (hb hby d1_10) rfl ?_
      exact kt
    obtain ⟨fs, hr, hrun, hended, hW, hsame⟩ := X0.leave (v := some (.long q1)) (fun h => by rw [Bd.returns] at h; cases h)
    refine ⟨_, _, ?_, hrun, hended, _, _, rfl, ?_, ⟨_, rfl⟩, hW, hsame.mono (by decide) (by decide)⟩
    · exact own_retL X0 hx Bd.returns (hb hby d1_11) hr
    · show Q1 Z q0 q1 h0 n0 _ s₁.heap _
      rw [e0]
      exact ⟨(by rw [own_f1, if_pos hc3_1]), N0, rfl⟩
  · refine own_by (A' := s₁.setTop (mkF m 11 #[.val (.long q0), .second, .val (.long q1), .second] [(.long q0)])) (fun t kt => ?_) ?_
    · show Steps p.tables e below (s₁.setTop (mkF m 3 #[.val (.long q0), .second, .val (.long q1), .second] [(.int (lcmpW q0 q1))])) t
      refine XS.ifNo X0.here hx rfl (hb hby d1_3) rfl ((if0 _ _).trans (flt (fun q => hc3_1 ((lw_gt _ _).mp q))).2.2.1) ?_
      show Steps p.tables e below (s₁.setTop (mkF m 6 #[.val (.long q0), .second, .val (.long q1), .second] [])) t
      refine XS.lloadN X0.here hx rfl (hb hby d1_6) rfl ?_
      show Steps p.tables e below (s₁.setTop (mkF m 7 #[.val (.long q0), .second, .val (.long q1), .second] [(.long q0)])) t
      refine XS.goto X0.here hx rfl (pc0 := 7) (pc' := 11) rfl (hb hby d1_7) (by decide) (by decide) ?_
      exact kt
    obtain ⟨fs, hr, hrun, hended, hW, hsame⟩ := X0.leave (v := some (.long q0)) (fun h => by rw [Bd.returns] at h; cases h)
    refine ⟨_, _, ?_, hrun, hended, _, _, rfl, ?_, ⟨_, rfl⟩, hW, hsame.mono (by decide) (by decide)⟩
    · exact own_retL X0 hx Bd.returns (hb hby d1_11) hr
    · show Q1 Z q0 q1 h0 n0 _ s₁.heap _
      rw [e0]
      exact ⟨(by rw [own_f1, if_neg hc3_1]), N0, rfl⟩
def own_f6 (q0 : Int64) (q1 : Int64) : Int32 := (if q0 < q1 then (-1 : Int32) else (if q0 = q1 then (0 : Int32) else (1 : Int32)))
theorem pn_0 : plainName "java/lang/Long" = true := by first | (simp [plainName, overriddenIn]; done) | decide +kernel
theorem d6_0 : decode jdk_35_method_42_code 0 = .ok (.lload_n 0, 1) := by decide +kernel
theorem d6_1 : decode jdk_35_method_42_code 1 = .ok (.lload_n 2, 1) := by decide +kernel
theorem d6_2 : decode jdk_35_method_42_code 2 = .ok (.lcmp, 1) := by decide +kernel
theorem d6_3 : decode jdk_35_method_42_code 3 = .ok (.ifCond .ge 7, 3) := by decide +kernel
theorem d6_6 : decode jdk_35_method_42_code 6 = .ok (.iconst (-1), 1) := by decide +kernel
theorem d6_7 : decode jdk_35_method_42_code 7 = .ok (.goto 14, 3) := by decide +kernel
theorem d6_10 : decode jdk_35_method_42_code 10 = .ok (.lload_n 0, 1) := by decide +kernel
theorem d6_11 : decode jdk_35_method_42_code 11 = .ok (.lload_n 2, 1) := by decide +kernel
theorem d6_12 : decode jdk_35_method_42_code 12 = .ok (.lcmp, 1) := by decide +kernel
theorem d6_13 : decode jdk_35_method_42_code 13 = .ok (.ifCond .ne 7, 3) := by decide +kernel
theorem d6_16 : decode jdk_35_method_42_code 16 = .ok (.iconst 0, 1) := by decide +kernel
theorem d6_17 : decode jdk_35_method_42_code 17 = .ok (.goto 4, 3) := by decide +kernel
theorem d6_20 : decode jdk_35_method_42_code 20 = .ok (.iconst 1, 1) := by decide +kernel
theorem d6_21 : decode jdk_35_method_42_code 21 = .ok (.ireturn, 1) := by decide +kernel
theorem ef_rm6 (m : MethodId) (q0 : Int64) (q1 : Int64) : entryFrame m #[(.long q0), (.long q1)] 4 = mkF m 0 #[.val (.long q0), .second, .val (.long q1), .second] [] := by first | (simp [entryFrame, mkF, argsToLocals, Value.category]; done) | rfl
def Q6 (Z : State) (q0 : Int64) (q1 : Int64) (h0 : Heap) (n0 : Nat) (v : Option Value) (h : Heap) (L : List Loc) : Prop := v = some (.int (own_f6 q0 q1)) ∧ Fr n0 L ∧ h = h0
set_option maxRecDepth 65536 in
set_option maxHeartbeats 40000000 in
theorem rm6 (l : Launch) (Z : State) (aw : Array Value) (hw : ∀ d ∈ tables_1, d.before aw Z = true) (ws : List Jvm.Cond) (q0 : Int64) (q1 : Int64) (h0 : Heap) (n0 : Nat) (Z0 : n0 ≤ h0.size) :
    MetFree l (⟨"java/lang/Long", "compare", "(JJ)I"⟩ : MethodName) (head1 (Jvm.Cond.code (⟨"java/lang/Long", "compare", "(JJ)I"⟩ : MethodName) jdk_35_method_42_code 4 (some .int) :: ws) ({ frames := 0, cells := 0, slots := 0, locals := 0 } : Room)) (fun a U => a = #[(.long q0), (.long q1)] ∧ Z.Warmed39 U.vm ∧ U.heap = h0) (fun _ _ _ _ _ => True) (fun _ U o U' => ∃ v L, o = .returned v ∧ Q6 Z q0 q1 h0 n0 v U'.heap L ∧ FrameEnd U o U' L ({ frames := 0, cells := 0, slots := 0, locals := 0 } : Room).cells ({ frames := 0, cells := 0, slots := 0, locals := 0 } : Room).slots) := by
  refine MetFree.of_bodySF (plainFor_of_name pn_0) hisR ?_
  intro p e s m args below meth c s₁ Bd hml0 hP hK
  obtain ⟨rfl, hZ, hh⟩ := hP
  have hx := Bd.exec
  have hby := Bd.bytes
  have hml : c.maxLocals = 4 := hml0
  have hown : s.vm.findClass "java/lang/Long" = some m.cls := findClass_of_methodNamed Bd.named
  have hnm := (name_of_methodNamed Bd.named Bd.method).1
  have X0 : Stand p l e ({ frames := 0, cells := 0, slots := 0, locals := 0 } : Room) s m #[(.long q0), (.long q1)] below meth c s₁ [] 0 0 := Stand.of_body Bd
  have e0 : s₁.heap = h0 := by rw [← hh, Bd.state]; rfl
  have N0 := Fr.nil n0
  have K0 : Keep h0 h0 [] := Keep.refl _ _
  refine own_by (A' := s₁.setTop (mkF m 0 #[.val (.long q0), .second, .val (.long q1), .second] [])) (fun t k => castTop (ef_rm6 m q0 q1) k) ?_
  refine own_by (A' := s₁.setTop (mkF m 3 #[.val (.long q0), .second, .val (.long q1), .second] [(.int (lcmpW q0 q1))])) (fun t kt => ?_) ?_
  · show Steps p.tables e below (s₁.setTop (mkF m 0 #[.val (.long q0), .second, .val (.long q1), .second] [])) t
    refine XS.lloadN X0.here hx rfl (hb hby d6_0) rfl ?_
    show Steps p.tables e below (s₁.setTop (mkF m 1 #[.val (.long q0), .second, .val (.long q1), .second] [(.long q0)])) t
    refine XS.lloadN X0.here hx rfl (hb hby d6_1) rfl ?_
    show Steps p.tables e below (s₁.setTop (mkF m 2 #[.val (.long q0), .second, .val (.long q1), .second] [(.long q1), (.long q0)])) t
    refine XS.lcmp X0.here hx rfl (hb hby d6_2) rfl ?_
    exact kt
  by_cases hc3_1 : q0 < q1
  · refine own_by (A' := s₁.setTop (mkF m 21 #[.val (.long q0), .second, .val (.long q1), .second] [(.int (-1 : Int32))])) (fun t kt => ?_) ?_
    · show Steps p.tables e below (s₁.setTop (mkF m 3 #[.val (.long q0), .second, .val (.long q1), .second] [(.int (lcmpW q0 q1))])) t
      refine XS.ifNo X0.here hx rfl (hb hby d6_3) rfl ((if0 _ _).trans (tlt ((lw_lt _ _).mpr hc3_1)).2.1) ?_
      show Steps p.tables e below (s₁.setTop (mkF m 6 #[.val (.long q0), .second, .val (.long q1), .second] [])) t
      refine XS.iconst X0.here hx rfl (hb hby d6_6) ?_
      show Steps p.tables e below (s₁.setTop (mkF m 7 #[.val (.long q0), .second, .val (.long q1), .second] [(.int (-1 : Int32))])) t
      refine XS.goto X0.here hx rfl (pc0 := 7) (pc' := 21) rfl (hb hby d6_7) (by decide) (by decide) ?_
      exact kt
    obtain ⟨fs, hr, hrun, hended, hW, hsame⟩ := X0.leave (v := some (.int (-1 : Int32))) (fun h => by rw [Bd.returns] at h; cases h)
    refine ⟨_, _, ?_, hrun, hended, _, _, rfl, ?_, ⟨_, rfl⟩, hW, hsame.mono (by decide) (by decide)⟩
    · exact retI X0 hx Bd.returns (hb hby d6_21) hr
    · show Q6 Z q0 q1 h0 n0 _ s₁.heap _
      rw [e0]
      exact ⟨(by rw [own_f6, if_pos hc3_1]), N0, rfl⟩
  · refine own_by (A' := s₁.setTop (mkF m 13 #[.val (.long q0), .second, .val (.long q1), .second] [(.int (lcmpW q0 q1))])) (fun t kt => ?_) ?_
    · show Steps p.tables e below (s₁.setTop (mkF m 3 #[.val (.long q0), .second, .val (.long q1), .second] [(.int (lcmpW q0 q1))])) t
      refine XS.ifYes X0.here hx rfl (pc0 := 3) (pc' := 10) rfl (hb hby d6_3) rfl ((if0 _ _).trans (flt (fun q => hc3_1 ((lw_lt _ _).mp q))).2.1) (by decide) (by decide) ?_
      show Steps p.tables e below (s₁.setTop (mkF m 10 #[.val (.long q0), .second, .val (.long q1), .second] [])) t
      refine XS.lloadN X0.here hx rfl (hb hby d6_10) rfl ?_
      show Steps p.tables e below (s₁.setTop (mkF m 11 #[.val (.long q0), .second, .val (.long q1), .second] [(.long q0)])) t
      refine XS.lloadN X0.here hx rfl (hb hby d6_11) rfl ?_
      show Steps p.tables e below (s₁.setTop (mkF m 12 #[.val (.long q0), .second, .val (.long q1), .second] [(.long q1), (.long q0)])) t
      refine XS.lcmp X0.here hx rfl (hb hby d6_12) rfl ?_
      exact kt
    by_cases hc13_2 : q0 = q1
    · refine own_by (A' := s₁.setTop (mkF m 21 #[.val (.long q0), .second, .val (.long q1), .second] [(.int (0 : Int32))])) (fun t kt => ?_) ?_
      · show Steps p.tables e below (s₁.setTop (mkF m 13 #[.val (.long q0), .second, .val (.long q1), .second] [(.int (lcmpW q0 q1))])) t
        refine XS.ifNo X0.here hx rfl (hb hby d6_13) rfl ((if0 _ _).trans (teq ((lw_eq _ _).mpr hc13_2)).2) ?_
        show Steps p.tables e below (s₁.setTop (mkF m 16 #[.val (.long q0), .second, .val (.long q1), .second] [])) t
        refine XS.iconst X0.here hx rfl (hb hby d6_16) ?_
        show Steps p.tables e below (s₁.setTop (mkF m 17 #[.val (.long q0), .second, .val (.long q1), .second] [(.int (0 : Int32))])) t
        refine XS.goto X0.here hx rfl (pc0 := 17) (pc' := 21) rfl (hb hby d6_17) (by decide) (by decide) ?_
        exact kt
      obtain ⟨fs, hr, hrun, hended, hW, hsame⟩ := X0.leave (v := some (.int (0 : Int32))) (fun h => by rw [Bd.returns] at h; cases h)
      refine ⟨_, _, ?_, hrun, hended, _, _, rfl, ?_, ⟨_, rfl⟩, hW, hsame.mono (by decide) (by decide)⟩
      · exact retI X0 hx Bd.returns (hb hby d6_21) hr
      · show Q6 Z q0 q1 h0 n0 _ s₁.heap _
        rw [e0]
        exact ⟨(by rw [own_f6, if_neg hc3_1, if_pos hc13_2]), N0, rfl⟩
    · refine own_by (A' := s₁.setTop (mkF m 21 #[.val (.long q0), .second, .val (.long q1), .second] [(.int (1 : Int32))])) (fun t kt => ?_) ?_
      · show Steps p.tables e below (s₁.setTop (mkF m 13 #[.val (.long q0), .second, .val (.long q1), .second] [(.int (lcmpW q0 q1))])) t
        refine XS.ifYes X0.here hx rfl (pc0 := 13) (pc' := 20) rfl (hb hby d6_13) rfl ((if0 _ _).trans (feq (fun q => hc13_2 ((lw_eq _ _).mp q))).2) (by decide) (by decide) ?_
        show Steps p.tables e below (s₁.setTop (mkF m 20 #[.val (.long q0), .second, .val (.long q1), .second] [])) t
        refine XS.iconst X0.here hx rfl (hb hby d6_20) ?_
        exact kt
      obtain ⟨fs, hr, hrun, hended, hW, hsame⟩ := X0.leave (v := some (.int (1 : Int32))) (fun h => by rw [Bd.returns] at h; cases h)
      refine ⟨_, _, ?_, hrun, hended, _, _, rfl, ?_, ⟨_, rfl⟩, hW, hsame.mono (by decide) (by decide)⟩
      · exact retI X0 hx Bd.returns (hb hby d6_21) hr
      · show Q6 Z q0 q1 h0 n0 _ s₁.heap _
        rw [e0]
        exact ⟨(by rw [own_f6, if_neg hc3_1, if_neg hc13_2]), N0, rfl⟩
theorem pn_1 : plainName "com/example/even_throttle/eventhrottle/simulation/ExactInstant" = true := by first | (simp [plainName, overriddenIn]; done) | decide +kernel
theorem d2_0 : decode prog_72_method_1_code 0 = .ok (.aload_n 0, 1) := by decide +kernel
theorem d2_1 : decode prog_72_method_1_code 1 = .ok (.invokespecial 1, 3) := by decide +kernel
theorem d2_4 : decode prog_72_method_1_code 4 = .ok (.aload_n 0, 1) := by decide +kernel
theorem d2_5 : decode prog_72_method_1_code 5 = .ok (.lload_n 1, 1) := by decide +kernel
theorem d2_6 : decode prog_72_method_1_code 6 = .ok (.putfield 7, 3) := by decide +kernel
theorem d2_9 : decode prog_72_method_1_code 9 = .ok (.aload_n 0, 1) := by decide +kernel
theorem d2_10 : decode prog_72_method_1_code 10 = .ok (.lload_n 3, 1) := by decide +kernel
theorem d2_11 : decode prog_72_method_1_code 11 = .ok (.putfield 13, 3) := by decide +kernel
theorem d2_14 : decode prog_72_method_1_code 14 = .ok (.return_, 1) := by decide +kernel
theorem ef_rm2 (m : MethodId) (a0 : Addr) (q1 : Int64) (q2 : Int64) : entryFrame m #[(.ref a0), (.long q1), (.long q2)] 5 = mkF m 0 #[.val (.ref a0), .val (.long q1), .second, .val (.long q2), .second] [] := by first | (simp [entryFrame, mkF, argsToLocals, Value.category]; done) | rfl
def Q2 (Z : State) (a0 : Addr) (q1 : Int64) (q2 : Int64) (u_a0_nanos : Int64) (u_a0_parts : Int64) (h0 : Heap) (n0 : Nat) (v : Option Value) (h : Heap) (L : List Loc) : Prop := v = none ∧ Fr n0 L ∧ Keep h0 h [a0] ∧ Exa Z h a0 "com/example/even_throttle/eventhrottle/simulation/ExactInstant" ∧ Fld Z h a0 "com/example/even_throttle/eventhrottle/simulation/ExactInstant" "nanos" "J" (.long q1) ∧ Fld Z h a0 "com/example/even_throttle/eventhrottle/simulation/ExactInstant" "parts" "J" (.long q2)
set_option maxRecDepth 65536 in
set_option maxHeartbeats 40000000 in
theorem rm2 (l : Launch) (Z : State) (aw : Array Value) (hw : ∀ d ∈ tables_1, d.before aw Z = true) (ws : List Jvm.Cond) (a0 : Addr) (q1 : Int64) (q2 : Int64) (u_a0_nanos : Int64) (u_a0_parts : Int64) (h0 : Heap) (n0 : Nat) (Z0 : n0 ≤ h0.size) (E_a0 : Exa Z h0 a0 "com/example/even_throttle/eventhrottle/simulation/ExactInstant") (F_a0_nanos : Fld Z h0 a0 "com/example/even_throttle/eventhrottle/simulation/ExactInstant" "nanos" "J" (.long u_a0_nanos)) (F_a0_parts : Fld Z h0 a0 "com/example/even_throttle/eventhrottle/simulation/ExactInstant" "parts" "J" (.long u_a0_parts)) (g_a0 : n0 ≤ a0) :
    MetFree l (⟨"com/example/even_throttle/eventhrottle/simulation/ExactInstant", "<init>", "(JJ)V"⟩ : MethodName) (head1 (Jvm.Cond.code (⟨"com/example/even_throttle/eventhrottle/simulation/ExactInstant", "<init>", "(JJ)V"⟩ : MethodName) prog_72_method_1_code 5 none :: ws) ({ frames := 1, cells := 0, slots := 0, locals := 12 } : Room)) (fun a U => a = #[(.ref a0), (.long q1), (.long q2)] ∧ Z.Warmed39 U.vm ∧ U.heap = h0) (fun _ _ _ _ _ => True) (fun _ U o U' => ∃ v L, o = .returned v ∧ Q2 Z a0 q1 q2 u_a0_nanos u_a0_parts h0 n0 v U'.heap L ∧ FrameEnd U o U' L ({ frames := 1, cells := 0, slots := 0, locals := 12 } : Room).cells ({ frames := 1, cells := 0, slots := 0, locals := 12 } : Room).slots) := by
  refine MetFree.of_bodySF (plainFor_of_name pn_1) hisR ?_
  intro p e s m args below meth c s₁ Bd hml0 hP hK
  obtain ⟨rfl, hZ, hh⟩ := hP
  have hx := Bd.exec
  have hby := Bd.bytes
  have hml : c.maxLocals = 5 := hml0
  have hown : s.vm.findClass "com/example/even_throttle/eventhrottle/simulation/ExactInstant" = some m.cls := findClass_of_methodNamed Bd.named
  have hnm := (name_of_methodNamed Bd.named Bd.method).1
  have X0 : Stand p l e ({ frames := 1, cells := 0, slots := 0, locals := 12 } : Room) s m #[(.ref a0), (.long q1), (.long q2)] below meth c s₁ [] 0 0 := Stand.of_body Bd
  have e0 : s₁.heap = h0 := by rw [← hh, Bd.state]; rfl
  have N0 := Fr.nil n0
  have K0 : Keep h0 h0 [a0] := Keep.refl _ _
  refine own_by (A' := s₁.setTop (mkF m 0 #[.val (.ref a0), .val (.long q1), .second, .val (.long q2), .second] [])) (fun t k => castTop (ef_rm2 m a0 q1 q2) k) ?_
  refine own_by (A' := s₁.setTop (mkF m 1 #[.val (.ref a0), .val (.long q1), .second, .val (.long q2), .second] [(.ref a0)])) (fun t kt => ?_) ?_
  · show Steps p.tables e below (s₁.setTop (mkF m 0 #[.val (.ref a0), .val (.long q1), .second, .val (.long q2), .second] [])) t
    refine XS.aloadN X0.here hx rfl (hb hby d2_0) rfl rfl ?_
    exact kt
  obtain ⟨T1, X1, e1, st1⟩ := initO X0 hx hZ hown (hw _ (List.mem_of_getElem? (i := 12) rfl)) (hw _ (List.mem_of_getElem? (i := 13) rfl)) (hw _ (List.mem_of_getElem? (i := 14) rfl)) e0 (g := (mkF m 1 #[.val (.ref a0), .val (.long q1), .second, .val (.long q2), .second] [(.ref a0)])) rfl (by rw [hml]; rfl) rfl (hb hby d2_1) (by decide) (W := 0) (by show 2 * 0 + _ ≤ _; exact Nat.le_of_eq rfl) (by decide)
  refine own_by (A' := T1.setTop (mkF m 4 #[.val (.ref a0), .val (.long q1), .second, .val (.long q2), .second] [])) (fun t kt => st1 t kt) ?_
  refine own_by (A' := T1.setTop (mkF m 6 #[.val (.ref a0), .val (.long q1), .second, .val (.long q2), .second] [(.long q1), (.ref a0)])) (fun t kt => ?_) ?_
  · show Steps p.tables e below (T1.setTop (mkF m 4 #[.val (.ref a0), .val (.long q1), .second, .val (.long q2), .second] [])) t
    refine XS.aloadN X1.here hx rfl (hb hby d2_4) rfl rfl ?_
    show Steps p.tables e below (T1.setTop (mkF m 5 #[.val (.ref a0), .val (.long q1), .second, .val (.long q2), .second] [(.ref a0)])) t
    refine XS.lloadN X1.here hx rfl (hb hby d2_5) rfl ?_
    exact kt
  obtain ⟨T2, h2, X2, e2, W2, st2⟩ := putF X1 hx hZ hown (host := "") (Or.inl (hw _ (List.mem_of_getElem? (i := 15) rfl))) Via.refl e1 F_a0_nanos E_a0 (Or.inr ⟨(hw _ (List.mem_of_getElem? (i := 16) rfl)), rfl, hnm⟩) (hw _ (List.mem_of_getElem? (i := 7) rfl)) (ty := .long) (by decide) rfl rfl (g := (mkF m 6 #[.val (.ref a0), .val (.long q1), .second, .val (.long q2), .second] [(.long q1), (.ref a0)])) rfl rfl (hb hby d2_6)
  have F2 := Fld.same W2 F_a0_nanos
  have N2 := Fr.snoc X2 N0 g_a0
  have K2 : Keep h0 h2 [a0] := K0.wr W2 (Or.inl (List.mem_of_getElem? (i := 0) rfl))
  refine own_by (A' := T2.setTop (mkF m 9 #[.val (.ref a0), .val (.long q1), .second, .val (.long q2), .second] [])) (fun t kt => st2 t kt) ?_
  refine own_by (A' := T2.setTop (mkF m 11 #[.val (.ref a0), .val (.long q1), .second, .val (.long q2), .second] [(.long q2), (.ref a0)])) (fun t kt => ?_) ?_
  · show Steps p.tables e below (T2.setTop (mkF m 9 #[.val (.ref a0), .val (.long q1), .second, .val (.long q2), .second] [])) t
    refine XS.aloadN X2.here hx rfl (hb hby d2_9) rfl rfl ?_
    show Steps p.tables e below (T2.setTop (mkF m 10 #[.val (.ref a0), .val (.long q1), .second, .val (.long q2), .second] [(.ref a0)])) t
    refine XS.lloadN X2.here hx rfl (hb hby d2_10) rfl ?_
    exact kt
  obtain ⟨T3, h3, X3, e3, W3, st3⟩ := putF X2 hx hZ hown (host := "") (Or.inl (hw _ (List.mem_of_getElem? (i := 17) rfl))) Via.refl e2 (F_a0_parts.other W2 (Or.inr (slot_ne (Or.inr (hw _ (List.mem_of_getElem? (i := 18) rfl))) (Or.inr (hw _ (List.mem_of_getElem? (i := 16) rfl))) (by decide) (t := .long) (t' := .long) (by decide) (by decide)))) (E_a0.wr W2) (Or.inr ⟨(hw _ (List.mem_of_getElem? (i := 18) rfl)), rfl, hnm⟩) (hw _ (List.mem_of_getElem? (i := 7) rfl)) (ty := .long) (by decide) rfl rfl (g := (mkF m 11 #[.val (.ref a0), .val (.long q1), .second, .val (.long q2), .second] [(.long q2), (.ref a0)])) rfl rfl (hb hby d2_11)
  have F3 := Fld.same W3 (F_a0_parts.other W2 (Or.inr (slot_ne (Or.inr (hw _ (List.mem_of_getElem? (i := 18) rfl))) (Or.inr (hw _ (List.mem_of_getElem? (i := 16) rfl))) (by decide) (t := .long) (t' := .long) (by decide) (by decide))))
  have N3 := Fr.snoc X3 N2 g_a0
  have K3 : Keep h0 h3 [a0] := K2.wr W3 (Or.inl (List.mem_of_getElem? (i := 0) rfl))
  refine own_by (A' := T3.setTop (mkF m 14 #[.val (.ref a0), .val (.long q1), .second, .val (.long q2), .second] [])) (fun t kt => st3 t kt) ?_
  obtain ⟨fs, hr, hrun, hended, hW, hsame⟩ := X3.leave (v := none) (fun _ => rfl)
  refine ⟨_, _, ?_, hrun, hended, _, _, rfl, ?_, ⟨_, rfl⟩, hW, hsame.mono (by decide) (by decide)⟩
  · exact X3.returnOut hx Bd.returns (hb hby d2_14) hr
  · show Q2 Z a0 q1 q2 u_a0_nanos u_a0_parts h0 n0 _ T3.heap _
    rw [e3]
    exact ⟨rfl, N3, K3, ((E_a0.wr W2).wr W3), (F2.other W3 (Or.inr (slot_ne (Or.inr (hw _ (List.mem_of_getElem? (i := 16) rfl))) (Or.inr (hw _ (List.mem_of_getElem? (i := 18) rfl))) (by decide) (t := .long) (t' := .long) (by decide) (by decide)))), F3⟩
def own_f4 (u_a0_nanos : Int64) (u_a0_parts : Int64) : Int64 := (if u_a0_parts = (0 : Int64) then u_a0_nanos else (u_a0_nanos + (1 : Int64)))
theorem d4_0 : decode prog_72_method_6_code 0 = .ok (.aload_n 0, 1) := by decide +kernel
theorem d4_1 : decode prog_72_method_6_code 1 = .ok (.getfield 13, 3) := by decide +kernel
theorem d4_4 : decode prog_72_method_6_code 4 = .ok (.lconst 0, 1) := by decide +kernel
theorem d4_5 : decode prog_72_method_6_code 5 = .ok (.lcmp, 1) := by decide +kernel
theorem d4_6 : decode prog_72_method_6_code 6 = .ok (.ifCond .ne 10, 3) := by decide +kernel
theorem d4_9 : decode prog_72_method_6_code 9 = .ok (.aload_n 0, 1) := by decide +kernel
theorem d4_10 : decode prog_72_method_6_code 10 = .ok (.getfield 7, 3) := by decide +kernel
theorem d4_13 : decode prog_72_method_6_code 13 = .ok (.goto 9, 3) := by decide +kernel
theorem d4_16 : decode prog_72_method_6_code 16 = .ok (.aload_n 0, 1) := by decide +kernel
theorem d4_17 : decode prog_72_method_6_code 17 = .ok (.getfield 7, 3) := by decide +kernel
theorem d4_20 : decode prog_72_method_6_code 20 = .ok (.lconst 1, 1) := by decide +kernel
theorem d4_21 : decode prog_72_method_6_code 21 = .ok (.ladd, 1) := by decide +kernel
theorem d4_22 : decode prog_72_method_6_code 22 = .ok (.lreturn, 1) := by decide +kernel
theorem ef_rm4 (m : MethodId) (a0 : Addr) : entryFrame m #[(.ref a0)] 1 = mkF m 0 #[.val (.ref a0)] [] := by first | (simp [entryFrame, mkF, argsToLocals, Value.category]; done) | rfl
def Q4 (Z : State) (a0 : Addr) (u_a0_nanos : Int64) (u_a0_parts : Int64) (h0 : Heap) (n0 : Nat) (v : Option Value) (h : Heap) (L : List Loc) : Prop := v = some (.long (own_f4 u_a0_nanos u_a0_parts)) ∧ Fr n0 L ∧ h = h0
set_option maxRecDepth 65536 in
set_option maxHeartbeats 40000000 in
theorem rm4 (l : Launch) (Z : State) (aw : Array Value) (hw : ∀ d ∈ tables_1, d.before aw Z = true) (ws : List Jvm.Cond) (a0 : Addr) (u_a0_nanos : Int64) (u_a0_parts : Int64) (h0 : Heap) (n0 : Nat) (Z0 : n0 ≤ h0.size) (F_a0_nanos : Fld Z h0 a0 "com/example/even_throttle/eventhrottle/simulation/ExactInstant" "nanos" "J" (.long u_a0_nanos)) (F_a0_parts : Fld Z h0 a0 "com/example/even_throttle/eventhrottle/simulation/ExactInstant" "parts" "J" (.long u_a0_parts)) :
    MetFree l (⟨"com/example/even_throttle/eventhrottle/simulation/ExactInstant", "runsAt", "()J"⟩ : MethodName) (head1 (Jvm.Cond.code (⟨"com/example/even_throttle/eventhrottle/simulation/ExactInstant", "runsAt", "()J"⟩ : MethodName) prog_72_method_6_code 1 (some .long) :: ws) ({ frames := 0, cells := 0, slots := 0, locals := 0 } : Room)) (fun a U => a = #[(.ref a0)] ∧ Z.Warmed39 U.vm ∧ U.heap = h0) (fun _ _ _ _ _ => True) (fun _ U o U' => ∃ v L, o = .returned v ∧ Q4 Z a0 u_a0_nanos u_a0_parts h0 n0 v U'.heap L ∧ FrameEnd U o U' L ({ frames := 0, cells := 0, slots := 0, locals := 0 } : Room).cells ({ frames := 0, cells := 0, slots := 0, locals := 0 } : Room).slots) := by
  refine MetFree.of_bodySF (plainFor_of_name pn_1) hisR ?_
  intro p e s m args below meth c s₁ Bd hml0 hP hK
  obtain ⟨rfl, hZ, hh⟩ := hP
  have hx := Bd.exec
  have hby := Bd.bytes
  have hml : c.maxLocals = 1 := hml0
  have hown : s.vm.findClass "com/example/even_throttle/eventhrottle/simulation/ExactInstant" = some m.cls := findClass_of_methodNamed Bd.named
  have hnm := (name_of_methodNamed Bd.named Bd.method).1
  have X0 : Stand p l e ({ frames := 0, cells := 0, slots := 0, locals := 0 } : Room) s m #[(.ref a0)] below meth c s₁ [] 0 0 := Stand.of_body Bd
  have e0 : s₁.heap = h0 := by rw [← hh, Bd.state]; rfl
  have N0 := Fr.nil n0
  have K0 : Keep h0 h0 [] := Keep.refl _ _
  refine own_by (A' := s₁.setTop (mkF m 0 #[.val (.ref a0)] [])) (fun t k => castTop (ef_rm4 m a0) k) ?_
  refine own_by (A' := s₁.setTop (mkF m 1 #[.val (.ref a0)] [(.ref a0)])) (fun t kt => ?_) ?_
  · show Steps p.tables e below (s₁.setTop (mkF m 0 #[.val (.ref a0)] [])) t
    refine XS.aloadN X0.here hx rfl (hb hby d4_0) rfl rfl ?_
    exact kt
  obtain ⟨T1, X1, e1, st1⟩ := getF X0 hx hZ hown (host := "") (Or.inl (hw _ (List.mem_of_getElem? (i := 17) rfl))) Via.refl e0 F_a0_parts (g := (mkF m 1 #[.val (.ref a0)] [(.ref a0)])) rfl rfl (hb hby d4_1)
  refine own_by (A' := T1.setTop (mkF m 4 #[.val (.ref a0)] [(.long u_a0_parts)])) (fun t kt => st1 t kt) ?_
  refine own_by (A' := T1.setTop (mkF m 6 #[.val (.ref a0)] [(.int (lcmpW u_a0_parts (0 : Int64)))])) (fun t kt => ?_) ?_
  · show Steps p.tables e below (T1.setTop (mkF m 4 #[.val (.ref a0)] [(.long u_a0_parts)])) t
    refine XS.lconst X1.here hx rfl (hb hby d4_4) ?_
    show Steps p.tables e below (T1.setTop (mkF m 5 #[.val (.ref a0)] [(.long (0 : Int64)), (.long u_a0_parts)])) t
    refine XS.lcmp X1.here hx rfl (hb hby d4_5) rfl ?_
    exact kt
  by_cases hc6_2 : u_a0_parts = (0 : Int64)
  · refine own_by (A' := T1.setTop (mkF m 10 #[.val (.ref a0)] [(.ref a0)])) (fun t kt => ?_) ?_
    · show Steps p.tables e below (T1.setTop (mkF m 6 #[.val (.ref a0)] [(.int (lcmpW u_a0_parts (0 : Int64)))])) t
      refine XS.ifNo X1.here hx rfl (hb hby d4_6) rfl ((if0 _ _).trans (teq ((lw_eq _ _).mpr hc6_2)).2) ?_
      show Steps p.tables e below (T1.setTop (mkF m 9 #[.val (.ref a0)] [])) t
      refine XS.aloadN X1.here hx rfl (hb hby d4_9) rfl rfl ?_
      exact kt
    obtain ⟨T3, X3, e3, st3⟩ := getF X1 hx hZ hown (host := "") (Or.inl (hw _ (List.mem_of_getElem? (i := 15) rfl))) Via.refl e1 F_a0_nanos (g := (mkF m 10 #[.val (.ref a0)] [(.ref a0)])) rfl rfl (hb hby d4_10)
    refine own_by (A' := T3.setTop (mkF m 13 #[.val (.ref a0)] [(.long u_a0_nanos)])) (fun t kt => st3 t kt) ?_
    refine own_by (A' := T3.setTop (mkF m 22 #[.val (.ref a0)] [(.long u_a0_nanos)])) (fun t kt => ?_) ?_
    · show Steps p.tables e below (T3.setTop (mkF m 13 #[.val (.ref a0)] [(.long u_a0_nanos)])) t
      refine XS.goto X3.here hx rfl (pc0 := 13) (pc' := 22) rfl (hb hby d4_13) (by decide) (by decide) ?_
      exact kt
    obtain ⟨fs, hr, hrun, hended, hW, hsame⟩ := X3.leave (v := some (.long u_a0_nanos)) (fun h => by rw [Bd.returns] at h; cases h)
    refine ⟨_, _, ?_, hrun, hended, _, _, rfl, ?_, ⟨_, rfl⟩, hW, hsame.mono (by decide) (by decide)⟩
    · exact own_retL X3 hx Bd.returns (hb hby d4_22) hr
    · show Q4 Z a0 u_a0_nanos u_a0_parts h0 n0 _ T3.heap _
      rw [e3]
      exact ⟨(by rw [own_f4, if_pos hc6_2]), N0, rfl⟩
  · refine own_by (A' := T1.setTop (mkF m 17 #[.val (.ref a0)] [(.ref a0)])) (fun t kt => ?_) ?_
    · show Steps p.tables e below (T1.setTop (mkF m 6 #[.val (.ref a0)] [(.int (lcmpW u_a0_parts (0 : Int64)))])) t
      refine XS.ifYes X1.here hx rfl (pc0 := 6) (pc' := 16) rfl (hb hby d4_6) rfl ((if0 _ _).trans (feq (fun q => hc6_2 ((lw_eq _ _).mp q))).2) (by decide) (by decide) ?_
      show Steps p.tables e below (T1.setTop (mkF m 16 #[.val (.ref a0)] [])) t
      refine XS.aloadN X1.here hx rfl (hb hby d4_16) rfl rfl ?_
      exact kt
    obtain ⟨T4, X4, e4, st4⟩ := getF X1 hx hZ hown (host := "") (Or.inl (hw _ (List.mem_of_getElem? (i := 15) rfl))) Via.refl e1 F_a0_nanos (g := (mkF m 17 #[.val (.ref a0)] [(.ref a0)])) rfl rfl (hb hby d4_17)
    refine own_by (A' := T4.setTop (mkF m 20 #[.val (.ref a0)] [(.long u_a0_nanos)])) (fun t kt => st4 t kt) ?_
    refine own_by (A' := T4.setTop (mkF m 22 #[.val (.ref a0)] [(.long (u_a0_nanos + (1 : Int64)))])) (fun t kt => ?_) ?_
    · show Steps p.tables e below (T4.setTop (mkF m 20 #[.val (.ref a0)] [(.long u_a0_nanos)])) t
      refine XS.lconst X4.here hx rfl (hb hby d4_20) ?_
      show Steps p.tables e below (T4.setTop (mkF m 21 #[.val (.ref a0)] [(.long (1 : Int64)), (.long u_a0_nanos)])) t
      refine XS.ladd X4.here hx rfl (hb hby d4_21) rfl ?_
      exact kt
    obtain ⟨fs, hr, hrun, hended, hW, hsame⟩ := X4.leave (v := some (.long (u_a0_nanos + (1 : Int64)))) (fun h => by rw [Bd.returns] at h; cases h)
    refine ⟨_, _, ?_, hrun, hended, _, _, rfl, ?_, ⟨_, rfl⟩, hW, hsame.mono (by decide) (by decide)⟩
    · exact own_retL X4 hx Bd.returns (hb hby d4_22) hr
    · show Q4 Z a0 u_a0_nanos u_a0_parts h0 n0 _ T4.heap _
      rw [e4]
      exact ⟨(by rw [own_f4, if_neg hc6_2]), N0, rfl⟩
def own_f5 (u_a0_nanos : Int64) (u_a0_parts : Int64) (u_a1_nanos : Int64) (u_a1_parts : Int64) : Int32 := (if (own_f6 u_a0_nanos u_a1_nanos) = (0 : Int32) then (own_f6 u_a0_parts u_a1_parts) else (own_f6 u_a0_nanos u_a1_nanos))
theorem pd_2 : parseMethodDescriptor "(JJ)I" = some ⟨[.long, .long], some .int⟩ := by decide +kernel
theorem d5_0 : decode prog_72_method_7_code 0 = .ok (.aload_n 0, 1) := by decide +kernel
theorem d5_1 : decode prog_72_method_7_code 1 = .ok (.getfield 7, 3) := by decide +kernel
theorem d5_4 : decode prog_72_method_7_code 4 = .ok (.aload_n 1, 1) := by decide +kernel
theorem d5_5 : decode prog_72_method_7_code 5 = .ok (.getfield 7, 3) := by decide +kernel
theorem d5_8 : decode prog_72_method_7_code 8 = .ok (.invokestatic 19, 3) := by decide +kernel
theorem d5_11 : decode prog_72_method_7_code 11 = .ok (.istore_n 2, 1) := by decide +kernel
theorem d5_12 : decode prog_72_method_7_code 12 = .ok (.iload_n 2, 1) := by decide +kernel
theorem d5_13 : decode prog_72_method_7_code 13 = .ok (.ifCond .eq 7, 3) := by decide +kernel
theorem d5_16 : decode prog_72_method_7_code 16 = .ok (.iload_n 2, 1) := by decide +kernel
theorem d5_17 : decode prog_72_method_7_code 17 = .ok (.goto 14, 3) := by decide +kernel
theorem d5_20 : decode prog_72_method_7_code 20 = .ok (.aload_n 0, 1) := by decide +kernel
theorem d5_21 : decode prog_72_method_7_code 21 = .ok (.getfield 13, 3) := by decide +kernel
theorem d5_24 : decode prog_72_method_7_code 24 = .ok (.aload_n 1, 1) := by decide +kernel
theorem d5_25 : decode prog_72_method_7_code 25 = .ok (.getfield 13, 3) := by decide +kernel
theorem d5_28 : decode prog_72_method_7_code 28 = .ok (.invokestatic 19, 3) := by decide +kernel
theorem d5_31 : decode prog_72_method_7_code 31 = .ok (.ireturn, 1) := by decide +kernel
theorem ef_rm5 (m : MethodId) (a0 : Addr) (a1 : Addr) : entryFrame m #[(.ref a0), (.ref a1)] 3 = mkF m 0 #[.val (.ref a0), .val (.ref a1), .unset] [] := by first | (simp [entryFrame, mkF, argsToLocals, Value.category]; done) | rfl
def Q5 (Z : State) (a0 : Addr) (a1 : Addr) (u_a0_nanos : Int64) (u_a0_parts : Int64) (u_a1_nanos : Int64) (u_a1_parts : Int64) (h0 : Heap) (n0 : Nat) (v : Option Value) (h : Heap) (L : List Loc) : Prop := v = some (.int (own_f5 u_a0_nanos u_a0_parts u_a1_nanos u_a1_parts)) ∧ Fr n0 L ∧ h = h0
set_option maxRecDepth 65536 in
set_option maxHeartbeats 40000000 in
theorem rm5 (l : Launch) (Z : State) (aw : Array Value) (hw : ∀ d ∈ tables_1, d.before aw Z = true) (ws : List Jvm.Cond) (a0 : Addr) (a1 : Addr) (u_a0_nanos : Int64) (u_a0_parts : Int64) (u_a1_nanos : Int64) (u_a1_parts : Int64) (h0 : Heap) (n0 : Nat) (Z0 : n0 ≤ h0.size) (F_a0_nanos : Fld Z h0 a0 "com/example/even_throttle/eventhrottle/simulation/ExactInstant" "nanos" "J" (.long u_a0_nanos)) (F_a0_parts : Fld Z h0 a0 "com/example/even_throttle/eventhrottle/simulation/ExactInstant" "parts" "J" (.long u_a0_parts)) (F_a1_nanos : Fld Z h0 a1 "com/example/even_throttle/eventhrottle/simulation/ExactInstant" "nanos" "J" (.long u_a1_nanos)) (F_a1_parts : Fld Z h0 a1 "com/example/even_throttle/eventhrottle/simulation/ExactInstant" "parts" "J" (.long u_a1_parts)) :
    MetFree l (⟨"com/example/even_throttle/eventhrottle/simulation/ExactInstant", "compareTo", "(Lcom/example/even_throttle/eventhrottle/simulation/ExactInstant;)I"⟩ : MethodName) (head1 (Jvm.Cond.code (⟨"com/example/even_throttle/eventhrottle/simulation/ExactInstant", "compareTo", "(Lcom/example/even_throttle/eventhrottle/simulation/ExactInstant;)I"⟩ : MethodName) prog_72_method_7_code 3 (some .int) :: ws) ({ frames := 1, cells := 0, slots := 0, locals := 15 } : Room)) (fun a U => a = #[(.ref a0), (.ref a1)] ∧ Z.Warmed39 U.vm ∧ U.heap = h0) (fun _ _ _ _ _ => True) (fun _ U o U' => ∃ v L, o = .returned v ∧ Q5 Z a0 a1 u_a0_nanos u_a0_parts u_a1_nanos u_a1_parts h0 n0 v U'.heap L ∧ FrameEnd U o U' L ({ frames := 1, cells := 0, slots := 0, locals := 15 } : Room).cells ({ frames := 1, cells := 0, slots := 0, locals := 15 } : Room).slots) := by
  refine MetFree.of_bodySF (plainFor_of_name pn_1) hisR ?_
  intro p e s m args below meth c s₁ Bd hml0 hP hK
  obtain ⟨rfl, hZ, hh⟩ := hP
  have hx := Bd.exec
  have hby := Bd.bytes
  have hml : c.maxLocals = 3 := hml0
  have hown : s.vm.findClass "com/example/even_throttle/eventhrottle/simulation/ExactInstant" = some m.cls := findClass_of_methodNamed Bd.named
  have hnm := (name_of_methodNamed Bd.named Bd.method).1
  have X0 : Stand p l e ({ frames := 1, cells := 0, slots := 0, locals := 15 } : Room) s m #[(.ref a0), (.ref a1)] below meth c s₁ [] 0 0 := Stand.of_body Bd
  have e0 : s₁.heap = h0 := by rw [← hh, Bd.state]; rfl
  have N0 := Fr.nil n0
  have K0 : Keep h0 h0 [] := Keep.refl _ _
  refine own_by (A' := s₁.setTop (mkF m 0 #[.val (.ref a0), .val (.ref a1), .unset] [])) (fun t k => castTop (ef_rm5 m a0 a1) k) ?_
  refine own_by (A' := s₁.setTop (mkF m 1 #[.val (.ref a0), .val (.ref a1), .unset] [(.ref a0)])) (fun t kt => ?_) ?_
  · show Steps p.tables e below (s₁.setTop (mkF m 0 #[.val (.ref a0), .val (.ref a1), .unset] [])) t
    refine XS.aloadN X0.here hx rfl (hb hby d5_0) rfl rfl ?_
    exact kt
  obtain ⟨T1, X1, e1, st1⟩ := getF X0 hx hZ hown (host := "") (Or.inl (hw _ (List.mem_of_getElem? (i := 15) rfl))) Via.refl e0 F_a0_nanos (g := (mkF m 1 #[.val (.ref a0), .val (.ref a1), .unset] [(.ref a0)])) rfl rfl (hb hby d5_1)
  refine own_by (A' := T1.setTop (mkF m 4 #[.val (.ref a0), .val (.ref a1), .unset] [(.long u_a0_nanos)])) (fun t kt => st1 t kt) ?_
  refine own_by (A' := T1.setTop (mkF m 5 #[.val (.ref a0), .val (.ref a1), .unset] [(.ref a1), (.long u_a0_nanos)])) (fun t kt => ?_) ?_
  · show Steps p.tables e below (T1.setTop (mkF m 4 #[.val (.ref a0), .val (.ref a1), .unset] [(.long u_a0_nanos)])) t
    refine XS.aloadN X1.here hx rfl (hb hby d5_4) rfl rfl ?_
    exact kt
  obtain ⟨T2, X2, e2, st2⟩ := getF X1 hx hZ hown (host := "") (Or.inl (hw _ (List.mem_of_getElem? (i := 15) rfl))) Via.refl e1 F_a1_nanos (g := (mkF m 5 #[.val (.ref a0), .val (.ref a1), .unset] [(.ref a1), (.long u_a0_nanos)])) rfl rfl (hb hby d5_5)
  refine own_by (A' := T2.setTop (mkF m 8 #[.val (.ref a0), .val (.ref a1), .unset] [(.long u_a1_nanos), (.long u_a0_nanos)])) (fun t kt => st2 t kt) ?_
  obtain ⟨_, _, ⟨T3, L3, k3, n3⟩, -, X3, ⟨Lc3, hQ3, l3, y3, z3⟩, st3⟩ := Jvm.LawKit.callS X2 hx (y := (⟨"java/lang/Long", "compare", "(JJ)I"⟩ : MethodName)) hown (mvT hZ (hw _ (List.mem_of_getElem? (i := 29) rfl))) (mvT hZ (hw _ (List.mem_of_getElem? (i := 30) rfl))) (mvT hZ (hw _ (List.mem_of_getElem? (i := 31) rfl))) (mvT hZ (hw _ (List.mem_of_getElem? (i := 32) rfl))) (by decide) (backOf (W := 0) (rm6 l Z aw hw [] u_a0_nanos u_a1_nanos h0 n0 (Nat.le_trans Z0 K0.1) ) hZ (hw _ (List.mem_of_getElem? (i := 32) rfl)) (hw _ (List.mem_of_getElem? (i := 31) rfl)) (by decide) (by decide)) (g := (mkF m 8 #[.val (.ref a0), .val (.ref a1), .unset] [(.long u_a1_nanos), (.long u_a0_nanos)])) rfl (by rw [hml]; rfl) (argsL := [(.long u_a0_nanos), (.long u_a1_nanos)]) (rest := []) (lenOf pd_2 rfl) rfl (by show 2 * 0 + _ ≤ _; exact Nat.le_of_eq rfl) (hb hby d5_8) (fun _ _ => ⟨rfl, e2, (by decide : 0 + 0 ≤ _), (by decide : 0 + 0 ≤ _)⟩)
  dsimp only [Pt.U, Pt.locs, Pt.cells, Pt.slots] at X3 l3 y3 z3 st3 hQ3
  subst l3 y3 z3
  obtain ⟨rfl, N3q, e3⟩ := hQ3
  have N3 := Fr.app N0 N3q
  refine own_by (A' := T3.setTop (mkF m 11 #[.val (.ref a0), .val (.ref a1), .unset] [(.int (own_f6 u_a0_nanos u_a1_nanos))])) (fun t kt => st3 t kt) ?_
  refine own_by (A' := T3.setTop (mkF m 13 #[.val (.ref a0), .val (.ref a1), .val (.int (own_f6 u_a0_nanos u_a1_nanos))] [(.int (own_f6 u_a0_nanos u_a1_nanos))])) (fun t kt => ?_) ?_
  · show Steps p.tables e below (T3.setTop (mkF m 11 #[.val (.ref a0), .val (.ref a1), .unset] [(.int (own_f6 u_a0_nanos u_a1_nanos))])) t
    refine XS.istoreN X3.here hx rfl (hb hby d5_11) rfl (l' := #[.val (.ref a0), .val (.ref a1), .val (.int (own_f6 u_a0_nanos u_a1_nanos))]) rfl ?_
    show Steps p.tables e below (T3.setTop (mkF m 12 #[.val (.ref a0), .val (.ref a1), .val (.int (own_f6 u_a0_nanos u_a1_nanos))] [])) t
    refine XS.iloadN X3.here hx rfl (hb hby d5_12) rfl ?_
    exact kt
  by_cases hc13_4 : (own_f6 u_a0_nanos u_a1_nanos) = (0 : Int32)
  · refine own_by (A' := T3.setTop (mkF m 21 #[.val (.ref a0), .val (.ref a1), .val (.int (own_f6 u_a0_nanos u_a1_nanos))] [(.ref a0)])) (fun t kt => ?_) ?_
    · show Steps p.tables e below (T3.setTop (mkF m 13 #[.val (.ref a0), .val (.ref a1), .val (.int (own_f6 u_a0_nanos u_a1_nanos))] [(.int (own_f6 u_a0_nanos u_a1_nanos))])) t
      refine XS.ifYes X3.here hx rfl (pc0 := 13) (pc' := 20) rfl (hb hby d5_13) rfl ((if0 _ _).trans (teq hc13_4).1) (by decide) (by decide) ?_
      show Steps p.tables e below (T3.setTop (mkF m 20 #[.val (.ref a0), .val (.ref a1), .val (.int (own_f6 u_a0_nanos u_a1_nanos))] [])) t
      refine XS.aloadN X3.here hx rfl (hb hby d5_20) rfl rfl ?_
      exact kt
    obtain ⟨T5, X5, e5, st5⟩ := getF X3 hx hZ hown (host := "") (Or.inl (hw _ (List.mem_of_getElem? (i := 17) rfl))) Via.refl e3 F_a0_parts (g := (mkF m 21 #[.val (.ref a0), .val (.ref a1), .val (.int (own_f6 u_a0_nanos u_a1_nanos))] [(.ref a0)])) rfl rfl (hb hby d5_21)
    refine own_by (A' := T5.setTop (mkF m 24 #[.val (.ref a0), .val (.ref a1), .val (.int (own_f6 u_a0_nanos u_a1_nanos))] [(.long u_a0_parts)])) (fun t kt => st5 t kt) ?_
    refine own_by (A' := T5.setTop (mkF m 25 #[.val (.ref a0), .val (.ref a1), .val (.int (own_f6 u_a0_nanos u_a1_nanos))] [(.ref a1), (.long u_a0_parts)])) (fun t kt => ?_) ?_
    · show Steps p.tables e below (T5.setTop (mkF m 24 #[.val (.ref a0), .val (.ref a1), .val (.int (own_f6 u_a0_nanos u_a1_nanos))] [(.long u_a0_parts)])) t
      refine XS.aloadN X5.here hx rfl (hb hby d5_24) rfl rfl ?_
      exact kt
    obtain ⟨T6, X6, e6, st6⟩ := getF X5 hx hZ hown (host := "") (Or.inl (hw _ (List.mem_of_getElem? (i := 17) rfl))) Via.refl e5 F_a1_parts (g := (mkF m 25 #[.val (.ref a0), .val (.ref a1), .val (.int (own_f6 u_a0_nanos u_a1_nanos))] [(.ref a1), (.long u_a0_parts)])) rfl rfl (hb hby d5_25)
    refine own_by (A' := T6.setTop (mkF m 28 #[.val (.ref a0), .val (.ref a1), .val (.int (own_f6 u_a0_nanos u_a1_nanos))] [(.long u_a1_parts), (.long u_a0_parts)])) (fun t kt => st6 t kt) ?_
    obtain ⟨_, _, ⟨T7, L7, k7, n7⟩, -, X7, ⟨Lc7, hQ7, l7, y7, z7⟩, st7⟩ := Jvm.LawKit.callS X6 hx (y := (⟨"java/lang/Long", "compare", "(JJ)I"⟩ : MethodName)) hown (mvT hZ (hw _ (List.mem_of_getElem? (i := 29) rfl))) (mvT hZ (hw _ (List.mem_of_getElem? (i := 30) rfl))) (mvT hZ (hw _ (List.mem_of_getElem? (i := 31) rfl))) (mvT hZ (hw _ (List.mem_of_getElem? (i := 32) rfl))) (by decide) (backOf (W := 0) (rm6 l Z aw hw [] u_a0_parts u_a1_parts h0 n0 (Nat.le_trans Z0 K0.1) ) hZ (hw _ (List.mem_of_getElem? (i := 32) rfl)) (hw _ (List.mem_of_getElem? (i := 31) rfl)) (by decide) (by decide)) (g := (mkF m 28 #[.val (.ref a0), .val (.ref a1), .val (.int (own_f6 u_a0_nanos u_a1_nanos))] [(.long u_a1_parts), (.long u_a0_parts)])) rfl (by rw [hml]; rfl) (argsL := [(.long u_a0_parts), (.long u_a1_parts)]) (rest := []) (lenOf pd_2 rfl) rfl (by show 2 * 0 + _ ≤ _; exact Nat.le_of_eq rfl) (hb hby d5_28) (fun _ _ => ⟨rfl, e6, (by decide : 0 + 0 ≤ _), (by decide : 0 + 0 ≤ _)⟩)
    dsimp only [Pt.U, Pt.locs, Pt.cells, Pt.slots] at X7 l7 y7 z7 st7 hQ7
    subst l7 y7 z7
    obtain ⟨rfl, N7q, e7⟩ := hQ7
    have N7 := Fr.app N3 N7q
    refine own_by (A' := T7.setTop (mkF m 31 #[.val (.ref a0), .val (.ref a1), .val (.int (own_f6 u_a0_nanos u_a1_nanos))] [(.int (own_f6 u_a0_parts u_a1_parts))])) (fun t kt => st7 t kt) ?_
    obtain ⟨fs, hr, hrun, hended, hW, hsame⟩ := X7.leave (v := some (.int (own_f6 u_a0_parts u_a1_parts))) (fun h => by rw [Bd.returns] at h; cases h)
    refine ⟨_, _, ?_, hrun, hended, _, _, rfl, ?_, ⟨_, rfl⟩, hW, hsame.mono (by decide) (by decide)⟩
    · exact retI X7 hx Bd.returns (hb hby d5_31) hr
    · show Q5 Z a0 a1 u_a0_nanos u_a0_parts u_a1_nanos u_a1_parts h0 n0 _ T7.heap _
      rw [e7]
      exact ⟨(by rw [own_f5, if_pos hc13_4]), N7, rfl⟩
  · refine own_by (A' := T3.setTop (mkF m 31 #[.val (.ref a0), .val (.ref a1), .val (.int (own_f6 u_a0_nanos u_a1_nanos))] [(.int (own_f6 u_a0_nanos u_a1_nanos))])) (fun t kt => ?_) ?_
    · show Steps p.tables e below (T3.setTop (mkF m 13 #[.val (.ref a0), .val (.ref a1), .val (.int (own_f6 u_a0_nanos u_a1_nanos))] [(.int (own_f6 u_a0_nanos u_a1_nanos))])) t
      refine XS.ifNo X3.here hx rfl (hb hby d5_13) rfl ((if0 _ _).trans (feq hc13_4).1) ?_
      show Steps p.tables e below (T3.setTop (mkF m 16 #[.val (.ref a0), .val (.ref a1), .val (.int (own_f6 u_a0_nanos u_a1_nanos))] [])) t
      refine XS.iloadN X3.here hx rfl (hb hby d5_16) rfl ?_
      show Steps p.tables e below (T3.setTop (mkF m 17 #[.val (.ref a0), .val (.ref a1), .val (.int (own_f6 u_a0_nanos u_a1_nanos))] [(.int (own_f6 u_a0_nanos u_a1_nanos))])) t
      refine XS.goto X3.here hx rfl (pc0 := 17) (pc' := 31) rfl (hb hby d5_17) (by decide) (by decide) ?_
      exact kt
    obtain ⟨fs, hr, hrun, hended, hW, hsame⟩ := X3.leave (v := some (.int (own_f6 u_a0_nanos u_a1_nanos))) (fun h => by rw [Bd.returns] at h; cases h)
    refine ⟨_, _, ?_, hrun, hended, _, _, rfl, ?_, ⟨_, rfl⟩, hW, hsame.mono (by decide) (by decide)⟩
    · exact retI X3 hx Bd.returns (hb hby d5_31) hr
    · show Q5 Z a0 a1 u_a0_nanos u_a0_parts u_a1_nanos u_a1_parts h0 n0 _ T3.heap _
      rw [e3]
      exact ⟨(by rw [own_f5, if_neg hc13_4]), N3, rfl⟩
theorem own_cmp (a b c d : Int64) : own_f5 a b c d < 0 ↔ a < c ∨ (a = c ∧ b < d) := by
  have i1 : ¬ (0 : Int32) < 0 := by decide
  have i2 : ¬ (1 : Int32) < 0 := by decide
  have i3 : (-1 : Int32) < 0 := by decide
  have i4 : ¬ (-1 : Int32) = 0 := by decide
  have i5 : ¬ (1 : Int32) = 0 := by decide
  simp only [own_f5, own_f6]
  by_cases h1 : a < c
  · simp [h1, i3, i4]
  · by_cases h2 : a = c
    · subst h2
      by_cases h3 : b < d
      · simp [h1, h3, i3]
      · by_cases h4 : b = d
        · subst h4; simp [h1, h3, i1]
        · simp [h1, h3, h4, i2]
    · simp [h1, h2, i2, i5]
theorem own_n (a : Int64) : 0 ≤ (own_f1 (a &&& (9223372036854775807 : Int64)) (9223372036854775806 : Int64)).toInt ∧ (own_f1 (a &&& (9223372036854775807 : Int64)) (9223372036854775806 : Int64)).toInt ≤ 9223372036854775806 := by
  have h := c_maskL a 9223372036854775807 63 (by decide) (by decide)
  have e : (9223372036854775806 : Int64).toInt = 9223372036854775806 := by decide
  rw [own_f1]
  split
  · rw [e]; omega
  · rename_i q; rw [Int64.lt_iff_toInt_lt, e] at q; omega
theorem own_p (c : Int32) (b : Int64) : 0 ≤ (if (c &&& (1 : Int32)) = (0 : Int32) then (0 : Int64) else (b &&& (9223372036854775807 : Int64))).toInt := by
  have h := c_maskL b 9223372036854775807 63 (by decide) (by decide)
  split
  · decide
  · omega
theorem own_r (n p : Int64) (hn : 0 ≤ n.toInt ∧ n.toInt ≤ 9223372036854775806) (hp : 0 ≤ p.toInt) : ¬ own_f5 (own_f4 n p) 0 n p < 0 ∧ own_f5 (own_f4 n p - 1) 0 n p < 0 := by
  have e0 : (0 : Int64).toInt = 0 := by decide
  have e1 : (1 : Int64).toInt = 1 := by decide
  rw [own_cmp, own_cmp, own_f4]
  simp only [← Int64.toInt_inj, Int64.lt_iff_toInt_lt, e0]
  by_cases h : p.toInt = 0
  · rw [if_pos h]
    have := c_lsub n 1; have := rng64 (n - 1)
    omega
  · rw [if_neg h]
    have := c_ladd n 1; have := rng64 (n + 1); have := c_lsub (n + 1) 1; have := rng64 (n + 1 - 1)
    omega
theorem pn_3 : plainName "com/example/even_throttle/eventhrottle/simulation/ExactInstantRunsAtPinLaw" = true := by first | (simp [plainName, overriddenIn]; done) | decide +kernel
theorem pd_4 : parseMethodDescriptor "(JJ)J" = some ⟨[.long, .long], some .long⟩ := by decide +kernel
theorem pd_5 : parseMethodDescriptor "(JJ)V" = some ⟨[.long, .long], none⟩ := by decide +kernel
theorem pd_6 : parseMethodDescriptor "()J" = some ⟨[], some .long⟩ := by decide +kernel
theorem pd_7 : parseMethodDescriptor "(Lcom/example/even_throttle/eventhrottle/simulation/ExactInstant;)I" = some ⟨[(.object "com/example/even_throttle/eventhrottle/simulation/ExactInstant")], some .int⟩ := by decide +kernel
theorem ef_rm0 (m : MethodId) (q0 : Int64) (q1 : Int64) (p2 : Int32) : entryFrame m #[(.long q0), (.long q1), (.int p2)] maxLocals = mkF m 0 #[.val (.long q0), .second, .val (.long q1), .second, .val (.int p2), .unset, .unset, .unset, .unset, .unset, .unset, .unset, .unset, .unset] [] := by first | (simp [entryFrame, mkF, argsToLocals, Value.category, maxLocals]; done) | rfl
def Q0 (Z : State) (q0 : Int64) (q1 : Int64) (p2 : Int32) (h0 : Heap) (n0 : Nat) (v : Option Value) (h : Heap) (L : List Loc) : Prop := v = some (.int 1) ∧ Fr n0 L
set_option maxRecDepth 65536 in
set_option maxHeartbeats 40000000 in
theorem rm0 (l : Launch) (Z : State) (aw : Array Value) (hw : ∀ d ∈ tables_1, d.before aw Z = true) (ws : List Jvm.Cond) (q0 : Int64) (q1 : Int64) (p2 : Int32) (h0 : Heap) (n0 : Nat) (Z0 : n0 ≤ h0.size) :
    MetFree l x (head1 (Jvm.Cond.code x code maxLocals ret :: ws) room_1) (fun a U => a = #[(.long q0), (.long q1), (.int p2)] ∧ Z.Warmed39 U.vm ∧ U.heap = h0) (fun _ _ _ _ _ => True) (fun _ U o U' => ∃ v L, o = .returned v ∧ Q0 Z q0 q1 p2 h0 n0 v U'.heap L ∧ FrameEnd U o U' L 3 6) := by
  refine MetFree.of_bodySF (plainFor_of_name pn_3) hisR ?_
  intro p e s m args below meth c s₁ Bd hml0 hP hK
  obtain ⟨rfl, hZ, hh⟩ := hP
  have hx := Bd.exec
  have hby := Bd.bytes
  have hml : c.maxLocals = 14 := hml0
  have hown : s.vm.findClass "com/example/even_throttle/eventhrottle/simulation/ExactInstantRunsAtPinLaw" = some m.cls := findClass_of_methodNamed Bd.named
  have hnm := (name_of_methodNamed Bd.named Bd.method).1
  have X0 : Stand p l e room_1 s m #[(.long q0), (.long q1), (.int p2)] below meth c s₁ [] 0 0 := Stand.of_body Bd
  have e0 : s₁.heap = h0 := by rw [← hh, Bd.state]; rfl
  have N0 := Fr.nil n0
  have K0 : Keep h0 h0 [] := Keep.refl _ _
  refine own_by (A' := s₁.setTop (mkF m 0 #[.val (.long q0), .second, .val (.long q1), .second, .val (.int p2), .unset, .unset, .unset, .unset, .unset, .unset, .unset, .unset, .unset] [])) (fun t k => castTop (ef_rm0 m q0 q1 p2) k) ?_
  refine own_by (A' := s₁.setTop (mkF m 8 #[.val (.long q0), .second, .val (.long q1), .second, .val (.int p2), .unset, .unset, .unset, .unset, .unset, .unset, .unset, .unset, .unset] [(.long (9223372036854775806 : Int64)), (.long (q0 &&& (9223372036854775807 : Int64)))])) (fun t kt => ?_) ?_
  · show Steps p.tables e below (s₁.setTop (mkF m 0 #[.val (.long q0), .second, .val (.long q1), .second, .val (.int p2), .unset, .unset, .unset, .unset, .unset, .unset, .unset, .unset, .unset] [])) t
    refine XS.lloadN X0.here hx rfl (hb hby at_0) rfl ?_
    show Steps p.tables e below (s₁.setTop (mkF m 1 #[.val (.long q0), .second, .val (.long q1), .second, .val (.int p2), .unset, .unset, .unset, .unset, .unset, .unset, .unset, .unset, .unset] [(.long q0)])) t
    refine X0.ldc2Long hx hown (mvT hZ (hw _ (List.mem_of_getElem? (i := 0) rfl))) (g := (mkF m 1 #[.val (.long q0), .second, .val (.long q1), .second, .val (.int p2), .unset, .unset, .unset, .unset, .unset, .unset, .unset, .unset, .unset] [(.long q0)])) rfl (hb hby at_1) _ ?_
    show Steps p.tables e below (s₁.setTop (mkF m 4 #[.val (.long q0), .second, .val (.long q1), .second, .val (.int p2), .unset, .unset, .unset, .unset, .unset, .unset, .unset, .unset, .unset] [(.long (9223372036854775807 : Int64)), (.long q0)])) t
    refine XS.land X0.here hx rfl (hb hby at_4) rfl ?_
    show Steps p.tables e below (s₁.setTop (mkF m 5 #[.val (.long q0), .second, .val (.long q1), .second, .val (.int p2), .unset, .unset, .unset, .unset, .unset, .unset, .unset, .unset, .unset] [(.long (q0 &&& (9223372036854775807 : Int64)))])) t
    refine X0.ldc2Long hx hown (mvT hZ (hw _ (List.mem_of_getElem? (i := 1) rfl))) (g := (mkF m 5 #[.val (.long q0), .second, .val (.long q1), .second, .val (.int p2), .unset, .unset, .unset, .unset, .unset, .unset, .unset, .unset, .unset] [(.long (q0 &&& (9223372036854775807 : Int64)))])) rfl (hb hby at_5) _ ?_
    exact kt
  obtain ⟨_, _, ⟨T1, L1, k1, n1⟩, -, X1, ⟨Lc1, hQ1, l1, y1, z1⟩, st1⟩ := Jvm.LawKit.callS X0 hx (y := (⟨"java/lang/Math", "min", "(JJ)J"⟩ : MethodName)) hown (mvT hZ (hw _ (List.mem_of_getElem? (i := 2) rfl))) (mvT hZ (hw _ (List.mem_of_getElem? (i := 3) rfl))) (mvT hZ (hw _ (List.mem_of_getElem? (i := 4) rfl))) (mvT hZ (hw _ (List.mem_of_getElem? (i := 5) rfl))) (by decide) (backOf (W := 0) (rm1 l Z aw hw [] (q0 &&& (9223372036854775807 : Int64)) (9223372036854775806 : Int64) h0 n0 (Nat.le_trans Z0 K0.1) ) hZ (hw _ (List.mem_of_getElem? (i := 5) rfl)) (hw _ (List.mem_of_getElem? (i := 4) rfl)) (by decide) (by decide)) (g := (mkF m 8 #[.val (.long q0), .second, .val (.long q1), .second, .val (.int p2), .unset, .unset, .unset, .unset, .unset, .unset, .unset, .unset, .unset] [(.long (9223372036854775806 : Int64)), (.long (q0 &&& (9223372036854775807 : Int64)))])) rfl (by rw [hml]; rfl) (argsL := [(.long (q0 &&& (9223372036854775807 : Int64))), (.long (9223372036854775806 : Int64))]) (rest := []) (lenOf pd_4 rfl) rfl (by show 2 * 0 + _ ≤ _; exact Nat.le_of_eq rfl) (hb hby at_8) (fun _ _ => ⟨rfl, e0, (by decide : 0 + 0 ≤ _), (by decide : 0 + 0 ≤ _)⟩)
  dsimp only [Pt.U, Pt.locs, Pt.cells, Pt.slots] at X1 l1 y1 z1 st1 hQ1
  subst l1 y1 z1
  obtain ⟨rfl, N1q, e1⟩ := hQ1
  have N1 := Fr.app N0 N1q
  refine own_by (A' := T1.setTop (mkF m 11 #[.val (.long q0), .second, .val (.long q1), .second, .val (.int p2), .unset, .unset, .unset, .unset, .unset, .unset, .unset, .unset, .unset] [(.long (own_f1 (q0 &&& (9223372036854775807 : Int64)) (9223372036854775806 : Int64)))])) (fun t kt => st1 t kt) ?_
  refine own_by (A' := T1.setTop (mkF m 13 #[.val (.long q0), .second, .val (.long q1), .second, .val (.int p2), .val (.long (own_f1 (q0 &&& (9223372036854775807 : Int64)) (9223372036854775806 : Int64))), .second, .unset, .unset, .unset, .unset, .unset, .unset, .unset] [])) (fun t kt => ?_) ?_
  · show Steps p.tables e below (T1.setTop (mkF m 11 #[.val (.long q0), .second, .val (.long q1), .second, .val (.int p2), .unset, .unset, .unset, .unset, .unset, .unset, .unset, .unset, .unset] [(.long (own_f1 (q0 &&& (9223372036854775807 : Int64)) (9223372036854775806 : Int64)))])) t
    refine XS.lstore X1.here hx rfl (hb hby at_11) rfl (l' := #[.val (.long q0), .second, .val (.long q1), .second, .val (.int p2), .val (.long (own_f1 (q0 &&& (9223372036854775807 : Int64)) (9223372036854775806 : Int64))), .second, .unset, .unset, .unset, .unset, .unset, .unset, .unset]) rfl ?_
    exact kt
  generalize h_vn : (own_f1 (q0 &&& (9223372036854775807 : Int64)) (9223372036854775806 : Int64)) = vn
  have hvn := own_n q0
  rw [h_vn] at hvn
  refine own_by (A' := T1.setTop (mkF m 17 #[.val (.long q0), .second, .val (.long q1), .second, .val (.int p2), .val (.long vn), .second, .unset, .unset, .unset, .unset, .unset, .unset, .unset] [(.int (p2 &&& (1 : Int32)))])) (fun t kt => ?_) ?_
  · show Steps p.tables e below (T1.setTop (mkF m 13 #[.val (.long q0), .second, .val (.long q1), .second, .val (.int p2), .val (.long vn), .second, .unset, .unset, .unset, .unset, .unset, .unset, .unset] [])) t
    refine XS.iload X1.here hx rfl (hb hby at_13) rfl ?_
    show Steps p.tables e below (T1.setTop (mkF m 15 #[.val (.long q0), .second, .val (.long q1), .second, .val (.int p2), .val (.long vn), .second, .unset, .unset, .unset, .unset, .unset, .unset, .unset] [(.int p2)])) t
    refine XS.iconst X1.here hx rfl (hb hby at_15) ?_
    show Steps p.tables e below (T1.setTop (mkF m 16 #[.val (.long q0), .second, .val (.long q1), .second, .val (.int p2), .val (.long vn), .second, .unset, .unset, .unset, .unset, .unset, .unset, .unset] [(.int (1 : Int32)), (.int p2)])) t
    refine XS.iand X1.here hx rfl (hb hby at_16) rfl ?_
    exact kt
  refine own_by (A' := T1.setTop (mkF m 29 #[.val (.long q0), .second, .val (.long q1), .second, .val (.int p2), .val (.long vn), .second, .unset, .unset, .unset, .unset, .unset, .unset, .unset] [(.long (if (p2 &&& (1 : Int32)) = (0 : Int32) then (0 : Int64) else (q1 &&& (9223372036854775807 : Int64))))])) (fun t kt => ?_) ?_
  · show Steps p.tables e below (T1.setTop (mkF m 17 #[.val (.long q0), .second, .val (.long q1), .second, .val (.int p2), .val (.long vn), .second, .unset, .unset, .unset, .unset, .unset, .unset, .unset] [(.int (p2 &&& (1 : Int32)))])) t
    by_cases hj17_2 : (p2 &&& (1 : Int32)) = (0 : Int32)
    · rw [if_pos hj17_2] at kt
      show Steps p.tables e below (T1.setTop (mkF m 17 #[.val (.long q0), .second, .val (.long q1), .second, .val (.int p2), .val (.long vn), .second, .unset, .unset, .unset, .unset, .unset, .unset, .unset] [(.int (p2 &&& (1 : Int32)))])) t
      refine XS.ifNo X1.here hx rfl (hb hby at_17) rfl ((if0 _ _).trans (teq hj17_2).2) ?_
      show Steps p.tables e below (T1.setTop (mkF m 20 #[.val (.long q0), .second, .val (.long q1), .second, .val (.int p2), .val (.long vn), .second, .unset, .unset, .unset, .unset, .unset, .unset, .unset] [])) t
      refine XS.lconst X1.here hx rfl (hb hby at_20) ?_
      show Steps p.tables e below (T1.setTop (mkF m 21 #[.val (.long q0), .second, .val (.long q1), .second, .val (.int p2), .val (.long vn), .second, .unset, .unset, .unset, .unset, .unset, .unset, .unset] [(.long (0 : Int64))])) t
      refine XS.goto X1.here hx rfl (pc0 := 21) (pc' := 29) rfl (hb hby at_21) (by decide) (by decide) ?_
      exact kt
    · rw [if_neg hj17_2] at kt
      show Steps p.tables e below (T1.setTop (mkF m 17 #[.val (.long q0), .second, .val (.long q1), .second, .val (.int p2), .val (.long vn), .second, .unset, .unset, .unset, .unset, .unset, .unset, .unset] [(.int (p2 &&& (1 : Int32)))])) t
      refine XS.ifYes X1.here hx rfl (pc0 := 17) (pc' := 24) rfl (hb hby at_17) rfl ((if0 _ _).trans (feq hj17_2).2) (by decide) (by decide) ?_
      show Steps p.tables e below (T1.setTop (mkF m 24 #[.val (.long q0), .second, .val (.long q1), .second, .val (.int p2), .val (.long vn), .second, .unset, .unset, .unset, .unset, .unset, .unset, .unset] [])) t
      refine XS.lloadN X1.here hx rfl (hb hby at_24) rfl ?_
      show Steps p.tables e below (T1.setTop (mkF m 25 #[.val (.long q0), .second, .val (.long q1), .second, .val (.int p2), .val (.long vn), .second, .unset, .unset, .unset, .unset, .unset, .unset, .unset] [(.long q1)])) t
      refine X1.ldc2Long hx hown (mvT hZ (hw _ (List.mem_of_getElem? (i := 0) rfl))) (g := (mkF m 25 #[.val (.long q0), .second, .val (.long q1), .second, .val (.int p2), .val (.long vn), .second, .unset, .unset, .unset, .unset, .unset, .unset, .unset] [(.long q1)])) rfl (hb hby at_25) _ ?_
      show Steps p.tables e below (T1.setTop (mkF m 28 #[.val (.long q0), .second, .val (.long q1), .second, .val (.int p2), .val (.long vn), .second, .unset, .unset, .unset, .unset, .unset, .unset, .unset] [(.long (9223372036854775807 : Int64)), (.long q1)])) t
      refine XS.land X1.here hx rfl (hb hby at_28) rfl ?_
      exact kt
  refine own_by (A' := T1.setTop (mkF m 31 #[.val (.long q0), .second, .val (.long q1), .second, .val (.int p2), .val (.long vn), .second, .val (.long (if (p2 &&& (1 : Int32)) = (0 : Int32) then (0 : Int64) else (q1 &&& (9223372036854775807 : Int64)))), .second, .unset, .unset, .unset, .unset, .unset] [])) (fun t kt => ?_) ?_
  · show Steps p.tables e below (T1.setTop (mkF m 29 #[.val (.long q0), .second, .val (.long q1), .second, .val (.int p2), .val (.long vn), .second, .unset, .unset, .unset, .unset, .unset, .unset, .unset] [(.long (if (p2 &&& (1 : Int32)) = (0 : Int32) then (0 : Int64) else (q1 &&& (9223372036854775807 : Int64))))])) t
    refine XS.lstore X1.here hx rfl (hb hby at_29) rfl (l' := #[.val (.long q0), .second, .val (.long q1), .second, .val (.int p2), .val (.long vn), .second, .val (.long (if (p2 &&& (1 : Int32)) = (0 : Int32) then (0 : Int64) else (q1 &&& (9223372036854775807 : Int64)))), .second, .unset, .unset, .unset, .unset, .unset]) rfl ?_
    exact kt
  generalize h_vp : (if (p2 &&& (1 : Int32)) = (0 : Int32) then (0 : Int64) else (q1 &&& (9223372036854775807 : Int64))) = vp
  have hvp := own_p p2 q1
  rw [h_vp] at hvp
  have own_1 := own_r vn vp hvn hvp
  obtain ⟨T3, h3, X3, e3, E3, A3, D3, -, st3⟩ := newO X1 hx hZ hown (hw _ (List.mem_of_getElem? (i := 6) rfl)) (hw _ (List.mem_of_getElem? (i := 7) rfl)) (hw _ (List.mem_of_getElem? (i := 8) rfl)) e1 (g := (mkF m 31 #[.val (.long q0), .second, .val (.long q1), .second, .val (.int p2), .val (.long vn), .second, .val (.long vp), .second, .unset, .unset, .unset, .unset, .unset] [])) rfl (hb hby at_31) (by decide) (by decide)
  obtain ⟨b3, g3⟩ : ∃ z, z = h0.size := ⟨_, rfl⟩
  rw [← g3] at A3 D3 st3
  have sz_b3 : h0.size ≤ b3 := Nat.le_trans K0.1 (Nat.le_of_eq g3.symm)
  have g_b3 : n0 ≤ b3 := Nat.le_trans Z0 sz_b3
  have K3 : Keep h0 h3 [] := K0.ext E3
  have F_nanos_b3 : Fld Z h3 b3 "com/example/even_throttle/eventhrottle/simulation/ExactInstant" "nanos" "J" (.long (0 : Int64)) := D3 (Or.inr (hw _ (List.mem_of_getElem? (i := 16) rfl))) (ty := .long) (by decide)
  have F_parts_b3 : Fld Z h3 b3 "com/example/even_throttle/eventhrottle/simulation/ExactInstant" "parts" "J" (.long (0 : Int64)) := D3 (Or.inr (hw _ (List.mem_of_getElem? (i := 18) rfl))) (ty := .long) (by decide)
  refine own_by (A' := T3.setTop (mkF m 34 #[.val (.long q0), .second, .val (.long q1), .second, .val (.int p2), .val (.long vn), .second, .val (.long vp), .second, .unset, .unset, .unset, .unset, .unset] [(.ref b3)])) (fun t kt => st3 t kt) ?_
  refine own_by (A' := T3.setTop (mkF m 39 #[.val (.long q0), .second, .val (.long q1), .second, .val (.int p2), .val (.long vn), .second, .val (.long vp), .second, .unset, .unset, .unset, .unset, .unset] [(.long vp), (.long vn), (.ref b3), (.ref b3)])) (fun t kt => ?_) ?_
  · show Steps p.tables e below (T3.setTop (mkF m 34 #[.val (.long q0), .second, .val (.long q1), .second, .val (.int p2), .val (.long vn), .second, .val (.long vp), .second, .unset, .unset, .unset, .unset, .unset] [(.ref b3)])) t
    refine XS.dup X3.here hx rfl (hb hby at_34) rfl rfl ?_
    show Steps p.tables e below (T3.setTop (mkF m 35 #[.val (.long q0), .second, .val (.long q1), .second, .val (.int p2), .val (.long vn), .second, .val (.long vp), .second, .unset, .unset, .unset, .unset, .unset] [(.ref b3), (.ref b3)])) t
    refine XS.lload X3.here hx rfl (hb hby at_35) rfl ?_
    show Steps p.tables e below (T3.setTop (mkF m 37 #[.val (.long q0), .second, .val (.long q1), .second, .val (.int p2), .val (.long vn), .second, .val (.long vp), .second, .unset, .unset, .unset, .unset, .unset] [(.long vn), (.ref b3), (.ref b3)])) t
    refine XS.lload X3.here hx rfl (hb hby at_37) rfl ?_
    exact kt
  obtain ⟨_, _, ⟨T4, L4, k4, n4⟩, -, X4, ⟨Lc4, hQ4, l4, y4, z4⟩, st4⟩ := X3.specialBack hx (y := (⟨"com/example/even_throttle/eventhrottle/simulation/ExactInstant", "<init>", "(JJ)V"⟩ : MethodName)) rfl hown (mvT hZ (hw _ (List.mem_of_getElem? (i := 9) rfl))) (mvT hZ (hw _ (List.mem_of_getElem? (i := 10) rfl))) (mvT hZ (hw _ (List.mem_of_getElem? (i := 11) rfl))) (by decide) (backOf (W := 1) (rm2 l Z aw hw [] b3 vn vp (0 : Int64) (0 : Int64) h3 n0 (Nat.le_trans Z0 K3.1) A3 F_nanos_b3 F_parts_b3 g_b3) hZ (hw _ (List.mem_of_getElem? (i := 11) rfl)) (hw _ (List.mem_of_getElem? (i := 8) rfl)) (by decide) (by decide)) (g := (mkF m 39 #[.val (.long q0), .second, .val (.long q1), .second, .val (.int p2), .val (.long vn), .second, .val (.long vp), .second, .unset, .unset, .unset, .unset, .unset] [(.long vp), (.long vn), (.ref b3), (.ref b3)])) rfl (by rw [hml]; rfl) (Steps.refl _) (a := b3) (argsL := [(.long vn), (.long vp)]) (rest := [(.ref b3)]) (lenOf pd_5 rfl) rfl (by show 2 * 0 + _ ≤ _; exact Nat.le_of_eq rfl) (hb hby at_39) (fun _ _ => ⟨rfl, e3, (by decide : 1 + 0 ≤ _), (by decide : 2 + 0 ≤ _)⟩)
  dsimp only [Pt.U, Pt.locs, Pt.cells, Pt.slots] at X4 l4 y4 z4 st4 hQ4
  subst l4 y4 z4
  obtain ⟨rfl, N4q, Kq4, G4_0, G4_1, G4_2⟩ := hQ4
  have N4 := Fr.app N1 N4q
  have K4 : Keep h0 T4.heap [] := K3.trans Kq4 (allS (Or.inr sz_b3) all0)
  refine own_by (A' := T4.setTop (mkF m 42 #[.val (.long q0), .second, .val (.long q1), .second, .val (.int p2), .val (.long vn), .second, .val (.long vp), .second, .unset, .unset, .unset, .unset, .unset] [(.ref b3)])) (fun t kt => st4.trans kt) ?_
  refine own_by (A' := T4.setTop (mkF m 46 #[.val (.long q0), .second, .val (.long q1), .second, .val (.int p2), .val (.long vn), .second, .val (.long vp), .second, .val (.ref b3), .unset, .unset, .unset, .unset] [(.ref b3)])) (fun t kt => ?_) ?_
  · show Steps p.tables e below (T4.setTop (mkF m 42 #[.val (.long q0), .second, .val (.long q1), .second, .val (.int p2), .val (.long vn), .second, .val (.long vp), .second, .unset, .unset, .unset, .unset, .unset] [(.ref b3)])) t
    refine XS.astore X4.here hx rfl (hb hby at_42) rfl rfl (l' := #[.val (.long q0), .second, .val (.long q1), .second, .val (.int p2), .val (.long vn), .second, .val (.long vp), .second, .val (.ref b3), .unset, .unset, .unset, .unset]) rfl ?_
    show Steps p.tables e below (T4.setTop (mkF m 44 #[.val (.long q0), .second, .val (.long q1), .second, .val (.int p2), .val (.long vn), .second, .val (.long vp), .second, .val (.ref b3), .unset, .unset, .unset, .unset] [])) t
    refine XS.aload X4.here hx rfl (hb hby at_44) rfl rfl ?_
    exact kt
  obtain ⟨cq5, kq5, q5a, q5b, q5c⟩ := isOf hZ rfl G4_0
  obtain ⟨_, _, ⟨T5, L5, k5, n5⟩, -, X5, ⟨Lc5, hQ5, l5, y5, z5⟩, st5⟩ := X4.virtualBack hx (y := (⟨"com/example/even_throttle/eventhrottle/simulation/ExactInstant", "runsAt", "()J"⟩ : MethodName)) (z := (⟨"com/example/even_throttle/eventhrottle/simulation/ExactInstant", "runsAt", "()J"⟩ : MethodName)) hown (mvT hZ (hw _ (List.mem_of_getElem? (i := 19) rfl))) (mvT hZ (hw _ (List.mem_of_getElem? (i := 20) rfl))) (notFace_of_selects (args := #[]) (mvT hZ (hw _ (List.mem_of_getElem? (i := 22) rfl)))) (mvT hZ (hw _ (List.mem_of_getElem? (i := 22) rfl))) (mvT hZ (hw _ (List.mem_of_getElem? (i := 21) rfl))) (by decide) (backOf (W := 0) (rm4 l Z aw hw [] b3 vn vp T4.heap n0 (Nat.le_trans Z0 K4.1) G4_1 G4_2) hZ (hw _ (List.mem_of_getElem? (i := 23) rfl)) (hw _ (List.mem_of_getElem? (i := 8) rfl)) (by decide) (by decide)) q5a q5c (g := (mkF m 46 #[.val (.long q0), .second, .val (.long q1), .second, .val (.int p2), .val (.long vn), .second, .val (.long vp), .second, .val (.ref b3), .unset, .unset, .unset, .unset] [(.ref b3)])) rfl (by rw [hml]; rfl) (Steps.refl _) (argsL := []) (rest := []) (lenOf pd_6 rfl) rfl (by show 2 * 0 + _ ≤ _; exact Nat.le_of_eq rfl) (hb hby at_46) (fun _ _ => ⟨rfl, rfl, (by decide : 1 + 0 ≤ _), (by decide : 2 + 0 ≤ _)⟩)
  dsimp only [Pt.U, Pt.locs, Pt.cells, Pt.slots] at X5 l5 y5 z5 st5 hQ5
  subst l5 y5 z5
  obtain ⟨rfl, N5q, e5⟩ := hQ5
  have N5 := Fr.app N4 N5q
  refine own_by (A' := T5.setTop (mkF m 49 #[.val (.long q0), .second, .val (.long q1), .second, .val (.int p2), .val (.long vn), .second, .val (.long vp), .second, .val (.ref b3), .unset, .unset, .unset, .unset] [(.long (own_f4 vn vp))])) (fun t kt => st5.trans kt) ?_
  refine own_by (A' := T5.setTop (mkF m 51 #[.val (.long q0), .second, .val (.long q1), .second, .val (.int p2), .val (.long vn), .second, .val (.long vp), .second, .val (.ref b3), .val (.long (own_f4 vn vp)), .second, .unset, .unset] [])) (fun t kt => ?_) ?_
  · show Steps p.tables e below (T5.setTop (mkF m 49 #[.val (.long q0), .second, .val (.long q1), .second, .val (.int p2), .val (.long vn), .second, .val (.long vp), .second, .val (.ref b3), .unset, .unset, .unset, .unset] [(.long (own_f4 vn vp))])) t
    refine XS.lstore X5.here hx rfl (hb hby at_49) rfl (l' := #[.val (.long q0), .second, .val (.long q1), .second, .val (.int p2), .val (.long vn), .second, .val (.long vp), .second, .val (.ref b3), .val (.long (own_f4 vn vp)), .second, .unset, .unset]) rfl ?_
    exact kt
  obtain ⟨T6, h6, X6, e6, E6, A6, D6, -, st6⟩ := newO X5 hx hZ hown (hw _ (List.mem_of_getElem? (i := 6) rfl)) (hw _ (List.mem_of_getElem? (i := 7) rfl)) (hw _ (List.mem_of_getElem? (i := 8) rfl)) e5 (g := (mkF m 51 #[.val (.long q0), .second, .val (.long q1), .second, .val (.int p2), .val (.long vn), .second, .val (.long vp), .second, .val (.ref b3), .val (.long (own_f4 vn vp)), .second, .unset, .unset] [])) rfl (hb hby at_51) (by decide) (by decide)
  obtain ⟨b6, g6⟩ : ∃ z, z = T4.heap.size := ⟨_, rfl⟩
  rw [← g6] at A6 D6 st6
  have sz_b6 : h0.size ≤ b6 := Nat.le_trans K4.1 (Nat.le_of_eq g6.symm)
  have g_b6 : n0 ≤ b6 := Nat.le_trans Z0 sz_b6
  have K6 : Keep h0 h6 [] := K4.ext E6
  have F_nanos_b6 : Fld Z h6 b6 "com/example/even_throttle/eventhrottle/simulation/ExactInstant" "nanos" "J" (.long (0 : Int64)) := D6 (Or.inr (hw _ (List.mem_of_getElem? (i := 16) rfl))) (ty := .long) (by decide)
  have F_parts_b6 : Fld Z h6 b6 "com/example/even_throttle/eventhrottle/simulation/ExactInstant" "parts" "J" (.long (0 : Int64)) := D6 (Or.inr (hw _ (List.mem_of_getElem? (i := 18) rfl))) (ty := .long) (by decide)
  refine own_by (A' := T6.setTop (mkF m 54 #[.val (.long q0), .second, .val (.long q1), .second, .val (.int p2), .val (.long vn), .second, .val (.long vp), .second, .val (.ref b3), .val (.long (own_f4 vn vp)), .second, .unset, .unset] [(.ref b6)])) (fun t kt => st6 t kt) ?_
  refine own_by (A' := T6.setTop (mkF m 58 #[.val (.long q0), .second, .val (.long q1), .second, .val (.int p2), .val (.long vn), .second, .val (.long vp), .second, .val (.ref b3), .val (.long (own_f4 vn vp)), .second, .unset, .unset] [(.long (0 : Int64)), (.long (own_f4 vn vp)), (.ref b6), (.ref b6)])) (fun t kt => ?_) ?_
  · show Steps p.tables e below (T6.setTop (mkF m 54 #[.val (.long q0), .second, .val (.long q1), .second, .val (.int p2), .val (.long vn), .second, .val (.long vp), .second, .val (.ref b3), .val (.long (own_f4 vn vp)), .second, .unset, .unset] [(.ref b6)])) t
    refine XS.dup X6.here hx rfl (hb hby at_54) rfl rfl ?_
    show Steps p.tables e below (T6.setTop (mkF m 55 #[.val (.long q0), .second, .val (.long q1), .second, .val (.int p2), .val (.long vn), .second, .val (.long vp), .second, .val (.ref b3), .val (.long (own_f4 vn vp)), .second, .unset, .unset] [(.ref b6), (.ref b6)])) t
    refine XS.lload X6.here hx rfl (hb hby at_55) rfl ?_
    show Steps p.tables e below (T6.setTop (mkF m 57 #[.val (.long q0), .second, .val (.long q1), .second, .val (.int p2), .val (.long vn), .second, .val (.long vp), .second, .val (.ref b3), .val (.long (own_f4 vn vp)), .second, .unset, .unset] [(.long (own_f4 vn vp)), (.ref b6), (.ref b6)])) t
    refine XS.lconst X6.here hx rfl (hb hby at_57) ?_
    exact kt
  obtain ⟨_, _, ⟨T7, L7, k7, n7⟩, -, X7, ⟨Lc7, hQ7, l7, y7, z7⟩, st7⟩ := X6.specialBack hx (y := (⟨"com/example/even_throttle/eventhrottle/simulation/ExactInstant", "<init>", "(JJ)V"⟩ : MethodName)) rfl hown (mvT hZ (hw _ (List.mem_of_getElem? (i := 9) rfl))) (mvT hZ (hw _ (List.mem_of_getElem? (i := 10) rfl))) (mvT hZ (hw _ (List.mem_of_getElem? (i := 11) rfl))) (by decide) (backOf (W := 1) (rm2 l Z aw hw [] b6 (own_f4 vn vp) (0 : Int64) (0 : Int64) (0 : Int64) h6 n0 (Nat.le_trans Z0 K6.1) A6 F_nanos_b6 F_parts_b6 g_b6) hZ (hw _ (List.mem_of_getElem? (i := 11) rfl)) (hw _ (List.mem_of_getElem? (i := 8) rfl)) (by decide) (by decide)) (g := (mkF m 58 #[.val (.long q0), .second, .val (.long q1), .second, .val (.int p2), .val (.long vn), .second, .val (.long vp), .second, .val (.ref b3), .val (.long (own_f4 vn vp)), .second, .unset, .unset] [(.long (0 : Int64)), (.long (own_f4 vn vp)), (.ref b6), (.ref b6)])) rfl (by rw [hml]; rfl) (Steps.refl _) (a := b6) (argsL := [(.long (own_f4 vn vp)), (.long (0 : Int64))]) (rest := [(.ref b6)]) (lenOf pd_5 rfl) rfl (by show 2 * 0 + _ ≤ _; exact Nat.le_of_eq rfl) (hb hby at_58) (fun _ _ => ⟨rfl, e6, (by decide : 2 + 0 ≤ _), (by decide : 4 + 0 ≤ _)⟩)
  dsimp only [Pt.U, Pt.locs, Pt.cells, Pt.slots] at X7 l7 y7 z7 st7 hQ7
  subst l7 y7 z7
  obtain ⟨rfl, N7q, Kq7, G7_0, G7_1, G7_2⟩ := hQ7
  have N7 := Fr.app N5 N7q
  have K7 : Keep h0 T7.heap [] := K6.trans Kq7 (allS (Or.inr sz_b6) all0)
  refine own_by (A' := T7.setTop (mkF m 61 #[.val (.long q0), .second, .val (.long q1), .second, .val (.int p2), .val (.long vn), .second, .val (.long vp), .second, .val (.ref b3), .val (.long (own_f4 vn vp)), .second, .unset, .unset] [(.ref b6)])) (fun t kt => st7.trans kt) ?_
  refine own_by (A' := T7.setTop (mkF m 63 #[.val (.long q0), .second, .val (.long q1), .second, .val (.int p2), .val (.long vn), .second, .val (.long vp), .second, .val (.ref b3), .val (.long (own_f4 vn vp)), .second, .unset, .unset] [(.ref b3), (.ref b6)])) (fun t kt => ?_) ?_
  · show Steps p.tables e below (T7.setTop (mkF m 61 #[.val (.long q0), .second, .val (.long q1), .second, .val (.int p2), .val (.long vn), .second, .val (.long vp), .second, .val (.ref b3), .val (.long (own_f4 vn vp)), .second, .unset, .unset] [(.ref b6)])) t
    refine XS.aload X7.here hx rfl (hb hby at_61) rfl rfl ?_
    exact kt
  obtain ⟨cq8, kq8, q8a, q8b, q8c⟩ := isOf hZ rfl G7_0
  obtain ⟨_, _, ⟨T8, L8, k8, n8⟩, -, X8, ⟨Lc8, hQ8, l8, y8, z8⟩, st8⟩ := X7.virtualBack hx (y := (⟨"com/example/even_throttle/eventhrottle/simulation/ExactInstant", "compareTo", "(Lcom/example/even_throttle/eventhrottle/simulation/ExactInstant;)I"⟩ : MethodName)) (z := (⟨"com/example/even_throttle/eventhrottle/simulation/ExactInstant", "compareTo", "(Lcom/example/even_throttle/eventhrottle/simulation/ExactInstant;)I"⟩ : MethodName)) hown (mvT hZ (hw _ (List.mem_of_getElem? (i := 24) rfl))) (mvT hZ (hw _ (List.mem_of_getElem? (i := 25) rfl))) (notFace_of_selects (args := #[]) (mvT hZ (hw _ (List.mem_of_getElem? (i := 27) rfl)))) (mvT hZ (hw _ (List.mem_of_getElem? (i := 27) rfl))) (mvT hZ (hw _ (List.mem_of_getElem? (i := 26) rfl))) (by decide) (backOf (W := 0) (rm5 l Z aw hw [] b6 b3 (own_f4 vn vp) (0 : Int64) vn vp T7.heap n0 (Nat.le_trans Z0 K7.1) G7_1 G7_2 ((G4_1.ext E6).keep Kq7 (ninS (Nat.ne_of_lt (Nat.lt_of_lt_of_le (G4_0).lt (Nat.le_of_eq g6.symm))) nin0)) ((G4_2.ext E6).keep Kq7 (ninS (Nat.ne_of_lt (Nat.lt_of_lt_of_le (G4_0).lt (Nat.le_of_eq g6.symm))) nin0))) hZ (hw _ (List.mem_of_getElem? (i := 28) rfl)) (hw _ (List.mem_of_getElem? (i := 8) rfl)) (by decide) (by decide)) q8a q8c (g := (mkF m 63 #[.val (.long q0), .second, .val (.long q1), .second, .val (.int p2), .val (.long vn), .second, .val (.long vp), .second, .val (.ref b3), .val (.long (own_f4 vn vp)), .second, .unset, .unset] [(.ref b3), (.ref b6)])) rfl (by rw [hml]; rfl) (Steps.refl _) (argsL := [(.ref b3)]) (rest := []) (lenOf pd_7 rfl) rfl (by show 2 * 0 + _ ≤ _; exact Nat.le_of_eq rfl) (hb hby at_63) (fun _ _ => ⟨rfl, rfl, (by decide : 2 + 0 ≤ _), (by decide : 4 + 0 ≤ _)⟩)
  dsimp only [Pt.U, Pt.locs, Pt.cells, Pt.slots] at X8 l8 y8 z8 st8 hQ8
  subst l8 y8 z8
  obtain ⟨rfl, N8q, e8⟩ := hQ8
  have N8 := Fr.app N7 N8q
  refine own_by (A' := T8.setTop (mkF m 66 #[.val (.long q0), .second, .val (.long q1), .second, .val (.int p2), .val (.long vn), .second, .val (.long vp), .second, .val (.ref b3), .val (.long (own_f4 vn vp)), .second, .unset, .unset] [(.int (own_f5 (own_f4 vn vp) (0 : Int64) vn vp))])) (fun t kt => st8.trans kt) ?_
  have hc66_9 : ¬ ((own_f5 (own_f4 vn vp) (0 : Int64) vn vp) < (0 : Int32)) := own_1.1
  refine own_by (A' := T8.setTop (mkF m 76 #[.val (.long q0), .second, .val (.long q1), .second, .val (.int p2), .val (.long vn), .second, .val (.long vp), .second, .val (.ref b3), .val (.long (own_f4 vn vp)), .second, .val (.int (1 : Int32)), .unset] [])) (fun t kt => ?_) ?_
  · show Steps p.tables e below (T8.setTop (mkF m 66 #[.val (.long q0), .second, .val (.long q1), .second, .val (.int p2), .val (.long vn), .second, .val (.long vp), .second, .val (.ref b3), .val (.long (own_f4 vn vp)), .second, .unset, .unset] [(.int (own_f5 (own_f4 vn vp) (0 : Int64) vn vp))])) t
    refine XS.ifNo X8.here hx rfl (hb hby at_66) rfl ((if0 _ _).trans (flt hc66_9).1) ?_
    show Steps p.tables e below (T8.setTop (mkF m 69 #[.val (.long q0), .second, .val (.long q1), .second, .val (.int p2), .val (.long vn), .second, .val (.long vp), .second, .val (.ref b3), .val (.long (own_f4 vn vp)), .second, .unset, .unset] [])) t
    refine XS.iconst X8.here hx rfl (hb hby at_69) ?_
    show Steps p.tables e below (T8.setTop (mkF m 70 #[.val (.long q0), .second, .val (.long q1), .second, .val (.int p2), .val (.long vn), .second, .val (.long vp), .second, .val (.ref b3), .val (.long (own_f4 vn vp)), .second, .unset, .unset] [(.int (1 : Int32))])) t
    refine XS.goto X8.here hx rfl (pc0 := 70) (pc' := 74) rfl (hb hby at_70) (by decide) (by decide) ?_
    show Steps p.tables e below (T8.setTop (mkF m 74 #[.val (.long q0), .second, .val (.long q1), .second, .val (.int p2), .val (.long vn), .second, .val (.long vp), .second, .val (.ref b3), .val (.long (own_f4 vn vp)), .second, .unset, .unset] [(.int (1 : Int32))])) t
    refine XS.istore X8.here hx rfl (hb hby at_74) rfl (l' := #[.val (.long q0), .second, .val (.long q1), .second, .val (.int p2), .val (.long vn), .second, .val (.long vp), .second, .val (.ref b3), .val (.long (own_f4 vn vp)), .second, .val (.int (1 : Int32)), .unset]) rfl ?_
    exact kt
  obtain ⟨T10, h10, X10, e10, E10, A10, D10, -, st10⟩ := newO X8 hx hZ hown (hw _ (List.mem_of_getElem? (i := 6) rfl)) (hw _ (List.mem_of_getElem? (i := 7) rfl)) (hw _ (List.mem_of_getElem? (i := 8) rfl)) e8 (g := (mkF m 76 #[.val (.long q0), .second, .val (.long q1), .second, .val (.int p2), .val (.long vn), .second, .val (.long vp), .second, .val (.ref b3), .val (.long (own_f4 vn vp)), .second, .val (.int (1 : Int32)), .unset] [])) rfl (hb hby at_76) (by decide) (by decide)
  obtain ⟨b10, g10⟩ : ∃ z, z = T7.heap.size := ⟨_, rfl⟩
  rw [← g10] at A10 D10 st10
  have sz_b10 : h0.size ≤ b10 := Nat.le_trans K7.1 (Nat.le_of_eq g10.symm)
  have g_b10 : n0 ≤ b10 := Nat.le_trans Z0 sz_b10
  have K10 : Keep h0 h10 [] := K7.ext E10
  have F_nanos_b10 : Fld Z h10 b10 "com/example/even_throttle/eventhrottle/simulation/ExactInstant" "nanos" "J" (.long (0 : Int64)) := D10 (Or.inr (hw _ (List.mem_of_getElem? (i := 16) rfl))) (ty := .long) (by decide)
  have F_parts_b10 : Fld Z h10 b10 "com/example/even_throttle/eventhrottle/simulation/ExactInstant" "parts" "J" (.long (0 : Int64)) := D10 (Or.inr (hw _ (List.mem_of_getElem? (i := 18) rfl))) (ty := .long) (by decide)
  refine own_by (A' := T10.setTop (mkF m 79 #[.val (.long q0), .second, .val (.long q1), .second, .val (.int p2), .val (.long vn), .second, .val (.long vp), .second, .val (.ref b3), .val (.long (own_f4 vn vp)), .second, .val (.int (1 : Int32)), .unset] [(.ref b10)])) (fun t kt => st10 t kt) ?_
  refine own_by (A' := T10.setTop (mkF m 85 #[.val (.long q0), .second, .val (.long q1), .second, .val (.int p2), .val (.long vn), .second, .val (.long vp), .second, .val (.ref b3), .val (.long (own_f4 vn vp)), .second, .val (.int (1 : Int32)), .unset] [(.long (0 : Int64)), (.long ((own_f4 vn vp) - (1 : Int64))), (.ref b10), (.ref b10)])) (fun t kt => ?_) ?_
  · show Steps p.tables e below (T10.setTop (mkF m 79 #[.val (.long q0), .second, .val (.long q1), .second, .val (.int p2), .val (.long vn), .second, .val (.long vp), .second, .val (.ref b3), .val (.long (own_f4 vn vp)), .second, .val (.int (1 : Int32)), .unset] [(.ref b10)])) t
    refine XS.dup X10.here hx rfl (hb hby at_79) rfl rfl ?_
    show Steps p.tables e below (T10.setTop (mkF m 80 #[.val (.long q0), .second, .val (.long q1), .second, .val (.int p2), .val (.long vn), .second, .val (.long vp), .second, .val (.ref b3), .val (.long (own_f4 vn vp)), .second, .val (.int (1 : Int32)), .unset] [(.ref b10), (.ref b10)])) t
    refine XS.lload X10.here hx rfl (hb hby at_80) rfl ?_
    show Steps p.tables e below (T10.setTop (mkF m 82 #[.val (.long q0), .second, .val (.long q1), .second, .val (.int p2), .val (.long vn), .second, .val (.long vp), .second, .val (.ref b3), .val (.long (own_f4 vn vp)), .second, .val (.int (1 : Int32)), .unset] [(.long (own_f4 vn vp)), (.ref b10), (.ref b10)])) t
    refine XS.lconst X10.here hx rfl (hb hby at_82) ?_
    show Steps p.tables e below (T10.setTop (mkF m 83 #[.val (.long q0), .second, .val (.long q1), .second, .val (.int p2), .val (.long vn), .second, .val (.long vp), .second, .val (.ref b3), .val (.long (own_f4 vn vp)), .second, .val (.int (1 : Int32)), .unset] [(.long (1 : Int64)), (.long (own_f4 vn vp)), (.ref b10), (.ref b10)])) t
    refine XS.lsub X10.here hx rfl (hb hby at_83) rfl ?_
    show Steps p.tables e below (T10.setTop (mkF m 84 #[.val (.long q0), .second, .val (.long q1), .second, .val (.int p2), .val (.long vn), .second, .val (.long vp), .second, .val (.ref b3), .val (.long (own_f4 vn vp)), .second, .val (.int (1 : Int32)), .unset] [(.long ((own_f4 vn vp) - (1 : Int64))), (.ref b10), (.ref b10)])) t
    refine XS.lconst X10.here hx rfl (hb hby at_84) ?_
    exact kt
  obtain ⟨_, _, ⟨T11, L11, k11, n11⟩, -, X11, ⟨Lc11, hQ11, l11, y11, z11⟩, st11⟩ := X10.specialBack hx (y := (⟨"com/example/even_throttle/eventhrottle/simulation/ExactInstant", "<init>", "(JJ)V"⟩ : MethodName)) rfl hown (mvT hZ (hw _ (List.mem_of_getElem? (i := 9) rfl))) (mvT hZ (hw _ (List.mem_of_getElem? (i := 10) rfl))) (mvT hZ (hw _ (List.mem_of_getElem? (i := 11) rfl))) (by decide) (backOf (W := 1) (rm2 l Z aw hw [] b10 ((own_f4 vn vp) - (1 : Int64)) (0 : Int64) (0 : Int64) (0 : Int64) h10 n0 (Nat.le_trans Z0 K10.1) A10 F_nanos_b10 F_parts_b10 g_b10) hZ (hw _ (List.mem_of_getElem? (i := 11) rfl)) (hw _ (List.mem_of_getElem? (i := 8) rfl)) (by decide) (by decide)) (g := (mkF m 85 #[.val (.long q0), .second, .val (.long q1), .second, .val (.int p2), .val (.long vn), .second, .val (.long vp), .second, .val (.ref b3), .val (.long (own_f4 vn vp)), .second, .val (.int (1 : Int32)), .unset] [(.long (0 : Int64)), (.long ((own_f4 vn vp) - (1 : Int64))), (.ref b10), (.ref b10)])) rfl (by rw [hml]; rfl) (Steps.refl _) (a := b10) (argsL := [(.long ((own_f4 vn vp) - (1 : Int64))), (.long (0 : Int64))]) (rest := [(.ref b10)]) (lenOf pd_5 rfl) rfl (by show 2 * 0 + _ ≤ _; exact Nat.le_of_eq rfl) (hb hby at_85) (fun _ _ => ⟨rfl, e10, (by decide : 3 + 0 ≤ _), (by decide : 6 + 0 ≤ _)⟩)
  dsimp only [Pt.U, Pt.locs, Pt.cells, Pt.slots] at X11 l11 y11 z11 st11 hQ11
  subst l11 y11 z11
  obtain ⟨rfl, N11q, Kq11, G11_0, G11_1, G11_2⟩ := hQ11
  have N11 := Fr.app N8 N11q
  have K11 : Keep h0 T11.heap [] := K10.trans Kq11 (allS (Or.inr sz_b10) all0)
  refine own_by (A' := T11.setTop (mkF m 88 #[.val (.long q0), .second, .val (.long q1), .second, .val (.int p2), .val (.long vn), .second, .val (.long vp), .second, .val (.ref b3), .val (.long (own_f4 vn vp)), .second, .val (.int (1 : Int32)), .unset] [(.ref b10)])) (fun t kt => st11.trans kt) ?_
  refine own_by (A' := T11.setTop (mkF m 90 #[.val (.long q0), .second, .val (.long q1), .second, .val (.int p2), .val (.long vn), .second, .val (.long vp), .second, .val (.ref b3), .val (.long (own_f4 vn vp)), .second, .val (.int (1 : Int32)), .unset] [(.ref b3), (.ref b10)])) (fun t kt => ?_) ?_
  · show Steps p.tables e below (T11.setTop (mkF m 88 #[.val (.long q0), .second, .val (.long q1), .second, .val (.int p2), .val (.long vn), .second, .val (.long vp), .second, .val (.ref b3), .val (.long (own_f4 vn vp)), .second, .val (.int (1 : Int32)), .unset] [(.ref b10)])) t
    refine XS.aload X11.here hx rfl (hb hby at_88) rfl rfl ?_
    exact kt
  obtain ⟨cq12, kq12, q12a, q12b, q12c⟩ := isOf hZ rfl G11_0
  obtain ⟨_, _, ⟨T12, L12, k12, n12⟩, -, X12, ⟨Lc12, hQ12, l12, y12, z12⟩, st12⟩ := X11.virtualBack hx (y := (⟨"com/example/even_throttle/eventhrottle/simulation/ExactInstant", "compareTo", "(Lcom/example/even_throttle/eventhrottle/simulation/ExactInstant;)I"⟩ : MethodName)) (z := (⟨"com/example/even_throttle/eventhrottle/simulation/ExactInstant", "compareTo", "(Lcom/example/even_throttle/eventhrottle/simulation/ExactInstant;)I"⟩ : MethodName)) hown (mvT hZ (hw _ (List.mem_of_getElem? (i := 24) rfl))) (mvT hZ (hw _ (List.mem_of_getElem? (i := 25) rfl))) (notFace_of_selects (args := #[]) (mvT hZ (hw _ (List.mem_of_getElem? (i := 27) rfl)))) (mvT hZ (hw _ (List.mem_of_getElem? (i := 27) rfl))) (mvT hZ (hw _ (List.mem_of_getElem? (i := 26) rfl))) (by decide) (backOf (W := 0) (rm5 l Z aw hw [] b10 b3 ((own_f4 vn vp) - (1 : Int64)) (0 : Int64) vn vp T11.heap n0 (Nat.le_trans Z0 K11.1) G11_1 G11_2 ((((G4_1.ext E6).keep Kq7 (ninS (Nat.ne_of_lt (Nat.lt_of_lt_of_le (G4_0).lt (Nat.le_of_eq g6.symm))) nin0)).ext E10).keep Kq11 (ninS (Nat.ne_of_lt (Nat.lt_of_lt_of_le (((G4_0.ext E6).keep Kq7)).lt (Nat.le_of_eq g10.symm))) nin0)) ((((G4_2.ext E6).keep Kq7 (ninS (Nat.ne_of_lt (Nat.lt_of_lt_of_le (G4_0).lt (Nat.le_of_eq g6.symm))) nin0)).ext E10).keep Kq11 (ninS (Nat.ne_of_lt (Nat.lt_of_lt_of_le (((G4_0.ext E6).keep Kq7)).lt (Nat.le_of_eq g10.symm))) nin0))) hZ (hw _ (List.mem_of_getElem? (i := 28) rfl)) (hw _ (List.mem_of_getElem? (i := 8) rfl)) (by decide) (by decide)) q12a q12c (g := (mkF m 90 #[.val (.long q0), .second, .val (.long q1), .second, .val (.int p2), .val (.long vn), .second, .val (.long vp), .second, .val (.ref b3), .val (.long (own_f4 vn vp)), .second, .val (.int (1 : Int32)), .unset] [(.ref b3), (.ref b10)])) rfl (by rw [hml]; rfl) (Steps.refl _) (argsL := [(.ref b3)]) (rest := []) (lenOf pd_7 rfl) rfl (by show 2 * 0 + _ ≤ _; exact Nat.le_of_eq rfl) (hb hby at_90) (fun _ _ => ⟨rfl, rfl, (by decide : 3 + 0 ≤ _), (by decide : 6 + 0 ≤ _)⟩)
  dsimp only [Pt.U, Pt.locs, Pt.cells, Pt.slots] at X12 l12 y12 z12 st12 hQ12
  subst l12 y12 z12
  obtain ⟨rfl, N12q, e12⟩ := hQ12
  have N12 := Fr.app N11 N12q
  refine own_by (A' := T12.setTop (mkF m 93 #[.val (.long q0), .second, .val (.long q1), .second, .val (.int p2), .val (.long vn), .second, .val (.long vp), .second, .val (.ref b3), .val (.long (own_f4 vn vp)), .second, .val (.int (1 : Int32)), .unset] [(.int (own_f5 ((own_f4 vn vp) - (1 : Int64)) (0 : Int64) vn vp))])) (fun t kt => st12.trans kt) ?_
  have hc93_13 : (own_f5 ((own_f4 vn vp) - (1 : Int64)) (0 : Int64) vn vp) < (0 : Int32) := own_1.2
  refine own_by (A' := T12.setTop (mkF m 105 #[.val (.long q0), .second, .val (.long q1), .second, .val (.int p2), .val (.long vn), .second, .val (.long vp), .second, .val (.ref b3), .val (.long (own_f4 vn vp)), .second, .val (.int (1 : Int32)), .val (.int (1 : Int32))] [(.int (1 : Int32))])) (fun t kt => ?_) ?_
  · show Steps p.tables e below (T12.setTop (mkF m 93 #[.val (.long q0), .second, .val (.long q1), .second, .val (.int p2), .val (.long vn), .second, .val (.long vp), .second, .val (.ref b3), .val (.long (own_f4 vn vp)), .second, .val (.int (1 : Int32)), .unset] [(.int (own_f5 ((own_f4 vn vp) - (1 : Int64)) (0 : Int64) vn vp))])) t
    refine XS.ifNo X12.here hx rfl (hb hby at_93) rfl ((if0 _ _).trans (tlt hc93_13).2.1) ?_
    show Steps p.tables e below (T12.setTop (mkF m 96 #[.val (.long q0), .second, .val (.long q1), .second, .val (.int p2), .val (.long vn), .second, .val (.long vp), .second, .val (.ref b3), .val (.long (own_f4 vn vp)), .second, .val (.int (1 : Int32)), .unset] [])) t
    refine XS.iconst X12.here hx rfl (hb hby at_96) ?_
    show Steps p.tables e below (T12.setTop (mkF m 97 #[.val (.long q0), .second, .val (.long q1), .second, .val (.int p2), .val (.long vn), .second, .val (.long vp), .second, .val (.ref b3), .val (.long (own_f4 vn vp)), .second, .val (.int (1 : Int32)), .unset] [(.int (1 : Int32))])) t
    refine XS.goto X12.here hx rfl (pc0 := 97) (pc' := 101) rfl (hb hby at_97) (by decide) (by decide) ?_
    show Steps p.tables e below (T12.setTop (mkF m 101 #[.val (.long q0), .second, .val (.long q1), .second, .val (.int p2), .val (.long vn), .second, .val (.long vp), .second, .val (.ref b3), .val (.long (own_f4 vn vp)), .second, .val (.int (1 : Int32)), .unset] [(.int (1 : Int32))])) t
    refine XS.istore X12.here hx rfl (hb hby at_101) rfl (l' := #[.val (.long q0), .second, .val (.long q1), .second, .val (.int p2), .val (.long vn), .second, .val (.long vp), .second, .val (.ref b3), .val (.long (own_f4 vn vp)), .second, .val (.int (1 : Int32)), .val (.int (1 : Int32))]) rfl ?_
    show Steps p.tables e below (T12.setTop (mkF m 103 #[.val (.long q0), .second, .val (.long q1), .second, .val (.int p2), .val (.long vn), .second, .val (.long vp), .second, .val (.ref b3), .val (.long (own_f4 vn vp)), .second, .val (.int (1 : Int32)), .val (.int (1 : Int32))] [])) t
    refine XS.iload X12.here hx rfl (hb hby at_103) rfl ?_
    exact kt
  have hc105_14 : ¬ ((1 : Int32) = (0 : Int32)) := by decide
  refine own_by (A' := T12.setTop (mkF m 110 #[.val (.long q0), .second, .val (.long q1), .second, .val (.int p2), .val (.long vn), .second, .val (.long vp), .second, .val (.ref b3), .val (.long (own_f4 vn vp)), .second, .val (.int (1 : Int32)), .val (.int (1 : Int32))] [(.int (1 : Int32))])) (fun t kt => ?_) ?_
  · show Steps p.tables e below (T12.setTop (mkF m 105 #[.val (.long q0), .second, .val (.long q1), .second, .val (.int p2), .val (.long vn), .second, .val (.long vp), .second, .val (.ref b3), .val (.long (own_f4 vn vp)), .second, .val (.int (1 : Int32)), .val (.int (1 : Int32))] [(.int (1 : Int32))])) t
    refine XS.ifNo X12.here hx rfl (hb hby at_105) rfl ((if0 _ _).trans (feq hc105_14).1) ?_
    show Steps p.tables e below (T12.setTop (mkF m 108 #[.val (.long q0), .second, .val (.long q1), .second, .val (.int p2), .val (.long vn), .second, .val (.long vp), .second, .val (.ref b3), .val (.long (own_f4 vn vp)), .second, .val (.int (1 : Int32)), .val (.int (1 : Int32))] [])) t
    refine XS.iload X12.here hx rfl (hb hby at_108) rfl ?_
    exact kt
  have hc110_15 : ¬ ((1 : Int32) = (0 : Int32)) := by decide
  refine own_by (A' := T12.setTop (mkF m 118 #[.val (.long q0), .second, .val (.long q1), .second, .val (.int p2), .val (.long vn), .second, .val (.long vp), .second, .val (.ref b3), .val (.long (own_f4 vn vp)), .second, .val (.int (1 : Int32)), .val (.int (1 : Int32))] [(.int (1 : Int32))])) (fun t kt => ?_) ?_
  · show Steps p.tables e below (T12.setTop (mkF m 110 #[.val (.long q0), .second, .val (.long q1), .second, .val (.int p2), .val (.long vn), .second, .val (.long vp), .second, .val (.ref b3), .val (.long (own_f4 vn vp)), .second, .val (.int (1 : Int32)), .val (.int (1 : Int32))] [(.int (1 : Int32))])) t
    refine XS.ifNo X12.here hx rfl (hb hby at_110) rfl ((if0 _ _).trans (feq hc110_15).1) ?_
    show Steps p.tables e below (T12.setTop (mkF m 113 #[.val (.long q0), .second, .val (.long q1), .second, .val (.int p2), .val (.long vn), .second, .val (.long vp), .second, .val (.ref b3), .val (.long (own_f4 vn vp)), .second, .val (.int (1 : Int32)), .val (.int (1 : Int32))] [])) t
    refine XS.iconst X12.here hx rfl (hb hby at_113) ?_
    show Steps p.tables e below (T12.setTop (mkF m 114 #[.val (.long q0), .second, .val (.long q1), .second, .val (.int p2), .val (.long vn), .second, .val (.long vp), .second, .val (.ref b3), .val (.long (own_f4 vn vp)), .second, .val (.int (1 : Int32)), .val (.int (1 : Int32))] [(.int (1 : Int32))])) t
    refine XS.goto X12.here hx rfl (pc0 := 114) (pc' := 118) rfl (hb hby at_114) (by decide) (by decide) ?_
    exact kt
  obtain ⟨fs, hr, hrun, hended, hW, hsame⟩ := X12.leave (v := some (.int (1 : Int32))) (fun h => by rw [Bd.returns] at h; cases h)
  refine ⟨_, _, ?_, hrun, hended, _, _, rfl, ?_, ⟨_, rfl⟩, hW, hsame.mono (by decide) (by decide)⟩
  · exact retN X12 hx (t := .boolean) Bd.returns (by simp) (hb hby at_118) hr
  · show Q0 Z q0 q1 p2 h0 n0 _ T12.heap _
    rw [e12]
    exact ⟨rfl, N12⟩
set_option maxRecDepth 65536 in
set_option maxHeartbeats 40000000 in
theorem comes_1 {Post : Tables → Env → Array Value → State → Outcome → State → Prop} (hpost : ∀ tb e args s v u, (limb_1_1.after args s (.returned v) u = true ∧ limb_1_2.after args s (.returned v) u = true ∧ True) → FrameEnd s (.returned v) u (Jvm.fieldLocs frame_1_writes args s ++ Jvm.arrayLocs frame_1_arrays args s ++ Jvm.staticLocs frame_1_statics s) 16 128 → Post tb e args s (.returned v) u) :
    ArmFor flags0 classFile x code maxLocals ret World_1 tables_1 room_1 Calls_1 rest_1 Pre_1 Post := by
  intro l hfl _ _ p e ha hc hk s m args below hf hA hF happ hP
  obtain ⟨hcalls, hrest, hpre⟩ := hP
  obtain ⟨-, -, -, hnamed, -, -, -, hat⟩ := (Spec.applies_iff hf).mp happ
  obtain ⟨hg, hn⟩ := and_e (Cond.before_iff.mp (show (Jvm.Cond.and given_1 narrow_1).before args s = true from hpre))
  obtain ⟨ga1, ga2⟩ := and_e hg
  obtain ⟨ga3, ga4⟩ := and_e ga2
  obtain ⟨ga5, ga6⟩ := and_e ga4
  obtain ⟨w0, w1, w2, rfl⟩ : ∃ w0 w1 w2 : Value, args = #[w0, w1, w2] := by
    have hs : args.size = 3 := by simpa [Cond.value, given_1] using ga1
    obtain ⟨L⟩ := args
    match L, hs with
    | [w0, w1, w2], _ => exact ⟨w0, w1, w2, rfl⟩
  have hw := fun d (hd : d ∈ tables_1) => atoms_spec (ws := Jvm.Cond.code x code maxLocals ret :: tables_1) hat d (List.mem_cons_of_mem _ hd)
  have hfit : Fit s := fun {y c} hc i hi => by
    obtain ⟨ha, rfl⟩ := Array.getElem?_eq_some_iff.mp hc
    have q := List.all_eq_true.mp ((Array.all_eq_true_iff_forall_mem.mp hF) _ (Array.getElem_mem ha)) i (List.mem_range.mpr hi)
    simpa [Array.getElem?_eq_getElem hi] using q
  obtain ⟨i0, ei0⟩ := isL_v ga3
  obtain rfl : w0 = (.long i0) := Option.some.inj ei0
  obtain ⟨i1, ei1⟩ := isL_v ga5
  obtain rfl : w1 = (.long i1) := Option.some.inj ei1
  obtain ⟨i2, ei2⟩ := is_v ga6
  obtain rfl : w2 = (.int i2) := Option.some.inj ei2
  obtain ⟨n, o, h1, h2, h3, _, L, rfl, ⟨rfl, N⟩, hq⟩ := rm0 l s _ hw tables_1 i0 i1 i2  s.heap s.heap.size (Nat.le_refl _)  p e ha hc hk s m _ below hf ((Spec.applies_iff_loose hf).mp happ).1 ⟨rfl, State.Warmed39.refl s, rfl⟩ trivial
  refine ⟨n, _, h1, h2, h3, hpost _ _ _ _ _ _ ⟨Cond.after_iff.mpr rfl, Cond.after_iff.mpr (eq_i res_at (Term.int_eval (1)) rfl), trivial⟩ ⟨hq.1, hq.2.1, (hq.2.2.sift fun y hy => Or.inr (N y hy)).mono (by decide) (by decide)⟩⟩
theorem main_1_1 : Claimed_1_1 := comes_1 fun _ _ _ _ _ _ h hF => ⟨h.1, hF⟩
theorem main_1_2 : Claimed_1_2 := comes_1 fun _ _ _ _ _ _ h hF => ⟨h.2.1, hF⟩
end Jvm.Pilot.@@N@@
namespace Jvm.Pilot.@@N@@
open Jvm Jvm.ClassFile Sem Op Lib Jvm.Free Jvm.Stand Jvm.Pilot.@@N@@.Jvm.D
/-! MADE BY PROGRAM (witnessworld.py) out of the Statement's table words and the real class files: 15 classes; the members and pool entries that the words name. The judged class is class 1, her method 1. -/
namespace start1
open Jvm.ClassFile
def u (s : String) : CpInfo := .utf8 (stringToUtf16 s)
/-- a pool by its gaps: so many unusable entries, then the entry; so many at the end -/
def gap : Nat → List CpInfo → List CpInfo
  | 0, r => r
  | n + 1, r => .unusable :: gap n r
def poolList (es : List (Nat × CpInfo)) (last : Nat) : List CpInfo := es.foldr (fun e r => gap e.1 (e.2 :: r)) (gap last [])
def pool (es : List (Nat × CpInfo)) (last : Nat) : Array CpInfo := ⟨poolList es last⟩
def fileOf (pool : Array CpInfo) (this : Nat) (attrs : Array Attribute := #[]) (ms : Array MethodInfo := #[]) (fl : Nat := 33) (sup : Nat := 0) (ifs : Array Nat := #[]) (fds : Array FieldInfo := #[]) : ClassFile where
  minorVersion := 0
  majorVersion := 65
  constantPool := pool
  accessFlags := fl
  thisClass := this
  superClass := sup
  interfaces := ifs
  fields := fds
  methods := ms
  attributes := attrs
def plain (name : String) (sup : Option ClassId) : Class where
  name := name
  kind := .ordinary
  loader := none
  accessFlags := 33
  super := sup
  interfaces := #[]
  cf := none
  fields := #[]
  methods := #[]
  instanceTypes := #[]
  staticTypes := #[]
  resolved := #[]
  callSites := []
  init := .initialized
  statics := none
  mirror := none

def pool0 : Array CpInfo := pool [(5, u "<init>"), (0, u "()V"), (1, .class_ 10), (1, u "java/lang/Object")] 113

def k0c0 : Code := { maxStack := 0, maxLocals := 1, code := object_method_1_code, exceptionTable := #[], attributes := #[] }
def k0m0 : Method := { name := "<init>", desc := "()V", sig := { parameters := [], returnType := none }, accessFlags := 1, code := some k0c0 }
/-- java/lang/Object -/
def k0 : Class := { plain "java/lang/Object" none with
  accessFlags := 33
  interfaces := #[]
  cf := some (fileOf pool0 8 #[] #[{ accessFlags := 1, nameIndex := 5, descriptorIndex := 6, attributes := #[] }] 33 0 #[] #[])
  fields := #[]
  methods := #[k0m0]
  instanceTypes := #[]
  staticTypes := #[]
  resolved := Array.replicate 124 none
  statics := none }

def pool1 : Array CpInfo := pool [(2, .class_ 4), (1, u "java/lang/Object"), (0, u "<init>"), (0, u "()V"), (2, .long 9223372036854775807), (1, .long 9223372036854775806), (1, .methodref 14 15), (0, .class_ 16), (0, .nameAndType 17 18), (0, u "java/lang/Math"), (0, u "min"), (0, u "(JJ)J"), (0, .class_ 20), (0, u "com/example/even_throttle/eventhrottle/simulation/ExactInstant"), (0, .methodref 19 22), (0, .nameAndType 5 23), (0, u "(JJ)V"), (0, .methodref 19 25), (0, .nameAndType 26 27), (0, u "runsAt"), (0, u "()J"), (0, .methodref 19 29), (0, .nameAndType 30 31), (0, u "compareTo"), (0, u "(Lcom/example/even_throttle/eventhrottle/simulation/ExactInstant;)I"), (0, .class_ 33), (0, u "com/example/even_throttle/eventhrottle/simulation/ExactInstantRunsAtPinLaw"), (2, u "law"), (0, u "(JJI)Z")] 3

def k1m0 : Method := { name := "<init>", desc := "()V", sig := { parameters := [], returnType := none }, accessFlags := 1, code := none }
def k1c1 : Code := { maxStack := 6, maxLocals := 14, code := code, exceptionTable := #[], attributes := #[] }
def k1m1 : Method := { name := "law", desc := "(JJI)Z", sig := { parameters := [.long, .long, .int], returnType := some .boolean }, accessFlags := 9, code := some k1c1 }
/-- com/example/even_throttle/eventhrottle/simulation/ExactInstantRunsAtPinLaw -/
def k1 : Class := { plain "com/example/even_throttle/eventhrottle/simulation/ExactInstantRunsAtPinLaw" (some 0) with
  accessFlags := 49
  interfaces := #[]
  cf := some (fileOf pool1 32 #[] #[{ accessFlags := 1, nameIndex := 5, descriptorIndex := 6, attributes := #[] }, { accessFlags := 9, nameIndex := 36, descriptorIndex := 37, attributes := #[] }] 49 2 #[] #[])
  fields := #[]
  methods := #[k1m0, k1m1]
  instanceTypes := #[]
  staticTypes := #[]
  resolved := Array.replicate 41 none
  statics := none }

def pool2 : Array CpInfo := pool [(1, .class_ 2), (0, u "java/lang/Math"), (1, .class_ 6), (1, u "java/lang/Object"), (0, u "<init>"), (0, u "()V"), (89, .class_ 100), (1, u "java/lang/Math$RandomNumberGeneratorHolder"), (20, u "(JJ)J"), (50, u "negativeZeroFloatBits"), (0, u "J"), (2, u "negativeZeroDoubleBits"), (24, u "min"), (43, u "$assertionsDisabled"), (0, u "Z"), (91, u "twoToTheDoubleScaleDown"), (0, u "D"), (4, u "twoToTheDoubleScaleUp"), (9, u "E"), (3, u "PI"), (2, u "TAU"), (2, u "DEGREES_TO_RADIANS"), (0, u "RADIANS_TO_DEGREES")] 94

def k2m0 : Method := { name := "<init>", desc := "()V", sig := { parameters := [], returnType := none }, accessFlags := 2, code := none }
def k2c1 : Code := { maxStack := 4, maxLocals := 4, code := jdk_29_method_70_code, exceptionTable := #[], attributes := #[] }
def k2m1 : Method := { name := "min", desc := "(JJ)J", sig := { parameters := [.long, .long], returnType := some .long }, accessFlags := 9, code := some k2c1 }
/-- java/lang/Math -/
def k2 : Class := { plain "java/lang/Math" (some 0) with
  accessFlags := 49
  interfaces := #[]
  cf := some (fileOf pool2 1 #[.nestMembers #[98]] #[{ accessFlags := 2, nameIndex := 7, descriptorIndex := 8, attributes := #[] }, { accessFlags := 9, nameIndex := 201, descriptorIndex := 121, attributes := #[] }] 49 4 #[] #[{ accessFlags := 25, nameIndex := 354, descriptorIndex := 339, attributes := #[] }, { accessFlags := 25, nameIndex := 358, descriptorIndex := 339, attributes := #[] }, { accessFlags := 25, nameIndex := 361, descriptorIndex := 339, attributes := #[] }, { accessFlags := 26, nameIndex := 364, descriptorIndex := 339, attributes := #[] }, { accessFlags := 26, nameIndex := 365, descriptorIndex := 339, attributes := #[] }, { accessFlags := 26, nameIndex := 172, descriptorIndex := 173, attributes := #[] }, { accessFlags := 26, nameIndex := 176, descriptorIndex := 173, attributes := #[] }, { accessFlags := 8, nameIndex := 344, descriptorIndex := 339, attributes := #[] }, { accessFlags := 8, nameIndex := 338, descriptorIndex := 339, attributes := #[] }, { accessFlags := 4120, nameIndex := 245, descriptorIndex := 246, attributes := #[] }])
  fields := #[{ name := "E", type := .double, accessFlags := 25, slot := 0, constantValue := 0 }, { name := "PI", type := .double, accessFlags := 25, slot := 1, constantValue := 0 }, { name := "TAU", type := .double, accessFlags := 25, slot := 2, constantValue := 0 }, { name := "DEGREES_TO_RADIANS", type := .double, accessFlags := 26, slot := 3, constantValue := 0 }, { name := "RADIANS_TO_DEGREES", type := .double, accessFlags := 26, slot := 4, constantValue := 0 }, { name := "negativeZeroFloatBits", type := .long, accessFlags := 26, slot := 5, constantValue := 0 }, { name := "negativeZeroDoubleBits", type := .long, accessFlags := 26, slot := 6, constantValue := 0 }, { name := "twoToTheDoubleScaleUp", type := .double, accessFlags := 8, slot := 7, constantValue := 0 }, { name := "twoToTheDoubleScaleDown", type := .double, accessFlags := 8, slot := 8, constantValue := 0 }, { name := "$assertionsDisabled", type := .boolean, accessFlags := 4120, slot := 9, constantValue := 0 }]
  methods := #[k2m0, k2m1]
  instanceTypes := #[]
  staticTypes := #[.double, .double, .double, .double, .double, .long, .long, .double, .double, .boolean]
  resolved := Array.replicate 460 none
  statics := none }

def pool3 : Array CpInfo := pool [(1, .class_ 2), (0, u "java/lang/Comparable"), (0, .class_ 4), (0, u "java/lang/Object")] 7

/-- java/lang/Comparable -/
def k3 : Class := { plain "java/lang/Comparable" (some 0) with
  accessFlags := 1537
  interfaces := #[]
  cf := some (fileOf pool3 1 #[] #[] 1537 3 #[] #[])
  fields := #[]
  methods := #[]
  instanceTypes := #[]
  staticTypes := #[]
  resolved := Array.replicate 12 none
  statics := none }

def pool4 : Array CpInfo := pool [(1, .methodref 2 3), (0, .class_ 4), (0, .nameAndType 5 6), (0, u "java/lang/Object"), (0, u "<init>"), (0, u "()V"), (0, .fieldref 8 9), (0, .class_ 10), (0, .nameAndType 11 12), (0, u "com/example/even_throttle/eventhrottle/simulation/ExactInstant"), (0, u "nanos"), (0, u "J"), (0, .fieldref 8 14), (0, .nameAndType 15 12), (0, u "parts"), (2, u "(JJ)V"), (0, .methodref 20 21), (0, .class_ 22), (0, .nameAndType 23 24), (0, u "java/lang/Long"), (0, u "compare"), (0, u "(JJ)I"), (10, u "compareTo"), (0, u "(Lcom/example/even_throttle/eventhrottle/simulation/ExactInstant;)I"), (2, u "START"), (0, u "Lcom/example/even_throttle/eventhrottle/simulation/ExactInstant;"), (0, .class_ 42), (0, u "java/lang/Comparable"), (4, u "()J"), (1, u "runsAt")] 28

def k4c0 : Code := { maxStack := 3, maxLocals := 5, code := prog_72_method_1_code, exceptionTable := #[], attributes := #[] }
def k4m0 : Method := { name := "<init>", desc := "(JJ)V", sig := { parameters := [.long, .long], returnType := none }, accessFlags := 0, code := some k4c0 }
def k4c1 : Code := { maxStack := 4, maxLocals := 1, code := prog_72_method_6_code, exceptionTable := #[], attributes := #[] }
def k4m1 : Method := { name := "runsAt", desc := "()J", sig := { parameters := [], returnType := some .long }, accessFlags := 0, code := some k4c1 }
def k4c2 : Code := { maxStack := 4, maxLocals := 3, code := prog_72_method_7_code, exceptionTable := #[], attributes := #[] }
def k4m2 : Method := { name := "compareTo", desc := "(Lcom/example/even_throttle/eventhrottle/simulation/ExactInstant;)I", sig := { parameters := [(.object "com/example/even_throttle/eventhrottle/simulation/ExactInstant")], returnType := some .int }, accessFlags := 1, code := some k4c2 }
/-- com/example/even_throttle/eventhrottle/simulation/ExactInstant -/
def k4 : Class := { plain "com/example/even_throttle/eventhrottle/simulation/ExactInstant" (some 0) with
  accessFlags := 32
  interfaces := #[3]
  cf := some (fileOf pool4 8 #[] #[{ accessFlags := 0, nameIndex := 5, descriptorIndex := 18, attributes := #[] }, { accessFlags := 0, nameIndex := 49, descriptorIndex := 47, attributes := #[] }, { accessFlags := 1, nameIndex := 35, descriptorIndex := 36, attributes := #[] }] 32 2 #[41] #[{ accessFlags := 24, nameIndex := 39, descriptorIndex := 40, attributes := #[] }, { accessFlags := 18, nameIndex := 11, descriptorIndex := 12, attributes := #[] }, { accessFlags := 18, nameIndex := 15, descriptorIndex := 12, attributes := #[] }])
  fields := #[{ name := "START", type := (.object "com/example/even_throttle/eventhrottle/simulation/ExactInstant"), accessFlags := 24, slot := 0, constantValue := 0 }, { name := "nanos", type := .long, accessFlags := 18, slot := 0, constantValue := 0 }, { name := "parts", type := .long, accessFlags := 18, slot := 1, constantValue := 0 }]
  methods := #[k4m0, k4m1, k4m2]
  instanceTypes := #[.long, .long]
  staticTypes := #[(.object "com/example/even_throttle/eventhrottle/simulation/ExactInstant")]
  resolved := Array.replicate 78 none
  statics := none }

def pool5 : Array CpInfo := pool [(1, .class_ 2), (0, u "java/io/Serializable"), (0, .class_ 4), (0, u "java/lang/Object")] 2

/-- java/io/Serializable -/
def k5 : Class := { plain "java/io/Serializable" (some 0) with
  accessFlags := 1537
  interfaces := #[]
  cf := some (fileOf pool5 1 #[] #[] 1537 3 #[] #[])
  fields := #[]
  methods := #[]
  instanceTypes := #[]
  staticTypes := #[]
  resolved := Array.replicate 7 none
  statics := none }

def pool6 : Array CpInfo := pool [(2, .class_ 4), (1, u "java/lang/Object"), (0, u "<init>"), (0, u "()V"), (1, .class_ 10), (1, u "java/lang/Number"), (2, .class_ 14), (0, u "java/io/Serializable"), (0, u "serialVersionUID"), (0, u "J")] 20

def k6m0 : Method := { name := "<init>", desc := "()V", sig := { parameters := [], returnType := none }, accessFlags := 1, code := none }
/-- java/lang/Number -/
def k6 : Class := { plain "java/lang/Number" (some 0) with
  accessFlags := 1057
  interfaces := #[5]
  cf := some (fileOf pool6 8 #[] #[{ accessFlags := 1, nameIndex := 5, descriptorIndex := 6, attributes := #[] }] 1057 2 #[13] #[{ accessFlags := 26, nameIndex := 15, descriptorIndex := 16, attributes := #[] }])
  fields := #[{ name := "serialVersionUID", type := .long, accessFlags := 26, slot := 0, constantValue := 0 }]
  methods := #[k6m0]
  instanceTypes := #[]
  staticTypes := #[.long]
  resolved := Array.replicate 37 none
  statics := none }

def pool7 : Array CpInfo := pool [(1, .class_ 2), (0, u "java/lang/constant/Constable"), (0, .class_ 4), (0, u "java/lang/Object")] 6

/-- java/lang/constant/Constable -/
def k7 : Class := { plain "java/lang/constant/Constable" (some 0) with
  accessFlags := 1537
  interfaces := #[]
  cf := some (fileOf pool7 1 #[] #[] 1537 3 #[] #[])
  fields := #[]
  methods := #[]
  instanceTypes := #[]
  staticTypes := #[]
  resolved := Array.replicate 11 none
  statics := none }

def pool8 : Array CpInfo := pool [(1, .class_ 2), (0, u "java/lang/constant/ConstantDesc"), (0, .class_ 4), (0, u "java/lang/Object")] 32

/-- java/lang/constant/ConstantDesc -/
def k8 : Class := { plain "java/lang/constant/ConstantDesc" (some 0) with
  accessFlags := 1537
  interfaces := #[]
  cf := some (fileOf pool8 1 #[] #[] 1537 3 #[] #[])
  fields := #[]
  methods := #[]
  instanceTypes := #[]
  staticTypes := #[]
  resolved := Array.replicate 37 none
  statics := none }

def pool9 : Array CpInfo := pool [(1, .class_ 2), (0, u "java/lang/Long"), (232, .class_ 237), (1, u "java/lang/Long$LongCache"), (33, .class_ 272), (0, u "java/lang/Number"), (2, u "value"), (0, u "J"), (27, u "compare"), (0, u "(JJ)I"), (55, u "TYPE"), (0, u "Ljava/lang/Class;"), (0, .class_ 364), (0, u "java/lang/Comparable"), (0, .class_ 366), (0, u "java/lang/constant/Constable"), (0, .class_ 368), (0, u "java/lang/constant/ConstantDesc"), (0, u "MIN_VALUE"), (1, u "MAX_VALUE"), (4, u "SIZE"), (0, u "I"), (1, u "BYTES"), (1, u "serialVersionUID")] 142

def k9c0 : Code := { maxStack := 4, maxLocals := 4, code := jdk_35_method_42_code, exceptionTable := #[], attributes := #[] }
def k9m0 : Method := { name := "compare", desc := "(JJ)I", sig := { parameters := [.long, .long], returnType := some .int }, accessFlags := 9, code := some k9c0 }
/-- java/lang/Long -/
def k9 : Class := { plain "java/lang/Long" (some 6) with
  accessFlags := 49
  interfaces := #[3, 7, 8]
  cf := some (fileOf pool9 1 #[.nestMembers #[235]] #[{ accessFlags := 9, nameIndex := 304, descriptorIndex := 305, attributes := #[] }] 49 271 #[363, 365, 367] #[{ accessFlags := 25, nameIndex := 369, descriptorIndex := 276, attributes := #[] }, { accessFlags := 25, nameIndex := 371, descriptorIndex := 276, attributes := #[] }, { accessFlags := 25, nameIndex := 361, descriptorIndex := 362, attributes := #[] }, { accessFlags := 18, nameIndex := 275, descriptorIndex := 276, attributes := #[] }, { accessFlags := 25, nameIndex := 376, descriptorIndex := 377, attributes := #[] }, { accessFlags := 25, nameIndex := 379, descriptorIndex := 377, attributes := #[] }, { accessFlags := 26, nameIndex := 381, descriptorIndex := 276, attributes := #[] }])
  fields := #[{ name := "MIN_VALUE", type := .long, accessFlags := 25, slot := 0, constantValue := 0 }, { name := "MAX_VALUE", type := .long, accessFlags := 25, slot := 1, constantValue := 0 }, { name := "TYPE", type := (.object "java/lang/Class"), accessFlags := 25, slot := 2, constantValue := 0 }, { name := "value", type := .long, accessFlags := 18, slot := 0, constantValue := 0 }, { name := "SIZE", type := .int, accessFlags := 25, slot := 3, constantValue := 0 }, { name := "BYTES", type := .int, accessFlags := 25, slot := 4, constantValue := 0 }, { name := "serialVersionUID", type := .long, accessFlags := 26, slot := 5, constantValue := 0 }]
  methods := #[k9m0]
  instanceTypes := #[.long]
  staticTypes := #[.long, .long, (.object "java/lang/Class"), .int, .int, .long]
  resolved := Array.replicate 524 none
  statics := none }

def pool10 : Array CpInfo := pool [(1, u "java/lang/Cloneable"), (0, .class_ 1), (0, u "java/lang/Object"), (0, .class_ 3)] 3

/-- java/lang/Cloneable -/
def k10 : Class := { plain "java/lang/Cloneable" (some 0) with
  accessFlags := 1537
  interfaces := #[]
  cf := some (fileOf pool10 2 #[] #[] 1537 4 #[] #[])
  fields := #[]
  methods := #[]
  instanceTypes := #[]
  staticTypes := #[]
  resolved := Array.replicate 8 none
  statics := none }

/-- the primitive byte -/
def k11 : Class := { plain "byte" none with kind := .primitive 'B', accessFlags := 0x411 }
/-- [B -/
def k12 : Class := { plain "[B" (some 0) with kind := .array 11 .byte, interfaces := #[10, 5], accessFlags := 1041 }

/-- the primitive int -/
def k13 : Class := { plain "int" none with kind := .primitive 'I', accessFlags := 0x411 }
/-- [I -/
def k14 : Class := { plain "[I" (some 0) with kind := .array 13 .int, interfaces := #[10, 5], accessFlags := 1041 }

def heap : Heap := #[]
def classes : Array Class := #[k0, k1, k2, k3, k4, k5, k6, k7, k8, k9, k10, k11, k12, k13, k14]
def interned : List (Array UInt16 × Addr) := []
def slotsUsed : Nat := 0
def theMethod : MethodId := ⟨1, 1⟩
def args0 : Array Value := #[.long 7, .long 9, .int 3]
def aboutOver (below : List Frame) : State where
  vm := { classes := classes, interned := interned.toArray }
  heap := heap
  slotsUsed := slotsUsed
  threads := #[{ frames := .invoking theMethod args0 :: below }]
def below0 : List Frame := [.native { method := ⟨0, 0⟩, args := #[] }]
def about1 : State := aboutOver below0
def p0 : Program := .bare "" "" ""
def e0 : Env := launch0.env 0 0 0
theorem w_frames : about1.frames = Frame.invoking theMethod args0 :: below0 := rfl
set_option maxRecDepth 65536 in
theorem w_args : argsFit about1.vm theMethod args0 = true := by decide +kernel
set_option maxRecDepth 65536 in
theorem w_heap : heapFits about1 = true := by decide +kernel
set_option maxRecDepth 65536 in
theorem w_runnable : about1.curStatus? = some .runnable := by decide +kernel
set_option maxRecDepth 65536 in
theorem w_alone : about1.alone = true := by decide +kernel
set_option maxRecDepth 65536 in
theorem w_named : about1.methodNamed? x = some theMethod := by decide +kernel
set_option maxRecDepth 65536 in
theorem w_hears : about1.hears theMethod below0 = true := by decide +kernel
set_option maxRecDepth 65536 in
theorem w_ripe : about1.ripe theMethod args0 below0 = true := by decide +kernel
theorem w_running : about1.status = .running := rfl
set_option maxRecDepth 65536 in
theorem w_room : about1.hasRoom e0.platform room_1 = true :=
  launch0.hasRoom_least _ room_1 (by decide +kernel) (by decide +kernel) (by decide +kernel) (by decide +kernel) (by decide +kernel) (by decide +kernel)
theorem allAtoms_all (ts : List Jvm.Cond) (a : Array Jvm.Value) (st : Jvm.State) : (allAtoms ts).before a st = ts.all (fun c => c.before a st) := by
  induction ts with
  | nil => rfl
  | cons c t ih =>
    show (Jvm.Cond.and c (allAtoms t)).before a st = _
    rw [Jvm.Cond.before_and, ih, List.all_cons]
def words1 : List Jvm.Cond := Jvm.Cond.code x code maxLocals ret :: tables_1
/-- a 'code' word, met by the world's own term for the bytes: nothing is compared byte by byte -/
theorem code_word {y : MethodName} {bytes : ByteArray} {mx : Nat} {rt : Option FieldType} {a : Array Value} {s : State} {m : MethodId} {meth : Method} {c : Code} (h1 : s.methodNamed? y = some m) (h2 : s.vm.method? m = some meth) (h3 : meth.code = some c) (h4 : c.code = bytes)
    (h5 : (c.maxLocals == mx && c.exceptionTable.isEmpty && decide (c.maxStack ≤ mostOperands) && decide (meth.sig.returnType = rt) && !meth.locks && decide (parseMethodDescriptor y.desc = some meth.sig)) = true) : (Jvm.Cond.code y bytes mx rt).before a s = true := by
  simp only [Bool.and_eq_true, beq_iff_eq, Bool.not_eq_true', decide_eq_true_eq] at h5
  obtain ⟨⟨⟨⟨⟨g1, g2⟩, g3⟩, g4⟩, g5⟩, g6⟩ := h5
  simp [Cond.before, Cond.holds, Cond.value, h1, h2, h3, h4, g1, g2, g3, g4, g5, g6]
def isCode : Jvm.Cond → Bool
  | .code _ _ _ _ => true
  | _ => false
theorem all_split {L : List Jvm.Cond} {P : Jvm.Cond → Bool} (h1 : L.all (fun c => isCode c || P c) = true) (h2 : ∀ c ∈ L.filter isCode, P c = true) : L.all P = true := by
  refine List.all_eq_true.mpr fun c hc => ?_
  have h := List.all_eq_true.mp h1 c hc
  rcases Bool.eq_false_or_eq_true (isCode c) with hi | hi
  · exact h2 c (List.mem_filter.mpr ⟨hc, hi⟩)
  · simpa [hi] using h
set_option maxRecDepth 65536 in
theorem w_c0 : (Jvm.Cond.code x code maxLocals ret).before args0 about1 = true := code_word (m := ⟨1, 1⟩) (meth := k1m1) (c := k1c1) (by decide +kernel) rfl rfl rfl (by decide +kernel)
set_option maxRecDepth 65536 in
theorem w_c1 : (Jvm.Cond.code ({ cls := "java/lang/Math", name := "min", desc := "(JJ)J" } : Jvm.MethodName) jdk_29_method_70_code (4 : Nat) (Option.some Jvm.ClassFile.FieldType.long)).before args0 about1 = true := code_word (m := ⟨2, 1⟩) (meth := k2m1) (c := k2c1) (by decide +kernel) rfl rfl rfl (by decide +kernel)
set_option maxRecDepth 65536 in
theorem w_c2 : (Jvm.Cond.code ({ cls := "com/example/even_throttle/eventhrottle/simulation/ExactInstant", name := "<init>", desc := "(JJ)V" } : Jvm.MethodName) prog_72_method_1_code (5 : Nat) (Option.none : Option Jvm.ClassFile.FieldType)).before args0 about1 = true := code_word (m := ⟨4, 0⟩) (meth := k4m0) (c := k4c0) (by decide +kernel) rfl rfl rfl (by decide +kernel)
set_option maxRecDepth 65536 in
theorem w_c3 : (Jvm.Cond.code ({ cls := "java/lang/Object", name := "<init>", desc := "()V" } : Jvm.MethodName) object_method_1_code (1 : Nat) (Option.none : Option Jvm.ClassFile.FieldType)).before args0 about1 = true := code_word (m := ⟨0, 0⟩) (meth := k0m0) (c := k0c0) (by decide +kernel) rfl rfl rfl (by decide +kernel)
set_option maxRecDepth 65536 in
theorem w_c4 : (Jvm.Cond.code ({ cls := "com/example/even_throttle/eventhrottle/simulation/ExactInstant", name := "runsAt", desc := "()J" } : Jvm.MethodName) prog_72_method_6_code (1 : Nat) (Option.some Jvm.ClassFile.FieldType.long)).before args0 about1 = true := code_word (m := ⟨4, 1⟩) (meth := k4m1) (c := k4c1) (by decide +kernel) rfl rfl rfl (by decide +kernel)
set_option maxRecDepth 65536 in
theorem w_c5 : (Jvm.Cond.code ({ cls := "com/example/even_throttle/eventhrottle/simulation/ExactInstant", name := "compareTo", desc := "(Lcom/example/even_throttle/eventhrottle/simulation/ExactInstant;)I" } : Jvm.MethodName) prog_72_method_7_code (3 : Nat) (Option.some Jvm.ClassFile.FieldType.int)).before args0 about1 = true := code_word (m := ⟨4, 2⟩) (meth := k4m2) (c := k4c2) (by decide +kernel) rfl rfl rfl (by decide +kernel)
set_option maxRecDepth 65536 in
theorem w_c6 : (Jvm.Cond.code ({ cls := "java/lang/Long", name := "compare", desc := "(JJ)I" } : Jvm.MethodName) jdk_35_method_42_code (4 : Nat) (Option.some Jvm.ClassFile.FieldType.int)).before args0 about1 = true := code_word (m := ⟨9, 0⟩) (meth := k9m0) (c := k9c0) (by decide +kernel) rfl rfl rfl (by decide +kernel)
def codes1 : List Jvm.Cond := [Jvm.Cond.code x code maxLocals ret, Jvm.Cond.code ({ cls := "java/lang/Math", name := "min", desc := "(JJ)J" } : Jvm.MethodName) jdk_29_method_70_code (4 : Nat) (Option.some Jvm.ClassFile.FieldType.long), Jvm.Cond.code ({ cls := "com/example/even_throttle/eventhrottle/simulation/ExactInstant", name := "<init>", desc := "(JJ)V" } : Jvm.MethodName) prog_72_method_1_code (5 : Nat) (Option.none : Option Jvm.ClassFile.FieldType), Jvm.Cond.code ({ cls := "java/lang/Object", name := "<init>", desc := "()V" } : Jvm.MethodName) object_method_1_code (1 : Nat) (Option.none : Option Jvm.ClassFile.FieldType), Jvm.Cond.code ({ cls := "com/example/even_throttle/eventhrottle/simulation/ExactInstant", name := "runsAt", desc := "()J" } : Jvm.MethodName) prog_72_method_6_code (1 : Nat) (Option.some Jvm.ClassFile.FieldType.long), Jvm.Cond.code ({ cls := "com/example/even_throttle/eventhrottle/simulation/ExactInstant", name := "compareTo", desc := "(Lcom/example/even_throttle/eventhrottle/simulation/ExactInstant;)I" } : Jvm.MethodName) prog_72_method_7_code (3 : Nat) (Option.some Jvm.ClassFile.FieldType.int), Jvm.Cond.code ({ cls := "java/lang/Long", name := "compare", desc := "(JJ)I" } : Jvm.MethodName) jdk_35_method_42_code (4 : Nat) (Option.some Jvm.ClassFile.FieldType.int)]
set_option maxRecDepth 65536 in
theorem codes_eq : words1.filter isCode = codes1 := rfl
theorem w_codes : ∀ c ∈ words1.filter isCode, c.before args0 about1 = true := by
  rw [codes_eq]
  intro c hc
  simp only [codes1, List.mem_cons, List.not_mem_nil, or_false] at hc
  rcases hc with rfl | rfl | rfl | rfl | rfl | rfl | rfl
  · exact w_c0
  · exact w_c1
  · exact w_c2
  · exact w_c3
  · exact w_c4
  · exact w_c5
  · exact w_c6
set_option maxRecDepth 65536 in
theorem w_t1 : (words1.take 24).all (fun c => isCode c || c.before args0 about1) = true := by decide +kernel
set_option maxRecDepth 65536 in
theorem w_t2 : (words1.drop 24).all (fun c => isCode c || c.before args0 about1) = true := by decide +kernel
theorem w_tables : (allAtoms (Jvm.Cond.code x code maxLocals ret :: tables_1)).before args0 about1 = true := by
  rw [allAtoms_all]
  show words1.all (fun c => c.before args0 about1) = true
  refine all_split ?_ w_codes
  rw [← List.take_append_drop 24 words1, List.all_append, w_t1, w_t2]
  rfl
set_option maxRecDepth 65536 in
theorem w_case : (Jvm.Cond.and given_1 narrow_1).before args0 about1 = true := by decide +kernel
theorem w_applies : (headSpec (Jvm.Cond.code x code maxLocals ret :: tables_1) room_1).applies x e0.platform about1 = true :=
  (Spec.applies_iff w_frames).mpr ⟨w_running, w_runnable, w_alone, w_named, w_hears, w_ripe, w_room, w_tables⟩
theorem atStart : AtStart classFile x code maxLocals ret World_1 tables_1 room_1 Calls_1 rest_1 Pre_1 launch0 p0 e0 about1 theMethod args0 below0 :=
  ⟨lists_1, trivial, launch0.admits_env _ _ _, launch0.least_env, fairChoices_fair.cas, fairChoices_fair.clock, w_frames, w_args, w_heap, w_applies, trivial, trivial, w_case⟩
end start1
theorem witness_1 : WitnessClaimed_1 := ⟨start1.p0, start1.e0, start1.about1, start1.theMethod, start1.args0, start1.below0, start1.atStart⟩
end Jvm.Pilot.@@N@@
