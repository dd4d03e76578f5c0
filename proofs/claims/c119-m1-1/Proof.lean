import JvmDerived
import JvmDerived.Pilot.@@N@@Statement
import JvmDerived.Pilot.@@N@@Code
set_option linter.unusedVariables false
set_option linter.unusedSimpArgs false
namespace Jvm.RoadKit
open Sem ClassFile Op Lib Jvm.Stand Jvm.Free Jvm.LawKit
section New
variable {p : Program} {l : Launch} {e : Env} {R : Room} {s : State} {m : MethodId} {args : Array Value} {below : List Frame} {meth : Method} {c : Code} {T : State} {locs : List Loc} {cells slots : Nat}
theorem retI (X : Stand p l e R s m args below meth c T locs cells slots) (hx : p.tables.exec = Jvm.exec) {pc : Nat} {Ls : Array Slot} {z : Int32} {rest : List Value} (hret : meth.sig.returnType = some .int) (hd : decode c.code pc = .ok (.ireturn, 1)) {fs : List Frame}
    (hl : ∀ (f : JFrame) (acts : List Action), f.method = m → f.locked = none → f.entered = [] → (doReturn e (T.setTop f) acts (some (.int z))).1 = T.setFrames fs) : Steps p.tables e below (T.setTop (mkF m pc Ls (.int z :: rest))) (T.setFrames fs) :=
  retOut X hx hret rfl (Or.inl ⟨rfl, Or.inl rfl, _, rfl⟩) hd hl
theorem own_retL (X : Stand p l e R s m args below meth c T locs cells slots) (hx : p.tables.exec = Jvm.exec) {pc : Nat} {Ls : Array Slot} {z : Int64} {rest : List Value} (hret : meth.sig.returnType = some .long) (hd : decode c.code pc = .ok (.lreturn, 1)) {fs : List Frame}
    (hl : ∀ (f : JFrame) (acts : List Action), f.method = m → f.locked = none → f.entered = [] → (doReturn e (T.setTop f) acts (some (.long z))).1 = T.setFrames fs) : Steps p.tables e below (T.setTop (mkF m pc Ls (.long z :: rest))) (T.setFrames fs) :=
  retOut X hx hret rfl (Or.inr (Or.inl ⟨rfl, rfl, _, rfl⟩)) hd hl
theorem own_retA (X : Stand p l e R s m args below meth c T locs cells slots) (hx : p.tables.exec = Jvm.exec) {pc : Nat} {Ls : Array Slot} {z : Addr} {rest : List Value} {t : FieldType} (hret : meth.sig.returnType = some t) (ht : t.isReference = true) (hd : decode c.code pc = .ok (.areturn, 1)) {fs : List Frame}
    (hl : ∀ (f : JFrame) (acts : List Action), f.method = m → f.locked = none → f.entered = [] → (doReturn e (T.setTop f) acts (some (.ref z))).1 = T.setFrames fs) : Steps p.tables e below (T.setTop (mkF m pc Ls (.ref z :: rest))) (T.setFrames fs) :=
  retOut X hx hret (by cases t <;> first | rfl | (cases ht; done)) (Or.inr (Or.inr (Or.inr (Or.inr ⟨rfl, ht, rfl⟩)))) hd hl
theorem own_lrem {g : JFrame} {target : State} (X : Stand p l e R s m args below meth c T locs cells slots) (hx : p.tables.exec = Jvm.exec) (hg : g.method = m) {x y : Int64} {rest : List Value} (hd : decode c.code g.pc = .ok (.lrem, 1)) (hs : g.stack = .long y :: .long x :: rest) (hy : y ≠ 0)
    (hr : Steps p.tables e below (T.setTop { g with pc := g.pc + 1, stack := .long (x % y) :: rest }) target) : Steps p.tables e below (T.setTop g) target :=
  XS.lrem X.here hx hg hd hs hy (by rw [lrem_mod]; exact hr)
theorem own_more (X : Stand p l e R s m args below meth c T locs cells slots) {cells' slots' : Nat} (h1 : cells ≤ cells') (h2 : slots ≤ slots') : Stand p l e R s m args below meth c T locs cells' slots' := { X with same := X.same.mono h1 h2 }
end New
/-- one step of a walk whose end is still to be found -/
theorem own_by {tb : Tables} {e : Env} {below : List Frame} {A A' : State} {P : State → Outcome → Prop} (k : ∀ t, Steps tb e below A' t → Steps tb e below A t) (h : ∃ s₂ o, Steps tb e below A' s₂ ∧ P s₂ o) : ∃ s₂ o, Steps tb e below A s₂ ∧ P s₂ o := by
  obtain ⟨s₂, o, h1, h2⟩ := h; exact ⟨s₂, o, k _ h1, h2⟩
theorem own_stp {tb : Tables} {e : Env} {below : List Frame} {A A' t : State} (k : ∀ t, Steps tb e below A' t → Steps tb e below A t) (h : Steps tb e below A' t) : Steps tb e below A t := k _ h
/-- all roads that meet again -/
theorem own_cut {tb : Tables} {e : Env} {below : List Frame} {A : State} {P : State → Outcome → Prop} {Φ : State → Prop} (h1 : (∀ A', Φ A' → ∃ s₂ o, Steps tb e below A' s₂ ∧ P s₂ o) → ∃ s₂ o, Steps tb e below A s₂ ∧ P s₂ o) (h2 : ∀ A', Φ A' → ∃ s₂ o, Steps tb e below A' s₂ ∧ P s₂ o) : ∃ s₂ o, Steps tb e below A s₂ ∧ P s₂ o := h1 h2
/-- an array: its kind, its length, and what each place holds -/
def AF (Z : State) (h : Heap) (a : Addr) (ty : FieldType) (n : Int32) (f : Nat → Value) : Prop := ∃ c : Cell, Arr Z h a c ty ∧ c.slots.size = n.toNatClampNeg ∧ ¬ n < 0 ∧ ∀ i, i < c.slots.size → c.slots[i]? = some (f i)
section AFs
variable {Z : State} {h h' : Heap} {a b : Addr} {ty : FieldType} {n : Int32} {f f' : Nat → Value} {v : Value} {sl : Nat} {ws : List Addr}
theorem AF.lt (F : AF Z h a ty n f) : a < h.size := by obtain ⟨c, A, -⟩ := F; exact A.lt
theorem AF.ext (F : AF Z h a ty n f) (E : Ext h h') : AF Z h' a ty n f := by obtain ⟨c, A, r⟩ := F; exact ⟨c, A.ext E, r⟩
theorem AF.other (F : AF Z h b ty n f) (W : Wr h h' a sl v) (q : b ≠ a) : AF Z h' b ty n f := by obtain ⟨c, A, r⟩ := F; exact ⟨c, A.other W q, r⟩
theorem AF.keep (F : AF Z h a ty n f) (K : Keep h h' ws) (q : a ∉ ws) : AF Z h' a ty n f := by obtain ⟨c, A, r⟩ := F; exact ⟨c, ⟨K.2.1 a c A.1 q, A.2⟩, r⟩
theorem AF.to (F : AF Z h a ty n f) (q : ∀ i, i < n.toNatClampNeg → f i = f' i) : AF Z h a ty n f' := by
  obtain ⟨c, A, S, M, H⟩ := F; exact ⟨c, A, S, M, fun i hi => by rw [← q i (S ▸ hi)]; exact H i hi⟩
theorem AF.new {k : ClassId} (A : Arr Z h a (newA k ty n) ty) (q : ¬ n < 0) : AF Z h a ty n (fun _ => defaultValue ty) := ⟨_, A, sz_new _ _ _, q, fun i hi => by rw [sz_new] at hi; simp [newA, hi]⟩
theorem AF.set {c : Cell} {j : Int32} (A : Arr Z h a c ty) (S : c.slots.size = n.toNatClampNeg) (M : ¬ n < 0) (H : ∀ i, i < c.slots.size → c.slots[i]? = some (f i)) (hj : ¬ (j < 0 ∨ c.slots.size ≤ j.toNatClampNeg)) (W : Wr h h' a j.toNatClampNeg v) :
    AF Z h' a ty n (fun i => if i = j.toNatClampNeg then v else f i) := by
  refine ⟨_, A.same W, by rw [sz_set]; exact S, M, fun i hi => ?_⟩
  rw [sz_set] at hi
  have hj' : j.toNatClampNeg < c.slots.size := Nat.lt_of_not_le fun q => hj (Or.inr q)
  by_cases u : i = j.toNatClampNeg
  · subst u; simp [Cell.setSlot, hj']
  · have := H i hi; simp only [Cell.setSlot, if_neg u]
    rw [Array.getElem?_setIfInBounds_ne (Ne.symm u)]; exact this
end AFs
end Jvm.RoadKit
namespace Jvm.Pilot.@@N@@
open Jvm Jvm.ClassFile Sem Op Lib Jvm.Free Jvm.Stand Jvm.LawKit Jvm.RoadKit Bundle Jvm.Pilot.@@N@@.Jvm.D
def own_f9 (p0 : Int32) (p1 : Int32) : Int32 := (if p1 < p0 then p1 else p0)
theorem d9_0 : decode jdk_29_method_69_code 0 = .ok (.iload_n 0, 1) := by decide +kernel
theorem d9_1 : decode jdk_29_method_69_code 1 = .ok (.iload_n 1, 1) := by decide +kernel
theorem d9_2 : decode jdk_29_method_69_code 2 = .ok (.if_icmp .gt 7, 3) := by decide +kernel
theorem d9_5 : decode jdk_29_method_69_code 5 = .ok (.iload_n 0, 1) := by decide +kernel
theorem d9_6 : decode jdk_29_method_69_code 6 = .ok (.goto 4, 3) := by decide +kernel
theorem d9_9 : decode jdk_29_method_69_code 9 = .ok (.iload_n 1, 1) := by decide +kernel
theorem d9_10 : decode jdk_29_method_69_code 10 = .ok (.ireturn, 1) := by decide +kernel
theorem ef_rm9 (m : MethodId) (p0 : Int32) (p1 : Int32) : entryFrame m #[(.int p0), (.int p1)] 2 = mkF m 0 #[.val (.int p0), .val (.int p1)] [] := by first | (simp [entryFrame, mkF, argsToLocals, Value.category]; done) | rfl
def Q9 (Z : State) (p0 : Int32) (p1 : Int32) (h0 : Heap) (n0 : Nat) (v : Option Value) (h : Heap) (L : List Loc) : Prop := v = some (.int (own_f9 p0 p1)) ∧ Fr n0 L ∧ h = h0
set_option maxRecDepth 65536 in
set_option maxHeartbeats 40000000 in
theorem rm9 (l : Launch) (Z : State) (aw : Array Value) (hw : ∀ d ∈ tables_1, d.before aw Z = true) (ws : List Jvm.Cond) (p0 : Int32) (p1 : Int32) (h0 : Heap) (n0 : Nat) (Z0 : n0 ≤ h0.size) :
    MetFree l (⟨"java/lang/Math", "min", "(II)I"⟩ : MethodName) (head1 (Jvm.Cond.code (⟨"java/lang/Math", "min", "(II)I"⟩ : MethodName) jdk_29_method_69_code 2 (some .int) :: ws) ({ frames := 0, cells := 0, slots := 0, locals := 0 } : Room)) (fun a U => a = #[(.int p0), (.int p1)] ∧ Z.Warmed39 U.vm ∧ U.heap = h0) (fun _ _ _ _ _ => True) (fun _ U o U' => ∃ v L, o = .returned v ∧ Q9 Z p0 p1 h0 n0 v U'.heap L ∧ FrameEnd U o U' L ({ frames := 0, cells := 0, slots := 0, locals := 0 } : Room).cells ({ frames := 0, cells := 0, slots := 0, locals := 0 } : Room).slots) := by
  refine MetFree.of_bodySF (Jvm.Free.JP.mathPlain rfl (by decide +kernel)) hisR ?_
  intro p e s m args below meth c s₁ Bd hml0 hP hK
  obtain ⟨rfl, hZ, hh⟩ := hP
  have hx := Bd.exec
  have hby := Bd.bytes
  have hml : c.maxLocals = 2 := hml0
  have hown : s.vm.findClass "java/lang/Math" = some m.cls := findClass_of_methodNamed Bd.named
  have hnm := (name_of_methodNamed Bd.named Bd.method).1
  have X0 : Stand p l e ({ frames := 0, cells := 0, slots := 0, locals := 0 } : Room) s m #[(.int p0), (.int p1)] below meth c s₁ [] 0 0 := Stand.of_body Bd
  have e0 : s₁.heap = h0 := by rw [← hh, Bd.state]; rfl
  have N0 := Fr.nil n0
  have K0 : Keep h0 h0 [] := Keep.refl _ _
  refine own_by (A' := s₁.setTop (mkF m 0 #[.val (.int p0), .val (.int p1)] [])) (fun t k => castTop (ef_rm9 m p0 p1) k) ?_
  refine own_by (A' := s₁.setTop (mkF m 2 #[.val (.int p0), .val (.int p1)] [(.int p1), (.int p0)])) (fun t kt => ?_) ?_
  · show Steps p.tables e below (s₁.setTop (mkF m 0 #[.val (.int p0), .val (.int p1)] [])) t
    refine XS.iloadN X0.here hx rfl (hb hby d9_0) rfl ?_
    show Steps p.tables e below (s₁.setTop (mkF m 1 #[.val (.int p0), .val (.int p1)] [(.int p0)])) t
    refine XS.iloadN X0.here hx rfl (hb hby d9_1) rfl ?_
    exact kt
  by_cases hc2_1 : p1 < p0
  · refine own_by (A' := s₁.setTop (mkF m 10 #[.val (.int p0), .val (.int p1)] [(.int p1)])) (fun t kt => ?_) ?_
    · show Steps p.tables e below (s₁.setTop (mkF m 2 #[.val (.int p0), .val (.int p1)] [(.int p1), (.int p0)])) t
      refine XS.icmpYes X0.here hx rfl (pc0 := 2) (pc' := 9) rfl (hb hby d9_2) rfl (tlt hc2_1).2.2.1 (by decide) (by decide) ?_
      show Steps p.tables e below (s₁.setTop (mkF m 9 #[.val (.int p0), .val (.int p1)] [])) t
      refine XS.iloadN X0.here hx rfl (hb hby d9_9) rfl ?_
      exact kt
    obtain ⟨fs, hr, hrun, hended, hW, hsame⟩ := X0.leave (v := some (.int p1)) (fun h => by rw [Bd.returns] at h; cases h)
    refine ⟨_, _, ?_, hrun, hended, _, _, rfl, ?_, ⟨_, rfl⟩, hW, hsame.mono (by decide) (by decide)⟩
    · exact retI X0 hx Bd.returns (hb hby d9_10) hr
    · show Q9 Z p0 p1 h0 n0 _ s₁.heap _
      rw [e0]
      exact ⟨(by rw [own_f9, if_pos hc2_1]), N0, rfl⟩
  · refine own_by (A' := s₁.setTop (mkF m 10 #[.val (.int p0), .val (.int p1)] [(.int p0)])) (fun t kt => ?_) ?_
    · show Steps p.tables e below (s₁.setTop (mkF m 2 #[.val (.int p0), .val (.int p1)] [(.int p1), (.int p0)])) t
      refine XS.icmpNo X0.here hx rfl (hb hby d9_2) rfl (flt hc2_1).2.2.1 ?_
      show Steps p.tables e below (s₁.setTop (mkF m 5 #[.val (.int p0), .val (.int p1)] [])) t
      refine XS.iloadN X0.here hx rfl (hb hby d9_5) rfl ?_
      show Steps p.tables e below (s₁.setTop (mkF m 6 #[.val (.int p0), .val (.int p1)] [(.int p0)])) t
      refine XS.goto X0.here hx rfl (pc0 := 6) (pc' := 10) rfl (hb hby d9_6) (by decide) (by decide) ?_
      exact kt
    obtain ⟨fs, hr, hrun, hended, hW, hsame⟩ := X0.leave (v := some (.int p0)) (fun h => by rw [Bd.returns] at h; cases h)
    refine ⟨_, _, ?_, hrun, hended, _, _, rfl, ?_, ⟨_, rfl⟩, hW, hsame.mono (by decide) (by decide)⟩
    · exact retI X0 hx Bd.returns (hb hby d9_10) hr
    · show Q9 Z p0 p1 h0 n0 _ s₁.heap _
      rw [e0]
      exact ⟨(by rw [own_f9, if_neg hc2_1]), N0, rfl⟩
def own_f6 (q0 : Int64) (q1 : Int64) : Int64 := (if q1 < q0 then q1 else q0)
theorem d6_0 : decode jdk_29_method_70_code 0 = .ok (.lload_n 0, 1) := by decide +kernel
theorem d6_1 : decode jdk_29_method_70_code 1 = .ok (.lload_n 2, 1) := by decide +kernel
theorem d6_2 : decode jdk_29_method_70_code 2 = .ok (.lcmp, 1) := by decide +kernel
theorem d6_3 : decode jdk_29_method_70_code 3 = .ok (.ifCond .gt 7, 3) := by decide +kernel
theorem d6_6 : decode jdk_29_method_70_code 6 = .ok (.lload_n 0, 1) := by decide +kernel
theorem d6_7 : decode jdk_29_method_70_code 7 = .ok (.goto 4, 3) := by decide +kernel
theorem d6_10 : decode jdk_29_method_70_code 10 = .ok (.lload_n 2, 1) := by decide +kernel
theorem d6_11 : decode jdk_29_method_70_code 11 = .ok (.lreturn, 1) := by decide +kernel
theorem ef_rm6 (m : MethodId) (q0 : Int64) (q1 : Int64) : entryFrame m #[(.long q0), (.long q1)] 4 = mkF m 0 #[.val (.long q0), .second, .val (.long q1), .second] [] := by first | (simp [entryFrame, mkF, argsToLocals, Value.category]; done) | rfl
def Q6 (Z : State) (q0 : Int64) (q1 : Int64) (h0 : Heap) (n0 : Nat) (v : Option Value) (h : Heap) (L : List Loc) : Prop := v = some (.long (own_f6 q0 q1)) ∧ Fr n0 L ∧ h = h0
set_option maxRecDepth 65536 in
set_option maxHeartbeats 40000000 in
theorem rm6 (l : Launch) (Z : State) (aw : Array Value) (hw : ∀ d ∈ tables_1, d.before aw Z = true) (ws : List Jvm.Cond) (q0 : Int64) (q1 : Int64) (h0 : Heap) (n0 : Nat) (Z0 : n0 ≤ h0.size) :
    MetFree l (⟨"java/lang/Math", "min", "(JJ)J"⟩ : MethodName) (head1 (Jvm.Cond.code (⟨"java/lang/Math", "min", "(JJ)J"⟩ : MethodName) jdk_29_method_70_code 4 (some .long) :: ws) ({ frames := 0, cells := 0, slots := 0, locals := 0 } : Room)) (fun a U => a = #[(.long q0), (.long q1)] ∧ Z.Warmed39 U.vm ∧ U.heap = h0) (fun _ _ _ _ _ => True) (fun _ U o U' => ∃ v L, o = .returned v ∧ Q6 Z q0 q1 h0 n0 v U'.heap L ∧ FrameEnd U o U' L ({ frames := 0, cells := 0, slots := 0, locals := 0 } : Room).cells ({ frames := 0, cells := 0, slots := 0, locals := 0 } : Room).slots) := by
  refine MetFree.of_bodySF (Jvm.Free.JP.mathPlain rfl (by decide +kernel)) hisR ?_
  intro p e s m args below meth c s₁ Bd hml0 hP hK
  obtain ⟨rfl, hZ, hh⟩ := hP
  have hx := Bd.exec
  have hby := Bd.bytes
  have hml : c.maxLocals = 4 := hml0
  have hown : s.vm.findClass "java/lang/Math" = some m.cls := findClass_of_methodNamed Bd.named
  have hnm := (name_of_methodNamed Bd.named Bd.method).1
  have X0 : Stand p l e ({ frames := 0, cells := 0, slots := 0, locals := 0 } : Room) s m #[(.long q0), (.long q1)] below meth c s₁ [] 0 0 := Stand.of_body Bd
  have e0 : s₁.heap = h0 := by rw [← hh, Bd.state]; rfl
  have N0 := Fr.nil n0
  have K0 : Keep h0 h0 [] := Keep.refl _ _
  refine own_by (A' := s₁.setTop (mkF m 0 #[.val (.long q0), .second, .val (.long q1), .second] [])) (fun t k => castTop (ef_rm6 m q0 q1) k) ?_
  refine own_by (A' := s₁.setTop (mkF m 3 #[.val (.long q0), .second, .val (.long q1), .second] [(.int (lcmpW q0 q1))])) (fun t kt => ?_) ?_
  · show Steps p.tables e below (s₁.setTop (mkF m 0 #[.val (.long q0), .second, .val (.long q1), .second] [])) t
    refine XS.lloadN X0.here hx rfl (hb hby d6_0) rfl ?_
    show Steps p.tables e below (s₁.setTop (mkF m 1 #[.val (.long q0), .second, .val (.long q1), .second] [(.long q0)])) t
    refine XS.lloadN X0.here hx rfl (hb hby d6_1) rfl ?_
    show Steps p.tables e below (s₁.setTop (mkF m 2 #[.val (.long q0), .second, .val (.long q1), .second] [(.long q1), (.long q0)])) t
    refine XS.lcmp X0.here hx rfl (hb hby d6_2) rfl ?_
    exact kt
  by_cases hc3_1 : q1 < q0
  · refine own_by (A' := s₁.setTop (mkF m 11 #[.val (.long q0), .second, .val (.long q1), .second] [(.long q1)])) (fun t kt => ?_) ?_
    · show Steps p.tables e below (s₁.setTop (mkF m 3 #[.val (.long q0), .second, .val (.long q1), .second] [(.int (lcmpW q0 q1))])) t
      refine XS.ifYes X0.here hx rfl (pc0 := 3) (pc' := 10) rfl (hb hby d6_3) rfl ((if0 _ _).trans (tlt ((lw_gt _ _).mpr hc3_1)).2.2.1) (by decide) (by decide) ?_
      show Steps p.tables e below (s₁.setTop (mkF m 10 #[.val (.long q0), .second, .val (.long q1), .second] [])) t
      refine XS.lloadN X0.here hx rfl (hb hby d6_10) rfl ?_
      exact kt
    obtain ⟨fs, hr, hrun, hended, hW, hsame⟩ := X0.leave (v := some (.long q1)) (fun h => by rw [Bd.returns] at h; cases h)
    refine ⟨_, _, ?_, hrun, hended, _, _, rfl, ?_, ⟨_, rfl⟩, hW, hsame.mono (by decide) (by decide)⟩
    · exact own_retL X0 hx Bd.returns (hb hby d6_11) hr
    · show Q6 Z q0 q1 h0 n0 _ s₁.heap _
      rw [e0]
      exact ⟨(by rw [own_f6, if_pos hc3_1]), N0, rfl⟩
  · refine own_by (A' := s₁.setTop (mkF m 11 #[.val (.long q0), .second, .val (.long q1), .second] [(.long q0)])) (fun t kt => ?_) ?_
    · show Steps p.tables e below (s₁.setTop (mkF m 3 #[.val (.long q0), .second, .val (.long q1), .second] [(.int (lcmpW q0 q1))])) t
      refine XS.ifNo X0.here hx rfl (hb hby d6_3) rfl ((if0 _ _).trans (flt (fun q => hc3_1 ((lw_gt _ _).mp q))).2.2.1) ?_
      show Steps p.tables e below (s₁.setTop (mkF m 6 #[.val (.long q0), .second, .val (.long q1), .second] [])) t
      refine XS.lloadN X0.here hx rfl (hb hby d6_6) rfl ?_
      show Steps p.tables e below (s₁.setTop (mkF m 7 #[.val (.long q0), .second, .val (.long q1), .second] [(.long q0)])) t
      refine XS.goto X0.here hx rfl (pc0 := 7) (pc' := 11) rfl (hb hby d6_7) (by decide) (by decide) ?_
      exact kt
    obtain ⟨fs, hr, hrun, hended, hW, hsame⟩ := X0.leave (v := some (.long q0)) (fun h => by rw [Bd.returns] at h; cases h)
    refine ⟨_, _, ?_, hrun, hended, _, _, rfl, ?_, ⟨_, rfl⟩, hW, hsame.mono (by decide) (by decide)⟩
    · exact own_retL X0 hx Bd.returns (hb hby d6_11) hr
    · show Q6 Z q0 q1 h0 n0 _ s₁.heap _
      rw [e0]
      exact ⟨(by rw [own_f6, if_neg hc3_1]), N0, rfl⟩
def own_f7 (q0 : Int64) (q1 : Int64) : Int64 := (if q0 < q1 then q1 else q0)
theorem d7_0 : decode jdk_29_method_66_code 0 = .ok (.lload_n 0, 1) := by decide +kernel
theorem d7_1 : decode jdk_29_method_66_code 1 = .ok (.lload_n 2, 1) := by decide +kernel
theorem d7_2 : decode jdk_29_method_66_code 2 = .ok (.lcmp, 1) := by decide +kernel
theorem d7_3 : decode jdk_29_method_66_code 3 = .ok (.ifCond .lt 7, 3) := by decide +kernel
theorem d7_6 : decode jdk_29_method_66_code 6 = .ok (.lload_n 0, 1) := by decide +kernel
theorem d7_7 : decode jdk_29_method_66_code 7 = .ok (.goto 4, 3) := by decide +kernel
theorem d7_10 : decode jdk_29_method_66_code 10 = .ok (.lload_n 2, 1) := by decide +kernel
theorem d7_11 : decode jdk_29_method_66_code 11 = .ok (.lreturn, 1) := by decide +kernel
theorem ef_rm7 (m : MethodId) (q0 : Int64) (q1 : Int64) : entryFrame m #[(.long q0), (.long q1)] 4 = mkF m 0 #[.val (.long q0), .second, .val (.long q1), .second] [] := by first | (simp [entryFrame, mkF, argsToLocals, Value.category]; done) | rfl
def Q7 (Z : State) (q0 : Int64) (q1 : Int64) (h0 : Heap) (n0 : Nat) (v : Option Value) (h : Heap) (L : List Loc) : Prop := v = some (.long (own_f7 q0 q1)) ∧ Fr n0 L ∧ h = h0
set_option maxRecDepth 65536 in
set_option maxHeartbeats 40000000 in
theorem rm7 (l : Launch) (Z : State) (aw : Array Value) (hw : ∀ d ∈ tables_1, d.before aw Z = true) (ws : List Jvm.Cond) (q0 : Int64) (q1 : Int64) (h0 : Heap) (n0 : Nat) (Z0 : n0 ≤ h0.size) :
    MetFree l (⟨"java/lang/Math", "max", "(JJ)J"⟩ : MethodName) (head1 (Jvm.Cond.code (⟨"java/lang/Math", "max", "(JJ)J"⟩ : MethodName) jdk_29_method_66_code 4 (some .long) :: ws) ({ frames := 0, cells := 0, slots := 0, locals := 0 } : Room)) (fun a U => a = #[(.long q0), (.long q1)] ∧ Z.Warmed39 U.vm ∧ U.heap = h0) (fun _ _ _ _ _ => True) (fun _ U o U' => ∃ v L, o = .returned v ∧ Q7 Z q0 q1 h0 n0 v U'.heap L ∧ FrameEnd U o U' L ({ frames := 0, cells := 0, slots := 0, locals := 0 } : Room).cells ({ frames := 0, cells := 0, slots := 0, locals := 0 } : Room).slots) := by
  refine MetFree.of_bodySF (Jvm.Free.JP.mathPlain rfl (by decide +kernel)) hisR ?_
  intro p e s m args below meth c s₁ Bd hml0 hP hK
  obtain ⟨rfl, hZ, hh⟩ := hP
  have hx := Bd.exec
  have hby := Bd.bytes
  have hml : c.maxLocals = 4 := hml0
  have hown : s.vm.findClass "java/lang/Math" = some m.cls := findClass_of_methodNamed Bd.named
  have hnm := (name_of_methodNamed Bd.named Bd.method).1
  have X0 : Stand p l e ({ frames := 0, cells := 0, slots := 0, locals := 0 } : Room) s m #[(.long q0), (.long q1)] below meth c s₁ [] 0 0 := Stand.of_body Bd
  have e0 : s₁.heap = h0 := by rw [← hh, Bd.state]; rfl
  have N0 := Fr.nil n0
  have K0 : Keep h0 h0 [] := Keep.refl _ _
  refine own_by (A' := s₁.setTop (mkF m 0 #[.val (.long q0), .second, .val (.long q1), .second] [])) (fun t k => castTop (ef_rm7 m q0 q1) k) ?_
  refine own_by (A' := s₁.setTop (mkF m 3 #[.val (.long q0), .second, .val (.long q1), .second] [(.int (lcmpW q0 q1))])) (fun t kt => ?_) ?_
  · show Steps p.tables e below (s₁.setTop (mkF m 0 #[.val (.long q0), .second, .val (.long q1), .second] [])) t
    refine XS.lloadN X0.here hx rfl (hb hby d7_0) rfl ?_
    show Steps p.tables e below (s₁.setTop (mkF m 1 #[.val (.long q0), .second, .val (.long q1), .second] [(.long q0)])) t
    refine XS.lloadN X0.here hx rfl (hb hby d7_1) rfl ?_
    show Steps p.tables e below (s₁.setTop (mkF m 2 #[.val (.long q0), .second, .val (.long q1), .second] [(.long q1), (.long q0)])) t
    refine XS.lcmp X0.here hx rfl (hb hby d7_2) rfl ?_
    exact kt
  by_cases hc3_1 : q0 < q1
  · refine own_by (A' := s₁.setTop (mkF m 11 #[.val (.long q0), .second, .val (.long q1), .second] [(.long q1)])) (fun t kt => ?_) ?_
    · show Steps p.tables e below (s₁.setTop (mkF m 3 #[.val (.long q0), .second, .val (.long q1), .second] [(.int (lcmpW q0 q1))])) t
      refine XS.ifYes X0.here hx rfl (pc0 := 3) (pc' := 10) rfl (hb hby d7_3) rfl ((if0 _ _).trans (tlt ((lw_lt _ _).mpr hc3_1)).1) (by decide) (by decide) ?_
      show Steps p.tables e below (s₁.setTop (mkF m 10 #[.val (.long q0), .second, .val (.long q1), .second] [])) t
      refine XS.lloadN X0.here hx rfl (hb hby d7_10) rfl ?_
      exact kt
    obtain ⟨fs, hr, hrun, hended, hW, hsame⟩ := X0.leave (v := some (.long q1)) (fun h => by rw [Bd.returns] at h; cases h)
    refine ⟨_, _, ?_, hrun, hended, _, _, rfl, ?_, ⟨_, rfl⟩, hW, hsame.mono (by decide) (by decide)⟩
    · exact own_retL X0 hx Bd.returns (hb hby d7_11) hr
    · show Q7 Z q0 q1 h0 n0 _ s₁.heap _
      rw [e0]
      exact ⟨(by rw [own_f7, if_pos hc3_1]), N0, rfl⟩
  · refine own_by (A' := s₁.setTop (mkF m 11 #[.val (.long q0), .second, .val (.long q1), .second] [(.long q0)])) (fun t kt => ?_) ?_
    · show Steps p.tables e below (s₁.setTop (mkF m 3 #[.val (.long q0), .second, .val (.long q1), .second] [(.int (lcmpW q0 q1))])) t
      refine XS.ifNo X0.here hx rfl (hb hby d7_3) rfl ((if0 _ _).trans (flt (fun q => hc3_1 ((lw_lt _ _).mp q))).1) ?_
      show Steps p.tables e below (s₁.setTop (mkF m 6 #[.val (.long q0), .second, .val (.long q1), .second] [])) t
      refine XS.lloadN X0.here hx rfl (hb hby d7_6) rfl ?_
      show Steps p.tables e below (s₁.setTop (mkF m 7 #[.val (.long q0), .second, .val (.long q1), .second] [(.long q0)])) t
      refine XS.goto X0.here hx rfl (pc0 := 7) (pc' := 11) rfl (hb hby d7_7) (by decide) (by decide) ?_
      exact kt
    obtain ⟨fs, hr, hrun, hended, hW, hsame⟩ := X0.leave (v := some (.long q0)) (fun h => by rw [Bd.returns] at h; cases h)
    refine ⟨_, _, ?_, hrun, hended, _, _, rfl, ?_, ⟨_, rfl⟩, hW, hsame.mono (by decide) (by decide)⟩
    · exact own_retL X0 hx Bd.returns (hb hby d7_11) hr
    · show Q7 Z q0 q1 h0 n0 _ s₁.heap _
      rw [e0]
      exact ⟨(by rw [own_f7, if_neg hc3_1]), N0, rfl⟩
def own_cum (f : Nat → Int64) : Nat → Int
  | 0 => 0
  | n + 1 => own_cum f n + (f n).toInt
def own_put (f : Nat → Int64) (t : Nat) (i : Nat) : Int64 := if i = t then f i + 1 else f i
theorem own_cumput {f : Nat → Int64} {t : Nat} (h : 0 ≤ (f t).toInt ∧ (f t).toInt < 1000) (j : Nat) : own_cum (own_put f t) j = own_cum f j + (if t < j then 1 else 0) := by
  induction j with
  | zero => simp [own_cum]
  | succ j ih =>
    simp only [own_cum, ih]
    by_cases q : j = t
    · subst q
      have e : own_put f j j = f j + 1 := if_pos rfl
      have a := c_ladd (f j) 1; have b := rng64 (f j + 1); rw [show (1 : Int64).toInt = 1 from by decide] at a
      rw [e, if_neg (Nat.lt_irrefl _), if_pos (Nat.lt_succ_self _)]
      omega
    · have e : own_put f t j = f j := if_neg q
      rw [e]
      split <;> split <;> omega
theorem own_putb {f : Nat → Int64} {t : Nat} {B : Int} (hB : B < 1000) (h : ∀ i, 0 ≤ (f i).toInt ∧ (f i).toInt ≤ B) : ∀ i, 0 ≤ (own_put f t i).toInt ∧ (own_put f t i).toInt ≤ B + 1 := by
  intro i
  have := h i
  simp only [own_put]
  split
  · have a := c_ladd (f i) 1; have b := rng64 (f i + 1); rw [show (1 : Int64).toInt = 1 from by decide] at a; omega
  · omega
/-- what percentile looks for -/
def own_Per (f : Nat → Int64) (rank r : Int64) : Prop := (rank.toInt ≤ 0 ∧ r.toInt = 0) ∨ (∃ j : Nat, r.toInt = j ∧ own_cum f j < rank.toInt ∧ rank.toInt ≤ own_cum f (j + 1))
theorem own_arv {Z : State} {h : Heap} {a : Addr} {n : Int32} {f : Nat → Int64} (F : AF Z h a .long n (fun i => .long (f i))) : ∃ k, Arv Z h a k .long n ((List.range n.toNatClampNeg).map fun i => Value.long (f i)) (.long 0) := by
  obtain ⟨c, A, S, M, H⟩ := F
  refine ⟨c.cls, c, A, rfl, S, M, fun k hk => ?_, fun i hi => ?_⟩
  · rw [H k hk]; rw [S] at hk; simp [List.getD_eq_getElem?_getD, hk]
  · rw [S] at hi; simp [List.getD_eq_getElem?_getD, hi, fits]
theorem own_cpget (M : Nat) (g : Nat → Value) (d : Value) (i : Nat) : ((([] ++ List.replicate M d).take (0 : Int32).toNatClampNeg ++ (List.range M).map (fun i => ((List.range M).map g).getD ((0 : Int32).toNatClampNeg + i) d)) ++ ([] ++ List.replicate M d).drop ((0 : Int32).toNatClampNeg + M)).getD i d = if i < M then g i else d := by
  have e : (0 : Int32).toNatClampNeg = 0 := by decide
  simp only [e, List.nil_append, List.take_zero, Nat.zero_add, List.getD_eq_getElem?_getD]
  by_cases q : i < M
  · simp [q]
  · have : M ≤ i := Nat.le_of_not_lt q
    rw [List.getElem?_append_right (by simpa using this)]
    simp [q]
theorem own_afarv {Z : State} {h : Heap} {a : Addr} {k : ClassId} {ty : FieldType} {n : Int32} {vs : List Value} {d : Value} (F : Arv Z h a k ty n vs d) : AF Z h a ty n (fun i => vs.getD i d) := by
  obtain ⟨c, A, -, S, M, H, -⟩ := F; exact ⟨c, A, S, M, H⟩
theorem own_cum0 (j : Nat) : own_cum (fun _ => 0) j = 0 := by
  induction j with
  | zero => rfl
  | succ j ih => simp only [own_cum, ih]; decide
theorem own_b0 : ∀ i : Nat, 0 ≤ ((fun _ => (0 : Int64)) i).toInt ∧ ((fun _ => (0 : Int64)) i).toInt ≤ 0 := fun _ => by show (0 : Int) ≤ (0 : Int64).toInt ∧ (0 : Int64).toInt ≤ 0; decide
theorem own_cum1 (x j : Nat) : own_cum (own_put (fun _ => 0) x) j = (if x < j then 1 else 0) := by
  rw [own_cumput (f := fun _ => 0) (t := x) (by show (0 : Int) ≤ (0 : Int64).toInt ∧ (0 : Int64).toInt < 1000; decide), own_cum0]; omega
theorem own_b1 (x : Nat) : ∀ i : Nat, 0 ≤ (own_put (fun _ => 0) x i).toInt ∧ (own_put (fun _ => 0) x i).toInt ≤ 0 + 1 := own_putb (by decide) own_b0
theorem own_cum2 (x y j : Nat) : own_cum (own_put (own_put (fun _ => 0) x) y) j = (if x < j then 1 else 0) + (if y < j then 1 else 0) := by
  have := own_b1 x y
  rw [own_cumput (by omega), own_cum1]
theorem own_b2 (x y : Nat) : ∀ i : Nat, 0 ≤ (own_put (own_put (fun _ => 0) x) y i).toInt ∧ (own_put (own_put (fun _ => 0) x) y i).toInt ≤ 0 + 1 + 1 := own_putb (by decide) (own_b1 x)
theorem own_cum3 (x y z j : Nat) : own_cum (own_put (own_put (own_put (fun _ => 0) x) y) z) j = (if x < j then 1 else 0) + (if y < j then 1 else 0) + (if z < j then 1 else 0) := by
  have := own_b2 x y z
  rw [own_cumput (by omega), own_cum2]
theorem own_b3 (x y z : Nat) : ∀ i : Nat, 0 ≤ (own_put (own_put (own_put (fun _ => 0) x) y) z i).toInt ∧ (own_put (own_put (own_put (fun _ => 0) x) y) z i).toInt ≤ 0 + 1 + 1 + 1 := own_putb (by decide) (own_b2 x y)

theorem pn_0 : plainName "com/example/flashsafe/flashsafe/Latencies" = true := by first | (simp [plainName, overriddenIn]; done) | decide +kernel
theorem d1_0 : decode prog_7_method_1_code 0 = .ok (.aload_n 0, 1) := by decide +kernel
theorem d1_1 : decode prog_7_method_1_code 1 = .ok (.invokespecial 1, 3) := by decide +kernel
theorem d1_4 : decode prog_7_method_1_code 4 = .ok (.aload_n 0, 1) := by decide +kernel
theorem d1_5 : decode prog_7_method_1_code 5 = .ok (.sipush 1024, 3) := by decide +kernel
theorem d1_8 : decode prog_7_method_1_code 8 = .ok (.newarray .long, 2) := by decide +kernel
theorem d1_10 : decode prog_7_method_1_code 10 = .ok (.putfield 7, 3) := by decide +kernel
theorem d1_13 : decode prog_7_method_1_code 13 = .ok (.return_, 1) := by decide +kernel
theorem ef_rm1 (m : MethodId) (a0 : Addr) : entryFrame m #[(.ref a0)] 1 = mkF m 0 #[.val (.ref a0)] [] := by first | (simp [entryFrame, mkF, argsToLocals, Value.category]; done) | rfl
def Q1 (Z : State) (a0 : Addr) (h0 : Heap) (n0 : Nat) (v : Option Value) (h : Heap) (L : List Loc) : Prop := ∃ b : Addr, v = none ∧ Fr n0 L ∧ Keep h0 h [a0] ∧ h0.size ≤ b ∧ Exa Z h a0 "com/example/flashsafe/flashsafe/Latencies" ∧ Fld Z h a0 "com/example/flashsafe/flashsafe/Latencies" "counts" "[J" (.ref b) ∧ Fld Z h a0 "com/example/flashsafe/flashsafe/Latencies" "total" "J" (.long 0) ∧ AF Z h b .long (1024 : Int32) (fun i => .long ((fun _ => (0 : Int64)) i))
set_option maxRecDepth 65536 in
set_option maxHeartbeats 40000000 in
theorem rm1 (l : Launch) (Z : State) (aw : Array Value) (hw : ∀ d ∈ tables_1, d.before aw Z = true) (ws : List Jvm.Cond) (a0 : Addr) (h0 : Heap) (n0 : Nat) (Z0 : n0 ≤ h0.size) (E_a0 : Exa Z h0 a0 "com/example/flashsafe/flashsafe/Latencies") (PF1 : Fld Z h0 a0 "com/example/flashsafe/flashsafe/Latencies" "counts" "[J" .null) (PF2 : Fld Z h0 a0 "com/example/flashsafe/flashsafe/Latencies" "total" "J" (.long 0)) (g_a0 : n0 ≤ a0) :
    MetFree l (⟨"com/example/flashsafe/flashsafe/Latencies", "<init>", "()V"⟩ : MethodName) (head1 (Jvm.Cond.code (⟨"com/example/flashsafe/flashsafe/Latencies", "<init>", "()V"⟩ : MethodName) prog_7_method_1_code 1 none :: ws) ({ frames := 1, cells := 1, slots := 1024, locals := 12 } : Room)) (fun a U => a = #[(.ref a0)] ∧ Z.Warmed39 U.vm ∧ U.heap = h0) (fun _ _ _ _ _ => True) (fun _ U o U' => ∃ v L, o = .returned v ∧ Q1 Z a0 h0 n0 v U'.heap L ∧ FrameEnd U o U' L ({ frames := 1, cells := 1, slots := 1024, locals := 12 } : Room).cells ({ frames := 1, cells := 1, slots := 1024, locals := 12 } : Room).slots) := by
  refine MetFree.of_bodySF (plainFor_of_name pn_0) hisR ?_
  intro p e s m args below meth c s₁ Bd hml0 hP hK
  obtain ⟨rfl, hZ, hh⟩ := hP
  have hx := Bd.exec
  have hby := Bd.bytes
  have hml : c.maxLocals = 1 := hml0
  have hown : s.vm.findClass "com/example/flashsafe/flashsafe/Latencies" = some m.cls := findClass_of_methodNamed Bd.named
  have hnm := (name_of_methodNamed Bd.named Bd.method).1
  have X0 : Stand p l e ({ frames := 1, cells := 1, slots := 1024, locals := 12 } : Room) s m #[(.ref a0)] below meth c s₁ [] 0 0 := Stand.of_body Bd
  have e0 : s₁.heap = h0 := by rw [← hh, Bd.state]; rfl
  have N0 := Fr.nil n0
  have K0 : Keep h0 h0 [a0] := Keep.refl _ _
  refine own_by (A' := s₁.setTop (mkF m 0 #[.val (.ref a0)] [])) (fun t k => castTop (ef_rm1 m a0) k) ?_
  refine own_by (A' := s₁.setTop (mkF m 1 #[.val (.ref a0)] [(.ref a0)])) (fun t kt => ?_) ?_
  · show Steps p.tables e below (s₁.setTop (mkF m 0 #[.val (.ref a0)] [])) t
    refine XS.aloadN X0.here hx rfl (hb hby d1_0) rfl rfl ?_
    exact kt
  obtain ⟨T1, X1, e1, st1⟩ := initO X0 hx hZ hown (hw _ (List.mem_of_getElem? (i := 8) rfl)) (hw _ (List.mem_of_getElem? (i := 9) rfl)) (hw _ (List.mem_of_getElem? (i := 10) rfl)) e0 (g := (mkF m 1 #[.val (.ref a0)] [(.ref a0)])) rfl (by rw [hml]; rfl) rfl (hb hby d1_1) (by decide) (W := 0) (by show 2 * 0 + _ ≤ _; exact Nat.le_of_eq rfl) (by decide)
  refine own_by (A' := T1.setTop (mkF m 4 #[.val (.ref a0)] [])) (fun t kt => st1 t kt) ?_
  refine own_by (A' := T1.setTop (mkF m 8 #[.val (.ref a0)] [(.int (1024 : Int32)), (.ref a0)])) (fun t kt => ?_) ?_
  · show Steps p.tables e below (T1.setTop (mkF m 4 #[.val (.ref a0)] [])) t
    refine XS.aloadN X1.here hx rfl (hb hby d1_4) rfl rfl ?_
    show Steps p.tables e below (T1.setTop (mkF m 5 #[.val (.ref a0)] [(.ref a0)])) t
    refine XS.sipush X1.here hx rfl (hb hby d1_5) ?_
    exact kt
  obtain ⟨T2, h2, k2, X2, e2, E2, A2, st2⟩ := newP X1 hx hZ (hw _ (List.mem_of_getElem? (i := 11) rfl)) e1 (g := (mkF m 8 #[.val (.ref a0)] [(.int (1024 : Int32)), (.ref a0)])) rfl (hb hby d1_8) rfl (by decide) (cap := 1024) (by decide) (by decide) (by decide) (by decide)
  obtain ⟨b2, g2⟩ : ∃ z, z = h0.size := ⟨_, rfl⟩
  rw [← g2] at A2 st2
  have sz_b2 : h0.size ≤ b2 := Nat.le_trans K0.1 (Nat.le_of_eq g2.symm)
  have g_b2 : n0 ≤ b2 := Nat.le_trans Z0 sz_b2
  have K2 : Keep h0 h2 [a0] := K0.ext E2
  have V2 : AF Z h2 b2 .long (1024 : Int32) (fun _ => .long (0 : Int64)) := AF.new A2 (by decide)
  refine own_by (A' := T2.setTop (mkF m 10 #[.val (.ref a0)] [(.ref b2), (.ref a0)])) (fun t kt => st2 t kt) ?_
  obtain ⟨T3, h3, X3, e3, W3, st3⟩ := putF X2 hx hZ hown (host := "") (Or.inl (hw _ (List.mem_of_getElem? (i := 12) rfl))) Via.refl e2 (PF1.ext E2) (E_a0.ext E2) (Or.inl (hw _ (List.mem_of_getElem? (i := 13) rfl))) (hw _ (List.mem_of_getElem? (i := 3) rfl)) (ty := (.array .long)) (by decide) rfl rfl (g := (mkF m 10 #[.val (.ref a0)] [(.ref b2), (.ref a0)])) rfl rfl (hb hby d1_10)
  have F3 := Fld.same W3 (PF1.ext E2)
  have N3 := Fr.snoc X3 N0 g_a0
  have K3 : Keep h0 h3 [a0] := K2.wr W3 (Or.inl (List.mem_of_getElem? (i := 0) rfl))
  refine own_by (A' := T3.setTop (mkF m 13 #[.val (.ref a0)] [])) (fun t kt => st3 t kt) ?_
  obtain ⟨fs, hr, hrun, hended, hW, hsame⟩ := X3.leave (v := none) (fun _ => rfl)
  refine ⟨_, _, ?_, hrun, hended, _, _, rfl, ?_, ⟨_, rfl⟩, hW, hsame.mono (by decide) (by decide)⟩
  · exact X3.returnOut hx Bd.returns (hb hby d1_13) hr
  · show Q1 Z a0 h0 n0 _ T3.heap _
    rw [e3]
    exact ⟨_, rfl, N3, K3, sz_b2, ((E_a0.ext E2).wr W3), F3, ((PF2.ext E2).other W3 (Or.inr (slot_ne (Or.inl (hw _ (List.mem_of_getElem? (i := 22) rfl))) (Or.inl (hw _ (List.mem_of_getElem? (i := 13) rfl))) (by decide) (t := .long) (t' := (.array .long)) (by decide) (by decide)))), (V2.other W3 (Ne.symm (Nat.ne_of_lt (Nat.lt_of_lt_of_le (E_a0).lt (Nat.le_of_eq g2.symm)))))⟩
def own_ten (q : Int64) : Int64 := (q + (50000 : Int64)) / (100000 : Int64)
def own_t (q : Int64) : Nat := (own_ten q).toInt.toNat
theorem own_tenv (q : Int64) (h : 0 ≤ q.toInt ∧ q.toInt ≤ 268435455) : (own_ten q).toInt = (q.toInt + 50000) / 100000 ∧ 0 ≤ (own_ten q).toInt ∧ (own_ten q).toInt ≤ 2684 := by
  have a := c_ladd q 50000; have b := rng64 (q + 50000); rw [show (50000 : Int64).toInt = 50000 from by decide] at a
  have c := (c_ldiv (q + 50000) 100000 100000 (by decide) (by decide)).1 (by omega)
  rw [own_ten, c]; omega
theorem own_l2i (x : Int64) (h : 0 ≤ x.toInt ∧ x.toInt < 2147483648) : x.toInt32.toInt = x.toInt := by
  have a := c_l2i x; have b := rng32 x.toInt32; omega
theorem own_maxv (a b : Int64) : (own_f7 a b).toInt = max a.toInt b.toInt := by
  rw [own_f7]
  split
  · rename_i q; rw [Int64.lt_iff_toInt_lt] at q; omega
  · rename_i q; rw [Int64.lt_iff_toInt_lt] at q; omega
theorem own_minv (a b : Int64) : (own_f6 a b).toInt = min a.toInt b.toInt := by
  rw [own_f6]
  split
  · rename_i q; rw [Int64.lt_iff_toInt_lt] at q; omega
  · rename_i q; rw [Int64.lt_iff_toInt_lt] at q; omega
theorem own_minlt {a b : Int32} (h : a < b) : own_f9 a b = a := by rw [own_f9, if_neg (by rw [Int32.lt_iff_toInt_lt] at *; omega)]
theorem pn_1 : plainName "java/util/Arrays" = true := by first | (simp [plainName, overriddenIn]; done) | decide +kernel
theorem pd_2 : parseMethodDescriptor "(II)I" = some ⟨[.int, .int], some .int⟩ := by decide +kernel
theorem d8_0 : decode jdk_65_method_124_code 0 = .ok (.iload_n 1, 1) := by decide +kernel
theorem d8_1 : decode jdk_65_method_124_code 1 = .ok (.aload_n 0, 1) := by decide +kernel
theorem d8_2 : decode jdk_65_method_124_code 2 = .ok (.arraylength, 1) := by decide +kernel
theorem d8_3 : decode jdk_65_method_124_code 3 = .ok (.if_icmp .ne 11, 3) := by decide +kernel
theorem d8_14 : decode jdk_65_method_124_code 14 = .ok (.iload_n 1, 1) := by decide +kernel
theorem d8_15 : decode jdk_65_method_124_code 15 = .ok (.newarray .long, 2) := by decide +kernel
theorem d8_17 : decode jdk_65_method_124_code 17 = .ok (.astore_n 2, 1) := by decide +kernel
theorem d8_18 : decode jdk_65_method_124_code 18 = .ok (.aload_n 0, 1) := by decide +kernel
theorem d8_19 : decode jdk_65_method_124_code 19 = .ok (.iconst 0, 1) := by decide +kernel
theorem d8_20 : decode jdk_65_method_124_code 20 = .ok (.aload_n 2, 1) := by decide +kernel
theorem d8_21 : decode jdk_65_method_124_code 21 = .ok (.iconst 0, 1) := by decide +kernel
theorem d8_22 : decode jdk_65_method_124_code 22 = .ok (.aload_n 0, 1) := by decide +kernel
theorem d8_23 : decode jdk_65_method_124_code 23 = .ok (.arraylength, 1) := by decide +kernel
theorem d8_24 : decode jdk_65_method_124_code 24 = .ok (.iload_n 1, 1) := by decide +kernel
theorem d8_25 : decode jdk_65_method_124_code 25 = .ok (.invokestatic 304, 3) := by decide +kernel
theorem d8_28 : decode jdk_65_method_124_code 28 = .ok (.invokestatic 150, 3) := by decide +kernel
theorem d8_31 : decode jdk_65_method_124_code 31 = .ok (.aload_n 2, 1) := by decide +kernel
theorem d8_32 : decode jdk_65_method_124_code 32 = .ok (.areturn, 1) := by decide +kernel
theorem ef_rmCopy (m : MethodId) (a0 : Addr) (p1 : Int32) : entryFrame m #[(.ref a0), (.int p1)] 3 = mkF m 0 #[.val (.ref a0), .val (.int p1), .unset] [] := by first | (simp [entryFrame, mkF, argsToLocals, Value.category]; done) | rfl
def QCopy (Z : State) (a0 : Addr) (p1 : Int32) (n : Int32) (f : Nat → Int64) (h0 : Heap) (n0 : Nat) (v : Option Value) (h : Heap) (L : List Loc) : Prop := ∃ b : Addr, v = some (.ref b) ∧ Fr n0 L ∧ h0.size ≤ b ∧ Keep h0 h [] ∧ AF Z h b .long p1 (fun i => .long ((fun i => if i < n.toNatClampNeg then f i else 0) i))
set_option maxRecDepth 65536 in
set_option maxHeartbeats 40000000 in
theorem rmCopy (l : Launch) (Z : State) (aw : Array Value) (hw : ∀ d ∈ tables_1, d.before aw Z = true) (ws : List Jvm.Cond) (a0 : Addr) (p1 : Int32) (n : Int32) (f : Nat → Int64) (h0 : Heap) (n0 : Nat) (Z0 : n0 ≤ h0.size) (V_a0 : AF Z h0 a0 .long n (fun i => .long (f i))) (hlt : n < p1) (hp0 : ¬ p1 < 0) (hcap : p1.toNatClampNeg ≤ 2048) :
    MetFree l (⟨"java/util/Arrays", "copyOf", "([JI)[J"⟩ : MethodName) (head1 (Jvm.Cond.code (⟨"java/util/Arrays", "copyOf", "([JI)[J"⟩ : MethodName) jdk_65_method_124_code 3 (some (.array .long)) :: ws) ({ frames := 1, cells := 1, slots := 2048, locals := 40 } : Room)) (fun a U => a = #[(.ref a0), (.int p1)] ∧ Z.Warmed39 U.vm ∧ U.heap = h0) (fun _ _ _ _ _ => True) (fun _ U o U' => ∃ v L, o = .returned v ∧ QCopy Z a0 p1 n f h0 n0 v U'.heap L ∧ FrameEnd U o U' L ({ frames := 1, cells := 1, slots := 2048, locals := 40 } : Room).cells ({ frames := 1, cells := 1, slots := 2048, locals := 40 } : Room).slots) := by
  refine MetFree.of_bodySF (plainFor_of_name pn_1) hisR ?_
  intro p e s m args below meth c s₁ Bd hml0 hP hK
  obtain ⟨rfl, hZ, hh⟩ := hP
  have hx := Bd.exec
  have hby := Bd.bytes
  have hml : c.maxLocals = 3 := hml0
  have hown : s.vm.findClass "java/util/Arrays" = some m.cls := findClass_of_methodNamed Bd.named
  have hnm := (name_of_methodNamed Bd.named Bd.method).1
  have X0 : Stand p l e ({ frames := 1, cells := 1, slots := 2048, locals := 40 } : Room) s m #[(.ref a0), (.int p1)] below meth c s₁ [] 0 0 := Stand.of_body Bd
  have e0 : s₁.heap = h0 := by rw [← hh, Bd.state]; rfl
  have N0 := Fr.nil n0
  have K0 : Keep h0 h0 [] := Keep.refl _ _
  refine own_by (A' := s₁.setTop (mkF m 0 #[.val (.ref a0), .val (.int p1), .unset] [])) (fun t k => castTop (ef_rmCopy m a0 p1) k) ?_
  refine own_by (A' := s₁.setTop (mkF m 2 #[.val (.ref a0), .val (.int p1), .unset] [(.ref a0), (.int p1)])) (fun t kt => ?_) ?_
  · show Steps p.tables e below (s₁.setTop (mkF m 0 #[.val (.ref a0), .val (.int p1), .unset] [])) t
    refine XS.iloadN X0.here hx rfl (hb hby d8_0) rfl ?_
    show Steps p.tables e below (s₁.setTop (mkF m 1 #[.val (.ref a0), .val (.int p1), .unset] [(.int p1)])) t
    refine XS.aloadN X0.here hx rfl (hb hby d8_1) rfl rfl ?_
    exact kt
  obtain ⟨cl1, Ar1, Sz1, Mn1, -⟩ := id V_a0
  refine own_by (A' := s₁.setTop (mkF m 3 #[.val (.ref a0), .val (.int p1), .unset] [(.int n), (.int p1)])) (fun t kt => ?_) ?_
  · show Steps p.tables e below (s₁.setTop (mkF m 2 #[.val (.ref a0), .val (.int p1), .unset] [(.ref a0), (.int p1)])) t
    refine X0.arraylength hx (by rw [e0]; exact Ar1.1) (State.isArrayOf_alike hZ.alike Ar1.2.1) (g := (mkF m 2 #[.val (.ref a0), .val (.int p1), .unset] [(.ref a0), (.int p1)])) rfl rfl (hb hby d8_2) _ ?_
    rw [len_of Sz1 Mn1]
    exact kt
  have hc3_2 : ¬ (p1 = n) := fun q => by subst q; exact Int32.lt_irrefl hlt
  refine own_by (A' := s₁.setTop (mkF m 14 #[.val (.ref a0), .val (.int p1), .unset] [])) (fun t kt => ?_) ?_
  · show Steps p.tables e below (s₁.setTop (mkF m 3 #[.val (.ref a0), .val (.int p1), .unset] [(.int n), (.int p1)])) t
    refine XS.icmpYes X0.here hx rfl (pc0 := 3) (pc' := 14) rfl (hb hby d8_3) rfl (feq hc3_2).2 (by decide) (by decide) ?_
    exact kt
  have hn0 : ¬ n < 0 := by obtain ⟨_, _, _, M, _⟩ := V_a0; exact M
  have hle : n.toNatClampNeg ≤ p1.toNatClampNeg := by rw [Int32.lt_iff_toInt_lt] at hlt; simp only [Int32.toNatClampNeg]; omega
  refine own_by (A' := s₁.setTop (mkF m 15 #[.val (.ref a0), .val (.int p1), .unset] [(.int p1)])) (fun t kt => ?_) ?_
  · show Steps p.tables e below (s₁.setTop (mkF m 14 #[.val (.ref a0), .val (.int p1), .unset] [])) t
    refine XS.iloadN X0.here hx rfl (hb hby d8_14) rfl ?_
    exact kt
  obtain ⟨T3, h3, k3, X3, e3, E3, A3, st3⟩ := newP X0 hx hZ (hw _ (List.mem_of_getElem? (i := 11) rfl)) e0 (g := (mkF m 15 #[.val (.ref a0), .val (.int p1), .unset] [(.int p1)])) rfl (hb hby d8_15) rfl hp0 (cap := 2048) hcap (by decide) (by decide) (by decide)
  obtain ⟨b3, g3⟩ : ∃ z, z = h0.size := ⟨_, rfl⟩
  rw [← g3] at A3 st3
  have sz_b3 : h0.size ≤ b3 := Nat.le_trans K0.1 (Nat.le_of_eq g3.symm)
  have g_b3 : n0 ≤ b3 := Nat.le_trans Z0 sz_b3
  have K3 : Keep h0 h3 [] := K0.ext E3
  have V3 : AF Z h3 b3 .long p1 (fun _ => .long (0 : Int64)) := AF.new A3 hp0
  refine own_by (A' := T3.setTop (mkF m 17 #[.val (.ref a0), .val (.int p1), .unset] [(.ref b3)])) (fun t kt => st3 t kt) ?_
  refine own_by (A' := T3.setTop (mkF m 23 #[.val (.ref a0), .val (.int p1), .val (.ref b3)] [(.ref a0), (.int (0 : Int32)), (.ref b3), (.int (0 : Int32)), (.ref a0)])) (fun t kt => ?_) ?_
  · show Steps p.tables e below (T3.setTop (mkF m 17 #[.val (.ref a0), .val (.int p1), .unset] [(.ref b3)])) t
    refine XS.astoreN X3.here hx rfl (hb hby d8_17) rfl rfl (l' := #[.val (.ref a0), .val (.int p1), .val (.ref b3)]) rfl ?_
    show Steps p.tables e below (T3.setTop (mkF m 18 #[.val (.ref a0), .val (.int p1), .val (.ref b3)] [])) t
    refine XS.aloadN X3.here hx rfl (hb hby d8_18) rfl rfl ?_
    show Steps p.tables e below (T3.setTop (mkF m 19 #[.val (.ref a0), .val (.int p1), .val (.ref b3)] [(.ref a0)])) t
    refine XS.iconst X3.here hx rfl (hb hby d8_19) ?_
    show Steps p.tables e below (T3.setTop (mkF m 20 #[.val (.ref a0), .val (.int p1), .val (.ref b3)] [(.int (0 : Int32)), (.ref a0)])) t
    refine XS.aloadN X3.here hx rfl (hb hby d8_20) rfl rfl ?_
    show Steps p.tables e below (T3.setTop (mkF m 21 #[.val (.ref a0), .val (.int p1), .val (.ref b3)] [(.ref b3), (.int (0 : Int32)), (.ref a0)])) t
    refine XS.iconst X3.here hx rfl (hb hby d8_21) ?_
    show Steps p.tables e below (T3.setTop (mkF m 22 #[.val (.ref a0), .val (.int p1), .val (.ref b3)] [(.int (0 : Int32)), (.ref b3), (.int (0 : Int32)), (.ref a0)])) t
    refine XS.aloadN X3.here hx rfl (hb hby d8_22) rfl rfl ?_
    exact kt
  obtain ⟨cl4, Ar4, Sz4, Mn4, -⟩ := id (V_a0.ext E3)
  refine own_by (A' := T3.setTop (mkF m 25 #[.val (.ref a0), .val (.int p1), .val (.ref b3)] [(.int p1), (.int n), (.int (0 : Int32)), (.ref b3), (.int (0 : Int32)), (.ref a0)])) (fun t kt => ?_) ?_
  · show Steps p.tables e below (T3.setTop (mkF m 23 #[.val (.ref a0), .val (.int p1), .val (.ref b3)] [(.ref a0), (.int (0 : Int32)), (.ref b3), (.int (0 : Int32)), (.ref a0)])) t
    refine X3.arraylength hx (by rw [e3]; exact Ar4.1) (State.isArrayOf_alike hZ.alike Ar4.2.1) (g := (mkF m 23 #[.val (.ref a0), .val (.int p1), .val (.ref b3)] [(.ref a0), (.int (0 : Int32)), (.ref b3), (.int (0 : Int32)), (.ref a0)])) rfl rfl (hb hby d8_23) _ ?_
    rw [len_of Sz4 Mn4]
    show Steps p.tables e below (T3.setTop (mkF m 24 #[.val (.ref a0), .val (.int p1), .val (.ref b3)] [(.int n), (.int (0 : Int32)), (.ref b3), (.int (0 : Int32)), (.ref a0)])) t
    refine XS.iloadN X3.here hx rfl (hb hby d8_24) rfl ?_
    exact kt
  obtain ⟨_, _, ⟨T5, L5, k5, n5⟩, -, X5, ⟨Lc5, hQ5, l5, y5, z5⟩, st5⟩ := Jvm.LawKit.callS X3 hx (y := (⟨"java/lang/Math", "min", "(II)I"⟩ : MethodName)) hown (mvT hZ (hw _ (List.mem_of_getElem? (i := 50) rfl))) (mvT hZ (hw _ (List.mem_of_getElem? (i := 51) rfl))) (mvT hZ (hw _ (List.mem_of_getElem? (i := 39) rfl))) (mvT hZ (hw _ (List.mem_of_getElem? (i := 52) rfl))) (by decide) (backOf (W := 4) (rm9 l Z aw hw [] n p1 h3 n0 (Nat.le_trans Z0 K3.1) ) hZ (hw _ (List.mem_of_getElem? (i := 52) rfl)) (hw _ (List.mem_of_getElem? (i := 39) rfl)) (by decide) (by decide)) (g := (mkF m 25 #[.val (.ref a0), .val (.int p1), .val (.ref b3)] [(.int p1), (.int n), (.int (0 : Int32)), (.ref b3), (.int (0 : Int32)), (.ref a0)])) rfl (by rw [hml]; rfl) (argsL := [(.int n), (.int p1)]) (rest := [(.int (0 : Int32)), (.ref b3), (.int (0 : Int32)), (.ref a0)]) (lenOf pd_2 rfl) rfl (by show 2 * 0 + _ ≤ _; exact Nat.le_of_eq rfl) (hb hby d8_25) (fun _ _ => ⟨rfl, e3, (by decide : 1 + 0 ≤ _), (by decide : 2048 + 0 ≤ _)⟩)
  dsimp only [Pt.U, Pt.locs, Pt.cells, Pt.slots] at X5 l5 y5 z5 st5 hQ5
  subst l5 y5 z5
  obtain ⟨rfl, N5q, e5⟩ := hQ5
  have N5 := Fr.app N0 N5q
  refine own_by (A' := T5.setTop (mkF m 28 #[.val (.ref a0), .val (.int p1), .val (.ref b3)] [(.int (own_f9 n p1)), (.int (0 : Int32)), (.ref b3), (.int (0 : Int32)), (.ref a0)])) (fun t kt => st5 t kt) ?_
  rw [own_minlt hlt]
  obtain ⟨kA, AV⟩ := own_arv (V_a0.ext E3)
  have BV := (Arv.new A3 hp0).pad (pad_rep [] (.long 0) n.toNatClampNeg)
  obtain ⟨T6, h6, L6, X6, e6, N6, Kq6, V6, st6⟩ := cpA X5 hx hZ hown (hw _ (List.mem_of_getElem? (i := 53) rfl)) (hw _ (List.mem_of_getElem? (i := 56) rfl)) (hw _ (List.mem_of_getElem? (i := 54) rfl)) (hw _ (List.mem_of_getElem? (i := 55) rfl)) e5 AV BV (Or.inl ⟨rfl, rfl⟩) (by decide) (by decide) hn0 (by show 0 + _ ≤ _; omega) (by show 0 + _ ≤ _; omega) rfl (by simp) N5 g_b3 (g := (mkF m 28 #[.val (.ref a0), .val (.int p1), .val (.ref b3)] [(.int n), (.int (0 : Int32)), (.ref b3), (.int (0 : Int32)), (.ref a0)])) rfl (by rw [hml]; rfl) rfl (hb hby d8_28) (by decide) (W := 0) (by show 2 * 0 + _ ≤ _; exact Nat.le_of_eq rfl) (by decide)
  have K6 : Keep h0 h6 [] := K3.trans Kq6 (allS (Or.inr sz_b3) all0)
  have VC : AF Z h6 b3 .long p1 (fun i => .long ((fun i => if i < n.toNatClampNeg then f i else 0) i)) := AF.to (own_afarv V6) (fun i _ => (own_cpget n.toNatClampNeg (fun i => Value.long (f i)) (.long 0) i).trans (by show _ = Value.long (if i < n.toNatClampNeg then f i else 0); split <;> rfl))
  refine own_by (A' := T6.setTop (mkF m 31 #[.val (.ref a0), .val (.int p1), .val (.ref b3)] [])) (fun t kt => st6 t kt) ?_
  refine own_by (A' := T6.setTop (mkF m 32 #[.val (.ref a0), .val (.int p1), .val (.ref b3)] [(.ref b3)])) (fun t kt => ?_) ?_
  · show Steps p.tables e below (T6.setTop (mkF m 31 #[.val (.ref a0), .val (.int p1), .val (.ref b3)] [])) t
    refine XS.aloadN X6.here hx rfl (hb hby d8_31) rfl rfl ?_
    exact kt
  obtain ⟨fs, hr, hrun, hended, hW, hsame⟩ := X6.leave (v := some (.ref b3)) (fun h => by rw [Bd.returns] at h; cases h)
  refine ⟨_, _, ?_, hrun, hended, _, _, rfl, ?_, ⟨_, rfl⟩, hW, hsame.mono (by decide) (by decide)⟩
  · exact own_retA X6 hx Bd.returns rfl (hb hby d8_32) hr
  · show QCopy Z a0 p1 n f h0 n0 _ T6.heap _
    rw [e6]
    exact ⟨_, rfl, N6, sz_b3, K6, VC⟩
theorem d3_0 : decode prog_7_method_2_code 0 = .ok (.lload_n 1, 1) := by decide +kernel
theorem d3_1 : decode prog_7_method_2_code 1 = .ok (.ldc2_w 13, 3) := by decide +kernel
theorem d3_4 : decode prog_7_method_2_code 4 = .ok (.ladd, 1) := by decide +kernel
theorem d3_5 : decode prog_7_method_2_code 5 = .ok (.ldc2_w 15, 3) := by decide +kernel
theorem d3_8 : decode prog_7_method_2_code 8 = .ok (.ldiv, 1) := by decide +kernel
theorem d3_9 : decode prog_7_method_2_code 9 = .ok (.lstore_n 3, 1) := by decide +kernel
theorem d3_10 : decode prog_7_method_2_code 10 = .ok (.lload_n 3, 1) := by decide +kernel
theorem d3_11 : decode prog_7_method_2_code 11 = .ok (.aload_n 0, 1) := by decide +kernel
theorem d3_12 : decode prog_7_method_2_code 12 = .ok (.getfield 7, 3) := by decide +kernel
theorem d3_15 : decode prog_7_method_2_code 15 = .ok (.arraylength, 1) := by decide +kernel
theorem d3_16 : decode prog_7_method_2_code 16 = .ok (.i2l, 1) := by decide +kernel
theorem d3_17 : decode prog_7_method_2_code 17 = .ok (.lcmp, 1) := by decide +kernel
theorem d3_18 : decode prog_7_method_2_code 18 = .ok (.ifCond .lt 31, 3) := by decide +kernel
theorem d3_49 : decode prog_7_method_2_code 49 = .ok (.aload_n 0, 1) := by decide +kernel
theorem d3_50 : decode prog_7_method_2_code 50 = .ok (.getfield 7, 3) := by decide +kernel
theorem d3_53 : decode prog_7_method_2_code 53 = .ok (.lload_n 3, 1) := by decide +kernel
theorem d3_54 : decode prog_7_method_2_code 54 = .ok (.l2i, 1) := by decide +kernel
theorem d3_55 : decode prog_7_method_2_code 55 = .ok (.dup2, 1) := by decide +kernel
theorem d3_56 : decode prog_7_method_2_code 56 = .ok (.laload, 1) := by decide +kernel
theorem d3_57 : decode prog_7_method_2_code 57 = .ok (.lconst 1, 1) := by decide +kernel
theorem d3_58 : decode prog_7_method_2_code 58 = .ok (.ladd, 1) := by decide +kernel
theorem d3_59 : decode prog_7_method_2_code 59 = .ok (.lastore, 1) := by decide +kernel
theorem d3_60 : decode prog_7_method_2_code 60 = .ok (.aload_n 0, 1) := by decide +kernel
theorem d3_61 : decode prog_7_method_2_code 61 = .ok (.dup, 1) := by decide +kernel
theorem d3_62 : decode prog_7_method_2_code 62 = .ok (.getfield 31, 3) := by decide +kernel
theorem d3_65 : decode prog_7_method_2_code 65 = .ok (.lconst 1, 1) := by decide +kernel
theorem d3_66 : decode prog_7_method_2_code 66 = .ok (.ladd, 1) := by decide +kernel
theorem d3_67 : decode prog_7_method_2_code 67 = .ok (.putfield 31, 3) := by decide +kernel
theorem d3_70 : decode prog_7_method_2_code 70 = .ok (.return_, 1) := by decide +kernel
theorem ef_rmAddN (m : MethodId) (a0 : Addr) (q1 : Int64) : entryFrame m #[(.ref a0), (.long q1)] 5 = mkF m 0 #[.val (.ref a0), .val (.long q1), .second, .unset, .unset] [] := by first | (simp [entryFrame, mkF, argsToLocals, Value.category]; done) | rfl
def QAddN (Z : State) (a0 : Addr) (q1 : Int64) (b : Addr) (n : Int32) (f : Nat → Int64) (tot : Int64) (h0 : Heap) (n0 : Nat) (v : Option Value) (h : Heap) (L : List Loc) : Prop := ∃ (b1 : Addr) (n1 : Int32), v = none ∧ Fr n0 L ∧ Keep h0 h [a0, b] ∧ Exa Z h a0 "com/example/flashsafe/flashsafe/Latencies" ∧ Fld Z h a0 "com/example/flashsafe/flashsafe/Latencies" "counts" "[J" (.ref b1) ∧ Fld Z h a0 "com/example/flashsafe/flashsafe/Latencies" "total" "J" (.long (tot + (1 : Int64))) ∧ AF Z h b1 .long n1 (fun i => .long ((own_put f (own_t q1)) i)) ∧ (∀ i, n1.toNatClampNeg ≤ i → own_put f (own_t q1) i = 0) ∧ (b1 = b ∨ h0.size ≤ b1) ∧ n1 = n
set_option maxRecDepth 65536 in
set_option maxHeartbeats 40000000 in
theorem rmAddN (l : Launch) (Z : State) (aw : Array Value) (hw : ∀ d ∈ tables_1, d.before aw Z = true) (ws : List Jvm.Cond) (a0 : Addr) (q1 : Int64) (b : Addr) (n : Int32) (f : Nat → Int64) (tot : Int64) (h0 : Heap) (n0 : Nat) (Z0 : n0 ≤ h0.size) (E_a0 : Exa Z h0 a0 "com/example/flashsafe/flashsafe/Latencies") (PF1 : Fld Z h0 a0 "com/example/flashsafe/flashsafe/Latencies" "counts" "[J" (.ref b)) (PF2 : Fld Z h0 a0 "com/example/flashsafe/flashsafe/Latencies" "total" "J" (.long tot)) (V_b : AF Z h0 b .long n (fun i => .long (f i))) (g_a0 : n0 ≤ a0) (g_b : n0 ≤ b) (hab : a0 ≠ b) (hq : 0 ≤ q1.toInt ∧ q1.toInt ≤ 134217727) (hn : 1024 ≤ n.toInt ∧ n.toInt ≤ 2048) (hz : ∀ i, n.toNatClampNeg ≤ i → f i = 0) (hN : own_ten q1 < n.toInt64) :
    MetFree l (⟨"com/example/flashsafe/flashsafe/Latencies", "add", "(J)V"⟩ : MethodName) (head1 (Jvm.Cond.code (⟨"com/example/flashsafe/flashsafe/Latencies", "add", "(J)V"⟩ : MethodName) prog_7_method_2_code 5 none :: ws) ({ frames := 0, cells := 0, slots := 0, locals := 0 } : Room)) (fun a U => a = #[(.ref a0), (.long q1)] ∧ Z.Warmed39 U.vm ∧ U.heap = h0) (fun _ _ _ _ _ => True) (fun _ U o U' => ∃ v L, o = .returned v ∧ QAddN Z a0 q1 b n f tot h0 n0 v U'.heap L ∧ FrameEnd U o U' L ({ frames := 0, cells := 0, slots := 0, locals := 0 } : Room).cells ({ frames := 0, cells := 0, slots := 0, locals := 0 } : Room).slots) := by
  refine MetFree.of_bodySF (plainFor_of_name pn_0) hisR ?_
  intro p e s m args below meth c s₁ Bd hml0 hP hK
  obtain ⟨rfl, hZ, hh⟩ := hP
  have hx := Bd.exec
  have hby := Bd.bytes
  have hml : c.maxLocals = 5 := hml0
  have hown : s.vm.findClass "com/example/flashsafe/flashsafe/Latencies" = some m.cls := findClass_of_methodNamed Bd.named
  have hnm := (name_of_methodNamed Bd.named Bd.method).1
  have X0 : Stand p l e ({ frames := 0, cells := 0, slots := 0, locals := 0 } : Room) s m #[(.ref a0), (.long q1)] below meth c s₁ [] 0 0 := Stand.of_body Bd
  have e0 : s₁.heap = h0 := by rw [← hh, Bd.state]; rfl
  have N0 := Fr.nil n0
  have K0 : Keep h0 h0 [a0, b] := Keep.refl _ _
  refine own_by (A' := s₁.setTop (mkF m 0 #[.val (.ref a0), .val (.long q1), .second, .unset, .unset] [])) (fun t k => castTop (ef_rmAddN m a0 q1) k) ?_
  refine own_by (A' := s₁.setTop (mkF m 10 #[.val (.ref a0), .val (.long q1), .second, .val (.long ((q1 + (50000 : Int64)) / (100000 : Int64))), .second] [])) (fun t kt => ?_) ?_
  · show Steps p.tables e below (s₁.setTop (mkF m 0 #[.val (.ref a0), .val (.long q1), .second, .unset, .unset] [])) t
    refine XS.lloadN X0.here hx rfl (hb hby d3_0) rfl ?_
    show Steps p.tables e below (s₁.setTop (mkF m 1 #[.val (.ref a0), .val (.long q1), .second, .unset, .unset] [(.long q1)])) t
    refine X0.ldc2Long hx hown (mvT hZ (hw _ (List.mem_of_getElem? (i := 19) rfl))) (g := (mkF m 1 #[.val (.ref a0), .val (.long q1), .second, .unset, .unset] [(.long q1)])) rfl (hb hby d3_1) _ ?_
    show Steps p.tables e below (s₁.setTop (mkF m 4 #[.val (.ref a0), .val (.long q1), .second, .unset, .unset] [(.long (50000 : Int64)), (.long q1)])) t
    refine XS.ladd X0.here hx rfl (hb hby d3_4) rfl ?_
    show Steps p.tables e below (s₁.setTop (mkF m 5 #[.val (.ref a0), .val (.long q1), .second, .unset, .unset] [(.long (q1 + (50000 : Int64)))])) t
    refine X0.ldc2Long hx hown (mvT hZ (hw _ (List.mem_of_getElem? (i := 20) rfl))) (g := (mkF m 5 #[.val (.ref a0), .val (.long q1), .second, .unset, .unset] [(.long (q1 + (50000 : Int64)))])) rfl (hb hby d3_5) _ ?_
    show Steps p.tables e below (s₁.setTop (mkF m 8 #[.val (.ref a0), .val (.long q1), .second, .unset, .unset] [(.long (100000 : Int64)), (.long (q1 + (50000 : Int64)))])) t
    refine XS.ldiv X0.here hx rfl (hb hby d3_8) rfl (by decide) ?_
    show Steps p.tables e below (s₁.setTop (mkF m 9 #[.val (.ref a0), .val (.long q1), .second, .unset, .unset] [(.long ((q1 + (50000 : Int64)) / (100000 : Int64)))])) t
    refine XS.lstoreN X0.here hx rfl (hb hby d3_9) rfl (l' := #[.val (.ref a0), .val (.long q1), .second, .val (.long ((q1 + (50000 : Int64)) / (100000 : Int64))), .second]) rfl ?_
    exact kt
  have hT := own_tenv q1 ⟨hq.1, by omega⟩
  change ∃ s₂ o, Steps p.tables e below (s₁.setTop (mkF m 10 #[.val (.ref a0), .val (.long q1), .second, .val (.long (own_ten q1)), .second] [])) s₂ ∧ _
  have hnl := c_i2l n
  refine own_by (A' := s₁.setTop (mkF m 12 #[.val (.ref a0), .val (.long q1), .second, .val (.long (own_ten q1)), .second] [(.ref a0), (.long (own_ten q1))])) (fun t kt => ?_) ?_
  · show Steps p.tables e below (s₁.setTop (mkF m 10 #[.val (.ref a0), .val (.long q1), .second, .val (.long (own_ten q1)), .second] [])) t
    refine XS.lloadN X0.here hx rfl (hb hby d3_10) rfl ?_
    show Steps p.tables e below (s₁.setTop (mkF m 11 #[.val (.ref a0), .val (.long q1), .second, .val (.long (own_ten q1)), .second] [(.long (own_ten q1))])) t
    refine XS.aloadN X0.here hx rfl (hb hby d3_11) rfl rfl ?_
    exact kt
  obtain ⟨T1, X1, e1, st1⟩ := getF X0 hx hZ hown (host := "") (Or.inl (hw _ (List.mem_of_getElem? (i := 12) rfl))) Via.refl e0 PF1 (g := (mkF m 12 #[.val (.ref a0), .val (.long q1), .second, .val (.long (own_ten q1)), .second] [(.ref a0), (.long (own_ten q1))])) rfl rfl (hb hby d3_12)
  refine own_by (A' := T1.setTop (mkF m 15 #[.val (.ref a0), .val (.long q1), .second, .val (.long (own_ten q1)), .second] [(.ref b), (.long (own_ten q1))])) (fun t kt => st1 t kt) ?_
  obtain ⟨cl2, Ar2, Sz2, Mn2, -⟩ := id V_b
  refine own_by (A' := T1.setTop (mkF m 18 #[.val (.ref a0), .val (.long q1), .second, .val (.long (own_ten q1)), .second] [(.int (lcmpW (own_ten q1) (n.toInt64)))])) (fun t kt => ?_) ?_
  · show Steps p.tables e below (T1.setTop (mkF m 15 #[.val (.ref a0), .val (.long q1), .second, .val (.long (own_ten q1)), .second] [(.ref b), (.long (own_ten q1))])) t
    refine X1.arraylength hx (by rw [e1]; exact Ar2.1) (State.isArrayOf_alike hZ.alike Ar2.2.1) (g := (mkF m 15 #[.val (.ref a0), .val (.long q1), .second, .val (.long (own_ten q1)), .second] [(.ref b), (.long (own_ten q1))])) rfl rfl (hb hby d3_15) _ ?_
    rw [len_of Sz2 Mn2]
    show Steps p.tables e below (T1.setTop (mkF m 16 #[.val (.ref a0), .val (.long q1), .second, .val (.long (own_ten q1)), .second] [(.int n), (.long (own_ten q1))])) t
    refine XS.i2l X1.here hx rfl (hb hby d3_16) rfl ?_
    show Steps p.tables e below (T1.setTop (mkF m 17 #[.val (.ref a0), .val (.long q1), .second, .val (.long (own_ten q1)), .second] [(.long (n.toInt64)), (.long (own_ten q1))])) t
    refine XS.lcmp X1.here hx rfl (hb hby d3_17) rfl ?_
    exact kt
  have hc18_3 : (own_ten q1) < (n.toInt64) := hN
  refine own_by (A' := T1.setTop (mkF m 50 #[.val (.ref a0), .val (.long q1), .second, .val (.long (own_ten q1)), .second] [(.ref a0)])) (fun t kt => ?_) ?_
  · show Steps p.tables e below (T1.setTop (mkF m 18 #[.val (.ref a0), .val (.long q1), .second, .val (.long (own_ten q1)), .second] [(.int (lcmpW (own_ten q1) (n.toInt64)))])) t
    refine XS.ifYes X1.here hx rfl (pc0 := 18) (pc' := 49) rfl (hb hby d3_18) rfl ((if0 _ _).trans (tlt ((lw_lt _ _).mpr hc18_3)).1) (by decide) (by decide) ?_
    show Steps p.tables e below (T1.setTop (mkF m 49 #[.val (.ref a0), .val (.long q1), .second, .val (.long (own_ten q1)), .second] [])) t
    refine XS.aloadN X1.here hx rfl (hb hby d3_49) rfl rfl ?_
    exact kt
  obtain ⟨T4, X4, e4, st4⟩ := getF X1 hx hZ hown (host := "") (Or.inl (hw _ (List.mem_of_getElem? (i := 12) rfl))) Via.refl e1 PF1 (g := (mkF m 50 #[.val (.ref a0), .val (.long q1), .second, .val (.long (own_ten q1)), .second] [(.ref a0)])) rfl rfl (hb hby d3_50)
  refine own_by (A' := T4.setTop (mkF m 53 #[.val (.ref a0), .val (.long q1), .second, .val (.long (own_ten q1)), .second] [(.ref b)])) (fun t kt => st4 t kt) ?_
  refine own_by (A' := T4.setTop (mkF m 55 #[.val (.ref a0), .val (.long q1), .second, .val (.long (own_ten q1)), .second] [(.int ((own_ten q1).toInt32)), (.ref b)])) (fun t kt => ?_) ?_
  · show Steps p.tables e below (T4.setTop (mkF m 53 #[.val (.ref a0), .val (.long q1), .second, .val (.long (own_ten q1)), .second] [(.ref b)])) t
    refine XS.lloadN X4.here hx rfl (hb hby d3_53) rfl ?_
    show Steps p.tables e below (T4.setTop (mkF m 54 #[.val (.ref a0), .val (.long q1), .second, .val (.long (own_ten q1)), .second] [(.long (own_ten q1)), (.ref b)])) t
    refine XS.l2i X4.here hx rfl (hb hby d3_54) rfl ?_
    exact kt
  have hj : (own_ten q1).toInt32.toInt = (own_ten q1).toInt := own_l2i _ (by omega)
  have hjt : (own_ten q1).toInt32.toNatClampNeg = own_t q1 := by simp only [Int32.toNatClampNeg, own_t, hj]
  have hin : ¬ (own_ten q1).toInt32 < 0 ∧ (own_ten q1).toInt32 < n := by
    rw [Int32.lt_iff_toInt_lt, Int32.lt_iff_toInt_lt, hj, show (0 : Int32).toInt = 0 from by decide]
    have g := hN
    rw [Int64.lt_iff_toInt_lt, hnl] at g
    omega
  refine own_by (A' := T4.setTop (mkF m 56 #[.val (.ref a0), .val (.long q1), .second, .val (.long (own_ten q1)), .second] [(.int ((own_ten q1).toInt32)), (.ref b), (.int ((own_ten q1).toInt32)), (.ref b)])) (fun t kt => ?_) ?_
  · show Steps p.tables e below (T4.setTop (mkF m 55 #[.val (.ref a0), .val (.long q1), .second, .val (.long (own_ten q1)), .second] [(.int ((own_ten q1).toInt32)), (.ref b)])) t
    refine Jvm.Free.XT.dup2 X4.here hx rfl (hb hby d3_55) rfl rfl rfl ?_
    exact kt
  obtain ⟨cl5, Ar5, Sz5, Mn5, Ha5⟩ := id V_b
  have hin5 := inb_of (j := ((own_ten q1).toInt32)) Sz5 hin
  have hat5 : cl5.slots[(((own_ten q1).toInt32)).toNatClampNeg]? = some (.long (f (own_t q1))) := (Ha5 _ (Nat.lt_of_not_le fun q => hin5 (Or.inr q))).trans (congrArg some (congrArg (fun i => Value.long (f i)) hjt))
  refine own_by (A' := T4.setTop (mkF m 59 #[.val (.ref a0), .val (.long q1), .second, .val (.long (own_ten q1)), .second] [(.long ((f (own_t q1)) + (1 : Int64))), (.int ((own_ten q1).toInt32)), (.ref b)])) (fun t kt => ?_) ?_
  · show Steps p.tables e below (T4.setTop (mkF m 56 #[.val (.ref a0), .val (.long q1), .second, .val (.long (own_ten q1)), .second] [(.int ((own_ten q1).toInt32)), (.ref b), (.int ((own_ten q1).toInt32)), (.ref b)])) t
    refine X4.laload hx (j := ((own_ten q1).toInt32)) (v := (.long (f (own_t q1)))) (by rw [e4]; exact Ar5.1) (State.isArrayOf_alike hZ.alike Ar5.2.1) Ar5.2.2 hin5 hat5 (g := (mkF m 56 #[.val (.ref a0), .val (.long q1), .second, .val (.long (own_ten q1)), .second] [(.int ((own_ten q1).toInt32)), (.ref b), (.int ((own_ten q1).toInt32)), (.ref b)])) rfl rfl (hb hby d3_56) _ ?_
    show Steps p.tables e below (T4.setTop (mkF m 57 #[.val (.ref a0), .val (.long q1), .second, .val (.long (own_ten q1)), .second] [(.long (f (own_t q1))), (.int ((own_ten q1).toInt32)), (.ref b)])) t
    refine XS.lconst X4.here hx rfl (hb hby d3_57) ?_
    show Steps p.tables e below (T4.setTop (mkF m 58 #[.val (.ref a0), .val (.long q1), .second, .val (.long (own_ten q1)), .second] [(.long (1 : Int64)), (.long (f (own_t q1))), (.int ((own_ten q1).toInt32)), (.ref b)])) t
    refine XS.ladd X4.here hx rfl (hb hby d3_58) rfl ?_
    exact kt
  obtain ⟨cl6, Ar6, Sz6, Mn6, Ha6⟩ := id V_b
  have hin6 := inb_of (j := ((own_ten q1).toInt32)) Sz6 hin
  obtain ⟨T6, h6, X6, e6, W6, st6⟩ := stJ X4 hx hZ e4 Ar6 (j := ((own_ten q1).toInt32)) hin6 (g := (mkF m 59 #[.val (.ref a0), .val (.long q1), .second, .val (.long (own_ten q1)), .second] [(.long ((f (own_t q1)) + (1 : Int64))), (.int ((own_ten q1).toInt32)), (.ref b)])) rfl rfl (hb hby d3_59)
  have V6 : AF Z h6 b .long n (fun i => if i = (((own_ten q1).toInt32)).toNatClampNeg then (.long ((f (own_t q1)) + (1 : Int64))) else .long (f i)) := AF.set Ar6 Sz6 Mn6 Ha6 hin6 W6
  have N6 := Fr.snoc X6 N0 g_b
  have K6 : Keep h0 h6 [a0, b] := K0.wr W6 (Or.inl (List.mem_of_getElem? (i := 1) rfl))
  refine own_by (A' := T6.setTop (mkF m 60 #[.val (.ref a0), .val (.long q1), .second, .val (.long (own_ten q1)), .second] [])) (fun t kt => st6 t kt) ?_
  have VP : AF Z h6 b .long n (fun i => .long ((own_put f (own_t q1)) i)) := AF.to V6 (fun i _ => by rw [hjt]; simp only [own_put]; split; rename_i q; rw [q]; rfl)
  refine own_by (A' := T6.setTop (mkF m 62 #[.val (.ref a0), .val (.long q1), .second, .val (.long (own_ten q1)), .second] [(.ref a0), (.ref a0)])) (fun t kt => ?_) ?_
  · show Steps p.tables e below (T6.setTop (mkF m 60 #[.val (.ref a0), .val (.long q1), .second, .val (.long (own_ten q1)), .second] [])) t
    refine XS.aloadN X6.here hx rfl (hb hby d3_60) rfl rfl ?_
    show Steps p.tables e below (T6.setTop (mkF m 61 #[.val (.ref a0), .val (.long q1), .second, .val (.long (own_ten q1)), .second] [(.ref a0)])) t
    refine XS.dup X6.here hx rfl (hb hby d3_61) rfl rfl ?_
    exact kt
  obtain ⟨T7, X7, e7, st7⟩ := getF X6 hx hZ hown (host := "") (Or.inl (hw _ (List.mem_of_getElem? (i := 21) rfl))) Via.refl e6 (PF2.other W6 (Or.inl hab)) (g := (mkF m 62 #[.val (.ref a0), .val (.long q1), .second, .val (.long (own_ten q1)), .second] [(.ref a0), (.ref a0)])) rfl rfl (hb hby d3_62)
  refine own_by (A' := T7.setTop (mkF m 65 #[.val (.ref a0), .val (.long q1), .second, .val (.long (own_ten q1)), .second] [(.long tot), (.ref a0)])) (fun t kt => st7 t kt) ?_
  refine own_by (A' := T7.setTop (mkF m 67 #[.val (.ref a0), .val (.long q1), .second, .val (.long (own_ten q1)), .second] [(.long (tot + (1 : Int64))), (.ref a0)])) (fun t kt => ?_) ?_
  · show Steps p.tables e below (T7.setTop (mkF m 65 #[.val (.ref a0), .val (.long q1), .second, .val (.long (own_ten q1)), .second] [(.long tot), (.ref a0)])) t
    refine XS.lconst X7.here hx rfl (hb hby d3_65) ?_
    show Steps p.tables e below (T7.setTop (mkF m 66 #[.val (.ref a0), .val (.long q1), .second, .val (.long (own_ten q1)), .second] [(.long (1 : Int64)), (.long tot), (.ref a0)])) t
    refine XS.ladd X7.here hx rfl (hb hby d3_66) rfl ?_
    exact kt
  obtain ⟨T8, h8, X8, e8, W8, st8⟩ := putF X7 hx hZ hown (host := "") (Or.inl (hw _ (List.mem_of_getElem? (i := 21) rfl))) Via.refl e7 (PF2.other W6 (Or.inl hab)) (E_a0.wr W6) (Or.inl (hw _ (List.mem_of_getElem? (i := 22) rfl))) (hw _ (List.mem_of_getElem? (i := 3) rfl)) (ty := .long) (by decide) rfl rfl (g := (mkF m 67 #[.val (.ref a0), .val (.long q1), .second, .val (.long (own_ten q1)), .second] [(.long (tot + (1 : Int64))), (.ref a0)])) rfl rfl (hb hby d3_67)
  have F8 := Fld.same W8 (PF2.other W6 (Or.inl hab))
  have N8 := Fr.snoc X8 N6 g_a0
  have K8 : Keep h0 h8 [a0, b] := K6.wr W8 (Or.inl (List.mem_of_getElem? (i := 0) rfl))
  refine own_by (A' := T8.setTop (mkF m 70 #[.val (.ref a0), .val (.long q1), .second, .val (.long (own_ten q1)), .second] [])) (fun t kt => st8 t kt) ?_
  obtain ⟨fs, hr, hrun, hended, hW, hsame⟩ := X8.leave (v := none) (fun _ => rfl)
  refine ⟨_, _, ?_, hrun, hended, _, _, rfl, ?_, ⟨_, rfl⟩, hW, hsame.mono (by decide) (by decide)⟩
  · exact X8.returnOut hx Bd.returns (hb hby d3_70) hr
  · show QAddN Z a0 q1 b n f tot h0 n0 _ T8.heap _
    rw [e8]
    exact ⟨b, n, rfl, N8, K8, ((E_a0.wr W6).wr W8), ((PF1.other W6 (Or.inl hab)).other W8 (Or.inr (slot_ne (Or.inl (hw _ (List.mem_of_getElem? (i := 13) rfl))) (Or.inl (hw _ (List.mem_of_getElem? (i := 22) rfl))) (by decide) (t := (.array .long)) (t' := .long) (by decide) (by decide)))), F8, (VP.other W8 (Ne.symm hab)), (fun i hi => by
        have hi' : own_t q1 < i := by
          have := hin.2; rw [Int32.lt_iff_toInt_lt, hj] at this; simp only [Int32.toNatClampNeg] at hi; simp only [own_t]; omega
        simp only [own_put]; rw [if_neg (by omega)]; exact hz i (by simp only [Int32.toNatClampNeg] at *; omega)), Or.inl rfl, rfl⟩
theorem pd_3 : parseMethodDescriptor "(JJ)J" = some ⟨[.long, .long], some .long⟩ := by decide +kernel
theorem pd_4 : parseMethodDescriptor "([JI)[J" = some ⟨[(.array .long), .int], some (.array .long)⟩ := by decide +kernel
theorem d3_21 : decode prog_7_method_2_code 21 = .ok (.aload_n 0, 1) := by decide +kernel
theorem d3_22 : decode prog_7_method_2_code 22 = .ok (.aload_n 0, 1) := by decide +kernel
theorem d3_23 : decode prog_7_method_2_code 23 = .ok (.getfield 7, 3) := by decide +kernel
theorem d3_26 : decode prog_7_method_2_code 26 = .ok (.lload_n 3, 1) := by decide +kernel
theorem d3_27 : decode prog_7_method_2_code 27 = .ok (.lconst 1, 1) := by decide +kernel
theorem d3_28 : decode prog_7_method_2_code 28 = .ok (.ladd, 1) := by decide +kernel
theorem d3_29 : decode prog_7_method_2_code 29 = .ok (.ldc2_w 17, 3) := by decide +kernel
theorem d3_32 : decode prog_7_method_2_code 32 = .ok (.aload_n 0, 1) := by decide +kernel
theorem d3_33 : decode prog_7_method_2_code 33 = .ok (.getfield 7, 3) := by decide +kernel
theorem d3_36 : decode prog_7_method_2_code 36 = .ok (.arraylength, 1) := by decide +kernel
theorem d3_37 : decode prog_7_method_2_code 37 = .ok (.i2l, 1) := by decide +kernel
theorem d3_38 : decode prog_7_method_2_code 38 = .ok (.lmul, 1) := by decide +kernel
theorem d3_39 : decode prog_7_method_2_code 39 = .ok (.invokestatic 19, 3) := by decide +kernel
theorem d3_42 : decode prog_7_method_2_code 42 = .ok (.l2i, 1) := by decide +kernel
theorem d3_43 : decode prog_7_method_2_code 43 = .ok (.invokestatic 25, 3) := by decide +kernel
theorem d3_46 : decode prog_7_method_2_code 46 = .ok (.putfield 7, 3) := by decide +kernel
theorem ef_rmAddG (m : MethodId) (a0 : Addr) (q1 : Int64) : entryFrame m #[(.ref a0), (.long q1)] 5 = mkF m 0 #[.val (.ref a0), .val (.long q1), .second, .unset, .unset] [] := by first | (simp [entryFrame, mkF, argsToLocals, Value.category]; done) | rfl
def QAddG (Z : State) (a0 : Addr) (q1 : Int64) (b : Addr) (n : Int32) (f : Nat → Int64) (tot : Int64) (h0 : Heap) (n0 : Nat) (v : Option Value) (h : Heap) (L : List Loc) : Prop := ∃ (b1 : Addr) (n1 : Int32), v = none ∧ Fr n0 L ∧ Keep h0 h [a0, b] ∧ Exa Z h a0 "com/example/flashsafe/flashsafe/Latencies" ∧ Fld Z h a0 "com/example/flashsafe/flashsafe/Latencies" "counts" "[J" (.ref b1) ∧ Fld Z h a0 "com/example/flashsafe/flashsafe/Latencies" "total" "J" (.long (tot + (1 : Int64))) ∧ AF Z h b1 .long n1 (fun i => .long ((own_put f (own_t q1)) i)) ∧ (∀ i, n1.toNatClampNeg ≤ i → own_put f (own_t q1) i = 0) ∧ (b1 = b ∨ h0.size ≤ b1) ∧ n1.toInt = 2048
set_option maxRecDepth 65536 in
set_option maxHeartbeats 40000000 in
theorem rmAddG (l : Launch) (Z : State) (aw : Array Value) (hw : ∀ d ∈ tables_1, d.before aw Z = true) (ws : List Jvm.Cond) (a0 : Addr) (q1 : Int64) (b : Addr) (n : Int32) (f : Nat → Int64) (tot : Int64) (h0 : Heap) (n0 : Nat) (Z0 : n0 ≤ h0.size) (E_a0 : Exa Z h0 a0 "com/example/flashsafe/flashsafe/Latencies") (PF1 : Fld Z h0 a0 "com/example/flashsafe/flashsafe/Latencies" "counts" "[J" (.ref b)) (PF2 : Fld Z h0 a0 "com/example/flashsafe/flashsafe/Latencies" "total" "J" (.long tot)) (V_b : AF Z h0 b .long n (fun i => .long (f i))) (g_a0 : n0 ≤ a0) (g_b : n0 ≤ b) (hab : a0 ≠ b) (hq : 0 ≤ q1.toInt ∧ q1.toInt ≤ 134217727) (hn : n.toInt = 1024) (hz : ∀ i, n.toNatClampNeg ≤ i → f i = 0) (hN : ¬ (own_ten q1 < n.toInt64)) :
    MetFree l (⟨"com/example/flashsafe/flashsafe/Latencies", "add", "(J)V"⟩ : MethodName) (head1 (Jvm.Cond.code (⟨"com/example/flashsafe/flashsafe/Latencies", "add", "(J)V"⟩ : MethodName) prog_7_method_2_code 5 none :: ws) ({ frames := 2, cells := 1, slots := 2048, locals := 55 } : Room)) (fun a U => a = #[(.ref a0), (.long q1)] ∧ Z.Warmed39 U.vm ∧ U.heap = h0) (fun _ _ _ _ _ => True) (fun _ U o U' => ∃ v L, o = .returned v ∧ QAddG Z a0 q1 b n f tot h0 n0 v U'.heap L ∧ FrameEnd U o U' L ({ frames := 2, cells := 1, slots := 2048, locals := 55 } : Room).cells ({ frames := 2, cells := 1, slots := 2048, locals := 55 } : Room).slots) := by
  refine MetFree.of_bodySF (plainFor_of_name pn_0) hisR ?_
  intro p e s m args below meth c s₁ Bd hml0 hP hK
  obtain ⟨rfl, hZ, hh⟩ := hP
  have hx := Bd.exec
  have hby := Bd.bytes
  have hml : c.maxLocals = 5 := hml0
  have hown : s.vm.findClass "com/example/flashsafe/flashsafe/Latencies" = some m.cls := findClass_of_methodNamed Bd.named
  have hnm := (name_of_methodNamed Bd.named Bd.method).1
  have X0 : Stand p l e ({ frames := 2, cells := 1, slots := 2048, locals := 55 } : Room) s m #[(.ref a0), (.long q1)] below meth c s₁ [] 0 0 := Stand.of_body Bd
  have e0 : s₁.heap = h0 := by rw [← hh, Bd.state]; rfl
  have N0 := Fr.nil n0
  have K0 : Keep h0 h0 [a0, b] := Keep.refl _ _
  refine own_by (A' := s₁.setTop (mkF m 0 #[.val (.ref a0), .val (.long q1), .second, .unset, .unset] [])) (fun t k => castTop (ef_rmAddG m a0 q1) k) ?_
  refine own_by (A' := s₁.setTop (mkF m 10 #[.val (.ref a0), .val (.long q1), .second, .val (.long ((q1 + (50000 : Int64)) / (100000 : Int64))), .second] [])) (fun t kt => ?_) ?_
  · show Steps p.tables e below (s₁.setTop (mkF m 0 #[.val (.ref a0), .val (.long q1), .second, .unset, .unset] [])) t
    refine XS.lloadN X0.here hx rfl (hb hby d3_0) rfl ?_
    show Steps p.tables e below (s₁.setTop (mkF m 1 #[.val (.ref a0), .val (.long q1), .second, .unset, .unset] [(.long q1)])) t
    refine X0.ldc2Long hx hown (mvT hZ (hw _ (List.mem_of_getElem? (i := 19) rfl))) (g := (mkF m 1 #[.val (.ref a0), .val (.long q1), .second, .unset, .unset] [(.long q1)])) rfl (hb hby d3_1) _ ?_
    show Steps p.tables e below (s₁.setTop (mkF m 4 #[.val (.ref a0), .val (.long q1), .second, .unset, .unset] [(.long (50000 : Int64)), (.long q1)])) t
    refine XS.ladd X0.here hx rfl (hb hby d3_4) rfl ?_
    show Steps p.tables e below (s₁.setTop (mkF m 5 #[.val (.ref a0), .val (.long q1), .second, .unset, .unset] [(.long (q1 + (50000 : Int64)))])) t
    refine X0.ldc2Long hx hown (mvT hZ (hw _ (List.mem_of_getElem? (i := 20) rfl))) (g := (mkF m 5 #[.val (.ref a0), .val (.long q1), .second, .unset, .unset] [(.long (q1 + (50000 : Int64)))])) rfl (hb hby d3_5) _ ?_
    show Steps p.tables e below (s₁.setTop (mkF m 8 #[.val (.ref a0), .val (.long q1), .second, .unset, .unset] [(.long (100000 : Int64)), (.long (q1 + (50000 : Int64)))])) t
    refine XS.ldiv X0.here hx rfl (hb hby d3_8) rfl (by decide) ?_
    show Steps p.tables e below (s₁.setTop (mkF m 9 #[.val (.ref a0), .val (.long q1), .second, .unset, .unset] [(.long ((q1 + (50000 : Int64)) / (100000 : Int64)))])) t
    refine XS.lstoreN X0.here hx rfl (hb hby d3_9) rfl (l' := #[.val (.ref a0), .val (.long q1), .second, .val (.long ((q1 + (50000 : Int64)) / (100000 : Int64))), .second]) rfl ?_
    exact kt
  have hT := own_tenv q1 ⟨hq.1, by omega⟩
  change ∃ s₂ o, Steps p.tables e below (s₁.setTop (mkF m 10 #[.val (.ref a0), .val (.long q1), .second, .val (.long (own_ten q1)), .second] [])) s₂ ∧ _
  have hnl := c_i2l n
  refine own_by (A' := s₁.setTop (mkF m 12 #[.val (.ref a0), .val (.long q1), .second, .val (.long (own_ten q1)), .second] [(.ref a0), (.long (own_ten q1))])) (fun t kt => ?_) ?_
  · show Steps p.tables e below (s₁.setTop (mkF m 10 #[.val (.ref a0), .val (.long q1), .second, .val (.long (own_ten q1)), .second] [])) t
    refine XS.lloadN X0.here hx rfl (hb hby d3_10) rfl ?_
    show Steps p.tables e below (s₁.setTop (mkF m 11 #[.val (.ref a0), .val (.long q1), .second, .val (.long (own_ten q1)), .second] [(.long (own_ten q1))])) t
    refine XS.aloadN X0.here hx rfl (hb hby d3_11) rfl rfl ?_
    exact kt
  obtain ⟨T1, X1, e1, st1⟩ := getF X0 hx hZ hown (host := "") (Or.inl (hw _ (List.mem_of_getElem? (i := 12) rfl))) Via.refl e0 PF1 (g := (mkF m 12 #[.val (.ref a0), .val (.long q1), .second, .val (.long (own_ten q1)), .second] [(.ref a0), (.long (own_ten q1))])) rfl rfl (hb hby d3_12)
  refine own_by (A' := T1.setTop (mkF m 15 #[.val (.ref a0), .val (.long q1), .second, .val (.long (own_ten q1)), .second] [(.ref b), (.long (own_ten q1))])) (fun t kt => st1 t kt) ?_
  obtain ⟨cl2, Ar2, Sz2, Mn2, -⟩ := id V_b
  refine own_by (A' := T1.setTop (mkF m 18 #[.val (.ref a0), .val (.long q1), .second, .val (.long (own_ten q1)), .second] [(.int (lcmpW (own_ten q1) (n.toInt64)))])) (fun t kt => ?_) ?_
  · show Steps p.tables e below (T1.setTop (mkF m 15 #[.val (.ref a0), .val (.long q1), .second, .val (.long (own_ten q1)), .second] [(.ref b), (.long (own_ten q1))])) t
    refine X1.arraylength hx (by rw [e1]; exact Ar2.1) (State.isArrayOf_alike hZ.alike Ar2.2.1) (g := (mkF m 15 #[.val (.ref a0), .val (.long q1), .second, .val (.long (own_ten q1)), .second] [(.ref b), (.long (own_ten q1))])) rfl rfl (hb hby d3_15) _ ?_
    rw [len_of Sz2 Mn2]
    show Steps p.tables e below (T1.setTop (mkF m 16 #[.val (.ref a0), .val (.long q1), .second, .val (.long (own_ten q1)), .second] [(.int n), (.long (own_ten q1))])) t
    refine XS.i2l X1.here hx rfl (hb hby d3_16) rfl ?_
    show Steps p.tables e below (T1.setTop (mkF m 17 #[.val (.ref a0), .val (.long q1), .second, .val (.long (own_ten q1)), .second] [(.long (n.toInt64)), (.long (own_ten q1))])) t
    refine XS.lcmp X1.here hx rfl (hb hby d3_17) rfl ?_
    exact kt
  have hc18_3 : ¬ ((own_ten q1) < (n.toInt64)) := hN
  refine own_by (A' := T1.setTop (mkF m 23 #[.val (.ref a0), .val (.long q1), .second, .val (.long (own_ten q1)), .second] [(.ref a0), (.ref a0)])) (fun t kt => ?_) ?_
  · show Steps p.tables e below (T1.setTop (mkF m 18 #[.val (.ref a0), .val (.long q1), .second, .val (.long (own_ten q1)), .second] [(.int (lcmpW (own_ten q1) (n.toInt64)))])) t
    refine XS.ifNo X1.here hx rfl (hb hby d3_18) rfl ((if0 _ _).trans (flt (fun q => hc18_3 ((lw_lt _ _).mp q))).1) ?_
    show Steps p.tables e below (T1.setTop (mkF m 21 #[.val (.ref a0), .val (.long q1), .second, .val (.long (own_ten q1)), .second] [])) t
    refine XS.aloadN X1.here hx rfl (hb hby d3_21) rfl rfl ?_
    show Steps p.tables e below (T1.setTop (mkF m 22 #[.val (.ref a0), .val (.long q1), .second, .val (.long (own_ten q1)), .second] [(.ref a0)])) t
    refine XS.aloadN X1.here hx rfl (hb hby d3_22) rfl rfl ?_
    exact kt
  obtain ⟨T4, X4, e4, st4⟩ := getF X1 hx hZ hown (host := "") (Or.inl (hw _ (List.mem_of_getElem? (i := 12) rfl))) Via.refl e1 PF1 (g := (mkF m 23 #[.val (.ref a0), .val (.long q1), .second, .val (.long (own_ten q1)), .second] [(.ref a0), (.ref a0)])) rfl rfl (hb hby d3_23)
  refine own_by (A' := T4.setTop (mkF m 26 #[.val (.ref a0), .val (.long q1), .second, .val (.long (own_ten q1)), .second] [(.ref b), (.ref a0)])) (fun t kt => st4 t kt) ?_
  refine own_by (A' := T4.setTop (mkF m 33 #[.val (.ref a0), .val (.long q1), .second, .val (.long (own_ten q1)), .second] [(.ref a0), (.long (2 : Int64)), (.long ((own_ten q1) + (1 : Int64))), (.ref b), (.ref a0)])) (fun t kt => ?_) ?_
  · show Steps p.tables e below (T4.setTop (mkF m 26 #[.val (.ref a0), .val (.long q1), .second, .val (.long (own_ten q1)), .second] [(.ref b), (.ref a0)])) t
    refine XS.lloadN X4.here hx rfl (hb hby d3_26) rfl ?_
    show Steps p.tables e below (T4.setTop (mkF m 27 #[.val (.ref a0), .val (.long q1), .second, .val (.long (own_ten q1)), .second] [(.long (own_ten q1)), (.ref b), (.ref a0)])) t
    refine XS.lconst X4.here hx rfl (hb hby d3_27) ?_
    show Steps p.tables e below (T4.setTop (mkF m 28 #[.val (.ref a0), .val (.long q1), .second, .val (.long (own_ten q1)), .second] [(.long (1 : Int64)), (.long (own_ten q1)), (.ref b), (.ref a0)])) t
    refine XS.ladd X4.here hx rfl (hb hby d3_28) rfl ?_
    show Steps p.tables e below (T4.setTop (mkF m 29 #[.val (.ref a0), .val (.long q1), .second, .val (.long (own_ten q1)), .second] [(.long ((own_ten q1) + (1 : Int64))), (.ref b), (.ref a0)])) t
    refine X4.ldc2Long hx hown (mvT hZ (hw _ (List.mem_of_getElem? (i := 44) rfl))) (g := (mkF m 29 #[.val (.ref a0), .val (.long q1), .second, .val (.long (own_ten q1)), .second] [(.long ((own_ten q1) + (1 : Int64))), (.ref b), (.ref a0)])) rfl (hb hby d3_29) _ ?_
    show Steps p.tables e below (T4.setTop (mkF m 32 #[.val (.ref a0), .val (.long q1), .second, .val (.long (own_ten q1)), .second] [(.long (2 : Int64)), (.long ((own_ten q1) + (1 : Int64))), (.ref b), (.ref a0)])) t
    refine XS.aloadN X4.here hx rfl (hb hby d3_32) rfl rfl ?_
    exact kt
  obtain ⟨T5, X5, e5, st5⟩ := getF X4 hx hZ hown (host := "") (Or.inl (hw _ (List.mem_of_getElem? (i := 12) rfl))) Via.refl e4 PF1 (g := (mkF m 33 #[.val (.ref a0), .val (.long q1), .second, .val (.long (own_ten q1)), .second] [(.ref a0), (.long (2 : Int64)), (.long ((own_ten q1) + (1 : Int64))), (.ref b), (.ref a0)])) rfl rfl (hb hby d3_33)
  refine own_by (A' := T5.setTop (mkF m 36 #[.val (.ref a0), .val (.long q1), .second, .val (.long (own_ten q1)), .second] [(.ref b), (.long (2 : Int64)), (.long ((own_ten q1) + (1 : Int64))), (.ref b), (.ref a0)])) (fun t kt => st5 t kt) ?_
  obtain ⟨cl6, Ar6, Sz6, Mn6, -⟩ := id V_b
  refine own_by (A' := T5.setTop (mkF m 39 #[.val (.ref a0), .val (.long q1), .second, .val (.long (own_ten q1)), .second] [(.long ((2 : Int64) * (n.toInt64))), (.long ((own_ten q1) + (1 : Int64))), (.ref b), (.ref a0)])) (fun t kt => ?_) ?_
  · show Steps p.tables e below (T5.setTop (mkF m 36 #[.val (.ref a0), .val (.long q1), .second, .val (.long (own_ten q1)), .second] [(.ref b), (.long (2 : Int64)), (.long ((own_ten q1) + (1 : Int64))), (.ref b), (.ref a0)])) t
    refine X5.arraylength hx (by rw [e5]; exact Ar6.1) (State.isArrayOf_alike hZ.alike Ar6.2.1) (g := (mkF m 36 #[.val (.ref a0), .val (.long q1), .second, .val (.long (own_ten q1)), .second] [(.ref b), (.long (2 : Int64)), (.long ((own_ten q1) + (1 : Int64))), (.ref b), (.ref a0)])) rfl rfl (hb hby d3_36) _ ?_
    rw [len_of Sz6 Mn6]
    show Steps p.tables e below (T5.setTop (mkF m 37 #[.val (.ref a0), .val (.long q1), .second, .val (.long (own_ten q1)), .second] [(.int n), (.long (2 : Int64)), (.long ((own_ten q1) + (1 : Int64))), (.ref b), (.ref a0)])) t
    refine XS.i2l X5.here hx rfl (hb hby d3_37) rfl ?_
    show Steps p.tables e below (T5.setTop (mkF m 38 #[.val (.ref a0), .val (.long q1), .second, .val (.long (own_ten q1)), .second] [(.long (n.toInt64)), (.long (2 : Int64)), (.long ((own_ten q1) + (1 : Int64))), (.ref b), (.ref a0)])) t
    refine XS.lmul X5.here hx rfl (hb hby d3_38) rfl ?_
    exact kt
  obtain ⟨_, _, ⟨T7, L7, k7, n7⟩, -, X7, ⟨Lc7, hQ7, l7, y7, z7⟩, st7⟩ := Jvm.LawKit.callS X5 hx (y := (⟨"java/lang/Math", "max", "(JJ)J"⟩ : MethodName)) hown (mvT hZ (hw _ (List.mem_of_getElem? (i := 45) rfl))) (mvT hZ (hw _ (List.mem_of_getElem? (i := 42) rfl))) (mvT hZ (hw _ (List.mem_of_getElem? (i := 39) rfl))) (mvT hZ (hw _ (List.mem_of_getElem? (i := 43) rfl))) (by decide) (backOf (W := 2) (rm7 l Z aw hw [] ((own_ten q1) + (1 : Int64)) ((2 : Int64) * (n.toInt64)) h0 n0 (Nat.le_trans Z0 K0.1) ) hZ (hw _ (List.mem_of_getElem? (i := 43) rfl)) (hw _ (List.mem_of_getElem? (i := 39) rfl)) (by decide) (by decide)) (g := (mkF m 39 #[.val (.ref a0), .val (.long q1), .second, .val (.long (own_ten q1)), .second] [(.long ((2 : Int64) * (n.toInt64))), (.long ((own_ten q1) + (1 : Int64))), (.ref b), (.ref a0)])) rfl (by rw [hml]; rfl) (argsL := [(.long ((own_ten q1) + (1 : Int64))), (.long ((2 : Int64) * (n.toInt64)))]) (rest := [(.ref b), (.ref a0)]) (lenOf pd_3 rfl) rfl (by show 2 * 0 + _ ≤ _; exact Nat.le_of_eq rfl) (hb hby d3_39) (fun _ _ => ⟨rfl, e5, (by decide : 0 + 0 ≤ _), (by decide : 0 + 0 ≤ _)⟩)
  dsimp only [Pt.U, Pt.locs, Pt.cells, Pt.slots] at X7 l7 y7 z7 st7 hQ7
  subst l7 y7 z7
  obtain ⟨rfl, N7q, e7⟩ := hQ7
  have N7 := Fr.app N0 N7q
  refine own_by (A' := T7.setTop (mkF m 42 #[.val (.ref a0), .val (.long q1), .second, .val (.long (own_ten q1)), .second] [(.long (own_f7 ((own_ten q1) + (1 : Int64)) ((2 : Int64) * (n.toInt64)))), (.ref b), (.ref a0)])) (fun t kt => st7 t kt) ?_
  refine own_by (A' := T7.setTop (mkF m 43 #[.val (.ref a0), .val (.long q1), .second, .val (.long (own_ten q1)), .second] [(.int ((own_f7 ((own_ten q1) + (1 : Int64)) ((2 : Int64) * (n.toInt64))).toInt32)), (.ref b), (.ref a0)])) (fun t kt => ?_) ?_
  · show Steps p.tables e below (T7.setTop (mkF m 42 #[.val (.ref a0), .val (.long q1), .second, .val (.long (own_ten q1)), .second] [(.long (own_f7 ((own_ten q1) + (1 : Int64)) ((2 : Int64) * (n.toInt64)))), (.ref b), (.ref a0)])) t
    refine XS.l2i X7.here hx rfl (hb hby d3_42) rfl ?_
    exact kt
  generalize h_vl : ((own_f7 ((own_ten q1) + (1 : Int64)) ((2 : Int64) * (n.toInt64))).toInt32) = vl
  have hvl : n < vl ∧ ¬ vl < 0 ∧ vl.toNatClampNeg ≤ 2048 ∧ vl.toInt64.toInt = vl.toInt ∧ (own_ten q1).toInt < vl.toInt ∧ vl.toInt = 2048 := by
    have g := hN
    rw [Int64.lt_iff_toInt_lt, hnl] at g
    have a1 := c_ladd (own_ten q1) 1; have a2 := rng64 (own_ten q1 + 1); have a3 := c_lmul 2 n.toInt64; have a4 := rng64 (2 * n.toInt64)
    rw [hnl] at a3
    have e1 : (1 : Int64).toInt = 1 := by decide
    have e2 : (2 : Int64).toInt = 2 := by decide
    rw [e1] at a1; rw [e2] at a3
    have m := own_maxv (own_ten q1 + 1) (2 * n.toInt64)
    have l := own_l2i (own_f7 (own_ten q1 + 1) (2 * n.toInt64)) (by omega)
    rw [h_vl] at l
    have c := c_i2l vl
    refine ⟨by rw [Int32.lt_iff_toInt_lt]; omega, by rw [Int32.lt_iff_toInt_lt, show (0 : Int32).toInt = 0 from by decide]; omega, by simp only [Int32.toNatClampNeg]; omega, c, by omega, by omega⟩
  have hvx := hvl.2.2.2
  replace hvl : n < vl ∧ ¬ vl < 0 ∧ vl.toNatClampNeg ≤ 2048 := ⟨hvl.1, hvl.2.1, hvl.2.2.1⟩
  obtain ⟨_, _, ⟨T8, L8, k8, n8⟩, -, X8, ⟨Lc8, hQ8, l8, y8, z8⟩, st8⟩ := Jvm.LawKit.callS X7 hx (y := (⟨"java/util/Arrays", "copyOf", "([JI)[J"⟩ : MethodName)) hown (mvT hZ (hw _ (List.mem_of_getElem? (i := 46) rfl))) (mvT hZ (hw _ (List.mem_of_getElem? (i := 47) rfl))) (mvT hZ (hw _ (List.mem_of_getElem? (i := 48) rfl))) (mvT hZ (hw _ (List.mem_of_getElem? (i := 49) rfl))) (by decide) (backOf (W := 1) (rmCopy l Z aw hw [] b vl n f h0 n0 (Nat.le_trans Z0 K0.1) V_b hvl.1 hvl.2.1 hvl.2.2) hZ (hw _ (List.mem_of_getElem? (i := 49) rfl)) (hw _ (List.mem_of_getElem? (i := 48) rfl)) (by decide) (by decide)) (g := (mkF m 43 #[.val (.ref a0), .val (.long q1), .second, .val (.long (own_ten q1)), .second] [(.int vl), (.ref b), (.ref a0)])) rfl (by rw [hml]; rfl) (argsL := [(.ref b), (.int vl)]) (rest := [(.ref a0)]) (lenOf pd_4 rfl) rfl (by show 2 * 0 + _ ≤ _; exact Nat.le_of_eq rfl) (hb hby d3_43) (fun _ _ => ⟨rfl, e7, (by decide : 0 + 1 ≤ _), (by decide : 0 + 2048 ≤ _)⟩)
  dsimp only [Pt.U, Pt.locs, Pt.cells, Pt.slots] at X8 l8 y8 z8 st8 hQ8
  subst l8 y8 z8
  obtain ⟨b8, rfl, N8q, le8, Kq8, V8⟩ := hQ8
  have N8 := Fr.app N7 N8q
  have sz_b8 : h0.size ≤ b8 := Nat.le_trans K0.1 le8
  have g_b8 : n0 ≤ b8 := Nat.le_trans Z0 sz_b8
  have K8 : Keep h0 T8.heap [a0, b] := K0.trans Kq8 all0
  have VG8 : AF Z T8.heap b8 .long vl (fun i => .long (f i)) := AF.to V8 (fun i _ => by show Value.long (if i < n.toNatClampNeg then f i else 0) = _; split; rfl; exact congrArg Value.long (hz i (by omega)).symm)
  refine own_by (A' := T8.setTop (mkF m 46 #[.val (.ref a0), .val (.long q1), .second, .val (.long (own_ten q1)), .second] [(.ref b8), (.ref a0)])) (fun t kt => st8 t kt) ?_
  obtain ⟨T9, h9, X9, e9, W9, st9⟩ := putF X8 hx hZ hown (host := "") (Or.inl (hw _ (List.mem_of_getElem? (i := 12) rfl))) Via.refl rfl (PF1.keep Kq8 nin0) (E_a0.keep Kq8) (Or.inl (hw _ (List.mem_of_getElem? (i := 13) rfl))) (hw _ (List.mem_of_getElem? (i := 3) rfl)) (ty := (.array .long)) (by decide) rfl rfl (g := (mkF m 46 #[.val (.ref a0), .val (.long q1), .second, .val (.long (own_ten q1)), .second] [(.ref b8), (.ref a0)])) rfl rfl (hb hby d3_46)
  have F9 := Fld.same W9 (PF1.keep Kq8 nin0)
  have N9 := Fr.snoc X9 N8 g_a0
  have K9 : Keep h0 h9 [a0, b] := K8.wr W9 (Or.inl (List.mem_of_getElem? (i := 0) rfl))
  refine own_by (A' := T9.setTop (mkF m 49 #[.val (.ref a0), .val (.long q1), .second, .val (.long (own_ten q1)), .second] [])) (fun t kt => st9 t kt) ?_
  refine own_by (A' := T9.setTop (mkF m 50 #[.val (.ref a0), .val (.long q1), .second, .val (.long (own_ten q1)), .second] [(.ref a0)])) (fun t kt => ?_) ?_
  · show Steps p.tables e below (T9.setTop (mkF m 49 #[.val (.ref a0), .val (.long q1), .second, .val (.long (own_ten q1)), .second] [])) t
    refine XS.aloadN X9.here hx rfl (hb hby d3_49) rfl rfl ?_
    exact kt
  obtain ⟨T10, X10, e10, st10⟩ := getF X9 hx hZ hown (host := "") (Or.inl (hw _ (List.mem_of_getElem? (i := 12) rfl))) Via.refl e9 F9 (g := (mkF m 50 #[.val (.ref a0), .val (.long q1), .second, .val (.long (own_ten q1)), .second] [(.ref a0)])) rfl rfl (hb hby d3_50)
  refine own_by (A' := T10.setTop (mkF m 53 #[.val (.ref a0), .val (.long q1), .second, .val (.long (own_ten q1)), .second] [(.ref b8)])) (fun t kt => st10 t kt) ?_
  refine own_by (A' := T10.setTop (mkF m 55 #[.val (.ref a0), .val (.long q1), .second, .val (.long (own_ten q1)), .second] [(.int ((own_ten q1).toInt32)), (.ref b8)])) (fun t kt => ?_) ?_
  · show Steps p.tables e below (T10.setTop (mkF m 53 #[.val (.ref a0), .val (.long q1), .second, .val (.long (own_ten q1)), .second] [(.ref b8)])) t
    refine XS.lloadN X10.here hx rfl (hb hby d3_53) rfl ?_
    show Steps p.tables e below (T10.setTop (mkF m 54 #[.val (.ref a0), .val (.long q1), .second, .val (.long (own_ten q1)), .second] [(.long (own_ten q1)), (.ref b8)])) t
    refine XS.l2i X10.here hx rfl (hb hby d3_54) rfl ?_
    exact kt
  have hj : (own_ten q1).toInt32.toInt = (own_ten q1).toInt := own_l2i _ (by omega)
  have hjt : (own_ten q1).toInt32.toNatClampNeg = own_t q1 := by simp only [Int32.toNatClampNeg, own_t, hj]
  have hin : ¬ (own_ten q1).toInt32 < 0 ∧ (own_ten q1).toInt32 < vl := by
    rw [Int32.lt_iff_toInt_lt, Int32.lt_iff_toInt_lt, hj, show (0 : Int32).toInt = 0 from by decide]
    omega
  refine own_by (A' := T10.setTop (mkF m 56 #[.val (.ref a0), .val (.long q1), .second, .val (.long (own_ten q1)), .second] [(.int ((own_ten q1).toInt32)), (.ref b8), (.int ((own_ten q1).toInt32)), (.ref b8)])) (fun t kt => ?_) ?_
  · show Steps p.tables e below (T10.setTop (mkF m 55 #[.val (.ref a0), .val (.long q1), .second, .val (.long (own_ten q1)), .second] [(.int ((own_ten q1).toInt32)), (.ref b8)])) t
    refine Jvm.Free.XT.dup2 X10.here hx rfl (hb hby d3_55) rfl rfl rfl ?_
    exact kt
  obtain ⟨cl11, Ar11, Sz11, Mn11, Ha11⟩ := id (VG8.other W9 (Ne.symm (Nat.ne_of_lt (Nat.lt_of_lt_of_le (E_a0).lt le8))))
  have hin11 := inb_of (j := ((own_ten q1).toInt32)) Sz11 hin
  have hat11 : cl11.slots[(((own_ten q1).toInt32)).toNatClampNeg]? = some (.long (f (own_t q1))) := (Ha11 _ (Nat.lt_of_not_le fun q => hin11 (Or.inr q))).trans (congrArg some (congrArg (fun i => Value.long (f i)) hjt))
  refine own_by (A' := T10.setTop (mkF m 59 #[.val (.ref a0), .val (.long q1), .second, .val (.long (own_ten q1)), .second] [(.long ((f (own_t q1)) + (1 : Int64))), (.int ((own_ten q1).toInt32)), (.ref b8)])) (fun t kt => ?_) ?_
  · show Steps p.tables e below (T10.setTop (mkF m 56 #[.val (.ref a0), .val (.long q1), .second, .val (.long (own_ten q1)), .second] [(.int ((own_ten q1).toInt32)), (.ref b8), (.int ((own_ten q1).toInt32)), (.ref b8)])) t
    refine X10.laload hx (j := ((own_ten q1).toInt32)) (v := (.long (f (own_t q1)))) (by rw [e10]; exact Ar11.1) (State.isArrayOf_alike hZ.alike Ar11.2.1) Ar11.2.2 hin11 hat11 (g := (mkF m 56 #[.val (.ref a0), .val (.long q1), .second, .val (.long (own_ten q1)), .second] [(.int ((own_ten q1).toInt32)), (.ref b8), (.int ((own_ten q1).toInt32)), (.ref b8)])) rfl rfl (hb hby d3_56) _ ?_
    show Steps p.tables e below (T10.setTop (mkF m 57 #[.val (.ref a0), .val (.long q1), .second, .val (.long (own_ten q1)), .second] [(.long (f (own_t q1))), (.int ((own_ten q1).toInt32)), (.ref b8)])) t
    refine XS.lconst X10.here hx rfl (hb hby d3_57) ?_
    show Steps p.tables e below (T10.setTop (mkF m 58 #[.val (.ref a0), .val (.long q1), .second, .val (.long (own_ten q1)), .second] [(.long (1 : Int64)), (.long (f (own_t q1))), (.int ((own_ten q1).toInt32)), (.ref b8)])) t
    refine XS.ladd X10.here hx rfl (hb hby d3_58) rfl ?_
    exact kt
  obtain ⟨cl12, Ar12, Sz12, Mn12, Ha12⟩ := id (VG8.other W9 (Ne.symm (Nat.ne_of_lt (Nat.lt_of_lt_of_le (E_a0).lt le8))))
  have hin12 := inb_of (j := ((own_ten q1).toInt32)) Sz12 hin
  obtain ⟨T12, h12, X12, e12, W12, st12⟩ := stJ X10 hx hZ e10 Ar12 (j := ((own_ten q1).toInt32)) hin12 (g := (mkF m 59 #[.val (.ref a0), .val (.long q1), .second, .val (.long (own_ten q1)), .second] [(.long ((f (own_t q1)) + (1 : Int64))), (.int ((own_ten q1).toInt32)), (.ref b8)])) rfl rfl (hb hby d3_59)
  have V12 : AF Z h12 b8 .long vl (fun i => if i = (((own_ten q1).toInt32)).toNatClampNeg then (.long ((f (own_t q1)) + (1 : Int64))) else .long (f i)) := AF.set Ar12 Sz12 Mn12 Ha12 hin12 W12
  have N12 := Fr.snoc X12 N9 g_b8
  have K12 : Keep h0 h12 [a0, b] := K9.wr W12 (Or.inr sz_b8)
  refine own_by (A' := T12.setTop (mkF m 60 #[.val (.ref a0), .val (.long q1), .second, .val (.long (own_ten q1)), .second] [])) (fun t kt => st12 t kt) ?_
  have VP : AF Z h12 b8 .long vl (fun i => .long ((own_put f (own_t q1)) i)) := AF.to V12 (fun i _ => by rw [hjt]; simp only [own_put]; split; rename_i q; rw [q]; rfl)
  refine own_by (A' := T12.setTop (mkF m 62 #[.val (.ref a0), .val (.long q1), .second, .val (.long (own_ten q1)), .second] [(.ref a0), (.ref a0)])) (fun t kt => ?_) ?_
  · show Steps p.tables e below (T12.setTop (mkF m 60 #[.val (.ref a0), .val (.long q1), .second, .val (.long (own_ten q1)), .second] [])) t
    refine XS.aloadN X12.here hx rfl (hb hby d3_60) rfl rfl ?_
    show Steps p.tables e below (T12.setTop (mkF m 61 #[.val (.ref a0), .val (.long q1), .second, .val (.long (own_ten q1)), .second] [(.ref a0)])) t
    refine XS.dup X12.here hx rfl (hb hby d3_61) rfl rfl ?_
    exact kt
  obtain ⟨T13, X13, e13, st13⟩ := getF X12 hx hZ hown (host := "") (Or.inl (hw _ (List.mem_of_getElem? (i := 21) rfl))) Via.refl e12 (((PF2.keep Kq8 nin0).other W9 (Or.inr (slot_ne (Or.inl (hw _ (List.mem_of_getElem? (i := 22) rfl))) (Or.inl (hw _ (List.mem_of_getElem? (i := 13) rfl))) (by decide) (t := .long) (t' := (.array .long)) (by decide) (by decide)))).other W12 (Or.inl (Nat.ne_of_lt (Nat.lt_of_lt_of_le (E_a0).lt le8)))) (g := (mkF m 62 #[.val (.ref a0), .val (.long q1), .second, .val (.long (own_ten q1)), .second] [(.ref a0), (.ref a0)])) rfl rfl (hb hby d3_62)
  refine own_by (A' := T13.setTop (mkF m 65 #[.val (.ref a0), .val (.long q1), .second, .val (.long (own_ten q1)), .second] [(.long tot), (.ref a0)])) (fun t kt => st13 t kt) ?_
  refine own_by (A' := T13.setTop (mkF m 67 #[.val (.ref a0), .val (.long q1), .second, .val (.long (own_ten q1)), .second] [(.long (tot + (1 : Int64))), (.ref a0)])) (fun t kt => ?_) ?_
  · show Steps p.tables e below (T13.setTop (mkF m 65 #[.val (.ref a0), .val (.long q1), .second, .val (.long (own_ten q1)), .second] [(.long tot), (.ref a0)])) t
    refine XS.lconst X13.here hx rfl (hb hby d3_65) ?_
    show Steps p.tables e below (T13.setTop (mkF m 66 #[.val (.ref a0), .val (.long q1), .second, .val (.long (own_ten q1)), .second] [(.long (1 : Int64)), (.long tot), (.ref a0)])) t
    refine XS.ladd X13.here hx rfl (hb hby d3_66) rfl ?_
    exact kt
  obtain ⟨T14, h14, X14, e14, W14, st14⟩ := putF X13 hx hZ hown (host := "") (Or.inl (hw _ (List.mem_of_getElem? (i := 21) rfl))) Via.refl e13 (((PF2.keep Kq8 nin0).other W9 (Or.inr (slot_ne (Or.inl (hw _ (List.mem_of_getElem? (i := 22) rfl))) (Or.inl (hw _ (List.mem_of_getElem? (i := 13) rfl))) (by decide) (t := .long) (t' := (.array .long)) (by decide) (by decide)))).other W12 (Or.inl (Nat.ne_of_lt (Nat.lt_of_lt_of_le (E_a0).lt le8)))) (((E_a0.keep Kq8).wr W9).wr W12) (Or.inl (hw _ (List.mem_of_getElem? (i := 22) rfl))) (hw _ (List.mem_of_getElem? (i := 3) rfl)) (ty := .long) (by decide) rfl rfl (g := (mkF m 67 #[.val (.ref a0), .val (.long q1), .second, .val (.long (own_ten q1)), .second] [(.long (tot + (1 : Int64))), (.ref a0)])) rfl rfl (hb hby d3_67)
  have F14 := Fld.same W14 (((PF2.keep Kq8 nin0).other W9 (Or.inr (slot_ne (Or.inl (hw _ (List.mem_of_getElem? (i := 22) rfl))) (Or.inl (hw _ (List.mem_of_getElem? (i := 13) rfl))) (by decide) (t := .long) (t' := (.array .long)) (by decide) (by decide)))).other W12 (Or.inl (Nat.ne_of_lt (Nat.lt_of_lt_of_le (E_a0).lt le8))))
  have N14 := Fr.snoc X14 N12 g_a0
  have K14 : Keep h0 h14 [a0, b] := K12.wr W14 (Or.inl (List.mem_of_getElem? (i := 0) rfl))
  refine own_by (A' := T14.setTop (mkF m 70 #[.val (.ref a0), .val (.long q1), .second, .val (.long (own_ten q1)), .second] [])) (fun t kt => st14 t kt) ?_
  obtain ⟨fs, hr, hrun, hended, hW, hsame⟩ := X14.leave (v := none) (fun _ => rfl)
  refine ⟨_, _, ?_, hrun, hended, _, _, rfl, ?_, ⟨_, rfl⟩, hW, hsame.mono (by decide) (by decide)⟩
  · exact X14.returnOut hx Bd.returns (hb hby d3_70) hr
  · show QAddG Z a0 q1 b n f tot h0 n0 _ T14.heap _
    rw [e14]
    exact ⟨b8, vl, rfl, N14, K14, ((((E_a0.keep Kq8).wr W9).wr W12).wr W14), ((F9.other W12 (Or.inl (Nat.ne_of_lt (Nat.lt_of_lt_of_le (E_a0).lt le8)))).other W14 (Or.inr (slot_ne (Or.inl (hw _ (List.mem_of_getElem? (i := 13) rfl))) (Or.inl (hw _ (List.mem_of_getElem? (i := 22) rfl))) (by decide) (t := (.array .long)) (t' := .long) (by decide) (by decide)))), F14, (VP.other W14 (Ne.symm (Nat.ne_of_lt (Nat.lt_of_lt_of_le (E_a0).lt le8)))), (fun i hi => by
        have hi' : own_t q1 < i := by
          have := hin.2; rw [Int32.lt_iff_toInt_lt, hj] at this; simp only [Int32.toNatClampNeg] at hi; simp only [own_t]; omega
        simp only [own_put]; rw [if_neg (by omega)]; exact hz i (by have := hvl.1; rw [Int32.lt_iff_toInt_lt] at this; simp only [Int32.toNatClampNeg] at *; omega)), Or.inr sz_b8, hvx.2.2⟩
theorem d4_25 : decode prog_7_method_3_code 25 = .ok (.iload 8, 2) := by decide +kernel
theorem d4_27 : decode prog_7_method_3_code 27 = .ok (.aload_n 0, 1) := by decide +kernel
theorem d4_28 : decode prog_7_method_3_code 28 = .ok (.getfield 7, 3) := by decide +kernel
theorem d4_31 : decode prog_7_method_3_code 31 = .ok (.arraylength, 1) := by decide +kernel
theorem d4_32 : decode prog_7_method_3_code 32 = .ok (.if_icmp .ge 33, 3) := by decide +kernel
theorem d4_35 : decode prog_7_method_3_code 35 = .ok (.lload 6, 2) := by decide +kernel
theorem d4_37 : decode prog_7_method_3_code 37 = .ok (.lload_n 2, 1) := by decide +kernel
theorem d4_38 : decode prog_7_method_3_code 38 = .ok (.lcmp, 1) := by decide +kernel
theorem d4_39 : decode prog_7_method_3_code 39 = .ok (.ifCond .ge 26, 3) := by decide +kernel
theorem d4_42 : decode prog_7_method_3_code 42 = .ok (.lload 6, 2) := by decide +kernel
theorem d4_44 : decode prog_7_method_3_code 44 = .ok (.aload_n 0, 1) := by decide +kernel
theorem d4_45 : decode prog_7_method_3_code 45 = .ok (.getfield 7, 3) := by decide +kernel
theorem d4_48 : decode prog_7_method_3_code 48 = .ok (.iload 8, 2) := by decide +kernel
theorem d4_50 : decode prog_7_method_3_code 50 = .ok (.laload, 1) := by decide +kernel
theorem d4_51 : decode prog_7_method_3_code 51 = .ok (.ladd, 1) := by decide +kernel
theorem d4_52 : decode prog_7_method_3_code 52 = .ok (.lstore 6, 2) := by decide +kernel
theorem d4_54 : decode prog_7_method_3_code 54 = .ok (.iload 8, 2) := by decide +kernel
theorem d4_56 : decode prog_7_method_3_code 56 = .ok (.i2l, 1) := by decide +kernel
theorem d4_57 : decode prog_7_method_3_code 57 = .ok (.lstore 4, 2) := by decide +kernel
theorem d4_59 : decode prog_7_method_3_code 59 = .ok (.iinc 8 1, 3) := by decide +kernel
theorem d4_62 : decode prog_7_method_3_code 62 = .ok (.goto (-37), 3) := by decide +kernel
set_option maxRecDepth 65536 in
set_option maxHeartbeats 40000000 in
theorem own_perT {p : Program} {l : Launch} {e : Env} {R : Room} {s : State} {m : MethodId} {args : Array Value} {below : List Frame} {meth : Method} {c : Code} {T0 : State} {locs : List Loc} {cells slots : Nat} {Z : State} {aw : Array Value} {h0 : Heap} {P : State → Outcome → Prop} (a0 : Addr) (b : Addr) (n : Int32) (f : Nat → Int64) (p1 : Int32) (rk : Int64) (i : Int32) (sn : Int64) (bd : Int64) (j : Nat)
    (X0 : Stand p l e R s m args below meth c T0 locs cells slots) (hx : p.tables.exec = Jvm.exec) (hZ : Z.Warmed39 s.vm) (hw : ∀ d ∈ tables_1, d.before aw Z = true) (hby : c.code = prog_7_method_3_code) (hml : c.maxLocals = 9) (hown : s.vm.findClass "com/example/flashsafe/flashsafe/Latencies" = some m.cls) (e0 : T0.heap = h0) (PF1 : Fld Z h0 a0 "com/example/flashsafe/flashsafe/Latencies" "counts" "[J" (.ref b)) (V_b : AF Z h0 b .long n (fun i => .long (f i))) (hij : i.toInt = j) (kx : (¬ i < n ∨ ¬ sn < rk) → ∀ T', Stand p l e R s m args below meth c T' locs cells slots → T'.heap = h0 → ∃ s₂ o, Steps p.tables e below (T'.setTop (mkF m 65 #[.val (.ref a0), .val (.int p1), .val (.long rk), .second, .val (.long bd), .second, .val (.long sn), .second, .val (.int i)] [])) s₂ ∧ P s₂ o) (kn : i < n → sn < rk → ∀ T', Stand p l e R s m args below meth c T' locs cells slots → T'.heap = h0 → ∃ s₂ o, Steps p.tables e below (T'.setTop (mkF m 25 #[.val (.ref a0), .val (.int p1), .val (.long rk), .second, .val (.long i.toInt64), .second, .val (.long (sn + f j)), .second, .val (.int (i + (1 : Int32)))] [])) s₂ ∧ P s₂ o) :
    ∃ s₂ o, Steps p.tables e below (T0.setTop (mkF m 25 #[.val (.ref a0), .val (.int p1), .val (.long rk), .second, .val (.long bd), .second, .val (.long sn), .second, .val (.int i)] [])) s₂ ∧ P s₂ o := by
  refine own_by (A' := T0.setTop (mkF m 28 #[.val (.ref a0), .val (.int p1), .val (.long rk), .second, .val (.long bd), .second, .val (.long sn), .second, .val (.int i)] [(.ref a0), (.int i)])) (fun t kt => ?_) ?_
  · show Steps p.tables e below (T0.setTop (mkF m 25 #[.val (.ref a0), .val (.int p1), .val (.long rk), .second, .val (.long bd), .second, .val (.long sn), .second, .val (.int i)] [])) t
    refine XS.iload X0.here hx rfl (hb hby d4_25) rfl ?_
    show Steps p.tables e below (T0.setTop (mkF m 27 #[.val (.ref a0), .val (.int p1), .val (.long rk), .second, .val (.long bd), .second, .val (.long sn), .second, .val (.int i)] [(.int i)])) t
    refine XS.aloadN X0.here hx rfl (hb hby d4_27) rfl rfl ?_
    exact kt
  obtain ⟨T1, X1, e1, st1⟩ := getF X0 hx hZ hown (host := "") (Or.inl (hw _ (List.mem_of_getElem? (i := 12) rfl))) Via.refl e0 PF1 (g := (mkF m 28 #[.val (.ref a0), .val (.int p1), .val (.long rk), .second, .val (.long bd), .second, .val (.long sn), .second, .val (.int i)] [(.ref a0), (.int i)])) rfl rfl (hb hby d4_28)
  refine own_by (A' := T1.setTop (mkF m 31 #[.val (.ref a0), .val (.int p1), .val (.long rk), .second, .val (.long bd), .second, .val (.long sn), .second, .val (.int i)] [(.ref b), (.int i)])) (fun t kt => st1 t kt) ?_
  obtain ⟨cl2, Ar2, Sz2, Mn2, -⟩ := id V_b
  refine own_by (A' := T1.setTop (mkF m 32 #[.val (.ref a0), .val (.int p1), .val (.long rk), .second, .val (.long bd), .second, .val (.long sn), .second, .val (.int i)] [(.int n), (.int i)])) (fun t kt => ?_) ?_
  · show Steps p.tables e below (T1.setTop (mkF m 31 #[.val (.ref a0), .val (.int p1), .val (.long rk), .second, .val (.long bd), .second, .val (.long sn), .second, .val (.int i)] [(.ref b), (.int i)])) t
    refine X1.arraylength hx (by rw [e1]; exact Ar2.1) (State.isArrayOf_alike hZ.alike Ar2.2.1) (g := (mkF m 31 #[.val (.ref a0), .val (.int p1), .val (.long rk), .second, .val (.long bd), .second, .val (.long sn), .second, .val (.int i)] [(.ref b), (.int i)])) rfl rfl (hb hby d4_31) _ ?_
    rw [len_of Sz2 Mn2]
    exact kt
  by_cases hc32_3 : i < n
  · refine own_by (A' := T1.setTop (mkF m 39 #[.val (.ref a0), .val (.int p1), .val (.long rk), .second, .val (.long bd), .second, .val (.long sn), .second, .val (.int i)] [(.int (lcmpW sn rk))])) (fun t kt => ?_) ?_
    · show Steps p.tables e below (T1.setTop (mkF m 32 #[.val (.ref a0), .val (.int p1), .val (.long rk), .second, .val (.long bd), .second, .val (.long sn), .second, .val (.int i)] [(.int n), (.int i)])) t
      refine XS.icmpNo X1.here hx rfl (hb hby d4_32) rfl (tlt hc32_3).2.1 ?_
      show Steps p.tables e below (T1.setTop (mkF m 35 #[.val (.ref a0), .val (.int p1), .val (.long rk), .second, .val (.long bd), .second, .val (.long sn), .second, .val (.int i)] [])) t
      refine XS.lload X1.here hx rfl (hb hby d4_35) rfl ?_
      show Steps p.tables e below (T1.setTop (mkF m 37 #[.val (.ref a0), .val (.int p1), .val (.long rk), .second, .val (.long bd), .second, .val (.long sn), .second, .val (.int i)] [(.long sn)])) t
      refine XS.lloadN X1.here hx rfl (hb hby d4_37) rfl ?_
      show Steps p.tables e below (T1.setTop (mkF m 38 #[.val (.ref a0), .val (.int p1), .val (.long rk), .second, .val (.long bd), .second, .val (.long sn), .second, .val (.int i)] [(.long rk), (.long sn)])) t
      refine XS.lcmp X1.here hx rfl (hb hby d4_38) rfl ?_
      exact kt
    by_cases hc39_4 : sn < rk
    · refine own_by (A' := T1.setTop (mkF m 45 #[.val (.ref a0), .val (.int p1), .val (.long rk), .second, .val (.long bd), .second, .val (.long sn), .second, .val (.int i)] [(.ref a0), (.long sn)])) (fun t kt => ?_) ?_
      · show Steps p.tables e below (T1.setTop (mkF m 39 #[.val (.ref a0), .val (.int p1), .val (.long rk), .second, .val (.long bd), .second, .val (.long sn), .second, .val (.int i)] [(.int (lcmpW sn rk))])) t
        refine XS.ifNo X1.here hx rfl (hb hby d4_39) rfl ((if0 _ _).trans (tlt ((lw_lt _ _).mpr hc39_4)).2.1) ?_
        show Steps p.tables e below (T1.setTop (mkF m 42 #[.val (.ref a0), .val (.int p1), .val (.long rk), .second, .val (.long bd), .second, .val (.long sn), .second, .val (.int i)] [])) t
        refine XS.lload X1.here hx rfl (hb hby d4_42) rfl ?_
        show Steps p.tables e below (T1.setTop (mkF m 44 #[.val (.ref a0), .val (.int p1), .val (.long rk), .second, .val (.long bd), .second, .val (.long sn), .second, .val (.int i)] [(.long sn)])) t
        refine XS.aloadN X1.here hx rfl (hb hby d4_44) rfl rfl ?_
        exact kt
      obtain ⟨T5, X5, e5, st5⟩ := getF X1 hx hZ hown (host := "") (Or.inl (hw _ (List.mem_of_getElem? (i := 12) rfl))) Via.refl e1 PF1 (g := (mkF m 45 #[.val (.ref a0), .val (.int p1), .val (.long rk), .second, .val (.long bd), .second, .val (.long sn), .second, .val (.int i)] [(.ref a0), (.long sn)])) rfl rfl (hb hby d4_45)
      refine own_by (A' := T5.setTop (mkF m 48 #[.val (.ref a0), .val (.int p1), .val (.long rk), .second, .val (.long bd), .second, .val (.long sn), .second, .val (.int i)] [(.ref b), (.long sn)])) (fun t kt => st5 t kt) ?_
      refine own_by (A' := T5.setTop (mkF m 50 #[.val (.ref a0), .val (.int p1), .val (.long rk), .second, .val (.long bd), .second, .val (.long sn), .second, .val (.int i)] [(.int i), (.ref b), (.long sn)])) (fun t kt => ?_) ?_
      · show Steps p.tables e below (T5.setTop (mkF m 48 #[.val (.ref a0), .val (.int p1), .val (.long rk), .second, .val (.long bd), .second, .val (.long sn), .second, .val (.int i)] [(.ref b), (.long sn)])) t
        refine XS.iload X5.here hx rfl (hb hby d4_48) rfl ?_
        exact kt
      obtain ⟨cl6, Ar6, Sz6, Mn6, Ha6⟩ := id V_b
      have hin6 := inb_of (j := i) Sz6 ⟨by rw [Int32.lt_iff_toInt_lt, hij, show (0 : Int32).toInt = 0 from by decide]; omega, hc32_3⟩
      have hat6 : cl6.slots[(i).toNatClampNeg]? = some (.long (f j)) := (Ha6 _ (Nat.lt_of_not_le fun q => hin6 (Or.inr q))).trans (congrArg some (congrArg (fun i => Value.long (f i)) (by simp only [Int32.toNatClampNeg, hij]; omega)))
      refine own_by (A' := T5.setTop (mkF m 25 #[.val (.ref a0), .val (.int p1), .val (.long rk), .second, .val (.long (i.toInt64)), .second, .val (.long (sn + (f j))), .second, .val (.int (i + (1 : Int32)))] [])) (fun t kt => ?_) ?_
      · show Steps p.tables e below (T5.setTop (mkF m 50 #[.val (.ref a0), .val (.int p1), .val (.long rk), .second, .val (.long bd), .second, .val (.long sn), .second, .val (.int i)] [(.int i), (.ref b), (.long sn)])) t
        refine X5.laload hx (j := i) (v := (.long (f j))) (by rw [e5]; exact Ar6.1) (State.isArrayOf_alike hZ.alike Ar6.2.1) Ar6.2.2 hin6 hat6 (g := (mkF m 50 #[.val (.ref a0), .val (.int p1), .val (.long rk), .second, .val (.long bd), .second, .val (.long sn), .second, .val (.int i)] [(.int i), (.ref b), (.long sn)])) rfl rfl (hb hby d4_50) _ ?_
        show Steps p.tables e below (T5.setTop (mkF m 51 #[.val (.ref a0), .val (.int p1), .val (.long rk), .second, .val (.long bd), .second, .val (.long sn), .second, .val (.int i)] [(.long (f j)), (.long sn)])) t
        refine XS.ladd X5.here hx rfl (hb hby d4_51) rfl ?_
        show Steps p.tables e below (T5.setTop (mkF m 52 #[.val (.ref a0), .val (.int p1), .val (.long rk), .second, .val (.long bd), .second, .val (.long sn), .second, .val (.int i)] [(.long (sn + (f j)))])) t
        refine XS.lstore X5.here hx rfl (hb hby d4_52) rfl (l' := #[.val (.ref a0), .val (.int p1), .val (.long rk), .second, .val (.long bd), .second, .val (.long (sn + (f j))), .second, .val (.int i)]) rfl ?_
        show Steps p.tables e below (T5.setTop (mkF m 54 #[.val (.ref a0), .val (.int p1), .val (.long rk), .second, .val (.long bd), .second, .val (.long (sn + (f j))), .second, .val (.int i)] [])) t
        refine XS.iload X5.here hx rfl (hb hby d4_54) rfl ?_
        show Steps p.tables e below (T5.setTop (mkF m 56 #[.val (.ref a0), .val (.int p1), .val (.long rk), .second, .val (.long bd), .second, .val (.long (sn + (f j))), .second, .val (.int i)] [(.int i)])) t
        refine XS.i2l X5.here hx rfl (hb hby d4_56) rfl ?_
        show Steps p.tables e below (T5.setTop (mkF m 57 #[.val (.ref a0), .val (.int p1), .val (.long rk), .second, .val (.long bd), .second, .val (.long (sn + (f j))), .second, .val (.int i)] [(.long (i.toInt64))])) t
        refine XS.lstore X5.here hx rfl (hb hby d4_57) rfl (l' := #[.val (.ref a0), .val (.int p1), .val (.long rk), .second, .val (.long (i.toInt64)), .second, .val (.long (sn + (f j))), .second, .val (.int i)]) rfl ?_
        show Steps p.tables e below (T5.setTop (mkF m 59 #[.val (.ref a0), .val (.int p1), .val (.long rk), .second, .val (.long (i.toInt64)), .second, .val (.long (sn + (f j))), .second, .val (.int i)] [])) t
        refine XS.iinc X5.here hx rfl (hb hby d4_59) rfl (l' := #[.val (.ref a0), .val (.int p1), .val (.long rk), .second, .val (.long (i.toInt64)), .second, .val (.long (sn + (f j))), .second, .val (.int (i + (1 : Int32)))]) rfl ?_
        show Steps p.tables e below (T5.setTop (mkF m 62 #[.val (.ref a0), .val (.int p1), .val (.long rk), .second, .val (.long (i.toInt64)), .second, .val (.long (sn + (f j))), .second, .val (.int (i + (1 : Int32)))] [])) t
        refine XS.goto X5.here hx rfl (pc0 := 62) (pc' := 25) rfl (hb hby d4_62) (by decide) (by decide) ?_
        exact kt
      exact kn hc32_3 hc39_4 T5 X5 e5
    · refine own_by (A' := T1.setTop (mkF m 65 #[.val (.ref a0), .val (.int p1), .val (.long rk), .second, .val (.long bd), .second, .val (.long sn), .second, .val (.int i)] [])) (fun t kt => ?_) ?_
      · show Steps p.tables e below (T1.setTop (mkF m 39 #[.val (.ref a0), .val (.int p1), .val (.long rk), .second, .val (.long bd), .second, .val (.long sn), .second, .val (.int i)] [(.int (lcmpW sn rk))])) t
        refine XS.ifYes X1.here hx rfl (pc0 := 39) (pc' := 65) rfl (hb hby d4_39) rfl ((if0 _ _).trans (flt (fun q => hc39_4 ((lw_lt _ _).mp q))).2.1) (by decide) (by decide) ?_
        exact kt
      exact kx (Or.inr hc39_4) T1 X1 e1
  · refine own_by (A' := T1.setTop (mkF m 65 #[.val (.ref a0), .val (.int p1), .val (.long rk), .second, .val (.long bd), .second, .val (.long sn), .second, .val (.int i)] [])) (fun t kt => ?_) ?_
    · show Steps p.tables e below (T1.setTop (mkF m 32 #[.val (.ref a0), .val (.int p1), .val (.long rk), .second, .val (.long bd), .second, .val (.long sn), .second, .val (.int i)] [(.int n), (.int i)])) t
      refine XS.icmpYes X1.here hx rfl (pc0 := 32) (pc' := 65) rfl (hb hby d4_32) rfl (flt hc32_3).2.1 (by decide) (by decide) ?_
      exact kt
    exact kx (Or.inl hc32_3) T1 X1 e1
theorem own_perL {p : Program} {l : Launch} {e : Env} {R : Room} {s : State} {m : MethodId} {args : Array Value} {below : List Frame} {meth : Method} {c : Code} {locs : List Loc} {cells slots : Nat} {Z : State} {aw : Array Value} {h0 : Heap} {P : State → Outcome → Prop} (a0 b : Addr) (n : Int32) (f : Nat → Int64) (p1 : Int32) (rk : Int64)
    (hx : p.tables.exec = Jvm.exec) (hZ : Z.Warmed39 s.vm) (hw : ∀ d ∈ tables_1, d.before aw Z = true) (hby : c.code = prog_7_method_3_code) (hml : c.maxLocals = 9) (hown : s.vm.findClass "com/example/flashsafe/flashsafe/Latencies" = some m.cls) (PF1 : Fld Z h0 a0 "com/example/flashsafe/flashsafe/Latencies" "counts" "[J" (.ref b)) (V_b : AF Z h0 b .long n (fun i => .long (f i)))
    (hf : ∀ i, 0 ≤ (f i).toInt) (hcb : ∀ j, own_cum f j ≤ 1000) (hrk : rk.toInt ≤ own_cum f n.toNatClampNeg) (hn0 : 0 ≤ n.toInt)
    (k : ∀ T' i sn bd, Stand p l e R s m args below meth c T' locs cells slots → T'.heap = h0 → own_Per f rk bd → ∃ s₂ o, Steps p.tables e below (T'.setTop (mkF m 65 #[.val (.ref a0), .val (.int p1), .val (.long rk), .second, .val (.long bd), .second, .val (.long sn), .second, .val (.int i)] [])) s₂ ∧ P s₂ o) :
    ∀ (q j : Nat) (i : Int32) (sn bd : Int64) (T0 : State), (j : Int) + q = n.toInt → i.toInt = j → sn.toInt = own_cum f j → ((j = 0 ∧ bd.toInt = 0) ∨ (∃ j', j = j' + 1 ∧ bd.toInt = j' ∧ own_cum f j' < rk.toInt)) → Stand p l e R s m args below meth c T0 locs cells slots → T0.heap = h0 → ∃ s₂ o, Steps p.tables e below (T0.setTop (mkF m 25 #[.val (.ref a0), .val (.int p1), .val (.long rk), .second, .val (.long bd), .second, .val (.long sn), .second, .val (.int i)] [])) s₂ ∧ P s₂ o := by
  have cpos : ∀ j, 0 ≤ own_cum f j := by
    intro j
    induction j with
    | zero => exact Int.le_refl _
    | succ j ih => have := hf j; simp only [own_cum]; omega
  have fin : ∀ (j : Nat) (sn bd : Int64), sn.toInt = own_cum f j → ((j = 0 ∧ bd.toInt = 0) ∨ (∃ j', j = j' + 1 ∧ bd.toInt = j' ∧ own_cum f j' < rk.toInt)) → rk.toInt ≤ sn.toInt → own_Per f rk bd := by
    intro j sn bd hs hb hr
    rcases hb with ⟨rfl, q⟩ | ⟨j', rfl, q1, q2⟩
    · left; simp only [own_cum] at hs; exact ⟨by omega, q⟩
    · right; exact ⟨j', q1, q2, by omega⟩
  intro q
  induction q with
  | zero =>
    intro j i sn bd T0 hj hi hs hb X0 e0
    have hn : n.toNatClampNeg = j := by simp only [Int32.toNatClampNeg]; omega
    refine own_perT a0 b n f p1 rk i sn bd j X0 hx hZ hw hby hml hown e0 PF1 V_b hi (fun _ T' X' e' => k T' i sn bd X' e' (fin j sn bd hs hb (by rw [hs, ← hn]; exact hrk))) (fun hlt => ?_)
    rw [Int32.lt_iff_toInt_lt] at hlt; omega
  | succ q ih =>
    intro j i sn bd T0 hj hi hs hb X0 e0
    refine own_perT a0 b n f p1 rk i sn bd j X0 hx hZ hw hby hml hown e0 PF1 V_b hi (fun hor T' X' e' => k T' i sn bd X' e' (fin j sn bd hs hb ?_)) (fun _ hsr T' X' e' => ?_)
    · rcases hor with h | h
      · rw [Int32.lt_iff_toInt_lt] at h; omega
      · rw [Int64.lt_iff_toInt_lt] at h; omega
    · rw [Int64.lt_iff_toInt_lt] at hsr
      have a1 := c_iadd i 1; have a2 := rng32 (i + 1); have a3 := rng32 n; rw [show (1 : Int32).toInt = 1 from by decide] at a1
      have b1 := c_ladd sn (f j); have b2 := rng64 (sn + f j); have b3 := hcb (j + 1); have b4 := cpos j; have b5 := hf j
      simp only [own_cum] at b3
      exact ih (j + 1) (i + 1) (sn + f j) i.toInt64 T' (by omega) (by omega) (by simp only [own_cum]; omega) (Or.inr ⟨j, rfl, by rw [c_i2l]; exact hi, by omega⟩) X' e'
def own_rank (p1 : Int32) (tot : Int64) : Int64 := ((p1.toInt64 * tot) + (999 : Int64)) / (1000 : Int64)
theorem d4_0 : decode prog_7_method_3_code 0 = .ok (.iload_n 1, 1) := by decide +kernel
theorem d4_1 : decode prog_7_method_3_code 1 = .ok (.i2l, 1) := by decide +kernel
theorem d4_2 : decode prog_7_method_3_code 2 = .ok (.aload_n 0, 1) := by decide +kernel
theorem d4_3 : decode prog_7_method_3_code 3 = .ok (.getfield 31, 3) := by decide +kernel
theorem d4_6 : decode prog_7_method_3_code 6 = .ok (.lmul, 1) := by decide +kernel
theorem d4_7 : decode prog_7_method_3_code 7 = .ok (.ldc2_w 35, 3) := by decide +kernel
theorem d4_10 : decode prog_7_method_3_code 10 = .ok (.ladd, 1) := by decide +kernel
theorem d4_11 : decode prog_7_method_3_code 11 = .ok (.ldc2_w 37, 3) := by decide +kernel
theorem d4_14 : decode prog_7_method_3_code 14 = .ok (.ldiv, 1) := by decide +kernel
theorem d4_15 : decode prog_7_method_3_code 15 = .ok (.lstore_n 2, 1) := by decide +kernel
theorem d4_16 : decode prog_7_method_3_code 16 = .ok (.lconst 0, 1) := by decide +kernel
theorem d4_17 : decode prog_7_method_3_code 17 = .ok (.lstore 4, 2) := by decide +kernel
theorem d4_19 : decode prog_7_method_3_code 19 = .ok (.lconst 0, 1) := by decide +kernel
theorem d4_20 : decode prog_7_method_3_code 20 = .ok (.lstore 6, 2) := by decide +kernel
theorem d4_22 : decode prog_7_method_3_code 22 = .ok (.iconst 0, 1) := by decide +kernel
theorem d4_23 : decode prog_7_method_3_code 23 = .ok (.istore 8, 2) := by decide +kernel
theorem d4_65 : decode prog_7_method_3_code 65 = .ok (.lload 4, 2) := by decide +kernel
theorem d4_67 : decode prog_7_method_3_code 67 = .ok (.lreturn, 1) := by decide +kernel
theorem ef_rm4 (m : MethodId) (a0 : Addr) (p1 : Int32) : entryFrame m #[(.ref a0), (.int p1)] 9 = mkF m 0 #[.val (.ref a0), .val (.int p1), .unset, .unset, .unset, .unset, .unset, .unset, .unset] [] := by first | (simp [entryFrame, mkF, argsToLocals, Value.category]; done) | rfl
def Q4 (Z : State) (a0 : Addr) (p1 : Int32) (b : Addr) (n : Int32) (f : Nat → Int64) (tot : Int64) (h0 : Heap) (n0 : Nat) (v : Option Value) (h : Heap) (L : List Loc) : Prop := ∃ r : Int64, v = some (.long r) ∧ Fr n0 L ∧ h = h0 ∧ own_Per f (own_rank p1 tot) r
set_option maxRecDepth 65536 in
set_option maxHeartbeats 40000000 in
theorem rm4 (l : Launch) (Z : State) (aw : Array Value) (hw : ∀ d ∈ tables_1, d.before aw Z = true) (ws : List Jvm.Cond) (a0 : Addr) (p1 : Int32) (b : Addr) (n : Int32) (f : Nat → Int64) (tot : Int64) (h0 : Heap) (n0 : Nat) (Z0 : n0 ≤ h0.size) (PF1 : Fld Z h0 a0 "com/example/flashsafe/flashsafe/Latencies" "counts" "[J" (.ref b)) (PF2 : Fld Z h0 a0 "com/example/flashsafe/flashsafe/Latencies" "total" "J" (.long tot)) (V_b : AF Z h0 b .long n (fun i => .long (f i))) (hf : ∀ i, 0 ≤ (f i).toInt) (hcb : ∀ j, own_cum f j ≤ 1000) (hrk : (own_rank p1 tot).toInt ≤ own_cum f n.toNatClampNeg) (hn0 : 0 ≤ n.toInt) :
    MetFree l (⟨"com/example/flashsafe/flashsafe/Latencies", "percentile", "(I)J"⟩ : MethodName) (head1 (Jvm.Cond.code (⟨"com/example/flashsafe/flashsafe/Latencies", "percentile", "(I)J"⟩ : MethodName) prog_7_method_3_code 9 (some .long) :: ws) ({ frames := 0, cells := 0, slots := 0, locals := 0 } : Room)) (fun a U => a = #[(.ref a0), (.int p1)] ∧ Z.Warmed39 U.vm ∧ U.heap = h0) (fun _ _ _ _ _ => True) (fun _ U o U' => ∃ v L, o = .returned v ∧ Q4 Z a0 p1 b n f tot h0 n0 v U'.heap L ∧ FrameEnd U o U' L ({ frames := 0, cells := 0, slots := 0, locals := 0 } : Room).cells ({ frames := 0, cells := 0, slots := 0, locals := 0 } : Room).slots) := by
  refine MetFree.of_bodySF (plainFor_of_name pn_0) hisR ?_
  intro p e s m args below meth c s₁ Bd hml0 hP hK
  obtain ⟨rfl, hZ, hh⟩ := hP
  have hx := Bd.exec
  have hby := Bd.bytes
  have hml : c.maxLocals = 9 := hml0
  have hown : s.vm.findClass "com/example/flashsafe/flashsafe/Latencies" = some m.cls := findClass_of_methodNamed Bd.named
  have hnm := (name_of_methodNamed Bd.named Bd.method).1
  have X0 : Stand p l e ({ frames := 0, cells := 0, slots := 0, locals := 0 } : Room) s m #[(.ref a0), (.int p1)] below meth c s₁ [] 0 0 := Stand.of_body Bd
  have e0 : s₁.heap = h0 := by rw [← hh, Bd.state]; rfl
  have N0 := Fr.nil n0
  have K0 : Keep h0 h0 [] := Keep.refl _ _
  refine own_by (A' := s₁.setTop (mkF m 0 #[.val (.ref a0), .val (.int p1), .unset, .unset, .unset, .unset, .unset, .unset, .unset] [])) (fun t k => castTop (ef_rm4 m a0 p1) k) ?_
  refine own_by (A' := s₁.setTop (mkF m 3 #[.val (.ref a0), .val (.int p1), .unset, .unset, .unset, .unset, .unset, .unset, .unset] [(.ref a0), (.long (p1.toInt64))])) (fun t kt => ?_) ?_
  · show Steps p.tables e below (s₁.setTop (mkF m 0 #[.val (.ref a0), .val (.int p1), .unset, .unset, .unset, .unset, .unset, .unset, .unset] [])) t
    refine XS.iloadN X0.here hx rfl (hb hby d4_0) rfl ?_
    show Steps p.tables e below (s₁.setTop (mkF m 1 #[.val (.ref a0), .val (.int p1), .unset, .unset, .unset, .unset, .unset, .unset, .unset] [(.int p1)])) t
    refine XS.i2l X0.here hx rfl (hb hby d4_1) rfl ?_
    show Steps p.tables e below (s₁.setTop (mkF m 2 #[.val (.ref a0), .val (.int p1), .unset, .unset, .unset, .unset, .unset, .unset, .unset] [(.long (p1.toInt64))])) t
    refine XS.aloadN X0.here hx rfl (hb hby d4_2) rfl rfl ?_
    exact kt
  obtain ⟨T1, X1, e1, st1⟩ := getF X0 hx hZ hown (host := "") (Or.inl (hw _ (List.mem_of_getElem? (i := 21) rfl))) Via.refl e0 PF2 (g := (mkF m 3 #[.val (.ref a0), .val (.int p1), .unset, .unset, .unset, .unset, .unset, .unset, .unset] [(.ref a0), (.long (p1.toInt64))])) rfl rfl (hb hby d4_3)
  refine own_by (A' := T1.setTop (mkF m 6 #[.val (.ref a0), .val (.int p1), .unset, .unset, .unset, .unset, .unset, .unset, .unset] [(.long tot), (.long (p1.toInt64))])) (fun t kt => st1 t kt) ?_
  refine own_by (A' := T1.setTop (mkF m 25 #[.val (.ref a0), .val (.int p1), .val (.long ((((p1.toInt64) * tot) + (999 : Int64)) / (1000 : Int64))), .second, .val (.long (0 : Int64)), .second, .val (.long (0 : Int64)), .second, .val (.int (0 : Int32))] [])) (fun t kt => ?_) ?_
  · show Steps p.tables e below (T1.setTop (mkF m 6 #[.val (.ref a0), .val (.int p1), .unset, .unset, .unset, .unset, .unset, .unset, .unset] [(.long tot), (.long (p1.toInt64))])) t
    refine XS.lmul X1.here hx rfl (hb hby d4_6) rfl ?_
    show Steps p.tables e below (T1.setTop (mkF m 7 #[.val (.ref a0), .val (.int p1), .unset, .unset, .unset, .unset, .unset, .unset, .unset] [(.long ((p1.toInt64) * tot))])) t
    refine X1.ldc2Long hx hown (mvT hZ (hw _ (List.mem_of_getElem? (i := 28) rfl))) (g := (mkF m 7 #[.val (.ref a0), .val (.int p1), .unset, .unset, .unset, .unset, .unset, .unset, .unset] [(.long ((p1.toInt64) * tot))])) rfl (hb hby d4_7) _ ?_
    show Steps p.tables e below (T1.setTop (mkF m 10 #[.val (.ref a0), .val (.int p1), .unset, .unset, .unset, .unset, .unset, .unset, .unset] [(.long (999 : Int64)), (.long ((p1.toInt64) * tot))])) t
    refine XS.ladd X1.here hx rfl (hb hby d4_10) rfl ?_
    show Steps p.tables e below (T1.setTop (mkF m 11 #[.val (.ref a0), .val (.int p1), .unset, .unset, .unset, .unset, .unset, .unset, .unset] [(.long (((p1.toInt64) * tot) + (999 : Int64)))])) t
    refine X1.ldc2Long hx hown (mvT hZ (hw _ (List.mem_of_getElem? (i := 29) rfl))) (g := (mkF m 11 #[.val (.ref a0), .val (.int p1), .unset, .unset, .unset, .unset, .unset, .unset, .unset] [(.long (((p1.toInt64) * tot) + (999 : Int64)))])) rfl (hb hby d4_11) _ ?_
    show Steps p.tables e below (T1.setTop (mkF m 14 #[.val (.ref a0), .val (.int p1), .unset, .unset, .unset, .unset, .unset, .unset, .unset] [(.long (1000 : Int64)), (.long (((p1.toInt64) * tot) + (999 : Int64)))])) t
    refine XS.ldiv X1.here hx rfl (hb hby d4_14) rfl (by decide) ?_
    show Steps p.tables e below (T1.setTop (mkF m 15 #[.val (.ref a0), .val (.int p1), .unset, .unset, .unset, .unset, .unset, .unset, .unset] [(.long ((((p1.toInt64) * tot) + (999 : Int64)) / (1000 : Int64)))])) t
    refine XS.lstoreN X1.here hx rfl (hb hby d4_15) rfl (l' := #[.val (.ref a0), .val (.int p1), .val (.long ((((p1.toInt64) * tot) + (999 : Int64)) / (1000 : Int64))), .second, .unset, .unset, .unset, .unset, .unset]) rfl ?_
    show Steps p.tables e below (T1.setTop (mkF m 16 #[.val (.ref a0), .val (.int p1), .val (.long ((((p1.toInt64) * tot) + (999 : Int64)) / (1000 : Int64))), .second, .unset, .unset, .unset, .unset, .unset] [])) t
    refine XS.lconst X1.here hx rfl (hb hby d4_16) ?_
    show Steps p.tables e below (T1.setTop (mkF m 17 #[.val (.ref a0), .val (.int p1), .val (.long ((((p1.toInt64) * tot) + (999 : Int64)) / (1000 : Int64))), .second, .unset, .unset, .unset, .unset, .unset] [(.long (0 : Int64))])) t
    refine XS.lstore X1.here hx rfl (hb hby d4_17) rfl (l' := #[.val (.ref a0), .val (.int p1), .val (.long ((((p1.toInt64) * tot) + (999 : Int64)) / (1000 : Int64))), .second, .val (.long (0 : Int64)), .second, .unset, .unset, .unset]) rfl ?_
    show Steps p.tables e below (T1.setTop (mkF m 19 #[.val (.ref a0), .val (.int p1), .val (.long ((((p1.toInt64) * tot) + (999 : Int64)) / (1000 : Int64))), .second, .val (.long (0 : Int64)), .second, .unset, .unset, .unset] [])) t
    refine XS.lconst X1.here hx rfl (hb hby d4_19) ?_
    show Steps p.tables e below (T1.setTop (mkF m 20 #[.val (.ref a0), .val (.int p1), .val (.long ((((p1.toInt64) * tot) + (999 : Int64)) / (1000 : Int64))), .second, .val (.long (0 : Int64)), .second, .unset, .unset, .unset] [(.long (0 : Int64))])) t
    refine XS.lstore X1.here hx rfl (hb hby d4_20) rfl (l' := #[.val (.ref a0), .val (.int p1), .val (.long ((((p1.toInt64) * tot) + (999 : Int64)) / (1000 : Int64))), .second, .val (.long (0 : Int64)), .second, .val (.long (0 : Int64)), .second, .unset]) rfl ?_
    show Steps p.tables e below (T1.setTop (mkF m 22 #[.val (.ref a0), .val (.int p1), .val (.long ((((p1.toInt64) * tot) + (999 : Int64)) / (1000 : Int64))), .second, .val (.long (0 : Int64)), .second, .val (.long (0 : Int64)), .second, .unset] [])) t
    refine XS.iconst X1.here hx rfl (hb hby d4_22) ?_
    show Steps p.tables e below (T1.setTop (mkF m 23 #[.val (.ref a0), .val (.int p1), .val (.long ((((p1.toInt64) * tot) + (999 : Int64)) / (1000 : Int64))), .second, .val (.long (0 : Int64)), .second, .val (.long (0 : Int64)), .second, .unset] [(.int (0 : Int32))])) t
    refine XS.istore X1.here hx rfl (hb hby d4_23) rfl (l' := #[.val (.ref a0), .val (.int p1), .val (.long ((((p1.toInt64) * tot) + (999 : Int64)) / (1000 : Int64))), .second, .val (.long (0 : Int64)), .second, .val (.long (0 : Int64)), .second, .val (.int (0 : Int32))]) rfl ?_
    exact kt
  change ∃ s₂ o, Steps p.tables e below (T1.setTop (mkF m 25 #[.val (.ref a0), .val (.int p1), .val (.long (own_rank p1 tot)), .second, .val (.long (0 : Int64)), .second, .val (.long (0 : Int64)), .second, .val (.int (0 : Int32))] [])) s₂ ∧ _
  refine own_perL a0 b n f p1 (own_rank p1 tot) hx hZ hw hby hml hown PF1 V_b hf hcb hrk hn0 (fun T2 i sn bd X2 e2 hper => ?_) n.toInt.toNat 0 0 0 0 T1 (by omega) (by decide) (show (0 : Int64).toInt = 0 from by decide) (Or.inl ⟨rfl, by decide⟩) X1 e1
  refine own_by (A' := T2.setTop (mkF m 67 #[.val (.ref a0), .val (.int p1), .val (.long (own_rank p1 tot)), .second, .val (.long bd), .second, .val (.long sn), .second, .val (.int i)] [(.long bd)])) (fun t kt => ?_) ?_
  · show Steps p.tables e below (T2.setTop (mkF m 65 #[.val (.ref a0), .val (.int p1), .val (.long (own_rank p1 tot)), .second, .val (.long bd), .second, .val (.long sn), .second, .val (.int i)] [])) t
    refine XS.lload X2.here hx rfl (hb hby d4_65) rfl ?_
    exact kt
  obtain ⟨fs, hr, hrun, hended, hW, hsame⟩ := X2.leave (v := some (.long bd)) (fun h => by rw [Bd.returns] at h; cases h)
  refine ⟨_, _, ?_, hrun, hended, _, _, rfl, ?_, ⟨_, rfl⟩, hW, hsame.mono (by decide) (by decide)⟩
  · exact own_retL X2 hx Bd.returns (hb hby d4_67) hr
  · show Q4 Z a0 p1 b n f tot h0 n0 _ T2.heap _
    rw [e2]
    exact ⟨bd, rfl, N0, rfl, hper⟩
def own_f5 (q0 : Int64) : Int64 := ((q0 + (50000 : Int64)) / (100000 : Int64))
theorem pn_5 : plainName "com/example/flashsafe/flashsafe/LatenciesPercentilePinLaw" = true := by first | (simp [plainName, overriddenIn]; done) | decide +kernel
theorem d5_0 : decode method_2_code 0 = .ok (.lload_n 0, 1) := by decide +kernel
theorem d5_1 : decode method_2_code 1 = .ok (.ldc2_w 7, 3) := by decide +kernel
theorem d5_4 : decode method_2_code 4 = .ok (.ladd, 1) := by decide +kernel
theorem d5_5 : decode method_2_code 5 = .ok (.ldc2_w 9, 3) := by decide +kernel
theorem d5_8 : decode method_2_code 8 = .ok (.ldiv, 1) := by decide +kernel
theorem d5_9 : decode method_2_code 9 = .ok (.lreturn, 1) := by decide +kernel
theorem ef_rm5 (m : MethodId) (q0 : Int64) : entryFrame m #[(.long q0)] 2 = mkF m 0 #[.val (.long q0), .second] [] := by first | (simp [entryFrame, mkF, argsToLocals, Value.category]; done) | rfl
def Q5 (Z : State) (q0 : Int64) (h0 : Heap) (n0 : Nat) (v : Option Value) (h : Heap) (L : List Loc) : Prop := v = some (.long (own_f5 q0)) ∧ Fr n0 L ∧ h = h0
set_option maxRecDepth 65536 in
set_option maxHeartbeats 40000000 in
theorem rm5 (l : Launch) (Z : State) (aw : Array Value) (hw : ∀ d ∈ tables_1, d.before aw Z = true) (ws : List Jvm.Cond) (q0 : Int64) (h0 : Heap) (n0 : Nat) (Z0 : n0 ≤ h0.size) :
    MetFree l (⟨"com/example/flashsafe/flashsafe/LatenciesPercentilePinLaw", "tenths", "(J)J"⟩ : MethodName) (head1 (Jvm.Cond.code (⟨"com/example/flashsafe/flashsafe/LatenciesPercentilePinLaw", "tenths", "(J)J"⟩ : MethodName) method_2_code 2 (some .long) :: ws) ({ frames := 0, cells := 0, slots := 0, locals := 0 } : Room)) (fun a U => a = #[(.long q0)] ∧ Z.Warmed39 U.vm ∧ U.heap = h0) (fun _ _ _ _ _ => True) (fun _ U o U' => ∃ v L, o = .returned v ∧ Q5 Z q0 h0 n0 v U'.heap L ∧ FrameEnd U o U' L ({ frames := 0, cells := 0, slots := 0, locals := 0 } : Room).cells ({ frames := 0, cells := 0, slots := 0, locals := 0 } : Room).slots) := by
  refine MetFree.of_bodySF (plainFor_of_name pn_5) hisR ?_
  intro p e s m args below meth c s₁ Bd hml0 hP hK
  obtain ⟨rfl, hZ, hh⟩ := hP
  have hx := Bd.exec
  have hby := Bd.bytes
  have hml : c.maxLocals = 2 := hml0
  have hown : s.vm.findClass "com/example/flashsafe/flashsafe/LatenciesPercentilePinLaw" = some m.cls := findClass_of_methodNamed Bd.named
  have hnm := (name_of_methodNamed Bd.named Bd.method).1
  have X0 : Stand p l e ({ frames := 0, cells := 0, slots := 0, locals := 0 } : Room) s m #[(.long q0)] below meth c s₁ [] 0 0 := Stand.of_body Bd
  have e0 : s₁.heap = h0 := by rw [← hh, Bd.state]; rfl
  have N0 := Fr.nil n0
  have K0 : Keep h0 h0 [] := Keep.refl _ _
  refine own_by (A' := s₁.setTop (mkF m 0 #[.val (.long q0), .second] [])) (fun t k => castTop (ef_rm5 m q0) k) ?_
  refine own_by (A' := s₁.setTop (mkF m 9 #[.val (.long q0), .second] [(.long ((q0 + (50000 : Int64)) / (100000 : Int64)))])) (fun t kt => ?_) ?_
  · show Steps p.tables e below (s₁.setTop (mkF m 0 #[.val (.long q0), .second] [])) t
    refine XS.lloadN X0.here hx rfl (hb hby d5_0) rfl ?_
    show Steps p.tables e below (s₁.setTop (mkF m 1 #[.val (.long q0), .second] [(.long q0)])) t
    refine X0.ldc2Long hx hown (mvT hZ (hw _ (List.mem_of_getElem? (i := 34) rfl))) (g := (mkF m 1 #[.val (.long q0), .second] [(.long q0)])) rfl (hb hby d5_1) _ ?_
    show Steps p.tables e below (s₁.setTop (mkF m 4 #[.val (.long q0), .second] [(.long (50000 : Int64)), (.long q0)])) t
    refine XS.ladd X0.here hx rfl (hb hby d5_4) rfl ?_
    show Steps p.tables e below (s₁.setTop (mkF m 5 #[.val (.long q0), .second] [(.long (q0 + (50000 : Int64)))])) t
    refine X0.ldc2Long hx hown (mvT hZ (hw _ (List.mem_of_getElem? (i := 35) rfl))) (g := (mkF m 5 #[.val (.long q0), .second] [(.long (q0 + (50000 : Int64)))])) rfl (hb hby d5_5) _ ?_
    show Steps p.tables e below (s₁.setTop (mkF m 8 #[.val (.long q0), .second] [(.long (100000 : Int64)), (.long (q0 + (50000 : Int64)))])) t
    refine XS.ldiv X0.here hx rfl (hb hby d5_8) rfl (by decide) ?_
    exact kt
  obtain ⟨fs, hr, hrun, hended, hW, hsame⟩ := X0.leave (v := some (.long ((q0 + (50000 : Int64)) / (100000 : Int64)))) (fun h => by rw [Bd.returns] at h; cases h)
  refine ⟨_, _, ?_, hrun, hended, _, _, rfl, ?_, ⟨_, rfl⟩, hW, hsame.mono (by decide) (by decide)⟩
  · exact own_retL X0 hx Bd.returns (hb hby d5_9) hr
  · show Q5 Z q0 h0 n0 _ s₁.heap _
    rw [e0]
    exact ⟨rfl, N0, rfl⟩
theorem own_j1 (x y z j : Nat) (h1 : (if x < j then (1 : Int) else 0) + (if y < j then 1 else 0) + (if z < j then 1 else 0) < 1) (h2 : 1 ≤ (if x < j + 1 then (1 : Int) else 0) + (if y < j + 1 then 1 else 0) + (if z < j + 1 then 1 else 0)) : (j : Int) = min (x : Int) (min y z) := by omega
theorem own_j2 (x y z j : Nat) (h1 : (if x < j then (1 : Int) else 0) + (if y < j then 1 else 0) + (if z < j then 1 else 0) < 2) (h2 : 2 ≤ (if x < j + 1 then (1 : Int) else 0) + (if y < j + 1 then 1 else 0) + (if z < j + 1 then 1 else 0)) : (j : Int) = x + y + z - min (x : Int) (min y z) - max (x : Int) (max y z) := by omega
theorem own_j3 (x y z j : Nat) (h1 : (if x < j then (1 : Int) else 0) + (if y < j then 1 else 0) + (if z < j then 1 else 0) < 3) (h2 : 3 ≤ (if x < j + 1 then (1 : Int) else 0) + (if y < j + 1 then 1 else 0) + (if z < j + 1 then 1 else 0)) : (j : Int) = max (x : Int) (max y z) := by omega
theorem own_m27 (a : Int64) : 0 ≤ (a &&& (134217727 : Int64)).toInt ∧ (a &&& (134217727 : Int64)).toInt ≤ 134217727 := by
  have h := c_maskL a 134217727 27 (by decide) (by decide)
  omega
theorem own_k3 (a : Int32) : 0 ≤ (a &&& (3 : Int32)).toInt ∧ (a &&& (3 : Int32)).toInt ≤ 3 := by
  have h := c_mask a 3 2 (by decide) (by decide)
  omega
theorem own_pm (a : Int32) : 1 ≤ ((1 : Int32) + (a &&& (2147483647 : Int32)) % (1000 : Int32)).toInt ∧ ((1 : Int32) + (a &&& (2147483647 : Int32)) % (1000 : Int32)).toInt ≤ 1000 := by
  have h := c_mask a 2147483647 31 (by decide) (by decide)
  have h2 := c_irem (a &&& (2147483647 : Int32)) 1000 1000 (by decide)
  have h3 := c_iadd 1 ((a &&& (2147483647 : Int32)) % (1000 : Int32)); have h4 := rng32 ((1 : Int32) + (a &&& (2147483647 : Int32)) % (1000 : Int32))
  rw [show (1 : Int32).toInt = 1 from by decide] at h3
  omega
theorem own_tt (q : Int64) (h : 0 ≤ q.toInt ∧ q.toInt ≤ 134217727) : (own_ten q).toInt = own_t q ∧ (own_t q : Int) ≤ 1342 := by
  have T := own_tenv q ⟨h.1, by omega⟩
  simp only [own_t]; omega
theorem own_prod (p k : Int32) (K : Int) (hp : 1 ≤ p.toInt ∧ p.toInt ≤ 1000) (hk : k.toInt = K) (hK : K = 0 ∨ K = 1 ∨ K = 2 ∨ K = 3) : (p.toInt64 * k.toInt64).toInt = p.toInt * K := by
  have a := c_lmul p.toInt64 k.toInt64; have b := rng64 (p.toInt64 * k.toInt64)
  rw [c_i2l, c_i2l, hk] at a
  rcases hK with rfl | rfl | rfl | rfl <;> omega
theorem own_rk (p : Int32) (t : Int64) (K : Int) (hp : 1 ≤ p.toInt ∧ p.toInt ≤ 1000) (hk : t.toInt = K) (hK : K = 0 ∨ K = 1 ∨ K = 2 ∨ K = 3) : (own_rank p t).toInt = (p.toInt * K + 999) / 1000 := by
  have a := c_lmul p.toInt64 t; have b := rng64 (p.toInt64 * t)
  rw [c_i2l, hk] at a
  have a2 := c_ladd (p.toInt64 * t) 999; have b2 := rng64 (p.toInt64 * t + 999)
  rw [show (999 : Int64).toInt = 999 from by decide] at a2
  have x1 : (p.toInt64 * t).toInt = p.toInt * K := by rcases hK with rfl | rfl | rfl | rfl <;> omega
  have x2 : (p.toInt64 * t + 999).toInt = p.toInt * K + 999 := by rw [x1] at a2; clear a b x1; rcases hK with rfl | rfl | rfl | rfl <;> omega
  rw [own_rank, (c_ldiv (p.toInt64 * t + 999) 1000 1000 (by decide) (by decide)).1 (by rw [x2]; clear a b a2 b2 x1 x2; rcases hK with rfl | rfl | rfl | rfl <;> omega), x2]
theorem own_e0 (f : Nat → Int64) (rk r : Int64) (h : own_Per f rk r) (hr : rk.toInt = 0) (hc : ∀ j, own_cum f j = 0) : r = 0 := by
  apply Int64.toInt_inj.mp
  rcases h with h | ⟨j, h1, h2, h3⟩
  · rw [h.2]; decide
  · rw [hc] at h2 h3; omega
theorem own_e1 (f : Nat → Int64) (rk r A : Int64) (x : Nat) (h : own_Per f rk r) (hA : A.toInt = x) (hr : rk.toInt = 1) (hc : ∀ j, own_cum f j = if x < j then 1 else 0) : r = A := by
  apply Int64.toInt_inj.mp
  rcases h with h | ⟨j, h1, h2, h3⟩
  · omega
  · rw [hc] at h2 h3; omega
theorem own_e2 (f : Nat → Int64) (rk r A B vp : Int64) (x y : Nat) (P : Int) (h : own_Per f rk r) (hA : A.toInt = x) (hB : B.toInt = y) (hP : 1 ≤ P ∧ P ≤ 1000) (hv : vp.toInt = P * 2) (hr : rk.toInt = (P * 2 + 999) / 1000) (hc : ∀ j, own_cum f j = (if x < j then 1 else 0) + (if y < j then 1 else 0)) :
    r = (if (if (1000 : Int64) < vp then (if (2000 : Int64) < vp then (3 : Int32) else (2 : Int32)) else (1 : Int32)) = (1 : Int32) then own_f6 A B else own_f7 A B) := by
  have lo := own_minv A B; have hi := own_maxv A B
  have e1 : (1000 : Int64).toInt = 1000 := by decide
  have e2 : (2000 : Int64).toInt = 2000 := by decide
  apply Int64.toInt_inj.mp
  rcases h with h | ⟨j, h1, h2, h3⟩
  · omega
  · rw [hc] at h2 h3
    by_cases c1 : (1000 : Int64) < vp
    · have c2 : ¬ (2000 : Int64) < vp := by rw [Int64.lt_iff_toInt_lt, e2]; omega
      rw [if_pos c1, if_neg c2, if_neg (by decide)]
      rw [Int64.lt_iff_toInt_lt, e1] at c1; omega
    · rw [if_neg c1, if_pos rfl]
      rw [Int64.lt_iff_toInt_lt, e1] at c1; omega
set_option maxHeartbeats 4000000 in
theorem own_e3 (f : Nat → Int64) (rk r A B D vp : Int64) (x y z : Nat) (P : Int) (h : own_Per f rk r) (hA : A.toInt = x) (hB : B.toInt = y) (hD : D.toInt = z) (hx : (x : Int) ≤ 1342 ∧ (y : Int) ≤ 1342 ∧ (z : Int) ≤ 1342) (hP : 1 ≤ P ∧ P ≤ 1000) (hv : vp.toInt = P * 3) (hr : rk.toInt = (P * 3 + 999) / 1000) (hc : ∀ j, own_cum f j = (if x < j then 1 else 0) + (if y < j then 1 else 0) + (if z < j then 1 else 0)) :
    r = (if (if (1000 : Int64) < vp then (if (2000 : Int64) < vp then (3 : Int32) else (2 : Int32)) else (1 : Int32)) = (1 : Int32) then own_f6 A (own_f6 B D) else (if (if (1000 : Int64) < vp then (if (2000 : Int64) < vp then (3 : Int32) else (2 : Int32)) else (1 : Int32)) = (2 : Int32) then ((((A + B) + D) - own_f6 A (own_f6 B D)) - own_f7 A (own_f7 B D)) else own_f7 A (own_f7 B D))) := by
  have lo := own_minv A (own_f6 B D); have lo' := own_minv B D
  have hi := own_maxv A (own_f7 B D); have hi' := own_maxv B D
  generalize own_f6 A (own_f6 B D) = LO at *
  generalize own_f7 A (own_f7 B D) = HI at *
  have s1 : (A + B).toInt = A.toInt + B.toInt := by have a := c_ladd A B; have b := rng64 (A + B); clear h hc; omega
  have s2 : (A + B + D).toInt = A.toInt + B.toInt + D.toInt := by have a := c_ladd (A + B) D; have b := rng64 (A + B + D); clear h hc; omega
  have s3 : (A + B + D - LO).toInt = A.toInt + B.toInt + D.toInt - LO.toInt := by have a := c_lsub (A + B + D) LO; have b := rng64 (A + B + D - LO); clear h hc; omega
  have s4 : (A + B + D - LO - HI).toInt = A.toInt + B.toInt + D.toInt - LO.toInt - HI.toInt := by have a := c_lsub (A + B + D - LO) HI; have b := rng64 (A + B + D - LO - HI); clear h hc; omega
  have e1 : (1000 : Int64).toInt = 1000 := by decide
  have e2 : (2000 : Int64).toInt = 2000 := by decide
  apply Int64.toInt_inj.mp
  rcases h with h | ⟨j, h1, h2, h3⟩
  · omega
  · rw [hc] at h2 h3
    by_cases c1 : (1000 : Int64) < vp
    · by_cases c2 : (2000 : Int64) < vp
      · rw [if_pos c1, if_pos c2, if_neg (by decide), if_neg (by decide)]
        rw [Int64.lt_iff_toInt_lt, e2] at c2
        have r3 : rk.toInt = 3 := by omega
        rw [r3] at h2 h3; have := own_j3 x y z j h2 h3; clear h2 h3 hc; omega
      · rw [if_pos c1, if_neg c2, if_neg (by decide), if_pos rfl]
        rw [Int64.lt_iff_toInt_lt, e2] at c2; rw [Int64.lt_iff_toInt_lt, e1] at c1
        have r2 : rk.toInt = 2 := by omega
        rw [r2] at h2 h3; have := own_j2 x y z j h2 h3; clear h2 h3 hc; omega
    · rw [if_neg c1, if_pos rfl]
      rw [Int64.lt_iff_toInt_lt, e1] at c1
      have r1 : rk.toInt = 1 := by omega
      rw [r1] at h2 h3; have := own_j1 x y z j h2 h3; clear h2 h3 hc; omega
theorem pd_6 : parseMethodDescriptor "()V" = some ⟨[], none⟩ := by decide +kernel
theorem pd_7 : parseMethodDescriptor "(J)V" = some ⟨[.long], none⟩ := by decide +kernel
theorem pd_8 : parseMethodDescriptor "(I)J" = some ⟨[.int], some .long⟩ := by decide +kernel
theorem pd_9 : parseMethodDescriptor "(J)J" = some ⟨[.long], some .long⟩ := by decide +kernel
theorem ef_rm0 (m : MethodId) (q0 : Int64) (q1 : Int64) (q2 : Int64) (p3 : Int32) (p4 : Int32) : entryFrame m #[(.long q0), (.long q1), (.long q2), (.int p3), (.int p4)] maxLocals = mkF m 0 #[.val (.long q0), .second, .val (.long q1), .second, .val (.long q2), .second, .val (.int p3), .val (.int p4), .unset, .unset, .unset, .unset, .unset, .unset, .unset, .unset, .unset, .unset, .unset, .unset, .unset, .unset, .unset, .unset, .unset, .unset, .unset, .unset, .unset, .unset, .unset, .unset, .unset, .unset, .unset, .unset] [] := by first | (simp [entryFrame, mkF, argsToLocals, Value.category, maxLocals]; done) | rfl
def Q0 (Z : State) (q0 : Int64) (q1 : Int64) (q2 : Int64) (p3 : Int32) (p4 : Int32) (h0 : Heap) (n0 : Nat) (v : Option Value) (h : Heap) (L : List Loc) : Prop := v = some (.int 1) ∧ Fr n0 L
set_option maxRecDepth 65536 in
set_option maxHeartbeats 40000000 in
theorem rm0 (l : Launch) (Z : State) (aw : Array Value) (hw : ∀ d ∈ tables_1, d.before aw Z = true) (ws : List Jvm.Cond) (q0 : Int64) (q1 : Int64) (q2 : Int64) (p3 : Int32) (p4 : Int32) (h0 : Heap) (n0 : Nat) (Z0 : n0 ≤ h0.size) :
    MetFree l x (head1 (Jvm.Cond.code x code maxLocals ret :: ws) room_1) (fun a U => a = #[(.long q0), (.long q1), (.long q2), (.int p3), (.int p4)] ∧ Z.Warmed39 U.vm ∧ U.heap = h0) (fun _ _ _ _ _ => True) (fun _ U o U' => ∃ v L, o = .returned v ∧ Q0 Z q0 q1 q2 p3 p4 h0 n0 v U'.heap L ∧ FrameEnd U o U' L 3 3074) := by
  refine MetFree.of_bodySF (plainFor_of_name pn_5) hisR ?_
  intro p e s m args below meth c s₁ Bd hml0 hP hK
  obtain ⟨rfl, hZ, hh⟩ := hP
  have hx := Bd.exec
  have hby := Bd.bytes
  have hml : c.maxLocals = 36 := hml0
  have hown : s.vm.findClass "com/example/flashsafe/flashsafe/LatenciesPercentilePinLaw" = some m.cls := findClass_of_methodNamed Bd.named
  have hnm := (name_of_methodNamed Bd.named Bd.method).1
  have X0 : Stand p l e room_1 s m #[(.long q0), (.long q1), (.long q2), (.int p3), (.int p4)] below meth c s₁ [] 0 0 := Stand.of_body Bd
  have e0 : s₁.heap = h0 := by rw [← hh, Bd.state]; rfl
  have N0 := Fr.nil n0
  have K0 : Keep h0 h0 [] := Keep.refl _ _
  refine own_by (A' := s₁.setTop (mkF m 0 #[.val (.long q0), .second, .val (.long q1), .second, .val (.long q2), .second, .val (.int p3), .val (.int p4), .unset, .unset, .unset, .unset, .unset, .unset, .unset, .unset, .unset, .unset, .unset, .unset, .unset, .unset, .unset, .unset, .unset, .unset, .unset, .unset, .unset, .unset, .unset, .unset, .unset, .unset, .unset, .unset] [])) (fun t k => castTop (ef_rm0 m q0 q1 q2 p3 p4) k) ?_
  refine own_by (A' := s₁.setTop (mkF m 7 #[.val (.long q0), .second, .val (.long q1), .second, .val (.long q2), .second, .val (.int p3), .val (.int p4), .val (.long (q0 &&& (134217727 : Int64))), .second, .unset, .unset, .unset, .unset, .unset, .unset, .unset, .unset, .unset, .unset, .unset, .unset, .unset, .unset, .unset, .unset, .unset, .unset, .unset, .unset, .unset, .unset, .unset, .unset, .unset, .unset] [])) (fun t kt => ?_) ?_
  · show Steps p.tables e below (s₁.setTop (mkF m 0 #[.val (.long q0), .second, .val (.long q1), .second, .val (.long q2), .second, .val (.int p3), .val (.int p4), .unset, .unset, .unset, .unset, .unset, .unset, .unset, .unset, .unset, .unset, .unset, .unset, .unset, .unset, .unset, .unset, .unset, .unset, .unset, .unset, .unset, .unset, .unset, .unset, .unset, .unset, .unset, .unset] [])) t
    refine XS.lloadN X0.here hx rfl (hb hby at_0) rfl ?_
    show Steps p.tables e below (s₁.setTop (mkF m 1 #[.val (.long q0), .second, .val (.long q1), .second, .val (.long q2), .second, .val (.int p3), .val (.int p4), .unset, .unset, .unset, .unset, .unset, .unset, .unset, .unset, .unset, .unset, .unset, .unset, .unset, .unset, .unset, .unset, .unset, .unset, .unset, .unset, .unset, .unset, .unset, .unset, .unset, .unset, .unset, .unset] [(.long q0)])) t
    refine X0.ldc2Long hx hown (mvT hZ (hw _ (List.mem_of_getElem? (i := 0) rfl))) (g := (mkF m 1 #[.val (.long q0), .second, .val (.long q1), .second, .val (.long q2), .second, .val (.int p3), .val (.int p4), .unset, .unset, .unset, .unset, .unset, .unset, .unset, .unset, .unset, .unset, .unset, .unset, .unset, .unset, .unset, .unset, .unset, .unset, .unset, .unset, .unset, .unset, .unset, .unset, .unset, .unset, .unset, .unset] [(.long q0)])) rfl (hb hby at_1) _ ?_
    show Steps p.tables e below (s₁.setTop (mkF m 4 #[.val (.long q0), .second, .val (.long q1), .second, .val (.long q2), .second, .val (.int p3), .val (.int p4), .unset, .unset, .unset, .unset, .unset, .unset, .unset, .unset, .unset, .unset, .unset, .unset, .unset, .unset, .unset, .unset, .unset, .unset, .unset, .unset, .unset, .unset, .unset, .unset, .unset, .unset, .unset, .unset] [(.long (134217727 : Int64)), (.long q0)])) t
    refine XS.land X0.here hx rfl (hb hby at_4) rfl ?_
    show Steps p.tables e below (s₁.setTop (mkF m 5 #[.val (.long q0), .second, .val (.long q1), .second, .val (.long q2), .second, .val (.int p3), .val (.int p4), .unset, .unset, .unset, .unset, .unset, .unset, .unset, .unset, .unset, .unset, .unset, .unset, .unset, .unset, .unset, .unset, .unset, .unset, .unset, .unset, .unset, .unset, .unset, .unset, .unset, .unset, .unset, .unset] [(.long (q0 &&& (134217727 : Int64)))])) t
    refine XS.lstore X0.here hx rfl (hb hby at_5) rfl (l' := #[.val (.long q0), .second, .val (.long q1), .second, .val (.long q2), .second, .val (.int p3), .val (.int p4), .val (.long (q0 &&& (134217727 : Int64))), .second, .unset, .unset, .unset, .unset, .unset, .unset, .unset, .unset, .unset, .unset, .unset, .unset, .unset, .unset, .unset, .unset, .unset, .unset, .unset, .unset, .unset, .unset, .unset, .unset, .unset, .unset]) rfl ?_
    exact kt
  generalize h_va : (q0 &&& (134217727 : Int64)) = va
  have hva := own_m27 q0
  rw [h_va] at hva
  refine own_by (A' := s₁.setTop (mkF m 14 #[.val (.long q0), .second, .val (.long q1), .second, .val (.long q2), .second, .val (.int p3), .val (.int p4), .val (.long va), .second, .val (.long (q1 &&& (134217727 : Int64))), .second, .unset, .unset, .unset, .unset, .unset, .unset, .unset, .unset, .unset, .unset, .unset, .unset, .unset, .unset, .unset, .unset, .unset, .unset, .unset, .unset, .unset, .unset, .unset, .unset] [])) (fun t kt => ?_) ?_
  · show Steps p.tables e below (s₁.setTop (mkF m 7 #[.val (.long q0), .second, .val (.long q1), .second, .val (.long q2), .second, .val (.int p3), .val (.int p4), .val (.long va), .second, .unset, .unset, .unset, .unset, .unset, .unset, .unset, .unset, .unset, .unset, .unset, .unset, .unset, .unset, .unset, .unset, .unset, .unset, .unset, .unset, .unset, .unset, .unset, .unset, .unset, .unset] [])) t
    refine XS.lloadN X0.here hx rfl (hb hby at_7) rfl ?_
    show Steps p.tables e below (s₁.setTop (mkF m 8 #[.val (.long q0), .second, .val (.long q1), .second, .val (.long q2), .second, .val (.int p3), .val (.int p4), .val (.long va), .second, .unset, .unset, .unset, .unset, .unset, .unset, .unset, .unset, .unset, .unset, .unset, .unset, .unset, .unset, .unset, .unset, .unset, .unset, .unset, .unset, .unset, .unset, .unset, .unset, .unset, .unset] [(.long q1)])) t
    refine X0.ldc2Long hx hown (mvT hZ (hw _ (List.mem_of_getElem? (i := 0) rfl))) (g := (mkF m 8 #[.val (.long q0), .second, .val (.long q1), .second, .val (.long q2), .second, .val (.int p3), .val (.int p4), .val (.long va), .second, .unset, .unset, .unset, .unset, .unset, .unset, .unset, .unset, .unset, .unset, .unset, .unset, .unset, .unset, .unset, .unset, .unset, .unset, .unset, .unset, .unset, .unset, .unset, .unset, .unset, .unset] [(.long q1)])) rfl (hb hby at_8) _ ?_
    show Steps p.tables e below (s₁.setTop (mkF m 11 #[.val (.long q0), .second, .val (.long q1), .second, .val (.long q2), .second, .val (.int p3), .val (.int p4), .val (.long va), .second, .unset, .unset, .unset, .unset, .unset, .unset, .unset, .unset, .unset, .unset, .unset, .unset, .unset, .unset, .unset, .unset, .unset, .unset, .unset, .unset, .unset, .unset, .unset, .unset, .unset, .unset] [(.long (134217727 : Int64)), (.long q1)])) t
    refine XS.land X0.here hx rfl (hb hby at_11) rfl ?_
    show Steps p.tables e below (s₁.setTop (mkF m 12 #[.val (.long q0), .second, .val (.long q1), .second, .val (.long q2), .second, .val (.int p3), .val (.int p4), .val (.long va), .second, .unset, .unset, .unset, .unset, .unset, .unset, .unset, .unset, .unset, .unset, .unset, .unset, .unset, .unset, .unset, .unset, .unset, .unset, .unset, .unset, .unset, .unset, .unset, .unset, .unset, .unset] [(.long (q1 &&& (134217727 : Int64)))])) t
    refine XS.lstore X0.here hx rfl (hb hby at_12) rfl (l' := #[.val (.long q0), .second, .val (.long q1), .second, .val (.long q2), .second, .val (.int p3), .val (.int p4), .val (.long va), .second, .val (.long (q1 &&& (134217727 : Int64))), .second, .unset, .unset, .unset, .unset, .unset, .unset, .unset, .unset, .unset, .unset, .unset, .unset, .unset, .unset, .unset, .unset, .unset, .unset, .unset, .unset, .unset, .unset, .unset, .unset]) rfl ?_
    exact kt
  generalize h_vb : (q1 &&& (134217727 : Int64)) = vb
  have hvb := own_m27 q1
  rw [h_vb] at hvb
  refine own_by (A' := s₁.setTop (mkF m 22 #[.val (.long q0), .second, .val (.long q1), .second, .val (.long q2), .second, .val (.int p3), .val (.int p4), .val (.long va), .second, .val (.long vb), .second, .val (.long (q2 &&& (134217727 : Int64))), .second, .unset, .unset, .unset, .unset, .unset, .unset, .unset, .unset, .unset, .unset, .unset, .unset, .unset, .unset, .unset, .unset, .unset, .unset, .unset, .unset, .unset, .unset] [])) (fun t kt => ?_) ?_
  · show Steps p.tables e below (s₁.setTop (mkF m 14 #[.val (.long q0), .second, .val (.long q1), .second, .val (.long q2), .second, .val (.int p3), .val (.int p4), .val (.long va), .second, .val (.long vb), .second, .unset, .unset, .unset, .unset, .unset, .unset, .unset, .unset, .unset, .unset, .unset, .unset, .unset, .unset, .unset, .unset, .unset, .unset, .unset, .unset, .unset, .unset, .unset, .unset] [])) t
    refine XS.lload X0.here hx rfl (hb hby at_14) rfl ?_
    show Steps p.tables e below (s₁.setTop (mkF m 16 #[.val (.long q0), .second, .val (.long q1), .second, .val (.long q2), .second, .val (.int p3), .val (.int p4), .val (.long va), .second, .val (.long vb), .second, .unset, .unset, .unset, .unset, .unset, .unset, .unset, .unset, .unset, .unset, .unset, .unset, .unset, .unset, .unset, .unset, .unset, .unset, .unset, .unset, .unset, .unset, .unset, .unset] [(.long q2)])) t
    refine X0.ldc2Long hx hown (mvT hZ (hw _ (List.mem_of_getElem? (i := 0) rfl))) (g := (mkF m 16 #[.val (.long q0), .second, .val (.long q1), .second, .val (.long q2), .second, .val (.int p3), .val (.int p4), .val (.long va), .second, .val (.long vb), .second, .unset, .unset, .unset, .unset, .unset, .unset, .unset, .unset, .unset, .unset, .unset, .unset, .unset, .unset, .unset, .unset, .unset, .unset, .unset, .unset, .unset, .unset, .unset, .unset] [(.long q2)])) rfl (hb hby at_16) _ ?_
    show Steps p.tables e below (s₁.setTop (mkF m 19 #[.val (.long q0), .second, .val (.long q1), .second, .val (.long q2), .second, .val (.int p3), .val (.int p4), .val (.long va), .second, .val (.long vb), .second, .unset, .unset, .unset, .unset, .unset, .unset, .unset, .unset, .unset, .unset, .unset, .unset, .unset, .unset, .unset, .unset, .unset, .unset, .unset, .unset, .unset, .unset, .unset, .unset] [(.long (134217727 : Int64)), (.long q2)])) t
    refine XS.land X0.here hx rfl (hb hby at_19) rfl ?_
    show Steps p.tables e below (s₁.setTop (mkF m 20 #[.val (.long q0), .second, .val (.long q1), .second, .val (.long q2), .second, .val (.int p3), .val (.int p4), .val (.long va), .second, .val (.long vb), .second, .unset, .unset, .unset, .unset, .unset, .unset, .unset, .unset, .unset, .unset, .unset, .unset, .unset, .unset, .unset, .unset, .unset, .unset, .unset, .unset, .unset, .unset, .unset, .unset] [(.long (q2 &&& (134217727 : Int64)))])) t
    refine XS.lstore X0.here hx rfl (hb hby at_20) rfl (l' := #[.val (.long q0), .second, .val (.long q1), .second, .val (.long q2), .second, .val (.int p3), .val (.int p4), .val (.long va), .second, .val (.long vb), .second, .val (.long (q2 &&& (134217727 : Int64))), .second, .unset, .unset, .unset, .unset, .unset, .unset, .unset, .unset, .unset, .unset, .unset, .unset, .unset, .unset, .unset, .unset, .unset, .unset, .unset, .unset, .unset, .unset]) rfl ?_
    exact kt
  generalize h_vc : (q2 &&& (134217727 : Int64)) = vc
  have hvc := own_m27 q2
  rw [h_vc] at hvc
  refine own_by (A' := s₁.setTop (mkF m 28 #[.val (.long q0), .second, .val (.long q1), .second, .val (.long q2), .second, .val (.int p3), .val (.int p4), .val (.long va), .second, .val (.long vb), .second, .val (.long vc), .second, .val (.int (p3 &&& (3 : Int32))), .unset, .unset, .unset, .unset, .unset, .unset, .unset, .unset, .unset, .unset, .unset, .unset, .unset, .unset, .unset, .unset, .unset, .unset, .unset, .unset, .unset] [])) (fun t kt => ?_) ?_
  · show Steps p.tables e below (s₁.setTop (mkF m 22 #[.val (.long q0), .second, .val (.long q1), .second, .val (.long q2), .second, .val (.int p3), .val (.int p4), .val (.long va), .second, .val (.long vb), .second, .val (.long vc), .second, .unset, .unset, .unset, .unset, .unset, .unset, .unset, .unset, .unset, .unset, .unset, .unset, .unset, .unset, .unset, .unset, .unset, .unset, .unset, .unset, .unset, .unset] [])) t
    refine XS.iload X0.here hx rfl (hb hby at_22) rfl ?_
    show Steps p.tables e below (s₁.setTop (mkF m 24 #[.val (.long q0), .second, .val (.long q1), .second, .val (.long q2), .second, .val (.int p3), .val (.int p4), .val (.long va), .second, .val (.long vb), .second, .val (.long vc), .second, .unset, .unset, .unset, .unset, .unset, .unset, .unset, .unset, .unset, .unset, .unset, .unset, .unset, .unset, .unset, .unset, .unset, .unset, .unset, .unset, .unset, .unset] [(.int p3)])) t
    refine XS.iconst X0.here hx rfl (hb hby at_24) ?_
    show Steps p.tables e below (s₁.setTop (mkF m 25 #[.val (.long q0), .second, .val (.long q1), .second, .val (.long q2), .second, .val (.int p3), .val (.int p4), .val (.long va), .second, .val (.long vb), .second, .val (.long vc), .second, .unset, .unset, .unset, .unset, .unset, .unset, .unset, .unset, .unset, .unset, .unset, .unset, .unset, .unset, .unset, .unset, .unset, .unset, .unset, .unset, .unset, .unset] [(.int (3 : Int32)), (.int p3)])) t
    refine XS.iand X0.here hx rfl (hb hby at_25) rfl ?_
    show Steps p.tables e below (s₁.setTop (mkF m 26 #[.val (.long q0), .second, .val (.long q1), .second, .val (.long q2), .second, .val (.int p3), .val (.int p4), .val (.long va), .second, .val (.long vb), .second, .val (.long vc), .second, .unset, .unset, .unset, .unset, .unset, .unset, .unset, .unset, .unset, .unset, .unset, .unset, .unset, .unset, .unset, .unset, .unset, .unset, .unset, .unset, .unset, .unset] [(.int (p3 &&& (3 : Int32)))])) t
    refine XS.istore X0.here hx rfl (hb hby at_26) rfl (l' := #[.val (.long q0), .second, .val (.long q1), .second, .val (.long q2), .second, .val (.int p3), .val (.int p4), .val (.long va), .second, .val (.long vb), .second, .val (.long vc), .second, .val (.int (p3 &&& (3 : Int32))), .unset, .unset, .unset, .unset, .unset, .unset, .unset, .unset, .unset, .unset, .unset, .unset, .unset, .unset, .unset, .unset, .unset, .unset, .unset, .unset, .unset]) rfl ?_
    exact kt
  generalize h_vk : (p3 &&& (3 : Int32)) = vk
  have hvk := own_k3 p3
  rw [h_vk] at hvk
  refine own_by (A' := s₁.setTop (mkF m 41 #[.val (.long q0), .second, .val (.long q1), .second, .val (.long q2), .second, .val (.int p3), .val (.int p4), .val (.long va), .second, .val (.long vb), .second, .val (.long vc), .second, .val (.int vk), .val (.int ((1 : Int32) + ((p4 &&& (2147483647 : Int32)) % (1000 : Int32)))), .unset, .unset, .unset, .unset, .unset, .unset, .unset, .unset, .unset, .unset, .unset, .unset, .unset, .unset, .unset, .unset, .unset, .unset, .unset, .unset] [])) (fun t kt => ?_) ?_
  · show Steps p.tables e below (s₁.setTop (mkF m 28 #[.val (.long q0), .second, .val (.long q1), .second, .val (.long q2), .second, .val (.int p3), .val (.int p4), .val (.long va), .second, .val (.long vb), .second, .val (.long vc), .second, .val (.int vk), .unset, .unset, .unset, .unset, .unset, .unset, .unset, .unset, .unset, .unset, .unset, .unset, .unset, .unset, .unset, .unset, .unset, .unset, .unset, .unset, .unset] [])) t
    refine XS.iconst X0.here hx rfl (hb hby at_28) ?_
    show Steps p.tables e below (s₁.setTop (mkF m 29 #[.val (.long q0), .second, .val (.long q1), .second, .val (.long q2), .second, .val (.int p3), .val (.int p4), .val (.long va), .second, .val (.long vb), .second, .val (.long vc), .second, .val (.int vk), .unset, .unset, .unset, .unset, .unset, .unset, .unset, .unset, .unset, .unset, .unset, .unset, .unset, .unset, .unset, .unset, .unset, .unset, .unset, .unset, .unset] [(.int (1 : Int32))])) t
    refine XS.iload X0.here hx rfl (hb hby at_29) rfl ?_
    show Steps p.tables e below (s₁.setTop (mkF m 31 #[.val (.long q0), .second, .val (.long q1), .second, .val (.long q2), .second, .val (.int p3), .val (.int p4), .val (.long va), .second, .val (.long vb), .second, .val (.long vc), .second, .val (.int vk), .unset, .unset, .unset, .unset, .unset, .unset, .unset, .unset, .unset, .unset, .unset, .unset, .unset, .unset, .unset, .unset, .unset, .unset, .unset, .unset, .unset] [(.int p4), (.int (1 : Int32))])) t
    refine X0.ldcInt hx hown (mvT hZ (hw _ (List.mem_of_getElem? (i := 1) rfl))) (g := (mkF m 31 #[.val (.long q0), .second, .val (.long q1), .second, .val (.long q2), .second, .val (.int p3), .val (.int p4), .val (.long va), .second, .val (.long vb), .second, .val (.long vc), .second, .val (.int vk), .unset, .unset, .unset, .unset, .unset, .unset, .unset, .unset, .unset, .unset, .unset, .unset, .unset, .unset, .unset, .unset, .unset, .unset, .unset, .unset, .unset] [(.int p4), (.int (1 : Int32))])) rfl (hb hby at_31) _ ?_
    show Steps p.tables e below (s₁.setTop (mkF m 33 #[.val (.long q0), .second, .val (.long q1), .second, .val (.long q2), .second, .val (.int p3), .val (.int p4), .val (.long va), .second, .val (.long vb), .second, .val (.long vc), .second, .val (.int vk), .unset, .unset, .unset, .unset, .unset, .unset, .unset, .unset, .unset, .unset, .unset, .unset, .unset, .unset, .unset, .unset, .unset, .unset, .unset, .unset, .unset] [(.int (2147483647 : Int32)), (.int p4), (.int (1 : Int32))])) t
    refine XS.iand X0.here hx rfl (hb hby at_33) rfl ?_
    show Steps p.tables e below (s₁.setTop (mkF m 34 #[.val (.long q0), .second, .val (.long q1), .second, .val (.long q2), .second, .val (.int p3), .val (.int p4), .val (.long va), .second, .val (.long vb), .second, .val (.long vc), .second, .val (.int vk), .unset, .unset, .unset, .unset, .unset, .unset, .unset, .unset, .unset, .unset, .unset, .unset, .unset, .unset, .unset, .unset, .unset, .unset, .unset, .unset, .unset] [(.int (p4 &&& (2147483647 : Int32))), (.int (1 : Int32))])) t
    refine XS.sipush X0.here hx rfl (hb hby at_34) ?_
    show Steps p.tables e below (s₁.setTop (mkF m 37 #[.val (.long q0), .second, .val (.long q1), .second, .val (.long q2), .second, .val (.int p3), .val (.int p4), .val (.long va), .second, .val (.long vb), .second, .val (.long vc), .second, .val (.int vk), .unset, .unset, .unset, .unset, .unset, .unset, .unset, .unset, .unset, .unset, .unset, .unset, .unset, .unset, .unset, .unset, .unset, .unset, .unset, .unset, .unset] [(.int (1000 : Int32)), (.int (p4 &&& (2147483647 : Int32))), (.int (1 : Int32))])) t
    refine iremM X0 hx rfl (hb hby at_37) rfl (by decide) ?_
    show Steps p.tables e below (s₁.setTop (mkF m 38 #[.val (.long q0), .second, .val (.long q1), .second, .val (.long q2), .second, .val (.int p3), .val (.int p4), .val (.long va), .second, .val (.long vb), .second, .val (.long vc), .second, .val (.int vk), .unset, .unset, .unset, .unset, .unset, .unset, .unset, .unset, .unset, .unset, .unset, .unset, .unset, .unset, .unset, .unset, .unset, .unset, .unset, .unset, .unset] [(.int ((p4 &&& (2147483647 : Int32)) % (1000 : Int32))), (.int (1 : Int32))])) t
    refine XS.iadd X0.here hx rfl (hb hby at_38) rfl ?_
    show Steps p.tables e below (s₁.setTop (mkF m 39 #[.val (.long q0), .second, .val (.long q1), .second, .val (.long q2), .second, .val (.int p3), .val (.int p4), .val (.long va), .second, .val (.long vb), .second, .val (.long vc), .second, .val (.int vk), .unset, .unset, .unset, .unset, .unset, .unset, .unset, .unset, .unset, .unset, .unset, .unset, .unset, .unset, .unset, .unset, .unset, .unset, .unset, .unset, .unset] [(.int ((1 : Int32) + ((p4 &&& (2147483647 : Int32)) % (1000 : Int32))))])) t
    refine XS.istore X0.here hx rfl (hb hby at_39) rfl (l' := #[.val (.long q0), .second, .val (.long q1), .second, .val (.long q2), .second, .val (.int p3), .val (.int p4), .val (.long va), .second, .val (.long vb), .second, .val (.long vc), .second, .val (.int vk), .val (.int ((1 : Int32) + ((p4 &&& (2147483647 : Int32)) % (1000 : Int32)))), .unset, .unset, .unset, .unset, .unset, .unset, .unset, .unset, .unset, .unset, .unset, .unset, .unset, .unset, .unset, .unset, .unset, .unset, .unset, .unset]) rfl ?_
    exact kt
  generalize h_pm : ((1 : Int32) + ((p4 &&& (2147483647 : Int32)) % (1000 : Int32))) = pm
  have hpm := own_pm p4
  rw [h_pm] at hpm
  obtain ⟨T1, h1, X1, e1, E1, A1, D1, -, st1⟩ := newO X0 hx hZ hown (hw _ (List.mem_of_getElem? (i := 2) rfl)) (hw _ (List.mem_of_getElem? (i := 3) rfl)) (hw _ (List.mem_of_getElem? (i := 4) rfl)) e0 (g := (mkF m 41 #[.val (.long q0), .second, .val (.long q1), .second, .val (.long q2), .second, .val (.int p3), .val (.int p4), .val (.long va), .second, .val (.long vb), .second, .val (.long vc), .second, .val (.int vk), .val (.int pm), .unset, .unset, .unset, .unset, .unset, .unset, .unset, .unset, .unset, .unset, .unset, .unset, .unset, .unset, .unset, .unset, .unset, .unset, .unset, .unset] [])) rfl (hb hby at_41) (by decide) (by decide)
  obtain ⟨b1, g1⟩ : ∃ z, z = h0.size := ⟨_, rfl⟩
  rw [← g1] at A1 D1 st1
  have sz_b1 : h0.size ≤ b1 := Nat.le_trans K0.1 (Nat.le_of_eq g1.symm)
  have g_b1 : n0 ≤ b1 := Nat.le_trans Z0 sz_b1
  have K1 : Keep h0 h1 [] := K0.ext E1
  have F_counts_b1 : Fld Z h1 b1 "com/example/flashsafe/flashsafe/Latencies" "counts" "[J" .null := D1 (Or.inl (hw _ (List.mem_of_getElem? (i := 13) rfl))) (ty := (.array .long)) (by decide)
  have F_total_b1 : Fld Z h1 b1 "com/example/flashsafe/flashsafe/Latencies" "total" "J" (.long (0 : Int64)) := D1 (Or.inl (hw _ (List.mem_of_getElem? (i := 22) rfl))) (ty := .long) (by decide)
  refine own_by (A' := T1.setTop (mkF m 44 #[.val (.long q0), .second, .val (.long q1), .second, .val (.long q2), .second, .val (.int p3), .val (.int p4), .val (.long va), .second, .val (.long vb), .second, .val (.long vc), .second, .val (.int vk), .val (.int pm), .unset, .unset, .unset, .unset, .unset, .unset, .unset, .unset, .unset, .unset, .unset, .unset, .unset, .unset, .unset, .unset, .unset, .unset, .unset, .unset] [(.ref b1)])) (fun t kt => st1 t kt) ?_
  refine own_by (A' := T1.setTop (mkF m 45 #[.val (.long q0), .second, .val (.long q1), .second, .val (.long q2), .second, .val (.int p3), .val (.int p4), .val (.long va), .second, .val (.long vb), .second, .val (.long vc), .second, .val (.int vk), .val (.int pm), .unset, .unset, .unset, .unset, .unset, .unset, .unset, .unset, .unset, .unset, .unset, .unset, .unset, .unset, .unset, .unset, .unset, .unset, .unset, .unset] [(.ref b1), (.ref b1)])) (fun t kt => ?_) ?_
  · show Steps p.tables e below (T1.setTop (mkF m 44 #[.val (.long q0), .second, .val (.long q1), .second, .val (.long q2), .second, .val (.int p3), .val (.int p4), .val (.long va), .second, .val (.long vb), .second, .val (.long vc), .second, .val (.int vk), .val (.int pm), .unset, .unset, .unset, .unset, .unset, .unset, .unset, .unset, .unset, .unset, .unset, .unset, .unset, .unset, .unset, .unset, .unset, .unset, .unset, .unset] [(.ref b1)])) t
    refine XS.dup X1.here hx rfl (hb hby at_44) rfl rfl ?_
    exact kt
  obtain ⟨_, _, ⟨T2, L2, k2, n2⟩, -, X2, ⟨Lc2, hQ2, l2, y2, z2⟩, st2⟩ := X1.specialBack hx (y := (⟨"com/example/flashsafe/flashsafe/Latencies", "<init>", "()V"⟩ : MethodName)) rfl hown (mvT hZ (hw _ (List.mem_of_getElem? (i := 5) rfl))) (mvT hZ (hw _ (List.mem_of_getElem? (i := 6) rfl))) (mvT hZ (hw _ (List.mem_of_getElem? (i := 7) rfl))) (by decide) (backOf (W := 1) (rm1 l Z aw hw [] b1 h1 n0 (Nat.le_trans Z0 K1.1) A1 F_counts_b1 F_total_b1 g_b1) hZ (hw _ (List.mem_of_getElem? (i := 7) rfl)) (hw _ (List.mem_of_getElem? (i := 4) rfl)) (by decide) (by decide)) (g := (mkF m 45 #[.val (.long q0), .second, .val (.long q1), .second, .val (.long q2), .second, .val (.int p3), .val (.int p4), .val (.long va), .second, .val (.long vb), .second, .val (.long vc), .second, .val (.int vk), .val (.int pm), .unset, .unset, .unset, .unset, .unset, .unset, .unset, .unset, .unset, .unset, .unset, .unset, .unset, .unset, .unset, .unset, .unset, .unset, .unset, .unset] [(.ref b1), (.ref b1)])) rfl (by rw [hml]; rfl) (Steps.refl _) (a := b1) (argsL := []) (rest := [(.ref b1)]) (lenOf pd_6 rfl) rfl (by show 2 * 0 + _ ≤ _; exact Nat.le_of_eq rfl) (hb hby at_45) (fun _ _ => ⟨rfl, e1, (by decide : 1 + 1 ≤ _), (by decide : 2 + 1024 ≤ _)⟩)
  dsimp only [Pt.U, Pt.locs, Pt.cells, Pt.slots] at X2 l2 y2 z2 st2 hQ2
  subst l2 y2 z2
  obtain ⟨b2, rfl, N2q, Kq2, le2, GE2, G12, G22, V2⟩ := hQ2
  have N2 := Fr.app N0 N2q
  have sz_b2 : h0.size ≤ b2 := Nat.le_trans K1.1 le2
  have g_b2 : n0 ≤ b2 := Nat.le_trans Z0 sz_b2
  have K2 : Keep h0 T2.heap [] := K1.trans Kq2 (allS (Or.inr sz_b1) all0)
  refine own_by (A' := T2.setTop (mkF m 48 #[.val (.long q0), .second, .val (.long q1), .second, .val (.long q2), .second, .val (.int p3), .val (.int p4), .val (.long va), .second, .val (.long vb), .second, .val (.long vc), .second, .val (.int vk), .val (.int pm), .unset, .unset, .unset, .unset, .unset, .unset, .unset, .unset, .unset, .unset, .unset, .unset, .unset, .unset, .unset, .unset, .unset, .unset, .unset, .unset] [(.ref b1)])) (fun t kt => st2.trans kt) ?_
  refine own_by (A' := T2.setTop (mkF m 53 #[.val (.long q0), .second, .val (.long q1), .second, .val (.long q2), .second, .val (.int p3), .val (.int p4), .val (.long va), .second, .val (.long vb), .second, .val (.long vc), .second, .val (.int vk), .val (.int pm), .val (.ref b1), .unset, .unset, .unset, .unset, .unset, .unset, .unset, .unset, .unset, .unset, .unset, .unset, .unset, .unset, .unset, .unset, .unset, .unset, .unset] [(.int (1 : Int32)), (.int vk)])) (fun t kt => ?_) ?_
  · show Steps p.tables e below (T2.setTop (mkF m 48 #[.val (.long q0), .second, .val (.long q1), .second, .val (.long q2), .second, .val (.int p3), .val (.int p4), .val (.long va), .second, .val (.long vb), .second, .val (.long vc), .second, .val (.int vk), .val (.int pm), .unset, .unset, .unset, .unset, .unset, .unset, .unset, .unset, .unset, .unset, .unset, .unset, .unset, .unset, .unset, .unset, .unset, .unset, .unset, .unset] [(.ref b1)])) t
    refine XS.astore X2.here hx rfl (hb hby at_48) rfl rfl (l' := #[.val (.long q0), .second, .val (.long q1), .second, .val (.long q2), .second, .val (.int p3), .val (.int p4), .val (.long va), .second, .val (.long vb), .second, .val (.long vc), .second, .val (.int vk), .val (.int pm), .val (.ref b1), .unset, .unset, .unset, .unset, .unset, .unset, .unset, .unset, .unset, .unset, .unset, .unset, .unset, .unset, .unset, .unset, .unset, .unset, .unset]) rfl ?_
    show Steps p.tables e below (T2.setTop (mkF m 50 #[.val (.long q0), .second, .val (.long q1), .second, .val (.long q2), .second, .val (.int p3), .val (.int p4), .val (.long va), .second, .val (.long vb), .second, .val (.long vc), .second, .val (.int vk), .val (.int pm), .val (.ref b1), .unset, .unset, .unset, .unset, .unset, .unset, .unset, .unset, .unset, .unset, .unset, .unset, .unset, .unset, .unset, .unset, .unset, .unset, .unset] [])) t
    refine XS.iload X2.here hx rfl (hb hby at_50) rfl ?_
    show Steps p.tables e below (T2.setTop (mkF m 52 #[.val (.long q0), .second, .val (.long q1), .second, .val (.long q2), .second, .val (.int p3), .val (.int p4), .val (.long va), .second, .val (.long vb), .second, .val (.long vc), .second, .val (.int vk), .val (.int pm), .val (.ref b1), .unset, .unset, .unset, .unset, .unset, .unset, .unset, .unset, .unset, .unset, .unset, .unset, .unset, .unset, .unset, .unset, .unset, .unset, .unset] [(.int vk)])) t
    refine XS.iconst X2.here hx rfl (hb hby at_52) ?_
    exact kt
  refine own_cut (Φ := fun A' => ∃ (TJ3 : State) (LJ3 : List Loc) (hJ3 : Heap) (bJ : Addr) (nJ : Int32) (fJ : Nat → Int64) (tJ : Int64), A' = TJ3.setTop (mkF m 89 #[.val (.long q0), .second, .val (.long q1), .second, .val (.long q2), .second, .val (.int p3), .val (.int p4), .val (.long va), .second, .val (.long vb), .second, .val (.long vc), .second, .val (.int vk), .val (.int pm), .val (.ref b1), .unset, .unset, .unset, .unset, .unset, .unset, .unset, .unset, .unset, .unset, .unset, .unset, .unset, .unset, .unset, .unset, .unset, .unset, .unset] []) ∧ Stand p l e room_1 s m #[(.long q0), (.long q1), (.long q2), (.int p3), (.int p4)] below meth c TJ3 LJ3 3 3074 ∧ TJ3.heap = hJ3 ∧ Fr n0 LJ3 ∧ Keep h0 hJ3 [] ∧ (Exa Z hJ3 b1 "com/example/flashsafe/flashsafe/Latencies") ∧ (Fld Z hJ3 b1 "com/example/flashsafe/flashsafe/Latencies" "counts" "[J" (.ref bJ)) ∧ (Fld Z hJ3 b1 "com/example/flashsafe/flashsafe/Latencies" "total" "J" (.long tJ)) ∧ (AF Z hJ3 bJ .long nJ (fun i => .long (fJ i))) ∧ (∀ j, own_cum fJ j = (if 1 ≤ vk.toInt ∧ own_t va < j then 1 else 0) + (if 2 ≤ vk.toInt ∧ own_t vb < j then 1 else 0) + (if 3 ≤ vk.toInt ∧ own_t vc < j then 1 else 0)) ∧ (∀ i, 0 ≤ (fJ i).toInt) ∧ (own_cum fJ nJ.toNatClampNeg = vk.toInt) ∧ (0 ≤ nJ.toInt) ∧ (tJ.toInt = vk.toInt)) (fun kJ3 => ?_) ?_
  · by_cases hc53_4 : vk < (1 : Int32)
    · refine own_by (A' := T2.setTop (mkF m 66 #[.val (.long q0), .second, .val (.long q1), .second, .val (.long q2), .second, .val (.int p3), .val (.int p4), .val (.long va), .second, .val (.long vb), .second, .val (.long vc), .second, .val (.int vk), .val (.int pm), .val (.ref b1), .unset, .unset, .unset, .unset, .unset, .unset, .unset, .unset, .unset, .unset, .unset, .unset, .unset, .unset, .unset, .unset, .unset, .unset, .unset] [(.int (2 : Int32)), (.int vk)])) (fun t kt => ?_) ?_
      · show Steps p.tables e below (T2.setTop (mkF m 53 #[.val (.long q0), .second, .val (.long q1), .second, .val (.long q2), .second, .val (.int p3), .val (.int p4), .val (.long va), .second, .val (.long vb), .second, .val (.long vc), .second, .val (.int vk), .val (.int pm), .val (.ref b1), .unset, .unset, .unset, .unset, .unset, .unset, .unset, .unset, .unset, .unset, .unset, .unset, .unset, .unset, .unset, .unset, .unset, .unset, .unset] [(.int (1 : Int32)), (.int vk)])) t
        refine XS.icmpYes X2.here hx rfl (pc0 := 53) (pc' := 63) rfl (hb hby at_53) rfl (tlt hc53_4).1 (by decide) (by decide) ?_
        show Steps p.tables e below (T2.setTop (mkF m 63 #[.val (.long q0), .second, .val (.long q1), .second, .val (.long q2), .second, .val (.int p3), .val (.int p4), .val (.long va), .second, .val (.long vb), .second, .val (.long vc), .second, .val (.int vk), .val (.int pm), .val (.ref b1), .unset, .unset, .unset, .unset, .unset, .unset, .unset, .unset, .unset, .unset, .unset, .unset, .unset, .unset, .unset, .unset, .unset, .unset, .unset] [])) t
        refine XS.iload X2.here hx rfl (hb hby at_63) rfl ?_
        show Steps p.tables e below (T2.setTop (mkF m 65 #[.val (.long q0), .second, .val (.long q1), .second, .val (.long q2), .second, .val (.int p3), .val (.int p4), .val (.long va), .second, .val (.long vb), .second, .val (.long vc), .second, .val (.int vk), .val (.int pm), .val (.ref b1), .unset, .unset, .unset, .unset, .unset, .unset, .unset, .unset, .unset, .unset, .unset, .unset, .unset, .unset, .unset, .unset, .unset, .unset, .unset] [(.int vk)])) t
        refine XS.iconst X2.here hx rfl (hb hby at_65) ?_
        exact kt
      have hc66_5 : vk < (2 : Int32) := by have q := hc53_4; rw [Int32.lt_iff_toInt_lt] at q ⊢; simp only [Int32.reduceToInt] at q ⊢; omega
      refine own_by (A' := T2.setTop (mkF m 79 #[.val (.long q0), .second, .val (.long q1), .second, .val (.long q2), .second, .val (.int p3), .val (.int p4), .val (.long va), .second, .val (.long vb), .second, .val (.long vc), .second, .val (.int vk), .val (.int pm), .val (.ref b1), .unset, .unset, .unset, .unset, .unset, .unset, .unset, .unset, .unset, .unset, .unset, .unset, .unset, .unset, .unset, .unset, .unset, .unset, .unset] [(.int (3 : Int32)), (.int vk)])) (fun t kt => ?_) ?_
      · show Steps p.tables e below (T2.setTop (mkF m 66 #[.val (.long q0), .second, .val (.long q1), .second, .val (.long q2), .second, .val (.int p3), .val (.int p4), .val (.long va), .second, .val (.long vb), .second, .val (.long vc), .second, .val (.int vk), .val (.int pm), .val (.ref b1), .unset, .unset, .unset, .unset, .unset, .unset, .unset, .unset, .unset, .unset, .unset, .unset, .unset, .unset, .unset, .unset, .unset, .unset, .unset] [(.int (2 : Int32)), (.int vk)])) t
        refine XS.icmpYes X2.here hx rfl (pc0 := 66) (pc' := 76) rfl (hb hby at_66) rfl (tlt hc66_5).1 (by decide) (by decide) ?_
        show Steps p.tables e below (T2.setTop (mkF m 76 #[.val (.long q0), .second, .val (.long q1), .second, .val (.long q2), .second, .val (.int p3), .val (.int p4), .val (.long va), .second, .val (.long vb), .second, .val (.long vc), .second, .val (.int vk), .val (.int pm), .val (.ref b1), .unset, .unset, .unset, .unset, .unset, .unset, .unset, .unset, .unset, .unset, .unset, .unset, .unset, .unset, .unset, .unset, .unset, .unset, .unset] [])) t
        refine XS.iload X2.here hx rfl (hb hby at_76) rfl ?_
        show Steps p.tables e below (T2.setTop (mkF m 78 #[.val (.long q0), .second, .val (.long q1), .second, .val (.long q2), .second, .val (.int p3), .val (.int p4), .val (.long va), .second, .val (.long vb), .second, .val (.long vc), .second, .val (.int vk), .val (.int pm), .val (.ref b1), .unset, .unset, .unset, .unset, .unset, .unset, .unset, .unset, .unset, .unset, .unset, .unset, .unset, .unset, .unset, .unset, .unset, .unset, .unset] [(.int vk)])) t
        refine XS.iconst X2.here hx rfl (hb hby at_78) ?_
        exact kt
      have hc79_6 : vk < (3 : Int32) := by have q := hc53_4; rw [Int32.lt_iff_toInt_lt] at q ⊢; simp only [Int32.reduceToInt] at q ⊢; omega
      refine own_by (A' := T2.setTop (mkF m 89 #[.val (.long q0), .second, .val (.long q1), .second, .val (.long q2), .second, .val (.int p3), .val (.int p4), .val (.long va), .second, .val (.long vb), .second, .val (.long vc), .second, .val (.int vk), .val (.int pm), .val (.ref b1), .unset, .unset, .unset, .unset, .unset, .unset, .unset, .unset, .unset, .unset, .unset, .unset, .unset, .unset, .unset, .unset, .unset, .unset, .unset] [])) (fun t kt => ?_) ?_
      · show Steps p.tables e below (T2.setTop (mkF m 79 #[.val (.long q0), .second, .val (.long q1), .second, .val (.long q2), .second, .val (.int p3), .val (.int p4), .val (.long va), .second, .val (.long vb), .second, .val (.long vc), .second, .val (.int vk), .val (.int pm), .val (.ref b1), .unset, .unset, .unset, .unset, .unset, .unset, .unset, .unset, .unset, .unset, .unset, .unset, .unset, .unset, .unset, .unset, .unset, .unset, .unset] [(.int (3 : Int32)), (.int vk)])) t
        refine XS.icmpYes X2.here hx rfl (pc0 := 79) (pc' := 89) rfl (hb hby at_79) rfl (tlt hc79_6).1 (by decide) (by decide) ?_
        exact kt
      have hk : vk.toInt = 0 := by
        have z0 := hc53_4; rw [Int32.lt_iff_toInt_lt, show (1 : Int32).toInt = 1 from by decide] at z0
        omega
      have hnn : 1024 ≤ (1024 : Int32).toInt := by decide
      exact kJ3 _ ⟨T2, _, T2.heap, b2, (1024 : Int32), (fun _ => (0 : Int64)), (0 : Int64), rfl, own_more X2 (by decide) (by decide), rfl, N2, K2, GE2, G12, G22, V2, (fun j => (own_cum0 j).trans (by omega)), (fun i => (own_b0 i).1), (by rw [hk, own_cum0]), (by omega), (by rw [hk]; decide)⟩
    · refine own_by (A' := T2.setTop (mkF m 60 #[.val (.long q0), .second, .val (.long q1), .second, .val (.long q2), .second, .val (.int p3), .val (.int p4), .val (.long va), .second, .val (.long vb), .second, .val (.long vc), .second, .val (.int vk), .val (.int pm), .val (.ref b1), .unset, .unset, .unset, .unset, .unset, .unset, .unset, .unset, .unset, .unset, .unset, .unset, .unset, .unset, .unset, .unset, .unset, .unset, .unset] [(.long va), (.ref b1)])) (fun t kt => ?_) ?_
      · show Steps p.tables e below (T2.setTop (mkF m 53 #[.val (.long q0), .second, .val (.long q1), .second, .val (.long q2), .second, .val (.int p3), .val (.int p4), .val (.long va), .second, .val (.long vb), .second, .val (.long vc), .second, .val (.int vk), .val (.int pm), .val (.ref b1), .unset, .unset, .unset, .unset, .unset, .unset, .unset, .unset, .unset, .unset, .unset, .unset, .unset, .unset, .unset, .unset, .unset, .unset, .unset] [(.int (1 : Int32)), (.int vk)])) t
        refine XS.icmpNo X2.here hx rfl (hb hby at_53) rfl (flt hc53_4).1 ?_
        show Steps p.tables e below (T2.setTop (mkF m 56 #[.val (.long q0), .second, .val (.long q1), .second, .val (.long q2), .second, .val (.int p3), .val (.int p4), .val (.long va), .second, .val (.long vb), .second, .val (.long vc), .second, .val (.int vk), .val (.int pm), .val (.ref b1), .unset, .unset, .unset, .unset, .unset, .unset, .unset, .unset, .unset, .unset, .unset, .unset, .unset, .unset, .unset, .unset, .unset, .unset, .unset] [])) t
        refine XS.aload X2.here hx rfl (hb hby at_56) rfl rfl ?_
        show Steps p.tables e below (T2.setTop (mkF m 58 #[.val (.long q0), .second, .val (.long q1), .second, .val (.long q2), .second, .val (.int p3), .val (.int p4), .val (.long va), .second, .val (.long vb), .second, .val (.long vc), .second, .val (.int vk), .val (.int pm), .val (.ref b1), .unset, .unset, .unset, .unset, .unset, .unset, .unset, .unset, .unset, .unset, .unset, .unset, .unset, .unset, .unset, .unset, .unset, .unset, .unset] [(.ref b1)])) t
        refine XS.lload X2.here hx rfl (hb hby at_58) rfl ?_
        exact kt
      by_cases hN_7 : own_ten va < (1024 : Int32).toInt64
      · obtain ⟨cq8, kq8, q8a, q8b, q8c⟩ := isOf hZ rfl GE2
        obtain ⟨_, _, ⟨T8, L8, k8, n8⟩, -, X8, ⟨Lc8, hQ8, l8, y8, z8⟩, st8⟩ := X2.virtualBack hx (y := (⟨"com/example/flashsafe/flashsafe/Latencies", "add", "(J)V"⟩ : MethodName)) (z := (⟨"com/example/flashsafe/flashsafe/Latencies", "add", "(J)V"⟩ : MethodName)) hown (mvT hZ (hw _ (List.mem_of_getElem? (i := 14) rfl))) (mvT hZ (hw _ (List.mem_of_getElem? (i := 15) rfl))) (notFace_of_selects (args := #[]) (mvT hZ (hw _ (List.mem_of_getElem? (i := 17) rfl)))) (mvT hZ (hw _ (List.mem_of_getElem? (i := 17) rfl))) (mvT hZ (hw _ (List.mem_of_getElem? (i := 16) rfl))) (by decide) (backOf (W := 0) (rmAddN l Z aw hw [] b1 va b2 (1024 : Int32) (fun _ => (0 : Int64)) (0 : Int64) T2.heap n0 (Nat.le_trans Z0 K2.1) GE2 G12 G22 V2 g_b1 g_b2 (Nat.ne_of_lt (Nat.lt_of_lt_of_le (A1).lt le2)) hva ⟨by decide, by decide⟩ (fun _ _ => rfl) hN_7) hZ (hw _ (List.mem_of_getElem? (i := 18) rfl)) (hw _ (List.mem_of_getElem? (i := 4) rfl)) (by decide) (by decide)) q8a q8c (g := (mkF m 60 #[.val (.long q0), .second, .val (.long q1), .second, .val (.long q2), .second, .val (.int p3), .val (.int p4), .val (.long va), .second, .val (.long vb), .second, .val (.long vc), .second, .val (.int vk), .val (.int pm), .val (.ref b1), .unset, .unset, .unset, .unset, .unset, .unset, .unset, .unset, .unset, .unset, .unset, .unset, .unset, .unset, .unset, .unset, .unset, .unset, .unset] [(.long va), (.ref b1)])) rfl (by rw [hml]; rfl) (Steps.refl _) (argsL := [(.long va)]) (rest := []) (lenOf pd_7 rfl) rfl (by show 2 * 0 + _ ≤ _; exact Nat.le_of_eq rfl) (hb hby at_60) (fun _ _ => ⟨rfl, rfl, (by decide : 2 + 0 ≤ _), (by decide : 1026 + 0 ≤ _)⟩)
        dsimp only [Pt.U, Pt.locs, Pt.cells, Pt.slots] at X8 l8 y8 z8 st8 hQ8
        subst l8 y8 z8
        obtain ⟨b8, n8', rfl, N8q, Kq8, GE8, G18, G28, V8, hz8, hb8, hn8⟩ := hQ8
        have N8 := Fr.app N2 N8q
        have sz_b8 : h0.size ≤ b8 := by rcases hb8 with q | q; exact q ▸ sz_b2; exact Nat.le_trans K2.1 q
        have g_b8 : n0 ≤ b8 := Nat.le_trans Z0 sz_b8
        have ne_b8 : b1 ≠ b8 := by rcases hb8 with q | q; exact q ▸ (Nat.ne_of_lt (Nat.lt_of_lt_of_le (A1).lt le2)); exact Nat.ne_of_lt (Nat.lt_of_lt_of_le (GE2).lt q)
        have K8 : Keep h0 T8.heap [] := K2.trans Kq8 (allS (Or.inr sz_b1) (allS (Or.inr sz_b2) all0))
        rw [hn8] at V8 hz8
        refine own_by (A' := T8.setTop (mkF m 63 #[.val (.long q0), .second, .val (.long q1), .second, .val (.long q2), .second, .val (.int p3), .val (.int p4), .val (.long va), .second, .val (.long vb), .second, .val (.long vc), .second, .val (.int vk), .val (.int pm), .val (.ref b1), .unset, .unset, .unset, .unset, .unset, .unset, .unset, .unset, .unset, .unset, .unset, .unset, .unset, .unset, .unset, .unset, .unset, .unset, .unset] [])) (fun t kt => st8.trans kt) ?_
        refine own_by (A' := T8.setTop (mkF m 66 #[.val (.long q0), .second, .val (.long q1), .second, .val (.long q2), .second, .val (.int p3), .val (.int p4), .val (.long va), .second, .val (.long vb), .second, .val (.long vc), .second, .val (.int vk), .val (.int pm), .val (.ref b1), .unset, .unset, .unset, .unset, .unset, .unset, .unset, .unset, .unset, .unset, .unset, .unset, .unset, .unset, .unset, .unset, .unset, .unset, .unset] [(.int (2 : Int32)), (.int vk)])) (fun t kt => ?_) ?_
        · show Steps p.tables e below (T8.setTop (mkF m 63 #[.val (.long q0), .second, .val (.long q1), .second, .val (.long q2), .second, .val (.int p3), .val (.int p4), .val (.long va), .second, .val (.long vb), .second, .val (.long vc), .second, .val (.int vk), .val (.int pm), .val (.ref b1), .unset, .unset, .unset, .unset, .unset, .unset, .unset, .unset, .unset, .unset, .unset, .unset, .unset, .unset, .unset, .unset, .unset, .unset, .unset] [])) t
          refine XS.iload X8.here hx rfl (hb hby at_63) rfl ?_
          show Steps p.tables e below (T8.setTop (mkF m 65 #[.val (.long q0), .second, .val (.long q1), .second, .val (.long q2), .second, .val (.int p3), .val (.int p4), .val (.long va), .second, .val (.long vb), .second, .val (.long vc), .second, .val (.int vk), .val (.int pm), .val (.ref b1), .unset, .unset, .unset, .unset, .unset, .unset, .unset, .unset, .unset, .unset, .unset, .unset, .unset, .unset, .unset, .unset, .unset, .unset, .unset] [(.int vk)])) t
          refine XS.iconst X8.here hx rfl (hb hby at_65) ?_
          exact kt
        by_cases hc66_9 : vk < (2 : Int32)
        · refine own_by (A' := T8.setTop (mkF m 79 #[.val (.long q0), .second, .val (.long q1), .second, .val (.long q2), .second, .val (.int p3), .val (.int p4), .val (.long va), .second, .val (.long vb), .second, .val (.long vc), .second, .val (.int vk), .val (.int pm), .val (.ref b1), .unset, .unset, .unset, .unset, .unset, .unset, .unset, .unset, .unset, .unset, .unset, .unset, .unset, .unset, .unset, .unset, .unset, .unset, .unset] [(.int (3 : Int32)), (.int vk)])) (fun t kt => ?_) ?_
          · show Steps p.tables e below (T8.setTop (mkF m 66 #[.val (.long q0), .second, .val (.long q1), .second, .val (.long q2), .second, .val (.int p3), .val (.int p4), .val (.long va), .second, .val (.long vb), .second, .val (.long vc), .second, .val (.int vk), .val (.int pm), .val (.ref b1), .unset, .unset, .unset, .unset, .unset, .unset, .unset, .unset, .unset, .unset, .unset, .unset, .unset, .unset, .unset, .unset, .unset, .unset, .unset] [(.int (2 : Int32)), (.int vk)])) t
            refine XS.icmpYes X8.here hx rfl (pc0 := 66) (pc' := 76) rfl (hb hby at_66) rfl (tlt hc66_9).1 (by decide) (by decide) ?_
            show Steps p.tables e below (T8.setTop (mkF m 76 #[.val (.long q0), .second, .val (.long q1), .second, .val (.long q2), .second, .val (.int p3), .val (.int p4), .val (.long va), .second, .val (.long vb), .second, .val (.long vc), .second, .val (.int vk), .val (.int pm), .val (.ref b1), .unset, .unset, .unset, .unset, .unset, .unset, .unset, .unset, .unset, .unset, .unset, .unset, .unset, .unset, .unset, .unset, .unset, .unset, .unset] [])) t
            refine XS.iload X8.here hx rfl (hb hby at_76) rfl ?_
            show Steps p.tables e below (T8.setTop (mkF m 78 #[.val (.long q0), .second, .val (.long q1), .second, .val (.long q2), .second, .val (.int p3), .val (.int p4), .val (.long va), .second, .val (.long vb), .second, .val (.long vc), .second, .val (.int vk), .val (.int pm), .val (.ref b1), .unset, .unset, .unset, .unset, .unset, .unset, .unset, .unset, .unset, .unset, .unset, .unset, .unset, .unset, .unset, .unset, .unset, .unset, .unset] [(.int vk)])) t
            refine XS.iconst X8.here hx rfl (hb hby at_78) ?_
            exact kt
          have hc79_10 : vk < (3 : Int32) := by have q := hc66_9; rw [Int32.lt_iff_toInt_lt] at q ⊢; simp only [Int32.reduceToInt] at q ⊢; omega
          refine own_by (A' := T8.setTop (mkF m 89 #[.val (.long q0), .second, .val (.long q1), .second, .val (.long q2), .second, .val (.int p3), .val (.int p4), .val (.long va), .second, .val (.long vb), .second, .val (.long vc), .second, .val (.int vk), .val (.int pm), .val (.ref b1), .unset, .unset, .unset, .unset, .unset, .unset, .unset, .unset, .unset, .unset, .unset, .unset, .unset, .unset, .unset, .unset, .unset, .unset, .unset] [])) (fun t kt => ?_) ?_
          · show Steps p.tables e below (T8.setTop (mkF m 79 #[.val (.long q0), .second, .val (.long q1), .second, .val (.long q2), .second, .val (.int p3), .val (.int p4), .val (.long va), .second, .val (.long vb), .second, .val (.long vc), .second, .val (.int vk), .val (.int pm), .val (.ref b1), .unset, .unset, .unset, .unset, .unset, .unset, .unset, .unset, .unset, .unset, .unset, .unset, .unset, .unset, .unset, .unset, .unset, .unset, .unset] [(.int (3 : Int32)), (.int vk)])) t
            refine XS.icmpYes X8.here hx rfl (pc0 := 79) (pc' := 89) rfl (hb hby at_79) rfl (tlt hc79_10).1 (by decide) (by decide) ?_
            exact kt
          have hk : vk.toInt = 1 := by
            have z0 := hc53_4; rw [Int32.lt_iff_toInt_lt, show (1 : Int32).toInt = 1 from by decide] at z0
            have z1 := hc66_9; rw [Int32.lt_iff_toInt_lt, show (2 : Int32).toInt = 2 from by decide] at z1
            omega
          have hnn : 1024 ≤ (1024 : Int32).toInt := by decide
          have u0 : (own_t va : Int) < (1024 : Int32).toInt := by have a := own_tt va hva; have b := hN_7; rw [Int64.lt_iff_toInt_lt, c_i2l] at b; omega
          exact kJ3 _ ⟨T8, _, T8.heap, b8, (1024 : Int32), (own_put (fun _ => (0 : Int64)) (own_t va)), ((0 : Int64) + (1 : Int64)), rfl, own_more X8 (by decide) (by decide), rfl, N8, K8, GE8, G18, G28, V8, (fun j => (own_cum1 (own_t va) j).trans (by omega)), (fun i => (own_b1 (own_t va) i).1), (by rw [hk, own_cum1 (own_t va)]; simp only [Int32.toNatClampNeg]; omega), (by omega), (by rw [hk]; decide)⟩
        · refine own_by (A' := T8.setTop (mkF m 73 #[.val (.long q0), .second, .val (.long q1), .second, .val (.long q2), .second, .val (.int p3), .val (.int p4), .val (.long va), .second, .val (.long vb), .second, .val (.long vc), .second, .val (.int vk), .val (.int pm), .val (.ref b1), .unset, .unset, .unset, .unset, .unset, .unset, .unset, .unset, .unset, .unset, .unset, .unset, .unset, .unset, .unset, .unset, .unset, .unset, .unset] [(.long vb), (.ref b1)])) (fun t kt => ?_) ?_
          · show Steps p.tables e below (T8.setTop (mkF m 66 #[.val (.long q0), .second, .val (.long q1), .second, .val (.long q2), .second, .val (.int p3), .val (.int p4), .val (.long va), .second, .val (.long vb), .second, .val (.long vc), .second, .val (.int vk), .val (.int pm), .val (.ref b1), .unset, .unset, .unset, .unset, .unset, .unset, .unset, .unset, .unset, .unset, .unset, .unset, .unset, .unset, .unset, .unset, .unset, .unset, .unset] [(.int (2 : Int32)), (.int vk)])) t
            refine XS.icmpNo X8.here hx rfl (hb hby at_66) rfl (flt hc66_9).1 ?_
            show Steps p.tables e below (T8.setTop (mkF m 69 #[.val (.long q0), .second, .val (.long q1), .second, .val (.long q2), .second, .val (.int p3), .val (.int p4), .val (.long va), .second, .val (.long vb), .second, .val (.long vc), .second, .val (.int vk), .val (.int pm), .val (.ref b1), .unset, .unset, .unset, .unset, .unset, .unset, .unset, .unset, .unset, .unset, .unset, .unset, .unset, .unset, .unset, .unset, .unset, .unset, .unset] [])) t
            refine XS.aload X8.here hx rfl (hb hby at_69) rfl rfl ?_
            show Steps p.tables e below (T8.setTop (mkF m 71 #[.val (.long q0), .second, .val (.long q1), .second, .val (.long q2), .second, .val (.int p3), .val (.int p4), .val (.long va), .second, .val (.long vb), .second, .val (.long vc), .second, .val (.int vk), .val (.int pm), .val (.ref b1), .unset, .unset, .unset, .unset, .unset, .unset, .unset, .unset, .unset, .unset, .unset, .unset, .unset, .unset, .unset, .unset, .unset, .unset, .unset] [(.ref b1)])) t
            refine XS.lload X8.here hx rfl (hb hby at_71) rfl ?_
            exact kt
          by_cases hN_11 : own_ten vb < (1024 : Int32).toInt64
          · obtain ⟨cq12, kq12, q12a, q12b, q12c⟩ := isOf hZ rfl GE8
            obtain ⟨_, _, ⟨T12, L12, k12, n12⟩, -, X12, ⟨Lc12, hQ12, l12, y12, z12⟩, st12⟩ := X8.virtualBack hx (y := (⟨"com/example/flashsafe/flashsafe/Latencies", "add", "(J)V"⟩ : MethodName)) (z := (⟨"com/example/flashsafe/flashsafe/Latencies", "add", "(J)V"⟩ : MethodName)) hown (mvT hZ (hw _ (List.mem_of_getElem? (i := 14) rfl))) (mvT hZ (hw _ (List.mem_of_getElem? (i := 15) rfl))) (notFace_of_selects (args := #[]) (mvT hZ (hw _ (List.mem_of_getElem? (i := 17) rfl)))) (mvT hZ (hw _ (List.mem_of_getElem? (i := 17) rfl))) (mvT hZ (hw _ (List.mem_of_getElem? (i := 16) rfl))) (by decide) (backOf (W := 0) (rmAddN l Z aw hw [] b1 vb b8 (1024 : Int32) (own_put (fun _ => (0 : Int64)) (own_t va)) ((0 : Int64) + (1 : Int64)) T8.heap n0 (Nat.le_trans Z0 K8.1) GE8 G18 G28 V8 g_b1 g_b8 ne_b8 hvb ⟨by decide, by decide⟩ hz8 hN_11) hZ (hw _ (List.mem_of_getElem? (i := 18) rfl)) (hw _ (List.mem_of_getElem? (i := 4) rfl)) (by decide) (by decide)) q12a q12c (g := (mkF m 73 #[.val (.long q0), .second, .val (.long q1), .second, .val (.long q2), .second, .val (.int p3), .val (.int p4), .val (.long va), .second, .val (.long vb), .second, .val (.long vc), .second, .val (.int vk), .val (.int pm), .val (.ref b1), .unset, .unset, .unset, .unset, .unset, .unset, .unset, .unset, .unset, .unset, .unset, .unset, .unset, .unset, .unset, .unset, .unset, .unset, .unset] [(.long vb), (.ref b1)])) rfl (by rw [hml]; rfl) (Steps.refl _) (argsL := [(.long vb)]) (rest := []) (lenOf pd_7 rfl) rfl (by show 2 * 0 + _ ≤ _; exact Nat.le_of_eq rfl) (hb hby at_73) (fun _ _ => ⟨rfl, rfl, (by decide : 2 + 0 ≤ _), (by decide : 1026 + 0 ≤ _)⟩)
            dsimp only [Pt.U, Pt.locs, Pt.cells, Pt.slots] at X12 l12 y12 z12 st12 hQ12
            subst l12 y12 z12
            obtain ⟨b12, n12', rfl, N12q, Kq12, GE12, G112, G212, V12, hz12, hb12, hn12⟩ := hQ12
            have N12 := Fr.app N8 N12q
            have sz_b12 : h0.size ≤ b12 := by rcases hb12 with q | q; exact q ▸ sz_b8; exact Nat.le_trans K8.1 q
            have g_b12 : n0 ≤ b12 := Nat.le_trans Z0 sz_b12
            have ne_b12 : b1 ≠ b12 := by rcases hb12 with q | q; exact q ▸ ne_b8; exact Nat.ne_of_lt (Nat.lt_of_lt_of_le (GE8).lt q)
            have K12 : Keep h0 T12.heap [] := K8.trans Kq12 (allS (Or.inr sz_b1) (allS (Or.inr sz_b8) all0))
            rw [hn12] at V12 hz12
            refine own_by (A' := T12.setTop (mkF m 76 #[.val (.long q0), .second, .val (.long q1), .second, .val (.long q2), .second, .val (.int p3), .val (.int p4), .val (.long va), .second, .val (.long vb), .second, .val (.long vc), .second, .val (.int vk), .val (.int pm), .val (.ref b1), .unset, .unset, .unset, .unset, .unset, .unset, .unset, .unset, .unset, .unset, .unset, .unset, .unset, .unset, .unset, .unset, .unset, .unset, .unset] [])) (fun t kt => st12.trans kt) ?_
            refine own_by (A' := T12.setTop (mkF m 79 #[.val (.long q0), .second, .val (.long q1), .second, .val (.long q2), .second, .val (.int p3), .val (.int p4), .val (.long va), .second, .val (.long vb), .second, .val (.long vc), .second, .val (.int vk), .val (.int pm), .val (.ref b1), .unset, .unset, .unset, .unset, .unset, .unset, .unset, .unset, .unset, .unset, .unset, .unset, .unset, .unset, .unset, .unset, .unset, .unset, .unset] [(.int (3 : Int32)), (.int vk)])) (fun t kt => ?_) ?_
            · show Steps p.tables e below (T12.setTop (mkF m 76 #[.val (.long q0), .second, .val (.long q1), .second, .val (.long q2), .second, .val (.int p3), .val (.int p4), .val (.long va), .second, .val (.long vb), .second, .val (.long vc), .second, .val (.int vk), .val (.int pm), .val (.ref b1), .unset, .unset, .unset, .unset, .unset, .unset, .unset, .unset, .unset, .unset, .unset, .unset, .unset, .unset, .unset, .unset, .unset, .unset, .unset] [])) t
              refine XS.iload X12.here hx rfl (hb hby at_76) rfl ?_
              show Steps p.tables e below (T12.setTop (mkF m 78 #[.val (.long q0), .second, .val (.long q1), .second, .val (.long q2), .second, .val (.int p3), .val (.int p4), .val (.long va), .second, .val (.long vb), .second, .val (.long vc), .second, .val (.int vk), .val (.int pm), .val (.ref b1), .unset, .unset, .unset, .unset, .unset, .unset, .unset, .unset, .unset, .unset, .unset, .unset, .unset, .unset, .unset, .unset, .unset, .unset, .unset] [(.int vk)])) t
              refine XS.iconst X12.here hx rfl (hb hby at_78) ?_
              exact kt
            by_cases hc79_13 : vk < (3 : Int32)
            · refine own_by (A' := T12.setTop (mkF m 89 #[.val (.long q0), .second, .val (.long q1), .second, .val (.long q2), .second, .val (.int p3), .val (.int p4), .val (.long va), .second, .val (.long vb), .second, .val (.long vc), .second, .val (.int vk), .val (.int pm), .val (.ref b1), .unset, .unset, .unset, .unset, .unset, .unset, .unset, .unset, .unset, .unset, .unset, .unset, .unset, .unset, .unset, .unset, .unset, .unset, .unset] [])) (fun t kt => ?_) ?_
              · show Steps p.tables e below (T12.setTop (mkF m 79 #[.val (.long q0), .second, .val (.long q1), .second, .val (.long q2), .second, .val (.int p3), .val (.int p4), .val (.long va), .second, .val (.long vb), .second, .val (.long vc), .second, .val (.int vk), .val (.int pm), .val (.ref b1), .unset, .unset, .unset, .unset, .unset, .unset, .unset, .unset, .unset, .unset, .unset, .unset, .unset, .unset, .unset, .unset, .unset, .unset, .unset] [(.int (3 : Int32)), (.int vk)])) t
                refine XS.icmpYes X12.here hx rfl (pc0 := 79) (pc' := 89) rfl (hb hby at_79) rfl (tlt hc79_13).1 (by decide) (by decide) ?_
                exact kt
              have hk : vk.toInt = 2 := by
                have z0 := hc53_4; rw [Int32.lt_iff_toInt_lt, show (1 : Int32).toInt = 1 from by decide] at z0
                have z1 := hc66_9; rw [Int32.lt_iff_toInt_lt, show (2 : Int32).toInt = 2 from by decide] at z1
                have z2 := hc79_13; rw [Int32.lt_iff_toInt_lt, show (3 : Int32).toInt = 3 from by decide] at z2
                omega
              have hnn : 1024 ≤ (1024 : Int32).toInt := by decide
              have u0 : (own_t va : Int) < (1024 : Int32).toInt := by have a := own_tt va hva; have b := hN_7; rw [Int64.lt_iff_toInt_lt, c_i2l] at b; omega
              have u1 : (own_t vb : Int) < (1024 : Int32).toInt := by have a := own_tt vb hvb; have b := hN_11; rw [Int64.lt_iff_toInt_lt, c_i2l] at b; omega
              exact kJ3 _ ⟨T12, _, T12.heap, b12, (1024 : Int32), (own_put (own_put (fun _ => (0 : Int64)) (own_t va)) (own_t vb)), (((0 : Int64) + (1 : Int64)) + (1 : Int64)), rfl, own_more X12 (by decide) (by decide), rfl, N12, K12, GE12, G112, G212, V12, (fun j => (own_cum2 (own_t va) (own_t vb) j).trans (by omega)), (fun i => (own_b2 (own_t va) (own_t vb) i).1), (by rw [hk, own_cum2 (own_t va) (own_t vb)]; simp only [Int32.toNatClampNeg]; omega), (by omega), (by rw [hk]; decide)⟩
            · refine own_by (A' := T12.setTop (mkF m 86 #[.val (.long q0), .second, .val (.long q1), .second, .val (.long q2), .second, .val (.int p3), .val (.int p4), .val (.long va), .second, .val (.long vb), .second, .val (.long vc), .second, .val (.int vk), .val (.int pm), .val (.ref b1), .unset, .unset, .unset, .unset, .unset, .unset, .unset, .unset, .unset, .unset, .unset, .unset, .unset, .unset, .unset, .unset, .unset, .unset, .unset] [(.long vc), (.ref b1)])) (fun t kt => ?_) ?_
              · show Steps p.tables e below (T12.setTop (mkF m 79 #[.val (.long q0), .second, .val (.long q1), .second, .val (.long q2), .second, .val (.int p3), .val (.int p4), .val (.long va), .second, .val (.long vb), .second, .val (.long vc), .second, .val (.int vk), .val (.int pm), .val (.ref b1), .unset, .unset, .unset, .unset, .unset, .unset, .unset, .unset, .unset, .unset, .unset, .unset, .unset, .unset, .unset, .unset, .unset, .unset, .unset] [(.int (3 : Int32)), (.int vk)])) t
                refine XS.icmpNo X12.here hx rfl (hb hby at_79) rfl (flt hc79_13).1 ?_
                show Steps p.tables e below (T12.setTop (mkF m 82 #[.val (.long q0), .second, .val (.long q1), .second, .val (.long q2), .second, .val (.int p3), .val (.int p4), .val (.long va), .second, .val (.long vb), .second, .val (.long vc), .second, .val (.int vk), .val (.int pm), .val (.ref b1), .unset, .unset, .unset, .unset, .unset, .unset, .unset, .unset, .unset, .unset, .unset, .unset, .unset, .unset, .unset, .unset, .unset, .unset, .unset] [])) t
                refine XS.aload X12.here hx rfl (hb hby at_82) rfl rfl ?_
                show Steps p.tables e below (T12.setTop (mkF m 84 #[.val (.long q0), .second, .val (.long q1), .second, .val (.long q2), .second, .val (.int p3), .val (.int p4), .val (.long va), .second, .val (.long vb), .second, .val (.long vc), .second, .val (.int vk), .val (.int pm), .val (.ref b1), .unset, .unset, .unset, .unset, .unset, .unset, .unset, .unset, .unset, .unset, .unset, .unset, .unset, .unset, .unset, .unset, .unset, .unset, .unset] [(.ref b1)])) t
                refine XS.lload X12.here hx rfl (hb hby at_84) rfl ?_
                exact kt
              by_cases hN_14 : own_ten vc < (1024 : Int32).toInt64
              · obtain ⟨cq15, kq15, q15a, q15b, q15c⟩ := isOf hZ rfl GE12
                obtain ⟨_, _, ⟨T15, L15, k15, n15⟩, -, X15, ⟨Lc15, hQ15, l15, y15, z15⟩, st15⟩ := X12.virtualBack hx (y := (⟨"com/example/flashsafe/flashsafe/Latencies", "add", "(J)V"⟩ : MethodName)) (z := (⟨"com/example/flashsafe/flashsafe/Latencies", "add", "(J)V"⟩ : MethodName)) hown (mvT hZ (hw _ (List.mem_of_getElem? (i := 14) rfl))) (mvT hZ (hw _ (List.mem_of_getElem? (i := 15) rfl))) (notFace_of_selects (args := #[]) (mvT hZ (hw _ (List.mem_of_getElem? (i := 17) rfl)))) (mvT hZ (hw _ (List.mem_of_getElem? (i := 17) rfl))) (mvT hZ (hw _ (List.mem_of_getElem? (i := 16) rfl))) (by decide) (backOf (W := 0) (rmAddN l Z aw hw [] b1 vc b12 (1024 : Int32) (own_put (own_put (fun _ => (0 : Int64)) (own_t va)) (own_t vb)) (((0 : Int64) + (1 : Int64)) + (1 : Int64)) T12.heap n0 (Nat.le_trans Z0 K12.1) GE12 G112 G212 V12 g_b1 g_b12 ne_b12 hvc ⟨by decide, by decide⟩ hz12 hN_14) hZ (hw _ (List.mem_of_getElem? (i := 18) rfl)) (hw _ (List.mem_of_getElem? (i := 4) rfl)) (by decide) (by decide)) q15a q15c (g := (mkF m 86 #[.val (.long q0), .second, .val (.long q1), .second, .val (.long q2), .second, .val (.int p3), .val (.int p4), .val (.long va), .second, .val (.long vb), .second, .val (.long vc), .second, .val (.int vk), .val (.int pm), .val (.ref b1), .unset, .unset, .unset, .unset, .unset, .unset, .unset, .unset, .unset, .unset, .unset, .unset, .unset, .unset, .unset, .unset, .unset, .unset, .unset] [(.long vc), (.ref b1)])) rfl (by rw [hml]; rfl) (Steps.refl _) (argsL := [(.long vc)]) (rest := []) (lenOf pd_7 rfl) rfl (by show 2 * 0 + _ ≤ _; exact Nat.le_of_eq rfl) (hb hby at_86) (fun _ _ => ⟨rfl, rfl, (by decide : 2 + 0 ≤ _), (by decide : 1026 + 0 ≤ _)⟩)
                dsimp only [Pt.U, Pt.locs, Pt.cells, Pt.slots] at X15 l15 y15 z15 st15 hQ15
                subst l15 y15 z15
                obtain ⟨b15, n15', rfl, N15q, Kq15, GE15, G115, G215, V15, hz15, hb15, hn15⟩ := hQ15
                have N15 := Fr.app N12 N15q
                have sz_b15 : h0.size ≤ b15 := by rcases hb15 with q | q; exact q ▸ sz_b12; exact Nat.le_trans K12.1 q
                have g_b15 : n0 ≤ b15 := Nat.le_trans Z0 sz_b15
                have ne_b15 : b1 ≠ b15 := by rcases hb15 with q | q; exact q ▸ ne_b12; exact Nat.ne_of_lt (Nat.lt_of_lt_of_le (GE12).lt q)
                have K15 : Keep h0 T15.heap [] := K12.trans Kq15 (allS (Or.inr sz_b1) (allS (Or.inr sz_b12) all0))
                rw [hn15] at V15 hz15
                refine own_by (A' := T15.setTop (mkF m 89 #[.val (.long q0), .second, .val (.long q1), .second, .val (.long q2), .second, .val (.int p3), .val (.int p4), .val (.long va), .second, .val (.long vb), .second, .val (.long vc), .second, .val (.int vk), .val (.int pm), .val (.ref b1), .unset, .unset, .unset, .unset, .unset, .unset, .unset, .unset, .unset, .unset, .unset, .unset, .unset, .unset, .unset, .unset, .unset, .unset, .unset] [])) (fun t kt => st15.trans kt) ?_
                have hk : vk.toInt = 3 := by
                  have z0 := hc53_4; rw [Int32.lt_iff_toInt_lt, show (1 : Int32).toInt = 1 from by decide] at z0
                  have z1 := hc66_9; rw [Int32.lt_iff_toInt_lt, show (2 : Int32).toInt = 2 from by decide] at z1
                  have z2 := hc79_13; rw [Int32.lt_iff_toInt_lt, show (3 : Int32).toInt = 3 from by decide] at z2
                  omega
                have hnn : 1024 ≤ (1024 : Int32).toInt := by decide
                have u0 : (own_t va : Int) < (1024 : Int32).toInt := by have a := own_tt va hva; have b := hN_7; rw [Int64.lt_iff_toInt_lt, c_i2l] at b; omega
                have u1 : (own_t vb : Int) < (1024 : Int32).toInt := by have a := own_tt vb hvb; have b := hN_11; rw [Int64.lt_iff_toInt_lt, c_i2l] at b; omega
                have u2 : (own_t vc : Int) < (1024 : Int32).toInt := by have a := own_tt vc hvc; have b := hN_14; rw [Int64.lt_iff_toInt_lt, c_i2l] at b; omega
                exact kJ3 _ ⟨T15, _, T15.heap, b15, (1024 : Int32), (own_put (own_put (own_put (fun _ => (0 : Int64)) (own_t va)) (own_t vb)) (own_t vc)), ((((0 : Int64) + (1 : Int64)) + (1 : Int64)) + (1 : Int64)), rfl, own_more X15 (by decide) (by decide), rfl, N15, K15, GE15, G115, G215, V15, (fun j => (own_cum3 (own_t va) (own_t vb) (own_t vc) j).trans (by omega)), (fun i => (own_b3 (own_t va) (own_t vb) (own_t vc) i).1), (by rw [hk, own_cum3 (own_t va) (own_t vb) (own_t vc)]; simp only [Int32.toNatClampNeg]; omega), (by omega), (by rw [hk]; decide)⟩
              · obtain ⟨cq16, kq16, q16a, q16b, q16c⟩ := isOf hZ rfl GE12
                obtain ⟨_, _, ⟨T16, L16, k16, n16⟩, -, X16, ⟨Lc16, hQ16, l16, y16, z16⟩, st16⟩ := X12.virtualBack hx (y := (⟨"com/example/flashsafe/flashsafe/Latencies", "add", "(J)V"⟩ : MethodName)) (z := (⟨"com/example/flashsafe/flashsafe/Latencies", "add", "(J)V"⟩ : MethodName)) hown (mvT hZ (hw _ (List.mem_of_getElem? (i := 14) rfl))) (mvT hZ (hw _ (List.mem_of_getElem? (i := 15) rfl))) (notFace_of_selects (args := #[]) (mvT hZ (hw _ (List.mem_of_getElem? (i := 17) rfl)))) (mvT hZ (hw _ (List.mem_of_getElem? (i := 17) rfl))) (mvT hZ (hw _ (List.mem_of_getElem? (i := 16) rfl))) (by decide) (backOf (W := 0) (rmAddG l Z aw hw [] b1 vc b12 (1024 : Int32) (own_put (own_put (fun _ => (0 : Int64)) (own_t va)) (own_t vb)) (((0 : Int64) + (1 : Int64)) + (1 : Int64)) T12.heap n0 (Nat.le_trans Z0 K12.1) GE12 G112 G212 V12 g_b1 g_b12 ne_b12 hvc (by decide) hz12 hN_14) hZ (hw _ (List.mem_of_getElem? (i := 18) rfl)) (hw _ (List.mem_of_getElem? (i := 4) rfl)) (by decide) (by decide)) q16a q16c (g := (mkF m 86 #[.val (.long q0), .second, .val (.long q1), .second, .val (.long q2), .second, .val (.int p3), .val (.int p4), .val (.long va), .second, .val (.long vb), .second, .val (.long vc), .second, .val (.int vk), .val (.int pm), .val (.ref b1), .unset, .unset, .unset, .unset, .unset, .unset, .unset, .unset, .unset, .unset, .unset, .unset, .unset, .unset, .unset, .unset, .unset, .unset, .unset] [(.long vc), (.ref b1)])) rfl (by rw [hml]; rfl) (Steps.refl _) (argsL := [(.long vc)]) (rest := []) (lenOf pd_7 rfl) rfl (by show 2 * 0 + _ ≤ _; exact Nat.le_of_eq rfl) (hb hby at_86) (fun _ _ => ⟨rfl, rfl, (by decide : 2 + 1 ≤ _), (by decide : 1026 + 2048 ≤ _)⟩)
                dsimp only [Pt.U, Pt.locs, Pt.cells, Pt.slots] at X16 l16 y16 z16 st16 hQ16
                subst l16 y16 z16
                obtain ⟨b16, n16', rfl, N16q, Kq16, GE16, G116, G216, V16, hz16, hb16, hn16⟩ := hQ16
                have N16 := Fr.app N12 N16q
                have sz_b16 : h0.size ≤ b16 := by rcases hb16 with q | q; exact q ▸ sz_b12; exact Nat.le_trans K12.1 q
                have g_b16 : n0 ≤ b16 := Nat.le_trans Z0 sz_b16
                have ne_b16 : b1 ≠ b16 := by rcases hb16 with q | q; exact q ▸ ne_b12; exact Nat.ne_of_lt (Nat.lt_of_lt_of_le (GE12).lt q)
                have K16 : Keep h0 T16.heap [] := K12.trans Kq16 (allS (Or.inr sz_b1) (allS (Or.inr sz_b12) all0))
                refine own_by (A' := T16.setTop (mkF m 89 #[.val (.long q0), .second, .val (.long q1), .second, .val (.long q2), .second, .val (.int p3), .val (.int p4), .val (.long va), .second, .val (.long vb), .second, .val (.long vc), .second, .val (.int vk), .val (.int pm), .val (.ref b1), .unset, .unset, .unset, .unset, .unset, .unset, .unset, .unset, .unset, .unset, .unset, .unset, .unset, .unset, .unset, .unset, .unset, .unset, .unset] [])) (fun t kt => st16.trans kt) ?_
                have hk : vk.toInt = 3 := by
                  have z0 := hc53_4; rw [Int32.lt_iff_toInt_lt, show (1 : Int32).toInt = 1 from by decide] at z0
                  have z1 := hc66_9; rw [Int32.lt_iff_toInt_lt, show (2 : Int32).toInt = 2 from by decide] at z1
                  have z2 := hc79_13; rw [Int32.lt_iff_toInt_lt, show (3 : Int32).toInt = 3 from by decide] at z2
                  omega
                have hnn : 1024 ≤ n16'.toInt := by rw [hn16]; decide
                have u0 : (own_t va : Int) < n16'.toInt := by have a := own_tt va hva; rw [hn16]; omega
                have u1 : (own_t vb : Int) < n16'.toInt := by have a := own_tt vb hvb; rw [hn16]; omega
                have u2 : (own_t vc : Int) < n16'.toInt := by have a := own_tt vc hvc; rw [hn16]; omega
                exact kJ3 _ ⟨T16, _, T16.heap, b16, n16', (own_put (own_put (own_put (fun _ => (0 : Int64)) (own_t va)) (own_t vb)) (own_t vc)), ((((0 : Int64) + (1 : Int64)) + (1 : Int64)) + (1 : Int64)), rfl, X16, rfl, N16, K16, GE16, G116, G216, V16, (fun j => (own_cum3 (own_t va) (own_t vb) (own_t vc) j).trans (by omega)), (fun i => (own_b3 (own_t va) (own_t vb) (own_t vc) i).1), (by rw [hk, own_cum3 (own_t va) (own_t vb) (own_t vc)]; simp only [Int32.toNatClampNeg]; omega), (by omega), (by rw [hk]; decide)⟩
          · obtain ⟨cq17, kq17, q17a, q17b, q17c⟩ := isOf hZ rfl GE8
            obtain ⟨_, _, ⟨T17, L17, k17, n17⟩, -, X17, ⟨Lc17, hQ17, l17, y17, z17⟩, st17⟩ := X8.virtualBack hx (y := (⟨"com/example/flashsafe/flashsafe/Latencies", "add", "(J)V"⟩ : MethodName)) (z := (⟨"com/example/flashsafe/flashsafe/Latencies", "add", "(J)V"⟩ : MethodName)) hown (mvT hZ (hw _ (List.mem_of_getElem? (i := 14) rfl))) (mvT hZ (hw _ (List.mem_of_getElem? (i := 15) rfl))) (notFace_of_selects (args := #[]) (mvT hZ (hw _ (List.mem_of_getElem? (i := 17) rfl)))) (mvT hZ (hw _ (List.mem_of_getElem? (i := 17) rfl))) (mvT hZ (hw _ (List.mem_of_getElem? (i := 16) rfl))) (by decide) (backOf (W := 0) (rmAddG l Z aw hw [] b1 vb b8 (1024 : Int32) (own_put (fun _ => (0 : Int64)) (own_t va)) ((0 : Int64) + (1 : Int64)) T8.heap n0 (Nat.le_trans Z0 K8.1) GE8 G18 G28 V8 g_b1 g_b8 ne_b8 hvb (by decide) hz8 hN_11) hZ (hw _ (List.mem_of_getElem? (i := 18) rfl)) (hw _ (List.mem_of_getElem? (i := 4) rfl)) (by decide) (by decide)) q17a q17c (g := (mkF m 73 #[.val (.long q0), .second, .val (.long q1), .second, .val (.long q2), .second, .val (.int p3), .val (.int p4), .val (.long va), .second, .val (.long vb), .second, .val (.long vc), .second, .val (.int vk), .val (.int pm), .val (.ref b1), .unset, .unset, .unset, .unset, .unset, .unset, .unset, .unset, .unset, .unset, .unset, .unset, .unset, .unset, .unset, .unset, .unset, .unset, .unset] [(.long vb), (.ref b1)])) rfl (by rw [hml]; rfl) (Steps.refl _) (argsL := [(.long vb)]) (rest := []) (lenOf pd_7 rfl) rfl (by show 2 * 0 + _ ≤ _; exact Nat.le_of_eq rfl) (hb hby at_73) (fun _ _ => ⟨rfl, rfl, (by decide : 2 + 1 ≤ _), (by decide : 1026 + 2048 ≤ _)⟩)
            dsimp only [Pt.U, Pt.locs, Pt.cells, Pt.slots] at X17 l17 y17 z17 st17 hQ17
            subst l17 y17 z17
            obtain ⟨b17, n17', rfl, N17q, Kq17, GE17, G117, G217, V17, hz17, hb17, hn17⟩ := hQ17
            have N17 := Fr.app N8 N17q
            have sz_b17 : h0.size ≤ b17 := by rcases hb17 with q | q; exact q ▸ sz_b8; exact Nat.le_trans K8.1 q
            have g_b17 : n0 ≤ b17 := Nat.le_trans Z0 sz_b17
            have ne_b17 : b1 ≠ b17 := by rcases hb17 with q | q; exact q ▸ ne_b8; exact Nat.ne_of_lt (Nat.lt_of_lt_of_le (GE8).lt q)
            have K17 : Keep h0 T17.heap [] := K8.trans Kq17 (allS (Or.inr sz_b1) (allS (Or.inr sz_b8) all0))
            refine own_by (A' := T17.setTop (mkF m 76 #[.val (.long q0), .second, .val (.long q1), .second, .val (.long q2), .second, .val (.int p3), .val (.int p4), .val (.long va), .second, .val (.long vb), .second, .val (.long vc), .second, .val (.int vk), .val (.int pm), .val (.ref b1), .unset, .unset, .unset, .unset, .unset, .unset, .unset, .unset, .unset, .unset, .unset, .unset, .unset, .unset, .unset, .unset, .unset, .unset, .unset] [])) (fun t kt => st17.trans kt) ?_
            refine own_by (A' := T17.setTop (mkF m 79 #[.val (.long q0), .second, .val (.long q1), .second, .val (.long q2), .second, .val (.int p3), .val (.int p4), .val (.long va), .second, .val (.long vb), .second, .val (.long vc), .second, .val (.int vk), .val (.int pm), .val (.ref b1), .unset, .unset, .unset, .unset, .unset, .unset, .unset, .unset, .unset, .unset, .unset, .unset, .unset, .unset, .unset, .unset, .unset, .unset, .unset] [(.int (3 : Int32)), (.int vk)])) (fun t kt => ?_) ?_
            · show Steps p.tables e below (T17.setTop (mkF m 76 #[.val (.long q0), .second, .val (.long q1), .second, .val (.long q2), .second, .val (.int p3), .val (.int p4), .val (.long va), .second, .val (.long vb), .second, .val (.long vc), .second, .val (.int vk), .val (.int pm), .val (.ref b1), .unset, .unset, .unset, .unset, .unset, .unset, .unset, .unset, .unset, .unset, .unset, .unset, .unset, .unset, .unset, .unset, .unset, .unset, .unset] [])) t
              refine XS.iload X17.here hx rfl (hb hby at_76) rfl ?_
              show Steps p.tables e below (T17.setTop (mkF m 78 #[.val (.long q0), .second, .val (.long q1), .second, .val (.long q2), .second, .val (.int p3), .val (.int p4), .val (.long va), .second, .val (.long vb), .second, .val (.long vc), .second, .val (.int vk), .val (.int pm), .val (.ref b1), .unset, .unset, .unset, .unset, .unset, .unset, .unset, .unset, .unset, .unset, .unset, .unset, .unset, .unset, .unset, .unset, .unset, .unset, .unset] [(.int vk)])) t
              refine XS.iconst X17.here hx rfl (hb hby at_78) ?_
              exact kt
            by_cases hc79_18 : vk < (3 : Int32)
            · refine own_by (A' := T17.setTop (mkF m 89 #[.val (.long q0), .second, .val (.long q1), .second, .val (.long q2), .second, .val (.int p3), .val (.int p4), .val (.long va), .second, .val (.long vb), .second, .val (.long vc), .second, .val (.int vk), .val (.int pm), .val (.ref b1), .unset, .unset, .unset, .unset, .unset, .unset, .unset, .unset, .unset, .unset, .unset, .unset, .unset, .unset, .unset, .unset, .unset, .unset, .unset] [])) (fun t kt => ?_) ?_
              · show Steps p.tables e below (T17.setTop (mkF m 79 #[.val (.long q0), .second, .val (.long q1), .second, .val (.long q2), .second, .val (.int p3), .val (.int p4), .val (.long va), .second, .val (.long vb), .second, .val (.long vc), .second, .val (.int vk), .val (.int pm), .val (.ref b1), .unset, .unset, .unset, .unset, .unset, .unset, .unset, .unset, .unset, .unset, .unset, .unset, .unset, .unset, .unset, .unset, .unset, .unset, .unset] [(.int (3 : Int32)), (.int vk)])) t
                refine XS.icmpYes X17.here hx rfl (pc0 := 79) (pc' := 89) rfl (hb hby at_79) rfl (tlt hc79_18).1 (by decide) (by decide) ?_
                exact kt
              have hk : vk.toInt = 2 := by
                have z0 := hc53_4; rw [Int32.lt_iff_toInt_lt, show (1 : Int32).toInt = 1 from by decide] at z0
                have z1 := hc66_9; rw [Int32.lt_iff_toInt_lt, show (2 : Int32).toInt = 2 from by decide] at z1
                have z2 := hc79_18; rw [Int32.lt_iff_toInt_lt, show (3 : Int32).toInt = 3 from by decide] at z2
                omega
              have hnn : 1024 ≤ n17'.toInt := by rw [hn17]; decide
              have u0 : (own_t va : Int) < n17'.toInt := by have a := own_tt va hva; rw [hn17]; omega
              have u1 : (own_t vb : Int) < n17'.toInt := by have a := own_tt vb hvb; rw [hn17]; omega
              exact kJ3 _ ⟨T17, _, T17.heap, b17, n17', (own_put (own_put (fun _ => (0 : Int64)) (own_t va)) (own_t vb)), (((0 : Int64) + (1 : Int64)) + (1 : Int64)), rfl, X17, rfl, N17, K17, GE17, G117, G217, V17, (fun j => (own_cum2 (own_t va) (own_t vb) j).trans (by omega)), (fun i => (own_b2 (own_t va) (own_t vb) i).1), (by rw [hk, own_cum2 (own_t va) (own_t vb)]; simp only [Int32.toNatClampNeg]; omega), (by omega), (by rw [hk]; decide)⟩
            · refine own_by (A' := T17.setTop (mkF m 86 #[.val (.long q0), .second, .val (.long q1), .second, .val (.long q2), .second, .val (.int p3), .val (.int p4), .val (.long va), .second, .val (.long vb), .second, .val (.long vc), .second, .val (.int vk), .val (.int pm), .val (.ref b1), .unset, .unset, .unset, .unset, .unset, .unset, .unset, .unset, .unset, .unset, .unset, .unset, .unset, .unset, .unset, .unset, .unset, .unset, .unset] [(.long vc), (.ref b1)])) (fun t kt => ?_) ?_
              · show Steps p.tables e below (T17.setTop (mkF m 79 #[.val (.long q0), .second, .val (.long q1), .second, .val (.long q2), .second, .val (.int p3), .val (.int p4), .val (.long va), .second, .val (.long vb), .second, .val (.long vc), .second, .val (.int vk), .val (.int pm), .val (.ref b1), .unset, .unset, .unset, .unset, .unset, .unset, .unset, .unset, .unset, .unset, .unset, .unset, .unset, .unset, .unset, .unset, .unset, .unset, .unset] [(.int (3 : Int32)), (.int vk)])) t
                refine XS.icmpNo X17.here hx rfl (hb hby at_79) rfl (flt hc79_18).1 ?_
                show Steps p.tables e below (T17.setTop (mkF m 82 #[.val (.long q0), .second, .val (.long q1), .second, .val (.long q2), .second, .val (.int p3), .val (.int p4), .val (.long va), .second, .val (.long vb), .second, .val (.long vc), .second, .val (.int vk), .val (.int pm), .val (.ref b1), .unset, .unset, .unset, .unset, .unset, .unset, .unset, .unset, .unset, .unset, .unset, .unset, .unset, .unset, .unset, .unset, .unset, .unset, .unset] [])) t
                refine XS.aload X17.here hx rfl (hb hby at_82) rfl rfl ?_
                show Steps p.tables e below (T17.setTop (mkF m 84 #[.val (.long q0), .second, .val (.long q1), .second, .val (.long q2), .second, .val (.int p3), .val (.int p4), .val (.long va), .second, .val (.long vb), .second, .val (.long vc), .second, .val (.int vk), .val (.int pm), .val (.ref b1), .unset, .unset, .unset, .unset, .unset, .unset, .unset, .unset, .unset, .unset, .unset, .unset, .unset, .unset, .unset, .unset, .unset, .unset, .unset] [(.ref b1)])) t
                refine XS.lload X17.here hx rfl (hb hby at_84) rfl ?_
                exact kt
              have hN_19 : own_ten vc < n17'.toInt64 := by have a := own_tt vc hvc; rw [Int64.lt_iff_toInt_lt, c_i2l, hn17]; omega
              obtain ⟨cq20, kq20, q20a, q20b, q20c⟩ := isOf hZ rfl GE17
              obtain ⟨_, _, ⟨T20, L20, k20, n20⟩, -, X20, ⟨Lc20, hQ20, l20, y20, z20⟩, st20⟩ := X17.virtualBack hx (y := (⟨"com/example/flashsafe/flashsafe/Latencies", "add", "(J)V"⟩ : MethodName)) (z := (⟨"com/example/flashsafe/flashsafe/Latencies", "add", "(J)V"⟩ : MethodName)) hown (mvT hZ (hw _ (List.mem_of_getElem? (i := 14) rfl))) (mvT hZ (hw _ (List.mem_of_getElem? (i := 15) rfl))) (notFace_of_selects (args := #[]) (mvT hZ (hw _ (List.mem_of_getElem? (i := 17) rfl)))) (mvT hZ (hw _ (List.mem_of_getElem? (i := 17) rfl))) (mvT hZ (hw _ (List.mem_of_getElem? (i := 16) rfl))) (by decide) (backOf (W := 0) (rmAddN l Z aw hw [] b1 vc b17 n17' (own_put (own_put (fun _ => (0 : Int64)) (own_t va)) (own_t vb)) (((0 : Int64) + (1 : Int64)) + (1 : Int64)) T17.heap n0 (Nat.le_trans Z0 K17.1) GE17 G117 G217 V17 g_b1 g_b17 ne_b17 hvc (by have q := hn17; omega) hz17 hN_19) hZ (hw _ (List.mem_of_getElem? (i := 18) rfl)) (hw _ (List.mem_of_getElem? (i := 4) rfl)) (by decide) (by decide)) q20a q20c (g := (mkF m 86 #[.val (.long q0), .second, .val (.long q1), .second, .val (.long q2), .second, .val (.int p3), .val (.int p4), .val (.long va), .second, .val (.long vb), .second, .val (.long vc), .second, .val (.int vk), .val (.int pm), .val (.ref b1), .unset, .unset, .unset, .unset, .unset, .unset, .unset, .unset, .unset, .unset, .unset, .unset, .unset, .unset, .unset, .unset, .unset, .unset, .unset] [(.long vc), (.ref b1)])) rfl (by rw [hml]; rfl) (Steps.refl _) (argsL := [(.long vc)]) (rest := []) (lenOf pd_7 rfl) rfl (by show 2 * 0 + _ ≤ _; exact Nat.le_of_eq rfl) (hb hby at_86) (fun _ _ => ⟨rfl, rfl, (by decide : 3 + 0 ≤ _), (by decide : 3074 + 0 ≤ _)⟩)
              dsimp only [Pt.U, Pt.locs, Pt.cells, Pt.slots] at X20 l20 y20 z20 st20 hQ20
              subst l20 y20 z20
              obtain ⟨b20, n20', rfl, N20q, Kq20, GE20, G120, G220, V20, hz20, hb20, hn20⟩ := hQ20
              have N20 := Fr.app N17 N20q
              have sz_b20 : h0.size ≤ b20 := by rcases hb20 with q | q; exact q ▸ sz_b17; exact Nat.le_trans K17.1 q
              have g_b20 : n0 ≤ b20 := Nat.le_trans Z0 sz_b20
              have ne_b20 : b1 ≠ b20 := by rcases hb20 with q | q; exact q ▸ ne_b17; exact Nat.ne_of_lt (Nat.lt_of_lt_of_le (GE17).lt q)
              have K20 : Keep h0 T20.heap [] := K17.trans Kq20 (allS (Or.inr sz_b1) (allS (Or.inr sz_b17) all0))
              rw [hn20] at V20 hz20
              refine own_by (A' := T20.setTop (mkF m 89 #[.val (.long q0), .second, .val (.long q1), .second, .val (.long q2), .second, .val (.int p3), .val (.int p4), .val (.long va), .second, .val (.long vb), .second, .val (.long vc), .second, .val (.int vk), .val (.int pm), .val (.ref b1), .unset, .unset, .unset, .unset, .unset, .unset, .unset, .unset, .unset, .unset, .unset, .unset, .unset, .unset, .unset, .unset, .unset, .unset, .unset] [])) (fun t kt => st20.trans kt) ?_
              have hk : vk.toInt = 3 := by
                have z0 := hc53_4; rw [Int32.lt_iff_toInt_lt, show (1 : Int32).toInt = 1 from by decide] at z0
                have z1 := hc66_9; rw [Int32.lt_iff_toInt_lt, show (2 : Int32).toInt = 2 from by decide] at z1
                have z2 := hc79_18; rw [Int32.lt_iff_toInt_lt, show (3 : Int32).toInt = 3 from by decide] at z2
                omega
              have hnn : 1024 ≤ n17'.toInt := by rw [hn17]; decide
              have u0 : (own_t va : Int) < n17'.toInt := by have a := own_tt va hva; rw [hn17]; omega
              have u1 : (own_t vb : Int) < n17'.toInt := by have a := own_tt vb hvb; rw [hn17]; omega
              have u2 : (own_t vc : Int) < n17'.toInt := by have a := own_tt vc hvc; rw [hn17]; omega
              exact kJ3 _ ⟨T20, _, T20.heap, b20, n17', (own_put (own_put (own_put (fun _ => (0 : Int64)) (own_t va)) (own_t vb)) (own_t vc)), ((((0 : Int64) + (1 : Int64)) + (1 : Int64)) + (1 : Int64)), rfl, X20, rfl, N20, K20, GE20, G120, G220, V20, (fun j => (own_cum3 (own_t va) (own_t vb) (own_t vc) j).trans (by omega)), (fun i => (own_b3 (own_t va) (own_t vb) (own_t vc) i).1), (by rw [hk, own_cum3 (own_t va) (own_t vb) (own_t vc)]; simp only [Int32.toNatClampNeg]; omega), (by omega), (by rw [hk]; decide)⟩
      · obtain ⟨cq21, kq21, q21a, q21b, q21c⟩ := isOf hZ rfl GE2
        obtain ⟨_, _, ⟨T21, L21, k21, n21⟩, -, X21, ⟨Lc21, hQ21, l21, y21, z21⟩, st21⟩ := X2.virtualBack hx (y := (⟨"com/example/flashsafe/flashsafe/Latencies", "add", "(J)V"⟩ : MethodName)) (z := (⟨"com/example/flashsafe/flashsafe/Latencies", "add", "(J)V"⟩ : MethodName)) hown (mvT hZ (hw _ (List.mem_of_getElem? (i := 14) rfl))) (mvT hZ (hw _ (List.mem_of_getElem? (i := 15) rfl))) (notFace_of_selects (args := #[]) (mvT hZ (hw _ (List.mem_of_getElem? (i := 17) rfl)))) (mvT hZ (hw _ (List.mem_of_getElem? (i := 17) rfl))) (mvT hZ (hw _ (List.mem_of_getElem? (i := 16) rfl))) (by decide) (backOf (W := 0) (rmAddG l Z aw hw [] b1 va b2 (1024 : Int32) (fun _ => (0 : Int64)) (0 : Int64) T2.heap n0 (Nat.le_trans Z0 K2.1) GE2 G12 G22 V2 g_b1 g_b2 (Nat.ne_of_lt (Nat.lt_of_lt_of_le (A1).lt le2)) hva (by decide) (fun _ _ => rfl) hN_7) hZ (hw _ (List.mem_of_getElem? (i := 18) rfl)) (hw _ (List.mem_of_getElem? (i := 4) rfl)) (by decide) (by decide)) q21a q21c (g := (mkF m 60 #[.val (.long q0), .second, .val (.long q1), .second, .val (.long q2), .second, .val (.int p3), .val (.int p4), .val (.long va), .second, .val (.long vb), .second, .val (.long vc), .second, .val (.int vk), .val (.int pm), .val (.ref b1), .unset, .unset, .unset, .unset, .unset, .unset, .unset, .unset, .unset, .unset, .unset, .unset, .unset, .unset, .unset, .unset, .unset, .unset, .unset] [(.long va), (.ref b1)])) rfl (by rw [hml]; rfl) (Steps.refl _) (argsL := [(.long va)]) (rest := []) (lenOf pd_7 rfl) rfl (by show 2 * 0 + _ ≤ _; exact Nat.le_of_eq rfl) (hb hby at_60) (fun _ _ => ⟨rfl, rfl, (by decide : 2 + 1 ≤ _), (by decide : 1026 + 2048 ≤ _)⟩)
        dsimp only [Pt.U, Pt.locs, Pt.cells, Pt.slots] at X21 l21 y21 z21 st21 hQ21
        subst l21 y21 z21
        obtain ⟨b21, n21', rfl, N21q, Kq21, GE21, G121, G221, V21, hz21, hb21, hn21⟩ := hQ21
        have N21 := Fr.app N2 N21q
        have sz_b21 : h0.size ≤ b21 := by rcases hb21 with q | q; exact q ▸ sz_b2; exact Nat.le_trans K2.1 q
        have g_b21 : n0 ≤ b21 := Nat.le_trans Z0 sz_b21
        have ne_b21 : b1 ≠ b21 := by rcases hb21 with q | q; exact q ▸ (Nat.ne_of_lt (Nat.lt_of_lt_of_le (A1).lt le2)); exact Nat.ne_of_lt (Nat.lt_of_lt_of_le (GE2).lt q)
        have K21 : Keep h0 T21.heap [] := K2.trans Kq21 (allS (Or.inr sz_b1) (allS (Or.inr sz_b2) all0))
        refine own_by (A' := T21.setTop (mkF m 63 #[.val (.long q0), .second, .val (.long q1), .second, .val (.long q2), .second, .val (.int p3), .val (.int p4), .val (.long va), .second, .val (.long vb), .second, .val (.long vc), .second, .val (.int vk), .val (.int pm), .val (.ref b1), .unset, .unset, .unset, .unset, .unset, .unset, .unset, .unset, .unset, .unset, .unset, .unset, .unset, .unset, .unset, .unset, .unset, .unset, .unset] [])) (fun t kt => st21.trans kt) ?_
        refine own_by (A' := T21.setTop (mkF m 66 #[.val (.long q0), .second, .val (.long q1), .second, .val (.long q2), .second, .val (.int p3), .val (.int p4), .val (.long va), .second, .val (.long vb), .second, .val (.long vc), .second, .val (.int vk), .val (.int pm), .val (.ref b1), .unset, .unset, .unset, .unset, .unset, .unset, .unset, .unset, .unset, .unset, .unset, .unset, .unset, .unset, .unset, .unset, .unset, .unset, .unset] [(.int (2 : Int32)), (.int vk)])) (fun t kt => ?_) ?_
        · show Steps p.tables e below (T21.setTop (mkF m 63 #[.val (.long q0), .second, .val (.long q1), .second, .val (.long q2), .second, .val (.int p3), .val (.int p4), .val (.long va), .second, .val (.long vb), .second, .val (.long vc), .second, .val (.int vk), .val (.int pm), .val (.ref b1), .unset, .unset, .unset, .unset, .unset, .unset, .unset, .unset, .unset, .unset, .unset, .unset, .unset, .unset, .unset, .unset, .unset, .unset, .unset] [])) t
          refine XS.iload X21.here hx rfl (hb hby at_63) rfl ?_
          show Steps p.tables e below (T21.setTop (mkF m 65 #[.val (.long q0), .second, .val (.long q1), .second, .val (.long q2), .second, .val (.int p3), .val (.int p4), .val (.long va), .second, .val (.long vb), .second, .val (.long vc), .second, .val (.int vk), .val (.int pm), .val (.ref b1), .unset, .unset, .unset, .unset, .unset, .unset, .unset, .unset, .unset, .unset, .unset, .unset, .unset, .unset, .unset, .unset, .unset, .unset, .unset] [(.int vk)])) t
          refine XS.iconst X21.here hx rfl (hb hby at_65) ?_
          exact kt
        by_cases hc66_22 : vk < (2 : Int32)
        · refine own_by (A' := T21.setTop (mkF m 79 #[.val (.long q0), .second, .val (.long q1), .second, .val (.long q2), .second, .val (.int p3), .val (.int p4), .val (.long va), .second, .val (.long vb), .second, .val (.long vc), .second, .val (.int vk), .val (.int pm), .val (.ref b1), .unset, .unset, .unset, .unset, .unset, .unset, .unset, .unset, .unset, .unset, .unset, .unset, .unset, .unset, .unset, .unset, .unset, .unset, .unset] [(.int (3 : Int32)), (.int vk)])) (fun t kt => ?_) ?_
          · show Steps p.tables e below (T21.setTop (mkF m 66 #[.val (.long q0), .second, .val (.long q1), .second, .val (.long q2), .second, .val (.int p3), .val (.int p4), .val (.long va), .second, .val (.long vb), .second, .val (.long vc), .second, .val (.int vk), .val (.int pm), .val (.ref b1), .unset, .unset, .unset, .unset, .unset, .unset, .unset, .unset, .unset, .unset, .unset, .unset, .unset, .unset, .unset, .unset, .unset, .unset, .unset] [(.int (2 : Int32)), (.int vk)])) t
            refine XS.icmpYes X21.here hx rfl (pc0 := 66) (pc' := 76) rfl (hb hby at_66) rfl (tlt hc66_22).1 (by decide) (by decide) ?_
            show Steps p.tables e below (T21.setTop (mkF m 76 #[.val (.long q0), .second, .val (.long q1), .second, .val (.long q2), .second, .val (.int p3), .val (.int p4), .val (.long va), .second, .val (.long vb), .second, .val (.long vc), .second, .val (.int vk), .val (.int pm), .val (.ref b1), .unset, .unset, .unset, .unset, .unset, .unset, .unset, .unset, .unset, .unset, .unset, .unset, .unset, .unset, .unset, .unset, .unset, .unset, .unset] [])) t
            refine XS.iload X21.here hx rfl (hb hby at_76) rfl ?_
            show Steps p.tables e below (T21.setTop (mkF m 78 #[.val (.long q0), .second, .val (.long q1), .second, .val (.long q2), .second, .val (.int p3), .val (.int p4), .val (.long va), .second, .val (.long vb), .second, .val (.long vc), .second, .val (.int vk), .val (.int pm), .val (.ref b1), .unset, .unset, .unset, .unset, .unset, .unset, .unset, .unset, .unset, .unset, .unset, .unset, .unset, .unset, .unset, .unset, .unset, .unset, .unset] [(.int vk)])) t
            refine XS.iconst X21.here hx rfl (hb hby at_78) ?_
            exact kt
          have hc79_23 : vk < (3 : Int32) := by have q := hc66_22; rw [Int32.lt_iff_toInt_lt] at q ⊢; simp only [Int32.reduceToInt] at q ⊢; omega
          refine own_by (A' := T21.setTop (mkF m 89 #[.val (.long q0), .second, .val (.long q1), .second, .val (.long q2), .second, .val (.int p3), .val (.int p4), .val (.long va), .second, .val (.long vb), .second, .val (.long vc), .second, .val (.int vk), .val (.int pm), .val (.ref b1), .unset, .unset, .unset, .unset, .unset, .unset, .unset, .unset, .unset, .unset, .unset, .unset, .unset, .unset, .unset, .unset, .unset, .unset, .unset] [])) (fun t kt => ?_) ?_
          · show Steps p.tables e below (T21.setTop (mkF m 79 #[.val (.long q0), .second, .val (.long q1), .second, .val (.long q2), .second, .val (.int p3), .val (.int p4), .val (.long va), .second, .val (.long vb), .second, .val (.long vc), .second, .val (.int vk), .val (.int pm), .val (.ref b1), .unset, .unset, .unset, .unset, .unset, .unset, .unset, .unset, .unset, .unset, .unset, .unset, .unset, .unset, .unset, .unset, .unset, .unset, .unset] [(.int (3 : Int32)), (.int vk)])) t
            refine XS.icmpYes X21.here hx rfl (pc0 := 79) (pc' := 89) rfl (hb hby at_79) rfl (tlt hc79_23).1 (by decide) (by decide) ?_
            exact kt
          have hk : vk.toInt = 1 := by
            have z0 := hc53_4; rw [Int32.lt_iff_toInt_lt, show (1 : Int32).toInt = 1 from by decide] at z0
            have z1 := hc66_22; rw [Int32.lt_iff_toInt_lt, show (2 : Int32).toInt = 2 from by decide] at z1
            omega
          have hnn : 1024 ≤ n21'.toInt := by rw [hn21]; decide
          have u0 : (own_t va : Int) < n21'.toInt := by have a := own_tt va hva; rw [hn21]; omega
          exact kJ3 _ ⟨T21, _, T21.heap, b21, n21', (own_put (fun _ => (0 : Int64)) (own_t va)), ((0 : Int64) + (1 : Int64)), rfl, X21, rfl, N21, K21, GE21, G121, G221, V21, (fun j => (own_cum1 (own_t va) j).trans (by omega)), (fun i => (own_b1 (own_t va) i).1), (by rw [hk, own_cum1 (own_t va)]; simp only [Int32.toNatClampNeg]; omega), (by omega), (by rw [hk]; decide)⟩
        · refine own_by (A' := T21.setTop (mkF m 73 #[.val (.long q0), .second, .val (.long q1), .second, .val (.long q2), .second, .val (.int p3), .val (.int p4), .val (.long va), .second, .val (.long vb), .second, .val (.long vc), .second, .val (.int vk), .val (.int pm), .val (.ref b1), .unset, .unset, .unset, .unset, .unset, .unset, .unset, .unset, .unset, .unset, .unset, .unset, .unset, .unset, .unset, .unset, .unset, .unset, .unset] [(.long vb), (.ref b1)])) (fun t kt => ?_) ?_
          · show Steps p.tables e below (T21.setTop (mkF m 66 #[.val (.long q0), .second, .val (.long q1), .second, .val (.long q2), .second, .val (.int p3), .val (.int p4), .val (.long va), .second, .val (.long vb), .second, .val (.long vc), .second, .val (.int vk), .val (.int pm), .val (.ref b1), .unset, .unset, .unset, .unset, .unset, .unset, .unset, .unset, .unset, .unset, .unset, .unset, .unset, .unset, .unset, .unset, .unset, .unset, .unset] [(.int (2 : Int32)), (.int vk)])) t
            refine XS.icmpNo X21.here hx rfl (hb hby at_66) rfl (flt hc66_22).1 ?_
            show Steps p.tables e below (T21.setTop (mkF m 69 #[.val (.long q0), .second, .val (.long q1), .second, .val (.long q2), .second, .val (.int p3), .val (.int p4), .val (.long va), .second, .val (.long vb), .second, .val (.long vc), .second, .val (.int vk), .val (.int pm), .val (.ref b1), .unset, .unset, .unset, .unset, .unset, .unset, .unset, .unset, .unset, .unset, .unset, .unset, .unset, .unset, .unset, .unset, .unset, .unset, .unset] [])) t
            refine XS.aload X21.here hx rfl (hb hby at_69) rfl rfl ?_
            show Steps p.tables e below (T21.setTop (mkF m 71 #[.val (.long q0), .second, .val (.long q1), .second, .val (.long q2), .second, .val (.int p3), .val (.int p4), .val (.long va), .second, .val (.long vb), .second, .val (.long vc), .second, .val (.int vk), .val (.int pm), .val (.ref b1), .unset, .unset, .unset, .unset, .unset, .unset, .unset, .unset, .unset, .unset, .unset, .unset, .unset, .unset, .unset, .unset, .unset, .unset, .unset] [(.ref b1)])) t
            refine XS.lload X21.here hx rfl (hb hby at_71) rfl ?_
            exact kt
          have hN_24 : own_ten vb < n21'.toInt64 := by have a := own_tt vb hvb; rw [Int64.lt_iff_toInt_lt, c_i2l, hn21]; omega
          obtain ⟨cq25, kq25, q25a, q25b, q25c⟩ := isOf hZ rfl GE21
          obtain ⟨_, _, ⟨T25, L25, k25, n25⟩, -, X25, ⟨Lc25, hQ25, l25, y25, z25⟩, st25⟩ := X21.virtualBack hx (y := (⟨"com/example/flashsafe/flashsafe/Latencies", "add", "(J)V"⟩ : MethodName)) (z := (⟨"com/example/flashsafe/flashsafe/Latencies", "add", "(J)V"⟩ : MethodName)) hown (mvT hZ (hw _ (List.mem_of_getElem? (i := 14) rfl))) (mvT hZ (hw _ (List.mem_of_getElem? (i := 15) rfl))) (notFace_of_selects (args := #[]) (mvT hZ (hw _ (List.mem_of_getElem? (i := 17) rfl)))) (mvT hZ (hw _ (List.mem_of_getElem? (i := 17) rfl))) (mvT hZ (hw _ (List.mem_of_getElem? (i := 16) rfl))) (by decide) (backOf (W := 0) (rmAddN l Z aw hw [] b1 vb b21 n21' (own_put (fun _ => (0 : Int64)) (own_t va)) ((0 : Int64) + (1 : Int64)) T21.heap n0 (Nat.le_trans Z0 K21.1) GE21 G121 G221 V21 g_b1 g_b21 ne_b21 hvb (by have q := hn21; omega) hz21 hN_24) hZ (hw _ (List.mem_of_getElem? (i := 18) rfl)) (hw _ (List.mem_of_getElem? (i := 4) rfl)) (by decide) (by decide)) q25a q25c (g := (mkF m 73 #[.val (.long q0), .second, .val (.long q1), .second, .val (.long q2), .second, .val (.int p3), .val (.int p4), .val (.long va), .second, .val (.long vb), .second, .val (.long vc), .second, .val (.int vk), .val (.int pm), .val (.ref b1), .unset, .unset, .unset, .unset, .unset, .unset, .unset, .unset, .unset, .unset, .unset, .unset, .unset, .unset, .unset, .unset, .unset, .unset, .unset] [(.long vb), (.ref b1)])) rfl (by rw [hml]; rfl) (Steps.refl _) (argsL := [(.long vb)]) (rest := []) (lenOf pd_7 rfl) rfl (by show 2 * 0 + _ ≤ _; exact Nat.le_of_eq rfl) (hb hby at_73) (fun _ _ => ⟨rfl, rfl, (by decide : 3 + 0 ≤ _), (by decide : 3074 + 0 ≤ _)⟩)
          dsimp only [Pt.U, Pt.locs, Pt.cells, Pt.slots] at X25 l25 y25 z25 st25 hQ25
          subst l25 y25 z25
          obtain ⟨b25, n25', rfl, N25q, Kq25, GE25, G125, G225, V25, hz25, hb25, hn25⟩ := hQ25
          have N25 := Fr.app N21 N25q
          have sz_b25 : h0.size ≤ b25 := by rcases hb25 with q | q; exact q ▸ sz_b21; exact Nat.le_trans K21.1 q
          have g_b25 : n0 ≤ b25 := Nat.le_trans Z0 sz_b25
          have ne_b25 : b1 ≠ b25 := by rcases hb25 with q | q; exact q ▸ ne_b21; exact Nat.ne_of_lt (Nat.lt_of_lt_of_le (GE21).lt q)
          have K25 : Keep h0 T25.heap [] := K21.trans Kq25 (allS (Or.inr sz_b1) (allS (Or.inr sz_b21) all0))
          rw [hn25] at V25 hz25
          refine own_by (A' := T25.setTop (mkF m 76 #[.val (.long q0), .second, .val (.long q1), .second, .val (.long q2), .second, .val (.int p3), .val (.int p4), .val (.long va), .second, .val (.long vb), .second, .val (.long vc), .second, .val (.int vk), .val (.int pm), .val (.ref b1), .unset, .unset, .unset, .unset, .unset, .unset, .unset, .unset, .unset, .unset, .unset, .unset, .unset, .unset, .unset, .unset, .unset, .unset, .unset] [])) (fun t kt => st25.trans kt) ?_
          refine own_by (A' := T25.setTop (mkF m 79 #[.val (.long q0), .second, .val (.long q1), .second, .val (.long q2), .second, .val (.int p3), .val (.int p4), .val (.long va), .second, .val (.long vb), .second, .val (.long vc), .second, .val (.int vk), .val (.int pm), .val (.ref b1), .unset, .unset, .unset, .unset, .unset, .unset, .unset, .unset, .unset, .unset, .unset, .unset, .unset, .unset, .unset, .unset, .unset, .unset, .unset] [(.int (3 : Int32)), (.int vk)])) (fun t kt => ?_) ?_
          · show Steps p.tables e below (T25.setTop (mkF m 76 #[.val (.long q0), .second, .val (.long q1), .second, .val (.long q2), .second, .val (.int p3), .val (.int p4), .val (.long va), .second, .val (.long vb), .second, .val (.long vc), .second, .val (.int vk), .val (.int pm), .val (.ref b1), .unset, .unset, .unset, .unset, .unset, .unset, .unset, .unset, .unset, .unset, .unset, .unset, .unset, .unset, .unset, .unset, .unset, .unset, .unset] [])) t
            refine XS.iload X25.here hx rfl (hb hby at_76) rfl ?_
            show Steps p.tables e below (T25.setTop (mkF m 78 #[.val (.long q0), .second, .val (.long q1), .second, .val (.long q2), .second, .val (.int p3), .val (.int p4), .val (.long va), .second, .val (.long vb), .second, .val (.long vc), .second, .val (.int vk), .val (.int pm), .val (.ref b1), .unset, .unset, .unset, .unset, .unset, .unset, .unset, .unset, .unset, .unset, .unset, .unset, .unset, .unset, .unset, .unset, .unset, .unset, .unset] [(.int vk)])) t
            refine XS.iconst X25.here hx rfl (hb hby at_78) ?_
            exact kt
          by_cases hc79_26 : vk < (3 : Int32)
          · refine own_by (A' := T25.setTop (mkF m 89 #[.val (.long q0), .second, .val (.long q1), .second, .val (.long q2), .second, .val (.int p3), .val (.int p4), .val (.long va), .second, .val (.long vb), .second, .val (.long vc), .second, .val (.int vk), .val (.int pm), .val (.ref b1), .unset, .unset, .unset, .unset, .unset, .unset, .unset, .unset, .unset, .unset, .unset, .unset, .unset, .unset, .unset, .unset, .unset, .unset, .unset] [])) (fun t kt => ?_) ?_
            · show Steps p.tables e below (T25.setTop (mkF m 79 #[.val (.long q0), .second, .val (.long q1), .second, .val (.long q2), .second, .val (.int p3), .val (.int p4), .val (.long va), .second, .val (.long vb), .second, .val (.long vc), .second, .val (.int vk), .val (.int pm), .val (.ref b1), .unset, .unset, .unset, .unset, .unset, .unset, .unset, .unset, .unset, .unset, .unset, .unset, .unset, .unset, .unset, .unset, .unset, .unset, .unset] [(.int (3 : Int32)), (.int vk)])) t
              refine XS.icmpYes X25.here hx rfl (pc0 := 79) (pc' := 89) rfl (hb hby at_79) rfl (tlt hc79_26).1 (by decide) (by decide) ?_
              exact kt
            have hk : vk.toInt = 2 := by
              have z0 := hc53_4; rw [Int32.lt_iff_toInt_lt, show (1 : Int32).toInt = 1 from by decide] at z0
              have z1 := hc66_22; rw [Int32.lt_iff_toInt_lt, show (2 : Int32).toInt = 2 from by decide] at z1
              have z2 := hc79_26; rw [Int32.lt_iff_toInt_lt, show (3 : Int32).toInt = 3 from by decide] at z2
              omega
            have hnn : 1024 ≤ n21'.toInt := by rw [hn21]; decide
            have u0 : (own_t va : Int) < n21'.toInt := by have a := own_tt va hva; rw [hn21]; omega
            have u1 : (own_t vb : Int) < n21'.toInt := by have a := own_tt vb hvb; rw [hn21]; omega
            exact kJ3 _ ⟨T25, _, T25.heap, b25, n21', (own_put (own_put (fun _ => (0 : Int64)) (own_t va)) (own_t vb)), (((0 : Int64) + (1 : Int64)) + (1 : Int64)), rfl, X25, rfl, N25, K25, GE25, G125, G225, V25, (fun j => (own_cum2 (own_t va) (own_t vb) j).trans (by omega)), (fun i => (own_b2 (own_t va) (own_t vb) i).1), (by rw [hk, own_cum2 (own_t va) (own_t vb)]; simp only [Int32.toNatClampNeg]; omega), (by omega), (by rw [hk]; decide)⟩
          · refine own_by (A' := T25.setTop (mkF m 86 #[.val (.long q0), .second, .val (.long q1), .second, .val (.long q2), .second, .val (.int p3), .val (.int p4), .val (.long va), .second, .val (.long vb), .second, .val (.long vc), .second, .val (.int vk), .val (.int pm), .val (.ref b1), .unset, .unset, .unset, .unset, .unset, .unset, .unset, .unset, .unset, .unset, .unset, .unset, .unset, .unset, .unset, .unset, .unset, .unset, .unset] [(.long vc), (.ref b1)])) (fun t kt => ?_) ?_
            · show Steps p.tables e below (T25.setTop (mkF m 79 #[.val (.long q0), .second, .val (.long q1), .second, .val (.long q2), .second, .val (.int p3), .val (.int p4), .val (.long va), .second, .val (.long vb), .second, .val (.long vc), .second, .val (.int vk), .val (.int pm), .val (.ref b1), .unset, .unset, .unset, .unset, .unset, .unset, .unset, .unset, .unset, .unset, .unset, .unset, .unset, .unset, .unset, .unset, .unset, .unset, .unset] [(.int (3 : Int32)), (.int vk)])) t
              refine XS.icmpNo X25.here hx rfl (hb hby at_79) rfl (flt hc79_26).1 ?_
              show Steps p.tables e below (T25.setTop (mkF m 82 #[.val (.long q0), .second, .val (.long q1), .second, .val (.long q2), .second, .val (.int p3), .val (.int p4), .val (.long va), .second, .val (.long vb), .second, .val (.long vc), .second, .val (.int vk), .val (.int pm), .val (.ref b1), .unset, .unset, .unset, .unset, .unset, .unset, .unset, .unset, .unset, .unset, .unset, .unset, .unset, .unset, .unset, .unset, .unset, .unset, .unset] [])) t
              refine XS.aload X25.here hx rfl (hb hby at_82) rfl rfl ?_
              show Steps p.tables e below (T25.setTop (mkF m 84 #[.val (.long q0), .second, .val (.long q1), .second, .val (.long q2), .second, .val (.int p3), .val (.int p4), .val (.long va), .second, .val (.long vb), .second, .val (.long vc), .second, .val (.int vk), .val (.int pm), .val (.ref b1), .unset, .unset, .unset, .unset, .unset, .unset, .unset, .unset, .unset, .unset, .unset, .unset, .unset, .unset, .unset, .unset, .unset, .unset, .unset] [(.ref b1)])) t
              refine XS.lload X25.here hx rfl (hb hby at_84) rfl ?_
              exact kt
            have hN_27 : own_ten vc < n21'.toInt64 := by have a := own_tt vc hvc; rw [Int64.lt_iff_toInt_lt, c_i2l, hn21]; omega
            obtain ⟨cq28, kq28, q28a, q28b, q28c⟩ := isOf hZ rfl GE25
            obtain ⟨_, _, ⟨T28, L28, k28, n28⟩, -, X28, ⟨Lc28, hQ28, l28, y28, z28⟩, st28⟩ := X25.virtualBack hx (y := (⟨"com/example/flashsafe/flashsafe/Latencies", "add", "(J)V"⟩ : MethodName)) (z := (⟨"com/example/flashsafe/flashsafe/Latencies", "add", "(J)V"⟩ : MethodName)) hown (mvT hZ (hw _ (List.mem_of_getElem? (i := 14) rfl))) (mvT hZ (hw _ (List.mem_of_getElem? (i := 15) rfl))) (notFace_of_selects (args := #[]) (mvT hZ (hw _ (List.mem_of_getElem? (i := 17) rfl)))) (mvT hZ (hw _ (List.mem_of_getElem? (i := 17) rfl))) (mvT hZ (hw _ (List.mem_of_getElem? (i := 16) rfl))) (by decide) (backOf (W := 0) (rmAddN l Z aw hw [] b1 vc b25 n21' (own_put (own_put (fun _ => (0 : Int64)) (own_t va)) (own_t vb)) (((0 : Int64) + (1 : Int64)) + (1 : Int64)) T25.heap n0 (Nat.le_trans Z0 K25.1) GE25 G125 G225 V25 g_b1 g_b25 ne_b25 hvc (by have q := hn21; omega) hz25 hN_27) hZ (hw _ (List.mem_of_getElem? (i := 18) rfl)) (hw _ (List.mem_of_getElem? (i := 4) rfl)) (by decide) (by decide)) q28a q28c (g := (mkF m 86 #[.val (.long q0), .second, .val (.long q1), .second, .val (.long q2), .second, .val (.int p3), .val (.int p4), .val (.long va), .second, .val (.long vb), .second, .val (.long vc), .second, .val (.int vk), .val (.int pm), .val (.ref b1), .unset, .unset, .unset, .unset, .unset, .unset, .unset, .unset, .unset, .unset, .unset, .unset, .unset, .unset, .unset, .unset, .unset, .unset, .unset] [(.long vc), (.ref b1)])) rfl (by rw [hml]; rfl) (Steps.refl _) (argsL := [(.long vc)]) (rest := []) (lenOf pd_7 rfl) rfl (by show 2 * 0 + _ ≤ _; exact Nat.le_of_eq rfl) (hb hby at_86) (fun _ _ => ⟨rfl, rfl, (by decide : 3 + 0 ≤ _), (by decide : 3074 + 0 ≤ _)⟩)
            dsimp only [Pt.U, Pt.locs, Pt.cells, Pt.slots] at X28 l28 y28 z28 st28 hQ28
            subst l28 y28 z28
            obtain ⟨b28, n28', rfl, N28q, Kq28, GE28, G128, G228, V28, hz28, hb28, hn28⟩ := hQ28
            have N28 := Fr.app N25 N28q
            have sz_b28 : h0.size ≤ b28 := by rcases hb28 with q | q; exact q ▸ sz_b25; exact Nat.le_trans K25.1 q
            have g_b28 : n0 ≤ b28 := Nat.le_trans Z0 sz_b28
            have ne_b28 : b1 ≠ b28 := by rcases hb28 with q | q; exact q ▸ ne_b25; exact Nat.ne_of_lt (Nat.lt_of_lt_of_le (GE25).lt q)
            have K28 : Keep h0 T28.heap [] := K25.trans Kq28 (allS (Or.inr sz_b1) (allS (Or.inr sz_b25) all0))
            rw [hn28] at V28 hz28
            refine own_by (A' := T28.setTop (mkF m 89 #[.val (.long q0), .second, .val (.long q1), .second, .val (.long q2), .second, .val (.int p3), .val (.int p4), .val (.long va), .second, .val (.long vb), .second, .val (.long vc), .second, .val (.int vk), .val (.int pm), .val (.ref b1), .unset, .unset, .unset, .unset, .unset, .unset, .unset, .unset, .unset, .unset, .unset, .unset, .unset, .unset, .unset, .unset, .unset, .unset, .unset] [])) (fun t kt => st28.trans kt) ?_
            have hk : vk.toInt = 3 := by
              have z0 := hc53_4; rw [Int32.lt_iff_toInt_lt, show (1 : Int32).toInt = 1 from by decide] at z0
              have z1 := hc66_22; rw [Int32.lt_iff_toInt_lt, show (2 : Int32).toInt = 2 from by decide] at z1
              have z2 := hc79_26; rw [Int32.lt_iff_toInt_lt, show (3 : Int32).toInt = 3 from by decide] at z2
              omega
            have hnn : 1024 ≤ n21'.toInt := by rw [hn21]; decide
            have u0 : (own_t va : Int) < n21'.toInt := by have a := own_tt va hva; rw [hn21]; omega
            have u1 : (own_t vb : Int) < n21'.toInt := by have a := own_tt vb hvb; rw [hn21]; omega
            have u2 : (own_t vc : Int) < n21'.toInt := by have a := own_tt vc hvc; rw [hn21]; omega
            exact kJ3 _ ⟨T28, _, T28.heap, b28, n21', (own_put (own_put (own_put (fun _ => (0 : Int64)) (own_t va)) (own_t vb)) (own_t vc)), ((((0 : Int64) + (1 : Int64)) + (1 : Int64)) + (1 : Int64)), rfl, X28, rfl, N28, K28, GE28, G128, G228, V28, (fun j => (own_cum3 (own_t va) (own_t vb) (own_t vc) j).trans (by omega)), (fun i => (own_b3 (own_t va) (own_t vb) (own_t vc) i).1), (by rw [hk, own_cum3 (own_t va) (own_t vb) (own_t vc)]; simp only [Int32.toNatClampNeg]; omega), (by omega), (by rw [hk]; decide)⟩
  rintro A' ⟨TJ3, LJ3, hJ3, bJ, nJ, fJ, tJ, rfl, XJ3, eJ3, NJ3, KJ3, cE, cF, cT, cV, hcum, hfJ, hcn, hnJ, htJ⟩
  have hkc : vk.toInt = 0 ∨ vk.toInt = 1 ∨ vk.toInt = 2 ∨ vk.toInt = 3 := by omega
  have hrk := own_rk pm tJ vk.toInt hpm htJ hkc
  have hrk' : (own_rank pm tJ).toInt ≤ own_cum fJ nJ.toNatClampNeg := by
    rw [hcn, hrk]
    rcases hkc with q | q | q | q <;> rw [q] <;> omega
  refine own_by (A' := TJ3.setTop (mkF m 93 #[.val (.long q0), .second, .val (.long q1), .second, .val (.long q2), .second, .val (.int p3), .val (.int p4), .val (.long va), .second, .val (.long vb), .second, .val (.long vc), .second, .val (.int vk), .val (.int pm), .val (.ref b1), .unset, .unset, .unset, .unset, .unset, .unset, .unset, .unset, .unset, .unset, .unset, .unset, .unset, .unset, .unset, .unset, .unset, .unset, .unset] [(.int pm), (.ref b1)])) (fun t kt => ?_) ?_
  · show Steps p.tables e below (TJ3.setTop (mkF m 89 #[.val (.long q0), .second, .val (.long q1), .second, .val (.long q2), .second, .val (.int p3), .val (.int p4), .val (.long va), .second, .val (.long vb), .second, .val (.long vc), .second, .val (.int vk), .val (.int pm), .val (.ref b1), .unset, .unset, .unset, .unset, .unset, .unset, .unset, .unset, .unset, .unset, .unset, .unset, .unset, .unset, .unset, .unset, .unset, .unset, .unset] [])) t
    refine XS.aload XJ3.here hx rfl (hb hby at_89) rfl rfl ?_
    show Steps p.tables e below (TJ3.setTop (mkF m 91 #[.val (.long q0), .second, .val (.long q1), .second, .val (.long q2), .second, .val (.int p3), .val (.int p4), .val (.long va), .second, .val (.long vb), .second, .val (.long vc), .second, .val (.int vk), .val (.int pm), .val (.ref b1), .unset, .unset, .unset, .unset, .unset, .unset, .unset, .unset, .unset, .unset, .unset, .unset, .unset, .unset, .unset, .unset, .unset, .unset, .unset] [(.ref b1)])) t
    refine XS.iload XJ3.here hx rfl (hb hby at_91) rfl ?_
    exact kt
  obtain ⟨cq29, kq29, q29a, q29b, q29c⟩ := isOf hZ eJ3 cE
  obtain ⟨_, _, ⟨T29, L29, k29, n29⟩, -, X29, ⟨Lc29, hQ29, l29, y29, z29⟩, st29⟩ := XJ3.virtualBack hx (y := (⟨"com/example/flashsafe/flashsafe/Latencies", "percentile", "(I)J"⟩ : MethodName)) (z := (⟨"com/example/flashsafe/flashsafe/Latencies", "percentile", "(I)J"⟩ : MethodName)) hown (mvT hZ (hw _ (List.mem_of_getElem? (i := 23) rfl))) (mvT hZ (hw _ (List.mem_of_getElem? (i := 24) rfl))) (notFace_of_selects (args := #[]) (mvT hZ (hw _ (List.mem_of_getElem? (i := 26) rfl)))) (mvT hZ (hw _ (List.mem_of_getElem? (i := 26) rfl))) (mvT hZ (hw _ (List.mem_of_getElem? (i := 25) rfl))) (by decide) (backOf (W := 0) (rm4 l Z aw hw [] b1 pm bJ nJ fJ tJ hJ3 n0 (Nat.le_trans Z0 KJ3.1) cF cT cV hfJ (fun j => by rw [hcum]; omega) hrk' hnJ) hZ (hw _ (List.mem_of_getElem? (i := 27) rfl)) (hw _ (List.mem_of_getElem? (i := 4) rfl)) (by decide) (by decide)) q29a q29c (g := (mkF m 93 #[.val (.long q0), .second, .val (.long q1), .second, .val (.long q2), .second, .val (.int p3), .val (.int p4), .val (.long va), .second, .val (.long vb), .second, .val (.long vc), .second, .val (.int vk), .val (.int pm), .val (.ref b1), .unset, .unset, .unset, .unset, .unset, .unset, .unset, .unset, .unset, .unset, .unset, .unset, .unset, .unset, .unset, .unset, .unset, .unset, .unset] [(.int pm), (.ref b1)])) rfl (by rw [hml]; rfl) (Steps.refl _) (argsL := [(.int pm)]) (rest := []) (lenOf pd_8 rfl) rfl (by show 2 * 0 + _ ≤ _; exact Nat.le_of_eq rfl) (hb hby at_93) (fun _ _ => ⟨rfl, eJ3, (by decide : 3 + 0 ≤ _), (by decide : 3074 + 0 ≤ _)⟩)
  dsimp only [Pt.U, Pt.locs, Pt.cells, Pt.slots] at X29 l29 y29 z29 st29 hQ29
  subst l29 y29 z29
  obtain ⟨r29, rfl, N29q, e29, hP29⟩ := hQ29
  have N29 := Fr.app NJ3 N29q
  refine own_by (A' := T29.setTop (mkF m 96 #[.val (.long q0), .second, .val (.long q1), .second, .val (.long q2), .second, .val (.int p3), .val (.int p4), .val (.long va), .second, .val (.long vb), .second, .val (.long vc), .second, .val (.int vk), .val (.int pm), .val (.ref b1), .unset, .unset, .unset, .unset, .unset, .unset, .unset, .unset, .unset, .unset, .unset, .unset, .unset, .unset, .unset, .unset, .unset, .unset, .unset] [(.long r29)])) (fun t kt => st29.trans kt) ?_
  refine own_by (A' := T29.setTop (mkF m 100 #[.val (.long q0), .second, .val (.long q1), .second, .val (.long q2), .second, .val (.int p3), .val (.int p4), .val (.long va), .second, .val (.long vb), .second, .val (.long vc), .second, .val (.int vk), .val (.int pm), .val (.ref b1), .val (.long r29), .second, .unset, .unset, .unset, .unset, .unset, .unset, .unset, .unset, .unset, .unset, .unset, .unset, .unset, .unset, .unset, .unset, .unset] [(.long va)])) (fun t kt => ?_) ?_
  · show Steps p.tables e below (T29.setTop (mkF m 96 #[.val (.long q0), .second, .val (.long q1), .second, .val (.long q2), .second, .val (.int p3), .val (.int p4), .val (.long va), .second, .val (.long vb), .second, .val (.long vc), .second, .val (.int vk), .val (.int pm), .val (.ref b1), .unset, .unset, .unset, .unset, .unset, .unset, .unset, .unset, .unset, .unset, .unset, .unset, .unset, .unset, .unset, .unset, .unset, .unset, .unset] [(.long r29)])) t
    refine XS.lstore X29.here hx rfl (hb hby at_96) rfl (l' := #[.val (.long q0), .second, .val (.long q1), .second, .val (.long q2), .second, .val (.int p3), .val (.int p4), .val (.long va), .second, .val (.long vb), .second, .val (.long vc), .second, .val (.int vk), .val (.int pm), .val (.ref b1), .val (.long r29), .second, .unset, .unset, .unset, .unset, .unset, .unset, .unset, .unset, .unset, .unset, .unset, .unset, .unset, .unset, .unset, .unset, .unset]) rfl ?_
    show Steps p.tables e below (T29.setTop (mkF m 98 #[.val (.long q0), .second, .val (.long q1), .second, .val (.long q2), .second, .val (.int p3), .val (.int p4), .val (.long va), .second, .val (.long vb), .second, .val (.long vc), .second, .val (.int vk), .val (.int pm), .val (.ref b1), .val (.long r29), .second, .unset, .unset, .unset, .unset, .unset, .unset, .unset, .unset, .unset, .unset, .unset, .unset, .unset, .unset, .unset, .unset, .unset] [])) t
    refine XS.lload X29.here hx rfl (hb hby at_98) rfl ?_
    exact kt
  obtain ⟨_, _, ⟨T30, L30, k30, n30⟩, -, X30, ⟨Lc30, hQ30, l30, y30, z30⟩, st30⟩ := Jvm.LawKit.callS X29 hx (y := (⟨"com/example/flashsafe/flashsafe/LatenciesPercentilePinLaw", "tenths", "(J)J"⟩ : MethodName)) hown (mvT hZ (hw _ (List.mem_of_getElem? (i := 30) rfl))) (mvT hZ (hw _ (List.mem_of_getElem? (i := 31) rfl))) (mvT hZ (hw _ (List.mem_of_getElem? (i := 32) rfl))) (mvT hZ (hw _ (List.mem_of_getElem? (i := 33) rfl))) (by decide) (backOf (W := 0) (rm5 l Z aw hw [] va hJ3 n0 (Nat.le_trans Z0 KJ3.1) ) hZ (hw _ (List.mem_of_getElem? (i := 33) rfl)) (hw _ (List.mem_of_getElem? (i := 32) rfl)) (by decide) (by decide)) (g := (mkF m 100 #[.val (.long q0), .second, .val (.long q1), .second, .val (.long q2), .second, .val (.int p3), .val (.int p4), .val (.long va), .second, .val (.long vb), .second, .val (.long vc), .second, .val (.int vk), .val (.int pm), .val (.ref b1), .val (.long r29), .second, .unset, .unset, .unset, .unset, .unset, .unset, .unset, .unset, .unset, .unset, .unset, .unset, .unset, .unset, .unset, .unset, .unset] [(.long va)])) rfl (by rw [hml]; rfl) (argsL := [(.long va)]) (rest := []) (lenOf pd_9 rfl) rfl (by show 2 * 0 + _ ≤ _; exact Nat.le_of_eq rfl) (hb hby at_100) (fun _ _ => ⟨rfl, e29, (by decide : 3 + 0 ≤ _), (by decide : 3074 + 0 ≤ _)⟩)
  dsimp only [Pt.U, Pt.locs, Pt.cells, Pt.slots] at X30 l30 y30 z30 st30 hQ30
  subst l30 y30 z30
  obtain ⟨rfl, N30q, e30⟩ := hQ30
  have N30 := Fr.app N29 N30q
  refine own_by (A' := T30.setTop (mkF m 103 #[.val (.long q0), .second, .val (.long q1), .second, .val (.long q2), .second, .val (.int p3), .val (.int p4), .val (.long va), .second, .val (.long vb), .second, .val (.long vc), .second, .val (.int vk), .val (.int pm), .val (.ref b1), .val (.long r29), .second, .unset, .unset, .unset, .unset, .unset, .unset, .unset, .unset, .unset, .unset, .unset, .unset, .unset, .unset, .unset, .unset, .unset] [(.long (own_f5 va))])) (fun t kt => st30 t kt) ?_
  refine own_by (A' := T30.setTop (mkF m 107 #[.val (.long q0), .second, .val (.long q1), .second, .val (.long q2), .second, .val (.int p3), .val (.int p4), .val (.long va), .second, .val (.long vb), .second, .val (.long vc), .second, .val (.int vk), .val (.int pm), .val (.ref b1), .val (.long r29), .second, .val (.long (own_f5 va)), .second, .unset, .unset, .unset, .unset, .unset, .unset, .unset, .unset, .unset, .unset, .unset, .unset, .unset, .unset, .unset] [(.long vb)])) (fun t kt => ?_) ?_
  · show Steps p.tables e below (T30.setTop (mkF m 103 #[.val (.long q0), .second, .val (.long q1), .second, .val (.long q2), .second, .val (.int p3), .val (.int p4), .val (.long va), .second, .val (.long vb), .second, .val (.long vc), .second, .val (.int vk), .val (.int pm), .val (.ref b1), .val (.long r29), .second, .unset, .unset, .unset, .unset, .unset, .unset, .unset, .unset, .unset, .unset, .unset, .unset, .unset, .unset, .unset, .unset, .unset] [(.long (own_f5 va))])) t
    refine XS.lstore X30.here hx rfl (hb hby at_103) rfl (l' := #[.val (.long q0), .second, .val (.long q1), .second, .val (.long q2), .second, .val (.int p3), .val (.int p4), .val (.long va), .second, .val (.long vb), .second, .val (.long vc), .second, .val (.int vk), .val (.int pm), .val (.ref b1), .val (.long r29), .second, .val (.long (own_f5 va)), .second, .unset, .unset, .unset, .unset, .unset, .unset, .unset, .unset, .unset, .unset, .unset, .unset, .unset, .unset, .unset]) rfl ?_
    show Steps p.tables e below (T30.setTop (mkF m 105 #[.val (.long q0), .second, .val (.long q1), .second, .val (.long q2), .second, .val (.int p3), .val (.int p4), .val (.long va), .second, .val (.long vb), .second, .val (.long vc), .second, .val (.int vk), .val (.int pm), .val (.ref b1), .val (.long r29), .second, .val (.long (own_f5 va)), .second, .unset, .unset, .unset, .unset, .unset, .unset, .unset, .unset, .unset, .unset, .unset, .unset, .unset, .unset, .unset] [])) t
    refine XS.lload X30.here hx rfl (hb hby at_105) rfl ?_
    exact kt
  obtain ⟨_, _, ⟨T31, L31, k31, n31⟩, -, X31, ⟨Lc31, hQ31, l31, y31, z31⟩, st31⟩ := Jvm.LawKit.callS X30 hx (y := (⟨"com/example/flashsafe/flashsafe/LatenciesPercentilePinLaw", "tenths", "(J)J"⟩ : MethodName)) hown (mvT hZ (hw _ (List.mem_of_getElem? (i := 30) rfl))) (mvT hZ (hw _ (List.mem_of_getElem? (i := 31) rfl))) (mvT hZ (hw _ (List.mem_of_getElem? (i := 32) rfl))) (mvT hZ (hw _ (List.mem_of_getElem? (i := 33) rfl))) (by decide) (backOf (W := 0) (rm5 l Z aw hw [] vb hJ3 n0 (Nat.le_trans Z0 KJ3.1) ) hZ (hw _ (List.mem_of_getElem? (i := 33) rfl)) (hw _ (List.mem_of_getElem? (i := 32) rfl)) (by decide) (by decide)) (g := (mkF m 107 #[.val (.long q0), .second, .val (.long q1), .second, .val (.long q2), .second, .val (.int p3), .val (.int p4), .val (.long va), .second, .val (.long vb), .second, .val (.long vc), .second, .val (.int vk), .val (.int pm), .val (.ref b1), .val (.long r29), .second, .val (.long (own_f5 va)), .second, .unset, .unset, .unset, .unset, .unset, .unset, .unset, .unset, .unset, .unset, .unset, .unset, .unset, .unset, .unset] [(.long vb)])) rfl (by rw [hml]; rfl) (argsL := [(.long vb)]) (rest := []) (lenOf pd_9 rfl) rfl (by show 2 * 0 + _ ≤ _; exact Nat.le_of_eq rfl) (hb hby at_107) (fun _ _ => ⟨rfl, e30, (by decide : 3 + 0 ≤ _), (by decide : 3074 + 0 ≤ _)⟩)
  dsimp only [Pt.U, Pt.locs, Pt.cells, Pt.slots] at X31 l31 y31 z31 st31 hQ31
  subst l31 y31 z31
  obtain ⟨rfl, N31q, e31⟩ := hQ31
  have N31 := Fr.app N30 N31q
  refine own_by (A' := T31.setTop (mkF m 110 #[.val (.long q0), .second, .val (.long q1), .second, .val (.long q2), .second, .val (.int p3), .val (.int p4), .val (.long va), .second, .val (.long vb), .second, .val (.long vc), .second, .val (.int vk), .val (.int pm), .val (.ref b1), .val (.long r29), .second, .val (.long (own_f5 va)), .second, .unset, .unset, .unset, .unset, .unset, .unset, .unset, .unset, .unset, .unset, .unset, .unset, .unset, .unset, .unset] [(.long (own_f5 vb))])) (fun t kt => st31 t kt) ?_
  refine own_by (A' := T31.setTop (mkF m 114 #[.val (.long q0), .second, .val (.long q1), .second, .val (.long q2), .second, .val (.int p3), .val (.int p4), .val (.long va), .second, .val (.long vb), .second, .val (.long vc), .second, .val (.int vk), .val (.int pm), .val (.ref b1), .val (.long r29), .second, .val (.long (own_f5 va)), .second, .val (.long (own_f5 vb)), .second, .unset, .unset, .unset, .unset, .unset, .unset, .unset, .unset, .unset, .unset, .unset, .unset, .unset] [(.long vc)])) (fun t kt => ?_) ?_
  · show Steps p.tables e below (T31.setTop (mkF m 110 #[.val (.long q0), .second, .val (.long q1), .second, .val (.long q2), .second, .val (.int p3), .val (.int p4), .val (.long va), .second, .val (.long vb), .second, .val (.long vc), .second, .val (.int vk), .val (.int pm), .val (.ref b1), .val (.long r29), .second, .val (.long (own_f5 va)), .second, .unset, .unset, .unset, .unset, .unset, .unset, .unset, .unset, .unset, .unset, .unset, .unset, .unset, .unset, .unset] [(.long (own_f5 vb))])) t
    refine XS.lstore X31.here hx rfl (hb hby at_110) rfl (l' := #[.val (.long q0), .second, .val (.long q1), .second, .val (.long q2), .second, .val (.int p3), .val (.int p4), .val (.long va), .second, .val (.long vb), .second, .val (.long vc), .second, .val (.int vk), .val (.int pm), .val (.ref b1), .val (.long r29), .second, .val (.long (own_f5 va)), .second, .val (.long (own_f5 vb)), .second, .unset, .unset, .unset, .unset, .unset, .unset, .unset, .unset, .unset, .unset, .unset, .unset, .unset]) rfl ?_
    show Steps p.tables e below (T31.setTop (mkF m 112 #[.val (.long q0), .second, .val (.long q1), .second, .val (.long q2), .second, .val (.int p3), .val (.int p4), .val (.long va), .second, .val (.long vb), .second, .val (.long vc), .second, .val (.int vk), .val (.int pm), .val (.ref b1), .val (.long r29), .second, .val (.long (own_f5 va)), .second, .val (.long (own_f5 vb)), .second, .unset, .unset, .unset, .unset, .unset, .unset, .unset, .unset, .unset, .unset, .unset, .unset, .unset] [])) t
    refine XS.lload X31.here hx rfl (hb hby at_112) rfl ?_
    exact kt
  obtain ⟨_, _, ⟨T32, L32, k32, n32⟩, -, X32, ⟨Lc32, hQ32, l32, y32, z32⟩, st32⟩ := Jvm.LawKit.callS X31 hx (y := (⟨"com/example/flashsafe/flashsafe/LatenciesPercentilePinLaw", "tenths", "(J)J"⟩ : MethodName)) hown (mvT hZ (hw _ (List.mem_of_getElem? (i := 30) rfl))) (mvT hZ (hw _ (List.mem_of_getElem? (i := 31) rfl))) (mvT hZ (hw _ (List.mem_of_getElem? (i := 32) rfl))) (mvT hZ (hw _ (List.mem_of_getElem? (i := 33) rfl))) (by decide) (backOf (W := 0) (rm5 l Z aw hw [] vc hJ3 n0 (Nat.le_trans Z0 KJ3.1) ) hZ (hw _ (List.mem_of_getElem? (i := 33) rfl)) (hw _ (List.mem_of_getElem? (i := 32) rfl)) (by decide) (by decide)) (g := (mkF m 114 #[.val (.long q0), .second, .val (.long q1), .second, .val (.long q2), .second, .val (.int p3), .val (.int p4), .val (.long va), .second, .val (.long vb), .second, .val (.long vc), .second, .val (.int vk), .val (.int pm), .val (.ref b1), .val (.long r29), .second, .val (.long (own_f5 va)), .second, .val (.long (own_f5 vb)), .second, .unset, .unset, .unset, .unset, .unset, .unset, .unset, .unset, .unset, .unset, .unset, .unset, .unset] [(.long vc)])) rfl (by rw [hml]; rfl) (argsL := [(.long vc)]) (rest := []) (lenOf pd_9 rfl) rfl (by show 2 * 0 + _ ≤ _; exact Nat.le_of_eq rfl) (hb hby at_114) (fun _ _ => ⟨rfl, e31, (by decide : 3 + 0 ≤ _), (by decide : 3074 + 0 ≤ _)⟩)
  dsimp only [Pt.U, Pt.locs, Pt.cells, Pt.slots] at X32 l32 y32 z32 st32 hQ32
  subst l32 y32 z32
  obtain ⟨rfl, N32q, e32⟩ := hQ32
  have N32 := Fr.app N31 N32q
  refine own_by (A' := T32.setTop (mkF m 117 #[.val (.long q0), .second, .val (.long q1), .second, .val (.long q2), .second, .val (.int p3), .val (.int p4), .val (.long va), .second, .val (.long vb), .second, .val (.long vc), .second, .val (.int vk), .val (.int pm), .val (.ref b1), .val (.long r29), .second, .val (.long (own_f5 va)), .second, .val (.long (own_f5 vb)), .second, .unset, .unset, .unset, .unset, .unset, .unset, .unset, .unset, .unset, .unset, .unset, .unset, .unset] [(.long (own_f5 vc))])) (fun t kt => st32 t kt) ?_
  refine own_by (A' := T32.setTop (mkF m 134 #[.val (.long q0), .second, .val (.long q1), .second, .val (.long q2), .second, .val (.int p3), .val (.int p4), .val (.long va), .second, .val (.long vb), .second, .val (.long vc), .second, .val (.int vk), .val (.int pm), .val (.ref b1), .val (.long r29), .second, .val (.long (own_f5 va)), .second, .val (.long (own_f5 vb)), .second, .val (.long (own_f5 vc)), .second, .val (.long ((pm.toInt64) * (vk.toInt64))), .second, .unset, .unset, .unset, .unset, .unset, .unset, .unset, .unset, .unset] [(.int (lcmpW (1000 : Int64) ((pm.toInt64) * (vk.toInt64))))])) (fun t kt => ?_) ?_
  · show Steps p.tables e below (T32.setTop (mkF m 117 #[.val (.long q0), .second, .val (.long q1), .second, .val (.long q2), .second, .val (.int p3), .val (.int p4), .val (.long va), .second, .val (.long vb), .second, .val (.long vc), .second, .val (.int vk), .val (.int pm), .val (.ref b1), .val (.long r29), .second, .val (.long (own_f5 va)), .second, .val (.long (own_f5 vb)), .second, .unset, .unset, .unset, .unset, .unset, .unset, .unset, .unset, .unset, .unset, .unset, .unset, .unset] [(.long (own_f5 vc))])) t
    refine XS.lstore X32.here hx rfl (hb hby at_117) rfl (l' := #[.val (.long q0), .second, .val (.long q1), .second, .val (.long q2), .second, .val (.int p3), .val (.int p4), .val (.long va), .second, .val (.long vb), .second, .val (.long vc), .second, .val (.int vk), .val (.int pm), .val (.ref b1), .val (.long r29), .second, .val (.long (own_f5 va)), .second, .val (.long (own_f5 vb)), .second, .val (.long (own_f5 vc)), .second, .unset, .unset, .unset, .unset, .unset, .unset, .unset, .unset, .unset, .unset, .unset]) rfl ?_
    show Steps p.tables e below (T32.setTop (mkF m 119 #[.val (.long q0), .second, .val (.long q1), .second, .val (.long q2), .second, .val (.int p3), .val (.int p4), .val (.long va), .second, .val (.long vb), .second, .val (.long vc), .second, .val (.int vk), .val (.int pm), .val (.ref b1), .val (.long r29), .second, .val (.long (own_f5 va)), .second, .val (.long (own_f5 vb)), .second, .val (.long (own_f5 vc)), .second, .unset, .unset, .unset, .unset, .unset, .unset, .unset, .unset, .unset, .unset, .unset] [])) t
    refine XS.iload X32.here hx rfl (hb hby at_119) rfl ?_
    show Steps p.tables e below (T32.setTop (mkF m 121 #[.val (.long q0), .second, .val (.long q1), .second, .val (.long q2), .second, .val (.int p3), .val (.int p4), .val (.long va), .second, .val (.long vb), .second, .val (.long vc), .second, .val (.int vk), .val (.int pm), .val (.ref b1), .val (.long r29), .second, .val (.long (own_f5 va)), .second, .val (.long (own_f5 vb)), .second, .val (.long (own_f5 vc)), .second, .unset, .unset, .unset, .unset, .unset, .unset, .unset, .unset, .unset, .unset, .unset] [(.int pm)])) t
    refine XS.i2l X32.here hx rfl (hb hby at_121) rfl ?_
    show Steps p.tables e below (T32.setTop (mkF m 122 #[.val (.long q0), .second, .val (.long q1), .second, .val (.long q2), .second, .val (.int p3), .val (.int p4), .val (.long va), .second, .val (.long vb), .second, .val (.long vc), .second, .val (.int vk), .val (.int pm), .val (.ref b1), .val (.long r29), .second, .val (.long (own_f5 va)), .second, .val (.long (own_f5 vb)), .second, .val (.long (own_f5 vc)), .second, .unset, .unset, .unset, .unset, .unset, .unset, .unset, .unset, .unset, .unset, .unset] [(.long (pm.toInt64))])) t
    refine XS.iload X32.here hx rfl (hb hby at_122) rfl ?_
    show Steps p.tables e below (T32.setTop (mkF m 124 #[.val (.long q0), .second, .val (.long q1), .second, .val (.long q2), .second, .val (.int p3), .val (.int p4), .val (.long va), .second, .val (.long vb), .second, .val (.long vc), .second, .val (.int vk), .val (.int pm), .val (.ref b1), .val (.long r29), .second, .val (.long (own_f5 va)), .second, .val (.long (own_f5 vb)), .second, .val (.long (own_f5 vc)), .second, .unset, .unset, .unset, .unset, .unset, .unset, .unset, .unset, .unset, .unset, .unset] [(.int vk), (.long (pm.toInt64))])) t
    refine XS.i2l X32.here hx rfl (hb hby at_124) rfl ?_
    show Steps p.tables e below (T32.setTop (mkF m 125 #[.val (.long q0), .second, .val (.long q1), .second, .val (.long q2), .second, .val (.int p3), .val (.int p4), .val (.long va), .second, .val (.long vb), .second, .val (.long vc), .second, .val (.int vk), .val (.int pm), .val (.ref b1), .val (.long r29), .second, .val (.long (own_f5 va)), .second, .val (.long (own_f5 vb)), .second, .val (.long (own_f5 vc)), .second, .unset, .unset, .unset, .unset, .unset, .unset, .unset, .unset, .unset, .unset, .unset] [(.long (vk.toInt64)), (.long (pm.toInt64))])) t
    refine XS.lmul X32.here hx rfl (hb hby at_125) rfl ?_
    show Steps p.tables e below (T32.setTop (mkF m 126 #[.val (.long q0), .second, .val (.long q1), .second, .val (.long q2), .second, .val (.int p3), .val (.int p4), .val (.long va), .second, .val (.long vb), .second, .val (.long vc), .second, .val (.int vk), .val (.int pm), .val (.ref b1), .val (.long r29), .second, .val (.long (own_f5 va)), .second, .val (.long (own_f5 vb)), .second, .val (.long (own_f5 vc)), .second, .unset, .unset, .unset, .unset, .unset, .unset, .unset, .unset, .unset, .unset, .unset] [(.long ((pm.toInt64) * (vk.toInt64)))])) t
    refine XS.lstore X32.here hx rfl (hb hby at_126) rfl (l' := #[.val (.long q0), .second, .val (.long q1), .second, .val (.long q2), .second, .val (.int p3), .val (.int p4), .val (.long va), .second, .val (.long vb), .second, .val (.long vc), .second, .val (.int vk), .val (.int pm), .val (.ref b1), .val (.long r29), .second, .val (.long (own_f5 va)), .second, .val (.long (own_f5 vb)), .second, .val (.long (own_f5 vc)), .second, .val (.long ((pm.toInt64) * (vk.toInt64))), .second, .unset, .unset, .unset, .unset, .unset, .unset, .unset, .unset, .unset]) rfl ?_
    show Steps p.tables e below (T32.setTop (mkF m 128 #[.val (.long q0), .second, .val (.long q1), .second, .val (.long q2), .second, .val (.int p3), .val (.int p4), .val (.long va), .second, .val (.long vb), .second, .val (.long vc), .second, .val (.int vk), .val (.int pm), .val (.ref b1), .val (.long r29), .second, .val (.long (own_f5 va)), .second, .val (.long (own_f5 vb)), .second, .val (.long (own_f5 vc)), .second, .val (.long ((pm.toInt64) * (vk.toInt64))), .second, .unset, .unset, .unset, .unset, .unset, .unset, .unset, .unset, .unset] [])) t
    refine X32.ldc2Long hx hown (mvT hZ (hw _ (List.mem_of_getElem? (i := 36) rfl))) (g := (mkF m 128 #[.val (.long q0), .second, .val (.long q1), .second, .val (.long q2), .second, .val (.int p3), .val (.int p4), .val (.long va), .second, .val (.long vb), .second, .val (.long vc), .second, .val (.int vk), .val (.int pm), .val (.ref b1), .val (.long r29), .second, .val (.long (own_f5 va)), .second, .val (.long (own_f5 vb)), .second, .val (.long (own_f5 vc)), .second, .val (.long ((pm.toInt64) * (vk.toInt64))), .second, .unset, .unset, .unset, .unset, .unset, .unset, .unset, .unset, .unset] [])) rfl (hb hby at_128) _ ?_
    show Steps p.tables e below (T32.setTop (mkF m 131 #[.val (.long q0), .second, .val (.long q1), .second, .val (.long q2), .second, .val (.int p3), .val (.int p4), .val (.long va), .second, .val (.long vb), .second, .val (.long vc), .second, .val (.int vk), .val (.int pm), .val (.ref b1), .val (.long r29), .second, .val (.long (own_f5 va)), .second, .val (.long (own_f5 vb)), .second, .val (.long (own_f5 vc)), .second, .val (.long ((pm.toInt64) * (vk.toInt64))), .second, .unset, .unset, .unset, .unset, .unset, .unset, .unset, .unset, .unset] [(.long (1000 : Int64))])) t
    refine XS.lload X32.here hx rfl (hb hby at_131) rfl ?_
    show Steps p.tables e below (T32.setTop (mkF m 133 #[.val (.long q0), .second, .val (.long q1), .second, .val (.long q2), .second, .val (.int p3), .val (.int p4), .val (.long va), .second, .val (.long vb), .second, .val (.long vc), .second, .val (.int vk), .val (.int pm), .val (.ref b1), .val (.long r29), .second, .val (.long (own_f5 va)), .second, .val (.long (own_f5 vb)), .second, .val (.long (own_f5 vc)), .second, .val (.long ((pm.toInt64) * (vk.toInt64))), .second, .unset, .unset, .unset, .unset, .unset, .unset, .unset, .unset, .unset] [(.long ((pm.toInt64) * (vk.toInt64))), (.long (1000 : Int64))])) t
    refine XS.lcmp X32.here hx rfl (hb hby at_133) rfl ?_
    exact kt
  refine own_by (A' := T32.setTop (mkF m 161 #[.val (.long q0), .second, .val (.long q1), .second, .val (.long q2), .second, .val (.int p3), .val (.int p4), .val (.long va), .second, .val (.long vb), .second, .val (.long vc), .second, .val (.int vk), .val (.int pm), .val (.ref b1), .val (.long r29), .second, .val (.long (own_f5 va)), .second, .val (.long (own_f5 vb)), .second, .val (.long (own_f5 vc)), .second, .val (.long ((pm.toInt64) * (vk.toInt64))), .second, .val (.int (if (1000 : Int64) < ((pm.toInt64) * (vk.toInt64)) then (if (2000 : Int64) < ((pm.toInt64) * (vk.toInt64)) then (3 : Int32) else (2 : Int32)) else (1 : Int32))), .unset, .unset, .unset, .unset, .unset, .unset, .unset, .unset] [])) (fun t kt => ?_) ?_
  · show Steps p.tables e below (T32.setTop (mkF m 134 #[.val (.long q0), .second, .val (.long q1), .second, .val (.long q2), .second, .val (.int p3), .val (.int p4), .val (.long va), .second, .val (.long vb), .second, .val (.long vc), .second, .val (.int vk), .val (.int pm), .val (.ref b1), .val (.long r29), .second, .val (.long (own_f5 va)), .second, .val (.long (own_f5 vb)), .second, .val (.long (own_f5 vc)), .second, .val (.long ((pm.toInt64) * (vk.toInt64))), .second, .unset, .unset, .unset, .unset, .unset, .unset, .unset, .unset, .unset] [(.int (lcmpW (1000 : Int64) ((pm.toInt64) * (vk.toInt64))))])) t
    by_cases hj134_33 : (1000 : Int64) < ((pm.toInt64) * (vk.toInt64))
    · rw [if_pos hj134_33] at kt
      show Steps p.tables e below (T32.setTop (mkF m 134 #[.val (.long q0), .second, .val (.long q1), .second, .val (.long q2), .second, .val (.int p3), .val (.int p4), .val (.long va), .second, .val (.long vb), .second, .val (.long vc), .second, .val (.int vk), .val (.int pm), .val (.ref b1), .val (.long r29), .second, .val (.long (own_f5 va)), .second, .val (.long (own_f5 vb)), .second, .val (.long (own_f5 vc)), .second, .val (.long ((pm.toInt64) * (vk.toInt64))), .second, .unset, .unset, .unset, .unset, .unset, .unset, .unset, .unset, .unset] [(.int (lcmpW (1000 : Int64) ((pm.toInt64) * (vk.toInt64))))])) t
      refine XS.ifYes X32.here hx rfl (pc0 := 134) (pc' := 143) rfl (hb hby at_134) rfl ((if0 _ _).trans (tlt ((lw_lt _ _).mpr hj134_33)).1) (by decide) (by decide) ?_
      show Steps p.tables e below (T32.setTop (mkF m 143 #[.val (.long q0), .second, .val (.long q1), .second, .val (.long q2), .second, .val (.int p3), .val (.int p4), .val (.long va), .second, .val (.long vb), .second, .val (.long vc), .second, .val (.int vk), .val (.int pm), .val (.ref b1), .val (.long r29), .second, .val (.long (own_f5 va)), .second, .val (.long (own_f5 vb)), .second, .val (.long (own_f5 vc)), .second, .val (.long ((pm.toInt64) * (vk.toInt64))), .second, .unset, .unset, .unset, .unset, .unset, .unset, .unset, .unset, .unset] [])) t
      refine X32.ldc2Long hx hown (mvT hZ (hw _ (List.mem_of_getElem? (i := 57) rfl))) (g := (mkF m 143 #[.val (.long q0), .second, .val (.long q1), .second, .val (.long q2), .second, .val (.int p3), .val (.int p4), .val (.long va), .second, .val (.long vb), .second, .val (.long vc), .second, .val (.int vk), .val (.int pm), .val (.ref b1), .val (.long r29), .second, .val (.long (own_f5 va)), .second, .val (.long (own_f5 vb)), .second, .val (.long (own_f5 vc)), .second, .val (.long ((pm.toInt64) * (vk.toInt64))), .second, .unset, .unset, .unset, .unset, .unset, .unset, .unset, .unset, .unset] [])) rfl (hb hby at_143) _ ?_
      show Steps p.tables e below (T32.setTop (mkF m 146 #[.val (.long q0), .second, .val (.long q1), .second, .val (.long q2), .second, .val (.int p3), .val (.int p4), .val (.long va), .second, .val (.long vb), .second, .val (.long vc), .second, .val (.int vk), .val (.int pm), .val (.ref b1), .val (.long r29), .second, .val (.long (own_f5 va)), .second, .val (.long (own_f5 vb)), .second, .val (.long (own_f5 vc)), .second, .val (.long ((pm.toInt64) * (vk.toInt64))), .second, .unset, .unset, .unset, .unset, .unset, .unset, .unset, .unset, .unset] [(.long (2000 : Int64))])) t
      refine XS.lload X32.here hx rfl (hb hby at_146) rfl ?_
      show Steps p.tables e below (T32.setTop (mkF m 148 #[.val (.long q0), .second, .val (.long q1), .second, .val (.long q2), .second, .val (.int p3), .val (.int p4), .val (.long va), .second, .val (.long vb), .second, .val (.long vc), .second, .val (.int vk), .val (.int pm), .val (.ref b1), .val (.long r29), .second, .val (.long (own_f5 va)), .second, .val (.long (own_f5 vb)), .second, .val (.long (own_f5 vc)), .second, .val (.long ((pm.toInt64) * (vk.toInt64))), .second, .unset, .unset, .unset, .unset, .unset, .unset, .unset, .unset, .unset] [(.long ((pm.toInt64) * (vk.toInt64))), (.long (2000 : Int64))])) t
      refine XS.lcmp X32.here hx rfl (hb hby at_148) rfl ?_
      refine own_stp (A' := T32.setTop (mkF m 161 #[.val (.long q0), .second, .val (.long q1), .second, .val (.long q2), .second, .val (.int p3), .val (.int p4), .val (.long va), .second, .val (.long vb), .second, .val (.long vc), .second, .val (.int vk), .val (.int pm), .val (.ref b1), .val (.long r29), .second, .val (.long (own_f5 va)), .second, .val (.long (own_f5 vb)), .second, .val (.long (own_f5 vc)), .second, .val (.long ((pm.toInt64) * (vk.toInt64))), .second, .val (.int (if (2000 : Int64) < ((pm.toInt64) * (vk.toInt64)) then (3 : Int32) else (2 : Int32))), .unset, .unset, .unset, .unset, .unset, .unset, .unset, .unset] [])) (fun t kt => ?_) ?_
      · show Steps p.tables e below (T32.setTop (mkF m 149 #[.val (.long q0), .second, .val (.long q1), .second, .val (.long q2), .second, .val (.int p3), .val (.int p4), .val (.long va), .second, .val (.long vb), .second, .val (.long vc), .second, .val (.int vk), .val (.int pm), .val (.ref b1), .val (.long r29), .second, .val (.long (own_f5 va)), .second, .val (.long (own_f5 vb)), .second, .val (.long (own_f5 vc)), .second, .val (.long ((pm.toInt64) * (vk.toInt64))), .second, .unset, .unset, .unset, .unset, .unset, .unset, .unset, .unset, .unset] [(.int (lcmpW (2000 : Int64) ((pm.toInt64) * (vk.toInt64))))])) t
        by_cases hj149_34 : (2000 : Int64) < ((pm.toInt64) * (vk.toInt64))
        · rw [if_pos hj149_34] at kt
          show Steps p.tables e below (T32.setTop (mkF m 149 #[.val (.long q0), .second, .val (.long q1), .second, .val (.long q2), .second, .val (.int p3), .val (.int p4), .val (.long va), .second, .val (.long vb), .second, .val (.long vc), .second, .val (.int vk), .val (.int pm), .val (.ref b1), .val (.long r29), .second, .val (.long (own_f5 va)), .second, .val (.long (own_f5 vb)), .second, .val (.long (own_f5 vc)), .second, .val (.long ((pm.toInt64) * (vk.toInt64))), .second, .unset, .unset, .unset, .unset, .unset, .unset, .unset, .unset, .unset] [(.int (lcmpW (2000 : Int64) ((pm.toInt64) * (vk.toInt64))))])) t
          refine XS.ifYes X32.here hx rfl (pc0 := 149) (pc' := 158) rfl (hb hby at_149) rfl ((if0 _ _).trans (tlt ((lw_lt _ _).mpr hj149_34)).1) (by decide) (by decide) ?_
          show Steps p.tables e below (T32.setTop (mkF m 158 #[.val (.long q0), .second, .val (.long q1), .second, .val (.long q2), .second, .val (.int p3), .val (.int p4), .val (.long va), .second, .val (.long vb), .second, .val (.long vc), .second, .val (.int vk), .val (.int pm), .val (.ref b1), .val (.long r29), .second, .val (.long (own_f5 va)), .second, .val (.long (own_f5 vb)), .second, .val (.long (own_f5 vc)), .second, .val (.long ((pm.toInt64) * (vk.toInt64))), .second, .unset, .unset, .unset, .unset, .unset, .unset, .unset, .unset, .unset] [])) t
          refine XS.iconst X32.here hx rfl (hb hby at_158) ?_
          show Steps p.tables e below (T32.setTop (mkF m 159 #[.val (.long q0), .second, .val (.long q1), .second, .val (.long q2), .second, .val (.int p3), .val (.int p4), .val (.long va), .second, .val (.long vb), .second, .val (.long vc), .second, .val (.int vk), .val (.int pm), .val (.ref b1), .val (.long r29), .second, .val (.long (own_f5 va)), .second, .val (.long (own_f5 vb)), .second, .val (.long (own_f5 vc)), .second, .val (.long ((pm.toInt64) * (vk.toInt64))), .second, .unset, .unset, .unset, .unset, .unset, .unset, .unset, .unset, .unset] [(.int (3 : Int32))])) t
          refine XS.istore X32.here hx rfl (hb hby at_159) rfl (l' := #[.val (.long q0), .second, .val (.long q1), .second, .val (.long q2), .second, .val (.int p3), .val (.int p4), .val (.long va), .second, .val (.long vb), .second, .val (.long vc), .second, .val (.int vk), .val (.int pm), .val (.ref b1), .val (.long r29), .second, .val (.long (own_f5 va)), .second, .val (.long (own_f5 vb)), .second, .val (.long (own_f5 vc)), .second, .val (.long ((pm.toInt64) * (vk.toInt64))), .second, .val (.int (3 : Int32)), .unset, .unset, .unset, .unset, .unset, .unset, .unset, .unset]) rfl ?_
          exact kt
        · rw [if_neg hj149_34] at kt
          show Steps p.tables e below (T32.setTop (mkF m 149 #[.val (.long q0), .second, .val (.long q1), .second, .val (.long q2), .second, .val (.int p3), .val (.int p4), .val (.long va), .second, .val (.long vb), .second, .val (.long vc), .second, .val (.int vk), .val (.int pm), .val (.ref b1), .val (.long r29), .second, .val (.long (own_f5 va)), .second, .val (.long (own_f5 vb)), .second, .val (.long (own_f5 vc)), .second, .val (.long ((pm.toInt64) * (vk.toInt64))), .second, .unset, .unset, .unset, .unset, .unset, .unset, .unset, .unset, .unset] [(.int (lcmpW (2000 : Int64) ((pm.toInt64) * (vk.toInt64))))])) t
          refine XS.ifNo X32.here hx rfl (hb hby at_149) rfl ((if0 _ _).trans (flt (fun q => hj149_34 ((lw_lt _ _).mp q))).1) ?_
          show Steps p.tables e below (T32.setTop (mkF m 152 #[.val (.long q0), .second, .val (.long q1), .second, .val (.long q2), .second, .val (.int p3), .val (.int p4), .val (.long va), .second, .val (.long vb), .second, .val (.long vc), .second, .val (.int vk), .val (.int pm), .val (.ref b1), .val (.long r29), .second, .val (.long (own_f5 va)), .second, .val (.long (own_f5 vb)), .second, .val (.long (own_f5 vc)), .second, .val (.long ((pm.toInt64) * (vk.toInt64))), .second, .unset, .unset, .unset, .unset, .unset, .unset, .unset, .unset, .unset] [])) t
          refine XS.iconst X32.here hx rfl (hb hby at_152) ?_
          show Steps p.tables e below (T32.setTop (mkF m 153 #[.val (.long q0), .second, .val (.long q1), .second, .val (.long q2), .second, .val (.int p3), .val (.int p4), .val (.long va), .second, .val (.long vb), .second, .val (.long vc), .second, .val (.int vk), .val (.int pm), .val (.ref b1), .val (.long r29), .second, .val (.long (own_f5 va)), .second, .val (.long (own_f5 vb)), .second, .val (.long (own_f5 vc)), .second, .val (.long ((pm.toInt64) * (vk.toInt64))), .second, .unset, .unset, .unset, .unset, .unset, .unset, .unset, .unset, .unset] [(.int (2 : Int32))])) t
          refine XS.istore X32.here hx rfl (hb hby at_153) rfl (l' := #[.val (.long q0), .second, .val (.long q1), .second, .val (.long q2), .second, .val (.int p3), .val (.int p4), .val (.long va), .second, .val (.long vb), .second, .val (.long vc), .second, .val (.int vk), .val (.int pm), .val (.ref b1), .val (.long r29), .second, .val (.long (own_f5 va)), .second, .val (.long (own_f5 vb)), .second, .val (.long (own_f5 vc)), .second, .val (.long ((pm.toInt64) * (vk.toInt64))), .second, .val (.int (2 : Int32)), .unset, .unset, .unset, .unset, .unset, .unset, .unset, .unset]) rfl ?_
          show Steps p.tables e below (T32.setTop (mkF m 155 #[.val (.long q0), .second, .val (.long q1), .second, .val (.long q2), .second, .val (.int p3), .val (.int p4), .val (.long va), .second, .val (.long vb), .second, .val (.long vc), .second, .val (.int vk), .val (.int pm), .val (.ref b1), .val (.long r29), .second, .val (.long (own_f5 va)), .second, .val (.long (own_f5 vb)), .second, .val (.long (own_f5 vc)), .second, .val (.long ((pm.toInt64) * (vk.toInt64))), .second, .val (.int (2 : Int32)), .unset, .unset, .unset, .unset, .unset, .unset, .unset, .unset] [])) t
          refine XS.goto X32.here hx rfl (pc0 := 155) (pc' := 161) rfl (hb hby at_155) (by decide) (by decide) ?_
          exact kt
      exact kt
    · rw [if_neg hj134_33] at kt
      show Steps p.tables e below (T32.setTop (mkF m 134 #[.val (.long q0), .second, .val (.long q1), .second, .val (.long q2), .second, .val (.int p3), .val (.int p4), .val (.long va), .second, .val (.long vb), .second, .val (.long vc), .second, .val (.int vk), .val (.int pm), .val (.ref b1), .val (.long r29), .second, .val (.long (own_f5 va)), .second, .val (.long (own_f5 vb)), .second, .val (.long (own_f5 vc)), .second, .val (.long ((pm.toInt64) * (vk.toInt64))), .second, .unset, .unset, .unset, .unset, .unset, .unset, .unset, .unset, .unset] [(.int (lcmpW (1000 : Int64) ((pm.toInt64) * (vk.toInt64))))])) t
      refine XS.ifNo X32.here hx rfl (hb hby at_134) rfl ((if0 _ _).trans (flt (fun q => hj134_33 ((lw_lt _ _).mp q))).1) ?_
      show Steps p.tables e below (T32.setTop (mkF m 137 #[.val (.long q0), .second, .val (.long q1), .second, .val (.long q2), .second, .val (.int p3), .val (.int p4), .val (.long va), .second, .val (.long vb), .second, .val (.long vc), .second, .val (.int vk), .val (.int pm), .val (.ref b1), .val (.long r29), .second, .val (.long (own_f5 va)), .second, .val (.long (own_f5 vb)), .second, .val (.long (own_f5 vc)), .second, .val (.long ((pm.toInt64) * (vk.toInt64))), .second, .unset, .unset, .unset, .unset, .unset, .unset, .unset, .unset, .unset] [])) t
      refine XS.iconst X32.here hx rfl (hb hby at_137) ?_
      show Steps p.tables e below (T32.setTop (mkF m 138 #[.val (.long q0), .second, .val (.long q1), .second, .val (.long q2), .second, .val (.int p3), .val (.int p4), .val (.long va), .second, .val (.long vb), .second, .val (.long vc), .second, .val (.int vk), .val (.int pm), .val (.ref b1), .val (.long r29), .second, .val (.long (own_f5 va)), .second, .val (.long (own_f5 vb)), .second, .val (.long (own_f5 vc)), .second, .val (.long ((pm.toInt64) * (vk.toInt64))), .second, .unset, .unset, .unset, .unset, .unset, .unset, .unset, .unset, .unset] [(.int (1 : Int32))])) t
      refine XS.istore X32.here hx rfl (hb hby at_138) rfl (l' := #[.val (.long q0), .second, .val (.long q1), .second, .val (.long q2), .second, .val (.int p3), .val (.int p4), .val (.long va), .second, .val (.long vb), .second, .val (.long vc), .second, .val (.int vk), .val (.int pm), .val (.ref b1), .val (.long r29), .second, .val (.long (own_f5 va)), .second, .val (.long (own_f5 vb)), .second, .val (.long (own_f5 vc)), .second, .val (.long ((pm.toInt64) * (vk.toInt64))), .second, .val (.int (1 : Int32)), .unset, .unset, .unset, .unset, .unset, .unset, .unset, .unset]) rfl ?_
      show Steps p.tables e below (T32.setTop (mkF m 140 #[.val (.long q0), .second, .val (.long q1), .second, .val (.long q2), .second, .val (.int p3), .val (.int p4), .val (.long va), .second, .val (.long vb), .second, .val (.long vc), .second, .val (.int vk), .val (.int pm), .val (.ref b1), .val (.long r29), .second, .val (.long (own_f5 va)), .second, .val (.long (own_f5 vb)), .second, .val (.long (own_f5 vc)), .second, .val (.long ((pm.toInt64) * (vk.toInt64))), .second, .val (.int (1 : Int32)), .unset, .unset, .unset, .unset, .unset, .unset, .unset, .unset] [])) t
      refine XS.goto X32.here hx rfl (pc0 := 140) (pc' := 161) rfl (hb hby at_140) (by decide) (by decide) ?_
      exact kt
  refine own_by (A' := T32.setTop (mkF m 163 #[.val (.long q0), .second, .val (.long q1), .second, .val (.long q2), .second, .val (.int p3), .val (.int p4), .val (.long va), .second, .val (.long vb), .second, .val (.long vc), .second, .val (.int vk), .val (.int pm), .val (.ref b1), .val (.long r29), .second, .val (.long (own_f5 va)), .second, .val (.long (own_f5 vb)), .second, .val (.long (own_f5 vc)), .second, .val (.long ((pm.toInt64) * (vk.toInt64))), .second, .val (.int (if (1000 : Int64) < ((pm.toInt64) * (vk.toInt64)) then (if (2000 : Int64) < ((pm.toInt64) * (vk.toInt64)) then (3 : Int32) else (2 : Int32)) else (1 : Int32))), .unset, .unset, .unset, .unset, .unset, .unset, .unset, .unset] [(.int vk)])) (fun t kt => ?_) ?_
  · show Steps p.tables e below (T32.setTop (mkF m 161 #[.val (.long q0), .second, .val (.long q1), .second, .val (.long q2), .second, .val (.int p3), .val (.int p4), .val (.long va), .second, .val (.long vb), .second, .val (.long vc), .second, .val (.int vk), .val (.int pm), .val (.ref b1), .val (.long r29), .second, .val (.long (own_f5 va)), .second, .val (.long (own_f5 vb)), .second, .val (.long (own_f5 vc)), .second, .val (.long ((pm.toInt64) * (vk.toInt64))), .second, .val (.int (if (1000 : Int64) < ((pm.toInt64) * (vk.toInt64)) then (if (2000 : Int64) < ((pm.toInt64) * (vk.toInt64)) then (3 : Int32) else (2 : Int32)) else (1 : Int32))), .unset, .unset, .unset, .unset, .unset, .unset, .unset, .unset] [])) t
    refine XS.iload X32.here hx rfl (hb hby at_161) rfl ?_
    exact kt
  by_cases hc163_35 : vk = (0 : Int32)
  · refine own_by (A' := T32.setTop (mkF m 306 #[.val (.long q0), .second, .val (.long q1), .second, .val (.long q2), .second, .val (.int p3), .val (.int p4), .val (.long va), .second, .val (.long vb), .second, .val (.long vc), .second, .val (.int vk), .val (.int pm), .val (.ref b1), .val (.long r29), .second, .val (.long (own_f5 va)), .second, .val (.long (own_f5 vb)), .second, .val (.long (own_f5 vc)), .second, .val (.long ((pm.toInt64) * (vk.toInt64))), .second, .val (.int (if (1000 : Int64) < ((pm.toInt64) * (vk.toInt64)) then (if (2000 : Int64) < ((pm.toInt64) * (vk.toInt64)) then (3 : Int32) else (2 : Int32)) else (1 : Int32))), .val (.long (0 : Int64)), .second, .unset, .unset, .unset, .unset, .unset, .unset] [(.int (lcmpW r29 (0 : Int64)))])) (fun t kt => ?_) ?_
    · show Steps p.tables e below (T32.setTop (mkF m 163 #[.val (.long q0), .second, .val (.long q1), .second, .val (.long q2), .second, .val (.int p3), .val (.int p4), .val (.long va), .second, .val (.long vb), .second, .val (.long vc), .second, .val (.int vk), .val (.int pm), .val (.ref b1), .val (.long r29), .second, .val (.long (own_f5 va)), .second, .val (.long (own_f5 vb)), .second, .val (.long (own_f5 vc)), .second, .val (.long ((pm.toInt64) * (vk.toInt64))), .second, .val (.int (if (1000 : Int64) < ((pm.toInt64) * (vk.toInt64)) then (if (2000 : Int64) < ((pm.toInt64) * (vk.toInt64)) then (3 : Int32) else (2 : Int32)) else (1 : Int32))), .unset, .unset, .unset, .unset, .unset, .unset, .unset, .unset] [(.int vk)])) t
      refine XS.ifNo X32.here hx rfl (hb hby at_163) rfl ((if0 _ _).trans (teq hc163_35).2) ?_
      show Steps p.tables e below (T32.setTop (mkF m 166 #[.val (.long q0), .second, .val (.long q1), .second, .val (.long q2), .second, .val (.int p3), .val (.int p4), .val (.long va), .second, .val (.long vb), .second, .val (.long vc), .second, .val (.int vk), .val (.int pm), .val (.ref b1), .val (.long r29), .second, .val (.long (own_f5 va)), .second, .val (.long (own_f5 vb)), .second, .val (.long (own_f5 vc)), .second, .val (.long ((pm.toInt64) * (vk.toInt64))), .second, .val (.int (if (1000 : Int64) < ((pm.toInt64) * (vk.toInt64)) then (if (2000 : Int64) < ((pm.toInt64) * (vk.toInt64)) then (3 : Int32) else (2 : Int32)) else (1 : Int32))), .unset, .unset, .unset, .unset, .unset, .unset, .unset, .unset] [])) t
      refine XS.lconst X32.here hx rfl (hb hby at_166) ?_
      show Steps p.tables e below (T32.setTop (mkF m 167 #[.val (.long q0), .second, .val (.long q1), .second, .val (.long q2), .second, .val (.int p3), .val (.int p4), .val (.long va), .second, .val (.long vb), .second, .val (.long vc), .second, .val (.int vk), .val (.int pm), .val (.ref b1), .val (.long r29), .second, .val (.long (own_f5 va)), .second, .val (.long (own_f5 vb)), .second, .val (.long (own_f5 vc)), .second, .val (.long ((pm.toInt64) * (vk.toInt64))), .second, .val (.int (if (1000 : Int64) < ((pm.toInt64) * (vk.toInt64)) then (if (2000 : Int64) < ((pm.toInt64) * (vk.toInt64)) then (3 : Int32) else (2 : Int32)) else (1 : Int32))), .unset, .unset, .unset, .unset, .unset, .unset, .unset, .unset] [(.long (0 : Int64))])) t
      refine XS.lstore X32.here hx rfl (hb hby at_167) rfl (l' := #[.val (.long q0), .second, .val (.long q1), .second, .val (.long q2), .second, .val (.int p3), .val (.int p4), .val (.long va), .second, .val (.long vb), .second, .val (.long vc), .second, .val (.int vk), .val (.int pm), .val (.ref b1), .val (.long r29), .second, .val (.long (own_f5 va)), .second, .val (.long (own_f5 vb)), .second, .val (.long (own_f5 vc)), .second, .val (.long ((pm.toInt64) * (vk.toInt64))), .second, .val (.int (if (1000 : Int64) < ((pm.toInt64) * (vk.toInt64)) then (if (2000 : Int64) < ((pm.toInt64) * (vk.toInt64)) then (3 : Int32) else (2 : Int32)) else (1 : Int32))), .val (.long (0 : Int64)), .second, .unset, .unset, .unset, .unset, .unset, .unset]) rfl ?_
      show Steps p.tables e below (T32.setTop (mkF m 169 #[.val (.long q0), .second, .val (.long q1), .second, .val (.long q2), .second, .val (.int p3), .val (.int p4), .val (.long va), .second, .val (.long vb), .second, .val (.long vc), .second, .val (.int vk), .val (.int pm), .val (.ref b1), .val (.long r29), .second, .val (.long (own_f5 va)), .second, .val (.long (own_f5 vb)), .second, .val (.long (own_f5 vc)), .second, .val (.long ((pm.toInt64) * (vk.toInt64))), .second, .val (.int (if (1000 : Int64) < ((pm.toInt64) * (vk.toInt64)) then (if (2000 : Int64) < ((pm.toInt64) * (vk.toInt64)) then (3 : Int32) else (2 : Int32)) else (1 : Int32))), .val (.long (0 : Int64)), .second, .unset, .unset, .unset, .unset, .unset, .unset] [])) t
      refine XS.goto X32.here hx rfl (pc0 := 169) (pc' := 301) rfl (hb hby at_169) (by decide) (by decide) ?_
      show Steps p.tables e below (T32.setTop (mkF m 301 #[.val (.long q0), .second, .val (.long q1), .second, .val (.long q2), .second, .val (.int p3), .val (.int p4), .val (.long va), .second, .val (.long vb), .second, .val (.long vc), .second, .val (.int vk), .val (.int pm), .val (.ref b1), .val (.long r29), .second, .val (.long (own_f5 va)), .second, .val (.long (own_f5 vb)), .second, .val (.long (own_f5 vc)), .second, .val (.long ((pm.toInt64) * (vk.toInt64))), .second, .val (.int (if (1000 : Int64) < ((pm.toInt64) * (vk.toInt64)) then (if (2000 : Int64) < ((pm.toInt64) * (vk.toInt64)) then (3 : Int32) else (2 : Int32)) else (1 : Int32))), .val (.long (0 : Int64)), .second, .unset, .unset, .unset, .unset, .unset, .unset] [])) t
      refine XS.lload X32.here hx rfl (hb hby at_301) rfl ?_
      show Steps p.tables e below (T32.setTop (mkF m 303 #[.val (.long q0), .second, .val (.long q1), .second, .val (.long q2), .second, .val (.int p3), .val (.int p4), .val (.long va), .second, .val (.long vb), .second, .val (.long vc), .second, .val (.int vk), .val (.int pm), .val (.ref b1), .val (.long r29), .second, .val (.long (own_f5 va)), .second, .val (.long (own_f5 vb)), .second, .val (.long (own_f5 vc)), .second, .val (.long ((pm.toInt64) * (vk.toInt64))), .second, .val (.int (if (1000 : Int64) < ((pm.toInt64) * (vk.toInt64)) then (if (2000 : Int64) < ((pm.toInt64) * (vk.toInt64)) then (3 : Int32) else (2 : Int32)) else (1 : Int32))), .val (.long (0 : Int64)), .second, .unset, .unset, .unset, .unset, .unset, .unset] [(.long r29)])) t
      refine XS.lload X32.here hx rfl (hb hby at_303) rfl ?_
      show Steps p.tables e below (T32.setTop (mkF m 305 #[.val (.long q0), .second, .val (.long q1), .second, .val (.long q2), .second, .val (.int p3), .val (.int p4), .val (.long va), .second, .val (.long vb), .second, .val (.long vc), .second, .val (.int vk), .val (.int pm), .val (.ref b1), .val (.long r29), .second, .val (.long (own_f5 va)), .second, .val (.long (own_f5 vb)), .second, .val (.long (own_f5 vc)), .second, .val (.long ((pm.toInt64) * (vk.toInt64))), .second, .val (.int (if (1000 : Int64) < ((pm.toInt64) * (vk.toInt64)) then (if (2000 : Int64) < ((pm.toInt64) * (vk.toInt64)) then (3 : Int32) else (2 : Int32)) else (1 : Int32))), .val (.long (0 : Int64)), .second, .unset, .unset, .unset, .unset, .unset, .unset] [(.long (0 : Int64)), (.long r29)])) t
      refine XS.lcmp X32.here hx rfl (hb hby at_305) rfl ?_
      exact kt
    have hk : vk.toInt = 0 := by rw [hc163_35]; decide
    rw [hk] at hrk
    have s1 := own_tt va hva; have s2 := own_tt vb hvb; have s3 := own_tt vc hvc
    have own_r := own_e0 fJ _ r29 hP29 (by omega) (fun j => by rw [hcum]; omega)
    have hc306_36 : r29 = (0 : Int64) := own_r
    refine own_by (A' := T32.setTop (mkF m 314 #[.val (.long q0), .second, .val (.long q1), .second, .val (.long q2), .second, .val (.int p3), .val (.int p4), .val (.long va), .second, .val (.long vb), .second, .val (.long vc), .second, .val (.int vk), .val (.int pm), .val (.ref b1), .val (.long r29), .second, .val (.long (own_f5 va)), .second, .val (.long (own_f5 vb)), .second, .val (.long (own_f5 vc)), .second, .val (.long ((pm.toInt64) * (vk.toInt64))), .second, .val (.int (if (1000 : Int64) < ((pm.toInt64) * (vk.toInt64)) then (if (2000 : Int64) < ((pm.toInt64) * (vk.toInt64)) then (3 : Int32) else (2 : Int32)) else (1 : Int32))), .val (.long (0 : Int64)), .second, .unset, .unset, .unset, .unset, .unset, .unset] [(.int (1 : Int32))])) (fun t kt => ?_) ?_
    · show Steps p.tables e below (T32.setTop (mkF m 306 #[.val (.long q0), .second, .val (.long q1), .second, .val (.long q2), .second, .val (.int p3), .val (.int p4), .val (.long va), .second, .val (.long vb), .second, .val (.long vc), .second, .val (.int vk), .val (.int pm), .val (.ref b1), .val (.long r29), .second, .val (.long (own_f5 va)), .second, .val (.long (own_f5 vb)), .second, .val (.long (own_f5 vc)), .second, .val (.long ((pm.toInt64) * (vk.toInt64))), .second, .val (.int (if (1000 : Int64) < ((pm.toInt64) * (vk.toInt64)) then (if (2000 : Int64) < ((pm.toInt64) * (vk.toInt64)) then (3 : Int32) else (2 : Int32)) else (1 : Int32))), .val (.long (0 : Int64)), .second, .unset, .unset, .unset, .unset, .unset, .unset] [(.int (lcmpW r29 (0 : Int64)))])) t
      refine XS.ifNo X32.here hx rfl (hb hby at_306) rfl ((if0 _ _).trans (teq ((lw_eq _ _).mpr hc306_36)).2) ?_
      show Steps p.tables e below (T32.setTop (mkF m 309 #[.val (.long q0), .second, .val (.long q1), .second, .val (.long q2), .second, .val (.int p3), .val (.int p4), .val (.long va), .second, .val (.long vb), .second, .val (.long vc), .second, .val (.int vk), .val (.int pm), .val (.ref b1), .val (.long r29), .second, .val (.long (own_f5 va)), .second, .val (.long (own_f5 vb)), .second, .val (.long (own_f5 vc)), .second, .val (.long ((pm.toInt64) * (vk.toInt64))), .second, .val (.int (if (1000 : Int64) < ((pm.toInt64) * (vk.toInt64)) then (if (2000 : Int64) < ((pm.toInt64) * (vk.toInt64)) then (3 : Int32) else (2 : Int32)) else (1 : Int32))), .val (.long (0 : Int64)), .second, .unset, .unset, .unset, .unset, .unset, .unset] [])) t
      refine XS.iconst X32.here hx rfl (hb hby at_309) ?_
      show Steps p.tables e below (T32.setTop (mkF m 310 #[.val (.long q0), .second, .val (.long q1), .second, .val (.long q2), .second, .val (.int p3), .val (.int p4), .val (.long va), .second, .val (.long vb), .second, .val (.long vc), .second, .val (.int vk), .val (.int pm), .val (.ref b1), .val (.long r29), .second, .val (.long (own_f5 va)), .second, .val (.long (own_f5 vb)), .second, .val (.long (own_f5 vc)), .second, .val (.long ((pm.toInt64) * (vk.toInt64))), .second, .val (.int (if (1000 : Int64) < ((pm.toInt64) * (vk.toInt64)) then (if (2000 : Int64) < ((pm.toInt64) * (vk.toInt64)) then (3 : Int32) else (2 : Int32)) else (1 : Int32))), .val (.long (0 : Int64)), .second, .unset, .unset, .unset, .unset, .unset, .unset] [(.int (1 : Int32))])) t
      refine XS.goto X32.here hx rfl (pc0 := 310) (pc' := 314) rfl (hb hby at_310) (by decide) (by decide) ?_
      exact kt
    obtain ⟨fs, hr, hrun, hended, hW, hsame⟩ := X32.leave (v := some (.int (1 : Int32))) (fun h => by rw [Bd.returns] at h; cases h)
    refine ⟨_, _, ?_, hrun, hended, _, _, rfl, ?_, ⟨_, rfl⟩, hW, hsame.mono (by decide) (by decide)⟩
    · exact retN X32 hx (t := .boolean) Bd.returns (by simp) (hb hby at_314) hr
    · show Q0 Z q0 q1 q2 p3 p4 h0 n0 _ T32.heap _
      rw [e32]
      exact ⟨rfl, N32⟩
  · refine own_by (A' := T32.setTop (mkF m 175 #[.val (.long q0), .second, .val (.long q1), .second, .val (.long q2), .second, .val (.int p3), .val (.int p4), .val (.long va), .second, .val (.long vb), .second, .val (.long vc), .second, .val (.int vk), .val (.int pm), .val (.ref b1), .val (.long r29), .second, .val (.long (own_f5 va)), .second, .val (.long (own_f5 vb)), .second, .val (.long (own_f5 vc)), .second, .val (.long ((pm.toInt64) * (vk.toInt64))), .second, .val (.int (if (1000 : Int64) < ((pm.toInt64) * (vk.toInt64)) then (if (2000 : Int64) < ((pm.toInt64) * (vk.toInt64)) then (3 : Int32) else (2 : Int32)) else (1 : Int32))), .unset, .unset, .unset, .unset, .unset, .unset, .unset, .unset] [(.int (1 : Int32)), (.int vk)])) (fun t kt => ?_) ?_
    · show Steps p.tables e below (T32.setTop (mkF m 163 #[.val (.long q0), .second, .val (.long q1), .second, .val (.long q2), .second, .val (.int p3), .val (.int p4), .val (.long va), .second, .val (.long vb), .second, .val (.long vc), .second, .val (.int vk), .val (.int pm), .val (.ref b1), .val (.long r29), .second, .val (.long (own_f5 va)), .second, .val (.long (own_f5 vb)), .second, .val (.long (own_f5 vc)), .second, .val (.long ((pm.toInt64) * (vk.toInt64))), .second, .val (.int (if (1000 : Int64) < ((pm.toInt64) * (vk.toInt64)) then (if (2000 : Int64) < ((pm.toInt64) * (vk.toInt64)) then (3 : Int32) else (2 : Int32)) else (1 : Int32))), .unset, .unset, .unset, .unset, .unset, .unset, .unset, .unset] [(.int vk)])) t
      refine XS.ifYes X32.here hx rfl (pc0 := 163) (pc' := 172) rfl (hb hby at_163) rfl ((if0 _ _).trans (feq hc163_35).2) (by decide) (by decide) ?_
      show Steps p.tables e below (T32.setTop (mkF m 172 #[.val (.long q0), .second, .val (.long q1), .second, .val (.long q2), .second, .val (.int p3), .val (.int p4), .val (.long va), .second, .val (.long vb), .second, .val (.long vc), .second, .val (.int vk), .val (.int pm), .val (.ref b1), .val (.long r29), .second, .val (.long (own_f5 va)), .second, .val (.long (own_f5 vb)), .second, .val (.long (own_f5 vc)), .second, .val (.long ((pm.toInt64) * (vk.toInt64))), .second, .val (.int (if (1000 : Int64) < ((pm.toInt64) * (vk.toInt64)) then (if (2000 : Int64) < ((pm.toInt64) * (vk.toInt64)) then (3 : Int32) else (2 : Int32)) else (1 : Int32))), .unset, .unset, .unset, .unset, .unset, .unset, .unset, .unset] [])) t
      refine XS.iload X32.here hx rfl (hb hby at_172) rfl ?_
      show Steps p.tables e below (T32.setTop (mkF m 174 #[.val (.long q0), .second, .val (.long q1), .second, .val (.long q2), .second, .val (.int p3), .val (.int p4), .val (.long va), .second, .val (.long vb), .second, .val (.long vc), .second, .val (.int vk), .val (.int pm), .val (.ref b1), .val (.long r29), .second, .val (.long (own_f5 va)), .second, .val (.long (own_f5 vb)), .second, .val (.long (own_f5 vc)), .second, .val (.long ((pm.toInt64) * (vk.toInt64))), .second, .val (.int (if (1000 : Int64) < ((pm.toInt64) * (vk.toInt64)) then (if (2000 : Int64) < ((pm.toInt64) * (vk.toInt64)) then (3 : Int32) else (2 : Int32)) else (1 : Int32))), .unset, .unset, .unset, .unset, .unset, .unset, .unset, .unset] [(.int vk)])) t
      refine XS.iconst X32.here hx rfl (hb hby at_174) ?_
      exact kt
    by_cases hc175_37 : vk = (1 : Int32)
    · refine own_by (A' := T32.setTop (mkF m 306 #[.val (.long q0), .second, .val (.long q1), .second, .val (.long q2), .second, .val (.int p3), .val (.int p4), .val (.long va), .second, .val (.long vb), .second, .val (.long vc), .second, .val (.int vk), .val (.int pm), .val (.ref b1), .val (.long r29), .second, .val (.long (own_f5 va)), .second, .val (.long (own_f5 vb)), .second, .val (.long (own_f5 vc)), .second, .val (.long ((pm.toInt64) * (vk.toInt64))), .second, .val (.int (if (1000 : Int64) < ((pm.toInt64) * (vk.toInt64)) then (if (2000 : Int64) < ((pm.toInt64) * (vk.toInt64)) then (3 : Int32) else (2 : Int32)) else (1 : Int32))), .val (.long (own_f5 va)), .second, .unset, .unset, .unset, .unset, .unset, .unset] [(.int (lcmpW r29 (own_f5 va)))])) (fun t kt => ?_) ?_
      · show Steps p.tables e below (T32.setTop (mkF m 175 #[.val (.long q0), .second, .val (.long q1), .second, .val (.long q2), .second, .val (.int p3), .val (.int p4), .val (.long va), .second, .val (.long vb), .second, .val (.long vc), .second, .val (.int vk), .val (.int pm), .val (.ref b1), .val (.long r29), .second, .val (.long (own_f5 va)), .second, .val (.long (own_f5 vb)), .second, .val (.long (own_f5 vc)), .second, .val (.long ((pm.toInt64) * (vk.toInt64))), .second, .val (.int (if (1000 : Int64) < ((pm.toInt64) * (vk.toInt64)) then (if (2000 : Int64) < ((pm.toInt64) * (vk.toInt64)) then (3 : Int32) else (2 : Int32)) else (1 : Int32))), .unset, .unset, .unset, .unset, .unset, .unset, .unset, .unset] [(.int (1 : Int32)), (.int vk)])) t
        refine XS.icmpNo X32.here hx rfl (hb hby at_175) rfl (teq hc175_37).2 ?_
        show Steps p.tables e below (T32.setTop (mkF m 178 #[.val (.long q0), .second, .val (.long q1), .second, .val (.long q2), .second, .val (.int p3), .val (.int p4), .val (.long va), .second, .val (.long vb), .second, .val (.long vc), .second, .val (.int vk), .val (.int pm), .val (.ref b1), .val (.long r29), .second, .val (.long (own_f5 va)), .second, .val (.long (own_f5 vb)), .second, .val (.long (own_f5 vc)), .second, .val (.long ((pm.toInt64) * (vk.toInt64))), .second, .val (.int (if (1000 : Int64) < ((pm.toInt64) * (vk.toInt64)) then (if (2000 : Int64) < ((pm.toInt64) * (vk.toInt64)) then (3 : Int32) else (2 : Int32)) else (1 : Int32))), .unset, .unset, .unset, .unset, .unset, .unset, .unset, .unset] [])) t
        refine XS.lload X32.here hx rfl (hb hby at_178) rfl ?_
        show Steps p.tables e below (T32.setTop (mkF m 180 #[.val (.long q0), .second, .val (.long q1), .second, .val (.long q2), .second, .val (.int p3), .val (.int p4), .val (.long va), .second, .val (.long vb), .second, .val (.long vc), .second, .val (.int vk), .val (.int pm), .val (.ref b1), .val (.long r29), .second, .val (.long (own_f5 va)), .second, .val (.long (own_f5 vb)), .second, .val (.long (own_f5 vc)), .second, .val (.long ((pm.toInt64) * (vk.toInt64))), .second, .val (.int (if (1000 : Int64) < ((pm.toInt64) * (vk.toInt64)) then (if (2000 : Int64) < ((pm.toInt64) * (vk.toInt64)) then (3 : Int32) else (2 : Int32)) else (1 : Int32))), .unset, .unset, .unset, .unset, .unset, .unset, .unset, .unset] [(.long (own_f5 va))])) t
        refine XS.lstore X32.here hx rfl (hb hby at_180) rfl (l' := #[.val (.long q0), .second, .val (.long q1), .second, .val (.long q2), .second, .val (.int p3), .val (.int p4), .val (.long va), .second, .val (.long vb), .second, .val (.long vc), .second, .val (.int vk), .val (.int pm), .val (.ref b1), .val (.long r29), .second, .val (.long (own_f5 va)), .second, .val (.long (own_f5 vb)), .second, .val (.long (own_f5 vc)), .second, .val (.long ((pm.toInt64) * (vk.toInt64))), .second, .val (.int (if (1000 : Int64) < ((pm.toInt64) * (vk.toInt64)) then (if (2000 : Int64) < ((pm.toInt64) * (vk.toInt64)) then (3 : Int32) else (2 : Int32)) else (1 : Int32))), .val (.long (own_f5 va)), .second, .unset, .unset, .unset, .unset, .unset, .unset]) rfl ?_
        show Steps p.tables e below (T32.setTop (mkF m 182 #[.val (.long q0), .second, .val (.long q1), .second, .val (.long q2), .second, .val (.int p3), .val (.int p4), .val (.long va), .second, .val (.long vb), .second, .val (.long vc), .second, .val (.int vk), .val (.int pm), .val (.ref b1), .val (.long r29), .second, .val (.long (own_f5 va)), .second, .val (.long (own_f5 vb)), .second, .val (.long (own_f5 vc)), .second, .val (.long ((pm.toInt64) * (vk.toInt64))), .second, .val (.int (if (1000 : Int64) < ((pm.toInt64) * (vk.toInt64)) then (if (2000 : Int64) < ((pm.toInt64) * (vk.toInt64)) then (3 : Int32) else (2 : Int32)) else (1 : Int32))), .val (.long (own_f5 va)), .second, .unset, .unset, .unset, .unset, .unset, .unset] [])) t
        refine XS.goto X32.here hx rfl (pc0 := 182) (pc' := 301) rfl (hb hby at_182) (by decide) (by decide) ?_
        show Steps p.tables e below (T32.setTop (mkF m 301 #[.val (.long q0), .second, .val (.long q1), .second, .val (.long q2), .second, .val (.int p3), .val (.int p4), .val (.long va), .second, .val (.long vb), .second, .val (.long vc), .second, .val (.int vk), .val (.int pm), .val (.ref b1), .val (.long r29), .second, .val (.long (own_f5 va)), .second, .val (.long (own_f5 vb)), .second, .val (.long (own_f5 vc)), .second, .val (.long ((pm.toInt64) * (vk.toInt64))), .second, .val (.int (if (1000 : Int64) < ((pm.toInt64) * (vk.toInt64)) then (if (2000 : Int64) < ((pm.toInt64) * (vk.toInt64)) then (3 : Int32) else (2 : Int32)) else (1 : Int32))), .val (.long (own_f5 va)), .second, .unset, .unset, .unset, .unset, .unset, .unset] [])) t
        refine XS.lload X32.here hx rfl (hb hby at_301) rfl ?_
        show Steps p.tables e below (T32.setTop (mkF m 303 #[.val (.long q0), .second, .val (.long q1), .second, .val (.long q2), .second, .val (.int p3), .val (.int p4), .val (.long va), .second, .val (.long vb), .second, .val (.long vc), .second, .val (.int vk), .val (.int pm), .val (.ref b1), .val (.long r29), .second, .val (.long (own_f5 va)), .second, .val (.long (own_f5 vb)), .second, .val (.long (own_f5 vc)), .second, .val (.long ((pm.toInt64) * (vk.toInt64))), .second, .val (.int (if (1000 : Int64) < ((pm.toInt64) * (vk.toInt64)) then (if (2000 : Int64) < ((pm.toInt64) * (vk.toInt64)) then (3 : Int32) else (2 : Int32)) else (1 : Int32))), .val (.long (own_f5 va)), .second, .unset, .unset, .unset, .unset, .unset, .unset] [(.long r29)])) t
        refine XS.lload X32.here hx rfl (hb hby at_303) rfl ?_
        show Steps p.tables e below (T32.setTop (mkF m 305 #[.val (.long q0), .second, .val (.long q1), .second, .val (.long q2), .second, .val (.int p3), .val (.int p4), .val (.long va), .second, .val (.long vb), .second, .val (.long vc), .second, .val (.int vk), .val (.int pm), .val (.ref b1), .val (.long r29), .second, .val (.long (own_f5 va)), .second, .val (.long (own_f5 vb)), .second, .val (.long (own_f5 vc)), .second, .val (.long ((pm.toInt64) * (vk.toInt64))), .second, .val (.int (if (1000 : Int64) < ((pm.toInt64) * (vk.toInt64)) then (if (2000 : Int64) < ((pm.toInt64) * (vk.toInt64)) then (3 : Int32) else (2 : Int32)) else (1 : Int32))), .val (.long (own_f5 va)), .second, .unset, .unset, .unset, .unset, .unset, .unset] [(.long (own_f5 va)), (.long r29)])) t
        refine XS.lcmp X32.here hx rfl (hb hby at_305) rfl ?_
        exact kt
      have hk : vk.toInt = 1 := by rw [hc175_37]; decide
      rw [hk] at hrk
      have s1 := own_tt va hva; have s2 := own_tt vb hvb; have s3 := own_tt vc hvc
      have own_r := own_e1 fJ _ r29 (own_ten va) (own_t va) hP29 s1.1 (by omega) (fun j => by rw [hcum]; omega)
      have hc306_38 : r29 = (own_f5 va) := own_r
      refine own_by (A' := T32.setTop (mkF m 314 #[.val (.long q0), .second, .val (.long q1), .second, .val (.long q2), .second, .val (.int p3), .val (.int p4), .val (.long va), .second, .val (.long vb), .second, .val (.long vc), .second, .val (.int vk), .val (.int pm), .val (.ref b1), .val (.long r29), .second, .val (.long (own_f5 va)), .second, .val (.long (own_f5 vb)), .second, .val (.long (own_f5 vc)), .second, .val (.long ((pm.toInt64) * (vk.toInt64))), .second, .val (.int (if (1000 : Int64) < ((pm.toInt64) * (vk.toInt64)) then (if (2000 : Int64) < ((pm.toInt64) * (vk.toInt64)) then (3 : Int32) else (2 : Int32)) else (1 : Int32))), .val (.long (own_f5 va)), .second, .unset, .unset, .unset, .unset, .unset, .unset] [(.int (1 : Int32))])) (fun t kt => ?_) ?_
      · show Steps p.tables e below (T32.setTop (mkF m 306 #[.val (.long q0), .second, .val (.long q1), .second, .val (.long q2), .second, .val (.int p3), .val (.int p4), .val (.long va), .second, .val (.long vb), .second, .val (.long vc), .second, .val (.int vk), .val (.int pm), .val (.ref b1), .val (.long r29), .second, .val (.long (own_f5 va)), .second, .val (.long (own_f5 vb)), .second, .val (.long (own_f5 vc)), .second, .val (.long ((pm.toInt64) * (vk.toInt64))), .second, .val (.int (if (1000 : Int64) < ((pm.toInt64) * (vk.toInt64)) then (if (2000 : Int64) < ((pm.toInt64) * (vk.toInt64)) then (3 : Int32) else (2 : Int32)) else (1 : Int32))), .val (.long (own_f5 va)), .second, .unset, .unset, .unset, .unset, .unset, .unset] [(.int (lcmpW r29 (own_f5 va)))])) t
        refine XS.ifNo X32.here hx rfl (hb hby at_306) rfl ((if0 _ _).trans (teq ((lw_eq _ _).mpr hc306_38)).2) ?_
        show Steps p.tables e below (T32.setTop (mkF m 309 #[.val (.long q0), .second, .val (.long q1), .second, .val (.long q2), .second, .val (.int p3), .val (.int p4), .val (.long va), .second, .val (.long vb), .second, .val (.long vc), .second, .val (.int vk), .val (.int pm), .val (.ref b1), .val (.long r29), .second, .val (.long (own_f5 va)), .second, .val (.long (own_f5 vb)), .second, .val (.long (own_f5 vc)), .second, .val (.long ((pm.toInt64) * (vk.toInt64))), .second, .val (.int (if (1000 : Int64) < ((pm.toInt64) * (vk.toInt64)) then (if (2000 : Int64) < ((pm.toInt64) * (vk.toInt64)) then (3 : Int32) else (2 : Int32)) else (1 : Int32))), .val (.long (own_f5 va)), .second, .unset, .unset, .unset, .unset, .unset, .unset] [])) t
        refine XS.iconst X32.here hx rfl (hb hby at_309) ?_
        show Steps p.tables e below (T32.setTop (mkF m 310 #[.val (.long q0), .second, .val (.long q1), .second, .val (.long q2), .second, .val (.int p3), .val (.int p4), .val (.long va), .second, .val (.long vb), .second, .val (.long vc), .second, .val (.int vk), .val (.int pm), .val (.ref b1), .val (.long r29), .second, .val (.long (own_f5 va)), .second, .val (.long (own_f5 vb)), .second, .val (.long (own_f5 vc)), .second, .val (.long ((pm.toInt64) * (vk.toInt64))), .second, .val (.int (if (1000 : Int64) < ((pm.toInt64) * (vk.toInt64)) then (if (2000 : Int64) < ((pm.toInt64) * (vk.toInt64)) then (3 : Int32) else (2 : Int32)) else (1 : Int32))), .val (.long (own_f5 va)), .second, .unset, .unset, .unset, .unset, .unset, .unset] [(.int (1 : Int32))])) t
        refine XS.goto X32.here hx rfl (pc0 := 310) (pc' := 314) rfl (hb hby at_310) (by decide) (by decide) ?_
        exact kt
      obtain ⟨fs, hr, hrun, hended, hW, hsame⟩ := X32.leave (v := some (.int (1 : Int32))) (fun h => by rw [Bd.returns] at h; cases h)
      refine ⟨_, _, ?_, hrun, hended, _, _, rfl, ?_, ⟨_, rfl⟩, hW, hsame.mono (by decide) (by decide)⟩
      · exact retN X32 hx (t := .boolean) Bd.returns (by simp) (hb hby at_314) hr
      · show Q0 Z q0 q1 q2 p3 p4 h0 n0 _ T32.heap _
        rw [e32]
        exact ⟨rfl, N32⟩
    · refine own_by (A' := T32.setTop (mkF m 188 #[.val (.long q0), .second, .val (.long q1), .second, .val (.long q2), .second, .val (.int p3), .val (.int p4), .val (.long va), .second, .val (.long vb), .second, .val (.long vc), .second, .val (.int vk), .val (.int pm), .val (.ref b1), .val (.long r29), .second, .val (.long (own_f5 va)), .second, .val (.long (own_f5 vb)), .second, .val (.long (own_f5 vc)), .second, .val (.long ((pm.toInt64) * (vk.toInt64))), .second, .val (.int (if (1000 : Int64) < ((pm.toInt64) * (vk.toInt64)) then (if (2000 : Int64) < ((pm.toInt64) * (vk.toInt64)) then (3 : Int32) else (2 : Int32)) else (1 : Int32))), .unset, .unset, .unset, .unset, .unset, .unset, .unset, .unset] [(.int (2 : Int32)), (.int vk)])) (fun t kt => ?_) ?_
      · show Steps p.tables e below (T32.setTop (mkF m 175 #[.val (.long q0), .second, .val (.long q1), .second, .val (.long q2), .second, .val (.int p3), .val (.int p4), .val (.long va), .second, .val (.long vb), .second, .val (.long vc), .second, .val (.int vk), .val (.int pm), .val (.ref b1), .val (.long r29), .second, .val (.long (own_f5 va)), .second, .val (.long (own_f5 vb)), .second, .val (.long (own_f5 vc)), .second, .val (.long ((pm.toInt64) * (vk.toInt64))), .second, .val (.int (if (1000 : Int64) < ((pm.toInt64) * (vk.toInt64)) then (if (2000 : Int64) < ((pm.toInt64) * (vk.toInt64)) then (3 : Int32) else (2 : Int32)) else (1 : Int32))), .unset, .unset, .unset, .unset, .unset, .unset, .unset, .unset] [(.int (1 : Int32)), (.int vk)])) t
        refine XS.icmpYes X32.here hx rfl (pc0 := 175) (pc' := 185) rfl (hb hby at_175) rfl (feq hc175_37).2 (by decide) (by decide) ?_
        show Steps p.tables e below (T32.setTop (mkF m 185 #[.val (.long q0), .second, .val (.long q1), .second, .val (.long q2), .second, .val (.int p3), .val (.int p4), .val (.long va), .second, .val (.long vb), .second, .val (.long vc), .second, .val (.int vk), .val (.int pm), .val (.ref b1), .val (.long r29), .second, .val (.long (own_f5 va)), .second, .val (.long (own_f5 vb)), .second, .val (.long (own_f5 vc)), .second, .val (.long ((pm.toInt64) * (vk.toInt64))), .second, .val (.int (if (1000 : Int64) < ((pm.toInt64) * (vk.toInt64)) then (if (2000 : Int64) < ((pm.toInt64) * (vk.toInt64)) then (3 : Int32) else (2 : Int32)) else (1 : Int32))), .unset, .unset, .unset, .unset, .unset, .unset, .unset, .unset] [])) t
        refine XS.iload X32.here hx rfl (hb hby at_185) rfl ?_
        show Steps p.tables e below (T32.setTop (mkF m 187 #[.val (.long q0), .second, .val (.long q1), .second, .val (.long q2), .second, .val (.int p3), .val (.int p4), .val (.long va), .second, .val (.long vb), .second, .val (.long vc), .second, .val (.int vk), .val (.int pm), .val (.ref b1), .val (.long r29), .second, .val (.long (own_f5 va)), .second, .val (.long (own_f5 vb)), .second, .val (.long (own_f5 vc)), .second, .val (.long ((pm.toInt64) * (vk.toInt64))), .second, .val (.int (if (1000 : Int64) < ((pm.toInt64) * (vk.toInt64)) then (if (2000 : Int64) < ((pm.toInt64) * (vk.toInt64)) then (3 : Int32) else (2 : Int32)) else (1 : Int32))), .unset, .unset, .unset, .unset, .unset, .unset, .unset, .unset] [(.int vk)])) t
        refine XS.iconst X32.here hx rfl (hb hby at_187) ?_
        exact kt
      by_cases hc188_39 : vk = (2 : Int32)
      · refine own_by (A' := T32.setTop (mkF m 195 #[.val (.long q0), .second, .val (.long q1), .second, .val (.long q2), .second, .val (.int p3), .val (.int p4), .val (.long va), .second, .val (.long vb), .second, .val (.long vc), .second, .val (.int vk), .val (.int pm), .val (.ref b1), .val (.long r29), .second, .val (.long (own_f5 va)), .second, .val (.long (own_f5 vb)), .second, .val (.long (own_f5 vc)), .second, .val (.long ((pm.toInt64) * (vk.toInt64))), .second, .val (.int (if (1000 : Int64) < ((pm.toInt64) * (vk.toInt64)) then (if (2000 : Int64) < ((pm.toInt64) * (vk.toInt64)) then (3 : Int32) else (2 : Int32)) else (1 : Int32))), .unset, .unset, .unset, .unset, .unset, .unset, .unset, .unset] [(.long (own_f5 vb)), (.long (own_f5 va))])) (fun t kt => ?_) ?_
        · show Steps p.tables e below (T32.setTop (mkF m 188 #[.val (.long q0), .second, .val (.long q1), .second, .val (.long q2), .second, .val (.int p3), .val (.int p4), .val (.long va), .second, .val (.long vb), .second, .val (.long vc), .second, .val (.int vk), .val (.int pm), .val (.ref b1), .val (.long r29), .second, .val (.long (own_f5 va)), .second, .val (.long (own_f5 vb)), .second, .val (.long (own_f5 vc)), .second, .val (.long ((pm.toInt64) * (vk.toInt64))), .second, .val (.int (if (1000 : Int64) < ((pm.toInt64) * (vk.toInt64)) then (if (2000 : Int64) < ((pm.toInt64) * (vk.toInt64)) then (3 : Int32) else (2 : Int32)) else (1 : Int32))), .unset, .unset, .unset, .unset, .unset, .unset, .unset, .unset] [(.int (2 : Int32)), (.int vk)])) t
          refine XS.icmpNo X32.here hx rfl (hb hby at_188) rfl (teq hc188_39).2 ?_
          show Steps p.tables e below (T32.setTop (mkF m 191 #[.val (.long q0), .second, .val (.long q1), .second, .val (.long q2), .second, .val (.int p3), .val (.int p4), .val (.long va), .second, .val (.long vb), .second, .val (.long vc), .second, .val (.int vk), .val (.int pm), .val (.ref b1), .val (.long r29), .second, .val (.long (own_f5 va)), .second, .val (.long (own_f5 vb)), .second, .val (.long (own_f5 vc)), .second, .val (.long ((pm.toInt64) * (vk.toInt64))), .second, .val (.int (if (1000 : Int64) < ((pm.toInt64) * (vk.toInt64)) then (if (2000 : Int64) < ((pm.toInt64) * (vk.toInt64)) then (3 : Int32) else (2 : Int32)) else (1 : Int32))), .unset, .unset, .unset, .unset, .unset, .unset, .unset, .unset] [])) t
          refine XS.lload X32.here hx rfl (hb hby at_191) rfl ?_
          show Steps p.tables e below (T32.setTop (mkF m 193 #[.val (.long q0), .second, .val (.long q1), .second, .val (.long q2), .second, .val (.int p3), .val (.int p4), .val (.long va), .second, .val (.long vb), .second, .val (.long vc), .second, .val (.int vk), .val (.int pm), .val (.ref b1), .val (.long r29), .second, .val (.long (own_f5 va)), .second, .val (.long (own_f5 vb)), .second, .val (.long (own_f5 vc)), .second, .val (.long ((pm.toInt64) * (vk.toInt64))), .second, .val (.int (if (1000 : Int64) < ((pm.toInt64) * (vk.toInt64)) then (if (2000 : Int64) < ((pm.toInt64) * (vk.toInt64)) then (3 : Int32) else (2 : Int32)) else (1 : Int32))), .unset, .unset, .unset, .unset, .unset, .unset, .unset, .unset] [(.long (own_f5 va))])) t
          refine XS.lload X32.here hx rfl (hb hby at_193) rfl ?_
          exact kt
        obtain ⟨_, _, ⟨T40, L40, k40, n40⟩, -, X40, ⟨Lc40, hQ40, l40, y40, z40⟩, st40⟩ := Jvm.LawKit.callS X32 hx (y := (⟨"java/lang/Math", "min", "(JJ)J"⟩ : MethodName)) hown (mvT hZ (hw _ (List.mem_of_getElem? (i := 37) rfl))) (mvT hZ (hw _ (List.mem_of_getElem? (i := 38) rfl))) (mvT hZ (hw _ (List.mem_of_getElem? (i := 39) rfl))) (mvT hZ (hw _ (List.mem_of_getElem? (i := 40) rfl))) (by decide) (backOf (W := 0) (rm6 l Z aw hw [] (own_f5 va) (own_f5 vb) hJ3 n0 (Nat.le_trans Z0 KJ3.1) ) hZ (hw _ (List.mem_of_getElem? (i := 40) rfl)) (hw _ (List.mem_of_getElem? (i := 39) rfl)) (by decide) (by decide)) (g := (mkF m 195 #[.val (.long q0), .second, .val (.long q1), .second, .val (.long q2), .second, .val (.int p3), .val (.int p4), .val (.long va), .second, .val (.long vb), .second, .val (.long vc), .second, .val (.int vk), .val (.int pm), .val (.ref b1), .val (.long r29), .second, .val (.long (own_f5 va)), .second, .val (.long (own_f5 vb)), .second, .val (.long (own_f5 vc)), .second, .val (.long ((pm.toInt64) * (vk.toInt64))), .second, .val (.int (if (1000 : Int64) < ((pm.toInt64) * (vk.toInt64)) then (if (2000 : Int64) < ((pm.toInt64) * (vk.toInt64)) then (3 : Int32) else (2 : Int32)) else (1 : Int32))), .unset, .unset, .unset, .unset, .unset, .unset, .unset, .unset] [(.long (own_f5 vb)), (.long (own_f5 va))])) rfl (by rw [hml]; rfl) (argsL := [(.long (own_f5 va)), (.long (own_f5 vb))]) (rest := []) (lenOf pd_3 rfl) rfl (by show 2 * 0 + _ ≤ _; exact Nat.le_of_eq rfl) (hb hby at_195) (fun _ _ => ⟨rfl, e32, (by decide : 3 + 0 ≤ _), (by decide : 3074 + 0 ≤ _)⟩)
        dsimp only [Pt.U, Pt.locs, Pt.cells, Pt.slots] at X40 l40 y40 z40 st40 hQ40
        subst l40 y40 z40
        obtain ⟨rfl, N40q, e40⟩ := hQ40
        have N40 := Fr.app N32 N40q
        refine own_by (A' := T40.setTop (mkF m 198 #[.val (.long q0), .second, .val (.long q1), .second, .val (.long q2), .second, .val (.int p3), .val (.int p4), .val (.long va), .second, .val (.long vb), .second, .val (.long vc), .second, .val (.int vk), .val (.int pm), .val (.ref b1), .val (.long r29), .second, .val (.long (own_f5 va)), .second, .val (.long (own_f5 vb)), .second, .val (.long (own_f5 vc)), .second, .val (.long ((pm.toInt64) * (vk.toInt64))), .second, .val (.int (if (1000 : Int64) < ((pm.toInt64) * (vk.toInt64)) then (if (2000 : Int64) < ((pm.toInt64) * (vk.toInt64)) then (3 : Int32) else (2 : Int32)) else (1 : Int32))), .unset, .unset, .unset, .unset, .unset, .unset, .unset, .unset] [(.long (own_f6 (own_f5 va) (own_f5 vb)))])) (fun t kt => st40 t kt) ?_
        refine own_by (A' := T40.setTop (mkF m 204 #[.val (.long q0), .second, .val (.long q1), .second, .val (.long q2), .second, .val (.int p3), .val (.int p4), .val (.long va), .second, .val (.long vb), .second, .val (.long vc), .second, .val (.int vk), .val (.int pm), .val (.ref b1), .val (.long r29), .second, .val (.long (own_f5 va)), .second, .val (.long (own_f5 vb)), .second, .val (.long (own_f5 vc)), .second, .val (.long ((pm.toInt64) * (vk.toInt64))), .second, .val (.int (if (1000 : Int64) < ((pm.toInt64) * (vk.toInt64)) then (if (2000 : Int64) < ((pm.toInt64) * (vk.toInt64)) then (3 : Int32) else (2 : Int32)) else (1 : Int32))), .unset, .unset, .val (.long (own_f6 (own_f5 va) (own_f5 vb))), .second, .unset, .unset, .unset, .unset] [(.long (own_f5 vb)), (.long (own_f5 va))])) (fun t kt => ?_) ?_
        · show Steps p.tables e below (T40.setTop (mkF m 198 #[.val (.long q0), .second, .val (.long q1), .second, .val (.long q2), .second, .val (.int p3), .val (.int p4), .val (.long va), .second, .val (.long vb), .second, .val (.long vc), .second, .val (.int vk), .val (.int pm), .val (.ref b1), .val (.long r29), .second, .val (.long (own_f5 va)), .second, .val (.long (own_f5 vb)), .second, .val (.long (own_f5 vc)), .second, .val (.long ((pm.toInt64) * (vk.toInt64))), .second, .val (.int (if (1000 : Int64) < ((pm.toInt64) * (vk.toInt64)) then (if (2000 : Int64) < ((pm.toInt64) * (vk.toInt64)) then (3 : Int32) else (2 : Int32)) else (1 : Int32))), .unset, .unset, .unset, .unset, .unset, .unset, .unset, .unset] [(.long (own_f6 (own_f5 va) (own_f5 vb)))])) t
          refine XS.lstore X40.here hx rfl (hb hby at_198) rfl (l' := #[.val (.long q0), .second, .val (.long q1), .second, .val (.long q2), .second, .val (.int p3), .val (.int p4), .val (.long va), .second, .val (.long vb), .second, .val (.long vc), .second, .val (.int vk), .val (.int pm), .val (.ref b1), .val (.long r29), .second, .val (.long (own_f5 va)), .second, .val (.long (own_f5 vb)), .second, .val (.long (own_f5 vc)), .second, .val (.long ((pm.toInt64) * (vk.toInt64))), .second, .val (.int (if (1000 : Int64) < ((pm.toInt64) * (vk.toInt64)) then (if (2000 : Int64) < ((pm.toInt64) * (vk.toInt64)) then (3 : Int32) else (2 : Int32)) else (1 : Int32))), .unset, .unset, .val (.long (own_f6 (own_f5 va) (own_f5 vb))), .second, .unset, .unset, .unset, .unset]) rfl ?_
          show Steps p.tables e below (T40.setTop (mkF m 200 #[.val (.long q0), .second, .val (.long q1), .second, .val (.long q2), .second, .val (.int p3), .val (.int p4), .val (.long va), .second, .val (.long vb), .second, .val (.long vc), .second, .val (.int vk), .val (.int pm), .val (.ref b1), .val (.long r29), .second, .val (.long (own_f5 va)), .second, .val (.long (own_f5 vb)), .second, .val (.long (own_f5 vc)), .second, .val (.long ((pm.toInt64) * (vk.toInt64))), .second, .val (.int (if (1000 : Int64) < ((pm.toInt64) * (vk.toInt64)) then (if (2000 : Int64) < ((pm.toInt64) * (vk.toInt64)) then (3 : Int32) else (2 : Int32)) else (1 : Int32))), .unset, .unset, .val (.long (own_f6 (own_f5 va) (own_f5 vb))), .second, .unset, .unset, .unset, .unset] [])) t
          refine XS.lload X40.here hx rfl (hb hby at_200) rfl ?_
          show Steps p.tables e below (T40.setTop (mkF m 202 #[.val (.long q0), .second, .val (.long q1), .second, .val (.long q2), .second, .val (.int p3), .val (.int p4), .val (.long va), .second, .val (.long vb), .second, .val (.long vc), .second, .val (.int vk), .val (.int pm), .val (.ref b1), .val (.long r29), .second, .val (.long (own_f5 va)), .second, .val (.long (own_f5 vb)), .second, .val (.long (own_f5 vc)), .second, .val (.long ((pm.toInt64) * (vk.toInt64))), .second, .val (.int (if (1000 : Int64) < ((pm.toInt64) * (vk.toInt64)) then (if (2000 : Int64) < ((pm.toInt64) * (vk.toInt64)) then (3 : Int32) else (2 : Int32)) else (1 : Int32))), .unset, .unset, .val (.long (own_f6 (own_f5 va) (own_f5 vb))), .second, .unset, .unset, .unset, .unset] [(.long (own_f5 va))])) t
          refine XS.lload X40.here hx rfl (hb hby at_202) rfl ?_
          exact kt
        obtain ⟨_, _, ⟨T41, L41, k41, n41⟩, -, X41, ⟨Lc41, hQ41, l41, y41, z41⟩, st41⟩ := Jvm.LawKit.callS X40 hx (y := (⟨"java/lang/Math", "max", "(JJ)J"⟩ : MethodName)) hown (mvT hZ (hw _ (List.mem_of_getElem? (i := 41) rfl))) (mvT hZ (hw _ (List.mem_of_getElem? (i := 42) rfl))) (mvT hZ (hw _ (List.mem_of_getElem? (i := 39) rfl))) (mvT hZ (hw _ (List.mem_of_getElem? (i := 43) rfl))) (by decide) (backOf (W := 0) (rm7 l Z aw hw [] (own_f5 va) (own_f5 vb) hJ3 n0 (Nat.le_trans Z0 KJ3.1) ) hZ (hw _ (List.mem_of_getElem? (i := 43) rfl)) (hw _ (List.mem_of_getElem? (i := 39) rfl)) (by decide) (by decide)) (g := (mkF m 204 #[.val (.long q0), .second, .val (.long q1), .second, .val (.long q2), .second, .val (.int p3), .val (.int p4), .val (.long va), .second, .val (.long vb), .second, .val (.long vc), .second, .val (.int vk), .val (.int pm), .val (.ref b1), .val (.long r29), .second, .val (.long (own_f5 va)), .second, .val (.long (own_f5 vb)), .second, .val (.long (own_f5 vc)), .second, .val (.long ((pm.toInt64) * (vk.toInt64))), .second, .val (.int (if (1000 : Int64) < ((pm.toInt64) * (vk.toInt64)) then (if (2000 : Int64) < ((pm.toInt64) * (vk.toInt64)) then (3 : Int32) else (2 : Int32)) else (1 : Int32))), .unset, .unset, .val (.long (own_f6 (own_f5 va) (own_f5 vb))), .second, .unset, .unset, .unset, .unset] [(.long (own_f5 vb)), (.long (own_f5 va))])) rfl (by rw [hml]; rfl) (argsL := [(.long (own_f5 va)), (.long (own_f5 vb))]) (rest := []) (lenOf pd_3 rfl) rfl (by show 2 * 0 + _ ≤ _; exact Nat.le_of_eq rfl) (hb hby at_204) (fun _ _ => ⟨rfl, e40, (by decide : 3 + 0 ≤ _), (by decide : 3074 + 0 ≤ _)⟩)
        dsimp only [Pt.U, Pt.locs, Pt.cells, Pt.slots] at X41 l41 y41 z41 st41 hQ41
        subst l41 y41 z41
        obtain ⟨rfl, N41q, e41⟩ := hQ41
        have N41 := Fr.app N40 N41q
        refine own_by (A' := T41.setTop (mkF m 207 #[.val (.long q0), .second, .val (.long q1), .second, .val (.long q2), .second, .val (.int p3), .val (.int p4), .val (.long va), .second, .val (.long vb), .second, .val (.long vc), .second, .val (.int vk), .val (.int pm), .val (.ref b1), .val (.long r29), .second, .val (.long (own_f5 va)), .second, .val (.long (own_f5 vb)), .second, .val (.long (own_f5 vc)), .second, .val (.long ((pm.toInt64) * (vk.toInt64))), .second, .val (.int (if (1000 : Int64) < ((pm.toInt64) * (vk.toInt64)) then (if (2000 : Int64) < ((pm.toInt64) * (vk.toInt64)) then (3 : Int32) else (2 : Int32)) else (1 : Int32))), .unset, .unset, .val (.long (own_f6 (own_f5 va) (own_f5 vb))), .second, .unset, .unset, .unset, .unset] [(.long (own_f7 (own_f5 va) (own_f5 vb)))])) (fun t kt => st41 t kt) ?_
        refine own_by (A' := T41.setTop (mkF m 212 #[.val (.long q0), .second, .val (.long q1), .second, .val (.long q2), .second, .val (.int p3), .val (.int p4), .val (.long va), .second, .val (.long vb), .second, .val (.long vc), .second, .val (.int vk), .val (.int pm), .val (.ref b1), .val (.long r29), .second, .val (.long (own_f5 va)), .second, .val (.long (own_f5 vb)), .second, .val (.long (own_f5 vc)), .second, .val (.long ((pm.toInt64) * (vk.toInt64))), .second, .val (.int (if (1000 : Int64) < ((pm.toInt64) * (vk.toInt64)) then (if (2000 : Int64) < ((pm.toInt64) * (vk.toInt64)) then (3 : Int32) else (2 : Int32)) else (1 : Int32))), .unset, .unset, .val (.long (own_f6 (own_f5 va) (own_f5 vb))), .second, .val (.long (own_f7 (own_f5 va) (own_f5 vb))), .second, .unset, .unset] [(.int (1 : Int32)), (.int (if (1000 : Int64) < ((pm.toInt64) * (vk.toInt64)) then (if (2000 : Int64) < ((pm.toInt64) * (vk.toInt64)) then (3 : Int32) else (2 : Int32)) else (1 : Int32)))])) (fun t kt => ?_) ?_
        · show Steps p.tables e below (T41.setTop (mkF m 207 #[.val (.long q0), .second, .val (.long q1), .second, .val (.long q2), .second, .val (.int p3), .val (.int p4), .val (.long va), .second, .val (.long vb), .second, .val (.long vc), .second, .val (.int vk), .val (.int pm), .val (.ref b1), .val (.long r29), .second, .val (.long (own_f5 va)), .second, .val (.long (own_f5 vb)), .second, .val (.long (own_f5 vc)), .second, .val (.long ((pm.toInt64) * (vk.toInt64))), .second, .val (.int (if (1000 : Int64) < ((pm.toInt64) * (vk.toInt64)) then (if (2000 : Int64) < ((pm.toInt64) * (vk.toInt64)) then (3 : Int32) else (2 : Int32)) else (1 : Int32))), .unset, .unset, .val (.long (own_f6 (own_f5 va) (own_f5 vb))), .second, .unset, .unset, .unset, .unset] [(.long (own_f7 (own_f5 va) (own_f5 vb)))])) t
          refine XS.lstore X41.here hx rfl (hb hby at_207) rfl (l' := #[.val (.long q0), .second, .val (.long q1), .second, .val (.long q2), .second, .val (.int p3), .val (.int p4), .val (.long va), .second, .val (.long vb), .second, .val (.long vc), .second, .val (.int vk), .val (.int pm), .val (.ref b1), .val (.long r29), .second, .val (.long (own_f5 va)), .second, .val (.long (own_f5 vb)), .second, .val (.long (own_f5 vc)), .second, .val (.long ((pm.toInt64) * (vk.toInt64))), .second, .val (.int (if (1000 : Int64) < ((pm.toInt64) * (vk.toInt64)) then (if (2000 : Int64) < ((pm.toInt64) * (vk.toInt64)) then (3 : Int32) else (2 : Int32)) else (1 : Int32))), .unset, .unset, .val (.long (own_f6 (own_f5 va) (own_f5 vb))), .second, .val (.long (own_f7 (own_f5 va) (own_f5 vb))), .second, .unset, .unset]) rfl ?_
          show Steps p.tables e below (T41.setTop (mkF m 209 #[.val (.long q0), .second, .val (.long q1), .second, .val (.long q2), .second, .val (.int p3), .val (.int p4), .val (.long va), .second, .val (.long vb), .second, .val (.long vc), .second, .val (.int vk), .val (.int pm), .val (.ref b1), .val (.long r29), .second, .val (.long (own_f5 va)), .second, .val (.long (own_f5 vb)), .second, .val (.long (own_f5 vc)), .second, .val (.long ((pm.toInt64) * (vk.toInt64))), .second, .val (.int (if (1000 : Int64) < ((pm.toInt64) * (vk.toInt64)) then (if (2000 : Int64) < ((pm.toInt64) * (vk.toInt64)) then (3 : Int32) else (2 : Int32)) else (1 : Int32))), .unset, .unset, .val (.long (own_f6 (own_f5 va) (own_f5 vb))), .second, .val (.long (own_f7 (own_f5 va) (own_f5 vb))), .second, .unset, .unset] [])) t
          refine XS.iload X41.here hx rfl (hb hby at_209) rfl ?_
          show Steps p.tables e below (T41.setTop (mkF m 211 #[.val (.long q0), .second, .val (.long q1), .second, .val (.long q2), .second, .val (.int p3), .val (.int p4), .val (.long va), .second, .val (.long vb), .second, .val (.long vc), .second, .val (.int vk), .val (.int pm), .val (.ref b1), .val (.long r29), .second, .val (.long (own_f5 va)), .second, .val (.long (own_f5 vb)), .second, .val (.long (own_f5 vc)), .second, .val (.long ((pm.toInt64) * (vk.toInt64))), .second, .val (.int (if (1000 : Int64) < ((pm.toInt64) * (vk.toInt64)) then (if (2000 : Int64) < ((pm.toInt64) * (vk.toInt64)) then (3 : Int32) else (2 : Int32)) else (1 : Int32))), .unset, .unset, .val (.long (own_f6 (own_f5 va) (own_f5 vb))), .second, .val (.long (own_f7 (own_f5 va) (own_f5 vb))), .second, .unset, .unset] [(.int (if (1000 : Int64) < ((pm.toInt64) * (vk.toInt64)) then (if (2000 : Int64) < ((pm.toInt64) * (vk.toInt64)) then (3 : Int32) else (2 : Int32)) else (1 : Int32)))])) t
          refine XS.iconst X41.here hx rfl (hb hby at_211) ?_
          exact kt
        refine own_by (A' := T41.setTop (mkF m 222 #[.val (.long q0), .second, .val (.long q1), .second, .val (.long q2), .second, .val (.int p3), .val (.int p4), .val (.long va), .second, .val (.long vb), .second, .val (.long vc), .second, .val (.int vk), .val (.int pm), .val (.ref b1), .val (.long r29), .second, .val (.long (own_f5 va)), .second, .val (.long (own_f5 vb)), .second, .val (.long (own_f5 vc)), .second, .val (.long ((pm.toInt64) * (vk.toInt64))), .second, .val (.int (if (1000 : Int64) < ((pm.toInt64) * (vk.toInt64)) then (if (2000 : Int64) < ((pm.toInt64) * (vk.toInt64)) then (3 : Int32) else (2 : Int32)) else (1 : Int32))), .unset, .unset, .val (.long (own_f6 (own_f5 va) (own_f5 vb))), .second, .val (.long (own_f7 (own_f5 va) (own_f5 vb))), .second, .unset, .unset] [(.long (if (if (1000 : Int64) < ((pm.toInt64) * (vk.toInt64)) then (if (2000 : Int64) < ((pm.toInt64) * (vk.toInt64)) then (3 : Int32) else (2 : Int32)) else (1 : Int32)) = (1 : Int32) then (own_f6 (own_f5 va) (own_f5 vb)) else (own_f7 (own_f5 va) (own_f5 vb))))])) (fun t kt => ?_) ?_
        · show Steps p.tables e below (T41.setTop (mkF m 212 #[.val (.long q0), .second, .val (.long q1), .second, .val (.long q2), .second, .val (.int p3), .val (.int p4), .val (.long va), .second, .val (.long vb), .second, .val (.long vc), .second, .val (.int vk), .val (.int pm), .val (.ref b1), .val (.long r29), .second, .val (.long (own_f5 va)), .second, .val (.long (own_f5 vb)), .second, .val (.long (own_f5 vc)), .second, .val (.long ((pm.toInt64) * (vk.toInt64))), .second, .val (.int (if (1000 : Int64) < ((pm.toInt64) * (vk.toInt64)) then (if (2000 : Int64) < ((pm.toInt64) * (vk.toInt64)) then (3 : Int32) else (2 : Int32)) else (1 : Int32))), .unset, .unset, .val (.long (own_f6 (own_f5 va) (own_f5 vb))), .second, .val (.long (own_f7 (own_f5 va) (own_f5 vb))), .second, .unset, .unset] [(.int (1 : Int32)), (.int (if (1000 : Int64) < ((pm.toInt64) * (vk.toInt64)) then (if (2000 : Int64) < ((pm.toInt64) * (vk.toInt64)) then (3 : Int32) else (2 : Int32)) else (1 : Int32)))])) t
          by_cases hj212_42 : (if (1000 : Int64) < ((pm.toInt64) * (vk.toInt64)) then (if (2000 : Int64) < ((pm.toInt64) * (vk.toInt64)) then (3 : Int32) else (2 : Int32)) else (1 : Int32)) = (1 : Int32)
          · rw [if_pos hj212_42] at kt
            show Steps p.tables e below (T41.setTop (mkF m 212 #[.val (.long q0), .second, .val (.long q1), .second, .val (.long q2), .second, .val (.int p3), .val (.int p4), .val (.long va), .second, .val (.long vb), .second, .val (.long vc), .second, .val (.int vk), .val (.int pm), .val (.ref b1), .val (.long r29), .second, .val (.long (own_f5 va)), .second, .val (.long (own_f5 vb)), .second, .val (.long (own_f5 vc)), .second, .val (.long ((pm.toInt64) * (vk.toInt64))), .second, .val (.int (if (1000 : Int64) < ((pm.toInt64) * (vk.toInt64)) then (if (2000 : Int64) < ((pm.toInt64) * (vk.toInt64)) then (3 : Int32) else (2 : Int32)) else (1 : Int32))), .unset, .unset, .val (.long (own_f6 (own_f5 va) (own_f5 vb))), .second, .val (.long (own_f7 (own_f5 va) (own_f5 vb))), .second, .unset, .unset] [(.int (1 : Int32)), (.int (if (1000 : Int64) < ((pm.toInt64) * (vk.toInt64)) then (if (2000 : Int64) < ((pm.toInt64) * (vk.toInt64)) then (3 : Int32) else (2 : Int32)) else (1 : Int32)))])) t
            refine XS.icmpNo X41.here hx rfl (hb hby at_212) rfl (teq hj212_42).2 ?_
            show Steps p.tables e below (T41.setTop (mkF m 215 #[.val (.long q0), .second, .val (.long q1), .second, .val (.long q2), .second, .val (.int p3), .val (.int p4), .val (.long va), .second, .val (.long vb), .second, .val (.long vc), .second, .val (.int vk), .val (.int pm), .val (.ref b1), .val (.long r29), .second, .val (.long (own_f5 va)), .second, .val (.long (own_f5 vb)), .second, .val (.long (own_f5 vc)), .second, .val (.long ((pm.toInt64) * (vk.toInt64))), .second, .val (.int (if (1000 : Int64) < ((pm.toInt64) * (vk.toInt64)) then (if (2000 : Int64) < ((pm.toInt64) * (vk.toInt64)) then (3 : Int32) else (2 : Int32)) else (1 : Int32))), .unset, .unset, .val (.long (own_f6 (own_f5 va) (own_f5 vb))), .second, .val (.long (own_f7 (own_f5 va) (own_f5 vb))), .second, .unset, .unset] [])) t
            refine XS.lload X41.here hx rfl (hb hby at_215) rfl ?_
            show Steps p.tables e below (T41.setTop (mkF m 217 #[.val (.long q0), .second, .val (.long q1), .second, .val (.long q2), .second, .val (.int p3), .val (.int p4), .val (.long va), .second, .val (.long vb), .second, .val (.long vc), .second, .val (.int vk), .val (.int pm), .val (.ref b1), .val (.long r29), .second, .val (.long (own_f5 va)), .second, .val (.long (own_f5 vb)), .second, .val (.long (own_f5 vc)), .second, .val (.long ((pm.toInt64) * (vk.toInt64))), .second, .val (.int (if (1000 : Int64) < ((pm.toInt64) * (vk.toInt64)) then (if (2000 : Int64) < ((pm.toInt64) * (vk.toInt64)) then (3 : Int32) else (2 : Int32)) else (1 : Int32))), .unset, .unset, .val (.long (own_f6 (own_f5 va) (own_f5 vb))), .second, .val (.long (own_f7 (own_f5 va) (own_f5 vb))), .second, .unset, .unset] [(.long (own_f6 (own_f5 va) (own_f5 vb)))])) t
            refine XS.goto X41.here hx rfl (pc0 := 217) (pc' := 222) rfl (hb hby at_217) (by decide) (by decide) ?_
            exact kt
          · rw [if_neg hj212_42] at kt
            show Steps p.tables e below (T41.setTop (mkF m 212 #[.val (.long q0), .second, .val (.long q1), .second, .val (.long q2), .second, .val (.int p3), .val (.int p4), .val (.long va), .second, .val (.long vb), .second, .val (.long vc), .second, .val (.int vk), .val (.int pm), .val (.ref b1), .val (.long r29), .second, .val (.long (own_f5 va)), .second, .val (.long (own_f5 vb)), .second, .val (.long (own_f5 vc)), .second, .val (.long ((pm.toInt64) * (vk.toInt64))), .second, .val (.int (if (1000 : Int64) < ((pm.toInt64) * (vk.toInt64)) then (if (2000 : Int64) < ((pm.toInt64) * (vk.toInt64)) then (3 : Int32) else (2 : Int32)) else (1 : Int32))), .unset, .unset, .val (.long (own_f6 (own_f5 va) (own_f5 vb))), .second, .val (.long (own_f7 (own_f5 va) (own_f5 vb))), .second, .unset, .unset] [(.int (1 : Int32)), (.int (if (1000 : Int64) < ((pm.toInt64) * (vk.toInt64)) then (if (2000 : Int64) < ((pm.toInt64) * (vk.toInt64)) then (3 : Int32) else (2 : Int32)) else (1 : Int32)))])) t
            refine XS.icmpYes X41.here hx rfl (pc0 := 212) (pc' := 220) rfl (hb hby at_212) rfl (feq hj212_42).2 (by decide) (by decide) ?_
            show Steps p.tables e below (T41.setTop (mkF m 220 #[.val (.long q0), .second, .val (.long q1), .second, .val (.long q2), .second, .val (.int p3), .val (.int p4), .val (.long va), .second, .val (.long vb), .second, .val (.long vc), .second, .val (.int vk), .val (.int pm), .val (.ref b1), .val (.long r29), .second, .val (.long (own_f5 va)), .second, .val (.long (own_f5 vb)), .second, .val (.long (own_f5 vc)), .second, .val (.long ((pm.toInt64) * (vk.toInt64))), .second, .val (.int (if (1000 : Int64) < ((pm.toInt64) * (vk.toInt64)) then (if (2000 : Int64) < ((pm.toInt64) * (vk.toInt64)) then (3 : Int32) else (2 : Int32)) else (1 : Int32))), .unset, .unset, .val (.long (own_f6 (own_f5 va) (own_f5 vb))), .second, .val (.long (own_f7 (own_f5 va) (own_f5 vb))), .second, .unset, .unset] [])) t
            refine XS.lload X41.here hx rfl (hb hby at_220) rfl ?_
            exact kt
        refine own_by (A' := T41.setTop (mkF m 306 #[.val (.long q0), .second, .val (.long q1), .second, .val (.long q2), .second, .val (.int p3), .val (.int p4), .val (.long va), .second, .val (.long vb), .second, .val (.long vc), .second, .val (.int vk), .val (.int pm), .val (.ref b1), .val (.long r29), .second, .val (.long (own_f5 va)), .second, .val (.long (own_f5 vb)), .second, .val (.long (own_f5 vc)), .second, .val (.long ((pm.toInt64) * (vk.toInt64))), .second, .val (.int (if (1000 : Int64) < ((pm.toInt64) * (vk.toInt64)) then (if (2000 : Int64) < ((pm.toInt64) * (vk.toInt64)) then (3 : Int32) else (2 : Int32)) else (1 : Int32))), .val (.long (if (if (1000 : Int64) < ((pm.toInt64) * (vk.toInt64)) then (if (2000 : Int64) < ((pm.toInt64) * (vk.toInt64)) then (3 : Int32) else (2 : Int32)) else (1 : Int32)) = (1 : Int32) then (own_f6 (own_f5 va) (own_f5 vb)) else (own_f7 (own_f5 va) (own_f5 vb)))), .second, .val (.long (own_f6 (own_f5 va) (own_f5 vb))), .second, .val (.long (own_f7 (own_f5 va) (own_f5 vb))), .second, .unset, .unset] [(.int (lcmpW r29 (if (if (1000 : Int64) < ((pm.toInt64) * (vk.toInt64)) then (if (2000 : Int64) < ((pm.toInt64) * (vk.toInt64)) then (3 : Int32) else (2 : Int32)) else (1 : Int32)) = (1 : Int32) then (own_f6 (own_f5 va) (own_f5 vb)) else (own_f7 (own_f5 va) (own_f5 vb)))))])) (fun t kt => ?_) ?_
        · show Steps p.tables e below (T41.setTop (mkF m 222 #[.val (.long q0), .second, .val (.long q1), .second, .val (.long q2), .second, .val (.int p3), .val (.int p4), .val (.long va), .second, .val (.long vb), .second, .val (.long vc), .second, .val (.int vk), .val (.int pm), .val (.ref b1), .val (.long r29), .second, .val (.long (own_f5 va)), .second, .val (.long (own_f5 vb)), .second, .val (.long (own_f5 vc)), .second, .val (.long ((pm.toInt64) * (vk.toInt64))), .second, .val (.int (if (1000 : Int64) < ((pm.toInt64) * (vk.toInt64)) then (if (2000 : Int64) < ((pm.toInt64) * (vk.toInt64)) then (3 : Int32) else (2 : Int32)) else (1 : Int32))), .unset, .unset, .val (.long (own_f6 (own_f5 va) (own_f5 vb))), .second, .val (.long (own_f7 (own_f5 va) (own_f5 vb))), .second, .unset, .unset] [(.long (if (if (1000 : Int64) < ((pm.toInt64) * (vk.toInt64)) then (if (2000 : Int64) < ((pm.toInt64) * (vk.toInt64)) then (3 : Int32) else (2 : Int32)) else (1 : Int32)) = (1 : Int32) then (own_f6 (own_f5 va) (own_f5 vb)) else (own_f7 (own_f5 va) (own_f5 vb))))])) t
          refine XS.lstore X41.here hx rfl (hb hby at_222) rfl (l' := #[.val (.long q0), .second, .val (.long q1), .second, .val (.long q2), .second, .val (.int p3), .val (.int p4), .val (.long va), .second, .val (.long vb), .second, .val (.long vc), .second, .val (.int vk), .val (.int pm), .val (.ref b1), .val (.long r29), .second, .val (.long (own_f5 va)), .second, .val (.long (own_f5 vb)), .second, .val (.long (own_f5 vc)), .second, .val (.long ((pm.toInt64) * (vk.toInt64))), .second, .val (.int (if (1000 : Int64) < ((pm.toInt64) * (vk.toInt64)) then (if (2000 : Int64) < ((pm.toInt64) * (vk.toInt64)) then (3 : Int32) else (2 : Int32)) else (1 : Int32))), .val (.long (if (if (1000 : Int64) < ((pm.toInt64) * (vk.toInt64)) then (if (2000 : Int64) < ((pm.toInt64) * (vk.toInt64)) then (3 : Int32) else (2 : Int32)) else (1 : Int32)) = (1 : Int32) then (own_f6 (own_f5 va) (own_f5 vb)) else (own_f7 (own_f5 va) (own_f5 vb)))), .second, .val (.long (own_f6 (own_f5 va) (own_f5 vb))), .second, .val (.long (own_f7 (own_f5 va) (own_f5 vb))), .second, .unset, .unset]) rfl ?_
          show Steps p.tables e below (T41.setTop (mkF m 224 #[.val (.long q0), .second, .val (.long q1), .second, .val (.long q2), .second, .val (.int p3), .val (.int p4), .val (.long va), .second, .val (.long vb), .second, .val (.long vc), .second, .val (.int vk), .val (.int pm), .val (.ref b1), .val (.long r29), .second, .val (.long (own_f5 va)), .second, .val (.long (own_f5 vb)), .second, .val (.long (own_f5 vc)), .second, .val (.long ((pm.toInt64) * (vk.toInt64))), .second, .val (.int (if (1000 : Int64) < ((pm.toInt64) * (vk.toInt64)) then (if (2000 : Int64) < ((pm.toInt64) * (vk.toInt64)) then (3 : Int32) else (2 : Int32)) else (1 : Int32))), .val (.long (if (if (1000 : Int64) < ((pm.toInt64) * (vk.toInt64)) then (if (2000 : Int64) < ((pm.toInt64) * (vk.toInt64)) then (3 : Int32) else (2 : Int32)) else (1 : Int32)) = (1 : Int32) then (own_f6 (own_f5 va) (own_f5 vb)) else (own_f7 (own_f5 va) (own_f5 vb)))), .second, .val (.long (own_f6 (own_f5 va) (own_f5 vb))), .second, .val (.long (own_f7 (own_f5 va) (own_f5 vb))), .second, .unset, .unset] [])) t
          refine XS.goto X41.here hx rfl (pc0 := 224) (pc' := 301) rfl (hb hby at_224) (by decide) (by decide) ?_
          show Steps p.tables e below (T41.setTop (mkF m 301 #[.val (.long q0), .second, .val (.long q1), .second, .val (.long q2), .second, .val (.int p3), .val (.int p4), .val (.long va), .second, .val (.long vb), .second, .val (.long vc), .second, .val (.int vk), .val (.int pm), .val (.ref b1), .val (.long r29), .second, .val (.long (own_f5 va)), .second, .val (.long (own_f5 vb)), .second, .val (.long (own_f5 vc)), .second, .val (.long ((pm.toInt64) * (vk.toInt64))), .second, .val (.int (if (1000 : Int64) < ((pm.toInt64) * (vk.toInt64)) then (if (2000 : Int64) < ((pm.toInt64) * (vk.toInt64)) then (3 : Int32) else (2 : Int32)) else (1 : Int32))), .val (.long (if (if (1000 : Int64) < ((pm.toInt64) * (vk.toInt64)) then (if (2000 : Int64) < ((pm.toInt64) * (vk.toInt64)) then (3 : Int32) else (2 : Int32)) else (1 : Int32)) = (1 : Int32) then (own_f6 (own_f5 va) (own_f5 vb)) else (own_f7 (own_f5 va) (own_f5 vb)))), .second, .val (.long (own_f6 (own_f5 va) (own_f5 vb))), .second, .val (.long (own_f7 (own_f5 va) (own_f5 vb))), .second, .unset, .unset] [])) t
          refine XS.lload X41.here hx rfl (hb hby at_301) rfl ?_
          show Steps p.tables e below (T41.setTop (mkF m 303 #[.val (.long q0), .second, .val (.long q1), .second, .val (.long q2), .second, .val (.int p3), .val (.int p4), .val (.long va), .second, .val (.long vb), .second, .val (.long vc), .second, .val (.int vk), .val (.int pm), .val (.ref b1), .val (.long r29), .second, .val (.long (own_f5 va)), .second, .val (.long (own_f5 vb)), .second, .val (.long (own_f5 vc)), .second, .val (.long ((pm.toInt64) * (vk.toInt64))), .second, .val (.int (if (1000 : Int64) < ((pm.toInt64) * (vk.toInt64)) then (if (2000 : Int64) < ((pm.toInt64) * (vk.toInt64)) then (3 : Int32) else (2 : Int32)) else (1 : Int32))), .val (.long (if (if (1000 : Int64) < ((pm.toInt64) * (vk.toInt64)) then (if (2000 : Int64) < ((pm.toInt64) * (vk.toInt64)) then (3 : Int32) else (2 : Int32)) else (1 : Int32)) = (1 : Int32) then (own_f6 (own_f5 va) (own_f5 vb)) else (own_f7 (own_f5 va) (own_f5 vb)))), .second, .val (.long (own_f6 (own_f5 va) (own_f5 vb))), .second, .val (.long (own_f7 (own_f5 va) (own_f5 vb))), .second, .unset, .unset] [(.long r29)])) t
          refine XS.lload X41.here hx rfl (hb hby at_303) rfl ?_
          show Steps p.tables e below (T41.setTop (mkF m 305 #[.val (.long q0), .second, .val (.long q1), .second, .val (.long q2), .second, .val (.int p3), .val (.int p4), .val (.long va), .second, .val (.long vb), .second, .val (.long vc), .second, .val (.int vk), .val (.int pm), .val (.ref b1), .val (.long r29), .second, .val (.long (own_f5 va)), .second, .val (.long (own_f5 vb)), .second, .val (.long (own_f5 vc)), .second, .val (.long ((pm.toInt64) * (vk.toInt64))), .second, .val (.int (if (1000 : Int64) < ((pm.toInt64) * (vk.toInt64)) then (if (2000 : Int64) < ((pm.toInt64) * (vk.toInt64)) then (3 : Int32) else (2 : Int32)) else (1 : Int32))), .val (.long (if (if (1000 : Int64) < ((pm.toInt64) * (vk.toInt64)) then (if (2000 : Int64) < ((pm.toInt64) * (vk.toInt64)) then (3 : Int32) else (2 : Int32)) else (1 : Int32)) = (1 : Int32) then (own_f6 (own_f5 va) (own_f5 vb)) else (own_f7 (own_f5 va) (own_f5 vb)))), .second, .val (.long (own_f6 (own_f5 va) (own_f5 vb))), .second, .val (.long (own_f7 (own_f5 va) (own_f5 vb))), .second, .unset, .unset] [(.long (if (if (1000 : Int64) < ((pm.toInt64) * (vk.toInt64)) then (if (2000 : Int64) < ((pm.toInt64) * (vk.toInt64)) then (3 : Int32) else (2 : Int32)) else (1 : Int32)) = (1 : Int32) then (own_f6 (own_f5 va) (own_f5 vb)) else (own_f7 (own_f5 va) (own_f5 vb)))), (.long r29)])) t
          refine XS.lcmp X41.here hx rfl (hb hby at_305) rfl ?_
          exact kt
        have hk : vk.toInt = 2 := by rw [hc188_39]; decide
        rw [hk] at hrk
        have s1 := own_tt va hva; have s2 := own_tt vb hvb; have s3 := own_tt vc hvc
        have own_r := own_e2 fJ _ r29 (own_ten va) (own_ten vb) (pm.toInt64 * vk.toInt64) (own_t va) (own_t vb) pm.toInt hP29 s1.1 s2.1 hpm (own_prod pm vk 2 hpm hk (by omega)) hrk (fun j => by rw [hcum]; omega)
        have hc306_43 : r29 = (if (if (1000 : Int64) < ((pm.toInt64) * (vk.toInt64)) then (if (2000 : Int64) < ((pm.toInt64) * (vk.toInt64)) then (3 : Int32) else (2 : Int32)) else (1 : Int32)) = (1 : Int32) then (own_f6 (own_f5 va) (own_f5 vb)) else (own_f7 (own_f5 va) (own_f5 vb))) := own_r
        refine own_by (A' := T41.setTop (mkF m 314 #[.val (.long q0), .second, .val (.long q1), .second, .val (.long q2), .second, .val (.int p3), .val (.int p4), .val (.long va), .second, .val (.long vb), .second, .val (.long vc), .second, .val (.int vk), .val (.int pm), .val (.ref b1), .val (.long r29), .second, .val (.long (own_f5 va)), .second, .val (.long (own_f5 vb)), .second, .val (.long (own_f5 vc)), .second, .val (.long ((pm.toInt64) * (vk.toInt64))), .second, .val (.int (if (1000 : Int64) < ((pm.toInt64) * (vk.toInt64)) then (if (2000 : Int64) < ((pm.toInt64) * (vk.toInt64)) then (3 : Int32) else (2 : Int32)) else (1 : Int32))), .val (.long (if (if (1000 : Int64) < ((pm.toInt64) * (vk.toInt64)) then (if (2000 : Int64) < ((pm.toInt64) * (vk.toInt64)) then (3 : Int32) else (2 : Int32)) else (1 : Int32)) = (1 : Int32) then (own_f6 (own_f5 va) (own_f5 vb)) else (own_f7 (own_f5 va) (own_f5 vb)))), .second, .val (.long (own_f6 (own_f5 va) (own_f5 vb))), .second, .val (.long (own_f7 (own_f5 va) (own_f5 vb))), .second, .unset, .unset] [(.int (1 : Int32))])) (fun t kt => ?_) ?_
        · show Steps p.tables e below (T41.setTop (mkF m 306 #[.val (.long q0), .second, .val (.long q1), .second, .val (.long q2), .second, .val (.int p3), .val (.int p4), .val (.long va), .second, .val (.long vb), .second, .val (.long vc), .second, .val (.int vk), .val (.int pm), .val (.ref b1), .val (.long r29), .second, .val (.long (own_f5 va)), .second, .val (.long (own_f5 vb)), .second, .val (.long (own_f5 vc)), .second, .val (.long ((pm.toInt64) * (vk.toInt64))), .second, .val (.int (if (1000 : Int64) < ((pm.toInt64) * (vk.toInt64)) then (if (2000 : Int64) < ((pm.toInt64) * (vk.toInt64)) then (3 : Int32) else (2 : Int32)) else (1 : Int32))), .val (.long (if (if (1000 : Int64) < ((pm.toInt64) * (vk.toInt64)) then (if (2000 : Int64) < ((pm.toInt64) * (vk.toInt64)) then (3 : Int32) else (2 : Int32)) else (1 : Int32)) = (1 : Int32) then (own_f6 (own_f5 va) (own_f5 vb)) else (own_f7 (own_f5 va) (own_f5 vb)))), .second, .val (.long (own_f6 (own_f5 va) (own_f5 vb))), .second, .val (.long (own_f7 (own_f5 va) (own_f5 vb))), .second, .unset, .unset] [(.int (lcmpW r29 (if (if (1000 : Int64) < ((pm.toInt64) * (vk.toInt64)) then (if (2000 : Int64) < ((pm.toInt64) * (vk.toInt64)) then (3 : Int32) else (2 : Int32)) else (1 : Int32)) = (1 : Int32) then (own_f6 (own_f5 va) (own_f5 vb)) else (own_f7 (own_f5 va) (own_f5 vb)))))])) t
          refine XS.ifNo X41.here hx rfl (hb hby at_306) rfl ((if0 _ _).trans (teq ((lw_eq _ _).mpr hc306_43)).2) ?_
          show Steps p.tables e below (T41.setTop (mkF m 309 #[.val (.long q0), .second, .val (.long q1), .second, .val (.long q2), .second, .val (.int p3), .val (.int p4), .val (.long va), .second, .val (.long vb), .second, .val (.long vc), .second, .val (.int vk), .val (.int pm), .val (.ref b1), .val (.long r29), .second, .val (.long (own_f5 va)), .second, .val (.long (own_f5 vb)), .second, .val (.long (own_f5 vc)), .second, .val (.long ((pm.toInt64) * (vk.toInt64))), .second, .val (.int (if (1000 : Int64) < ((pm.toInt64) * (vk.toInt64)) then (if (2000 : Int64) < ((pm.toInt64) * (vk.toInt64)) then (3 : Int32) else (2 : Int32)) else (1 : Int32))), .val (.long (if (if (1000 : Int64) < ((pm.toInt64) * (vk.toInt64)) then (if (2000 : Int64) < ((pm.toInt64) * (vk.toInt64)) then (3 : Int32) else (2 : Int32)) else (1 : Int32)) = (1 : Int32) then (own_f6 (own_f5 va) (own_f5 vb)) else (own_f7 (own_f5 va) (own_f5 vb)))), .second, .val (.long (own_f6 (own_f5 va) (own_f5 vb))), .second, .val (.long (own_f7 (own_f5 va) (own_f5 vb))), .second, .unset, .unset] [])) t
          refine XS.iconst X41.here hx rfl (hb hby at_309) ?_
          show Steps p.tables e below (T41.setTop (mkF m 310 #[.val (.long q0), .second, .val (.long q1), .second, .val (.long q2), .second, .val (.int p3), .val (.int p4), .val (.long va), .second, .val (.long vb), .second, .val (.long vc), .second, .val (.int vk), .val (.int pm), .val (.ref b1), .val (.long r29), .second, .val (.long (own_f5 va)), .second, .val (.long (own_f5 vb)), .second, .val (.long (own_f5 vc)), .second, .val (.long ((pm.toInt64) * (vk.toInt64))), .second, .val (.int (if (1000 : Int64) < ((pm.toInt64) * (vk.toInt64)) then (if (2000 : Int64) < ((pm.toInt64) * (vk.toInt64)) then (3 : Int32) else (2 : Int32)) else (1 : Int32))), .val (.long (if (if (1000 : Int64) < ((pm.toInt64) * (vk.toInt64)) then (if (2000 : Int64) < ((pm.toInt64) * (vk.toInt64)) then (3 : Int32) else (2 : Int32)) else (1 : Int32)) = (1 : Int32) then (own_f6 (own_f5 va) (own_f5 vb)) else (own_f7 (own_f5 va) (own_f5 vb)))), .second, .val (.long (own_f6 (own_f5 va) (own_f5 vb))), .second, .val (.long (own_f7 (own_f5 va) (own_f5 vb))), .second, .unset, .unset] [(.int (1 : Int32))])) t
          refine XS.goto X41.here hx rfl (pc0 := 310) (pc' := 314) rfl (hb hby at_310) (by decide) (by decide) ?_
          exact kt
        obtain ⟨fs, hr, hrun, hended, hW, hsame⟩ := X41.leave (v := some (.int (1 : Int32))) (fun h => by rw [Bd.returns] at h; cases h)
        refine ⟨_, _, ?_, hrun, hended, _, _, rfl, ?_, ⟨_, rfl⟩, hW, hsame.mono (by decide) (by decide)⟩
        · exact retN X41 hx (t := .boolean) Bd.returns (by simp) (hb hby at_314) hr
        · show Q0 Z q0 q1 q2 p3 p4 h0 n0 _ T41.heap _
          rw [e41]
          exact ⟨rfl, N41⟩
      · refine own_by (A' := T32.setTop (mkF m 233 #[.val (.long q0), .second, .val (.long q1), .second, .val (.long q2), .second, .val (.int p3), .val (.int p4), .val (.long va), .second, .val (.long vb), .second, .val (.long vc), .second, .val (.int vk), .val (.int pm), .val (.ref b1), .val (.long r29), .second, .val (.long (own_f5 va)), .second, .val (.long (own_f5 vb)), .second, .val (.long (own_f5 vc)), .second, .val (.long ((pm.toInt64) * (vk.toInt64))), .second, .val (.int (if (1000 : Int64) < ((pm.toInt64) * (vk.toInt64)) then (if (2000 : Int64) < ((pm.toInt64) * (vk.toInt64)) then (3 : Int32) else (2 : Int32)) else (1 : Int32))), .unset, .unset, .unset, .unset, .unset, .unset, .unset, .unset] [(.long (own_f5 vc)), (.long (own_f5 vb)), (.long (own_f5 va))])) (fun t kt => ?_) ?_
        · show Steps p.tables e below (T32.setTop (mkF m 188 #[.val (.long q0), .second, .val (.long q1), .second, .val (.long q2), .second, .val (.int p3), .val (.int p4), .val (.long va), .second, .val (.long vb), .second, .val (.long vc), .second, .val (.int vk), .val (.int pm), .val (.ref b1), .val (.long r29), .second, .val (.long (own_f5 va)), .second, .val (.long (own_f5 vb)), .second, .val (.long (own_f5 vc)), .second, .val (.long ((pm.toInt64) * (vk.toInt64))), .second, .val (.int (if (1000 : Int64) < ((pm.toInt64) * (vk.toInt64)) then (if (2000 : Int64) < ((pm.toInt64) * (vk.toInt64)) then (3 : Int32) else (2 : Int32)) else (1 : Int32))), .unset, .unset, .unset, .unset, .unset, .unset, .unset, .unset] [(.int (2 : Int32)), (.int vk)])) t
          refine XS.icmpYes X32.here hx rfl (pc0 := 188) (pc' := 227) rfl (hb hby at_188) rfl (feq hc188_39).2 (by decide) (by decide) ?_
          show Steps p.tables e below (T32.setTop (mkF m 227 #[.val (.long q0), .second, .val (.long q1), .second, .val (.long q2), .second, .val (.int p3), .val (.int p4), .val (.long va), .second, .val (.long vb), .second, .val (.long vc), .second, .val (.int vk), .val (.int pm), .val (.ref b1), .val (.long r29), .second, .val (.long (own_f5 va)), .second, .val (.long (own_f5 vb)), .second, .val (.long (own_f5 vc)), .second, .val (.long ((pm.toInt64) * (vk.toInt64))), .second, .val (.int (if (1000 : Int64) < ((pm.toInt64) * (vk.toInt64)) then (if (2000 : Int64) < ((pm.toInt64) * (vk.toInt64)) then (3 : Int32) else (2 : Int32)) else (1 : Int32))), .unset, .unset, .unset, .unset, .unset, .unset, .unset, .unset] [])) t
          refine XS.lload X32.here hx rfl (hb hby at_227) rfl ?_
          show Steps p.tables e below (T32.setTop (mkF m 229 #[.val (.long q0), .second, .val (.long q1), .second, .val (.long q2), .second, .val (.int p3), .val (.int p4), .val (.long va), .second, .val (.long vb), .second, .val (.long vc), .second, .val (.int vk), .val (.int pm), .val (.ref b1), .val (.long r29), .second, .val (.long (own_f5 va)), .second, .val (.long (own_f5 vb)), .second, .val (.long (own_f5 vc)), .second, .val (.long ((pm.toInt64) * (vk.toInt64))), .second, .val (.int (if (1000 : Int64) < ((pm.toInt64) * (vk.toInt64)) then (if (2000 : Int64) < ((pm.toInt64) * (vk.toInt64)) then (3 : Int32) else (2 : Int32)) else (1 : Int32))), .unset, .unset, .unset, .unset, .unset, .unset, .unset, .unset] [(.long (own_f5 va))])) t
          refine XS.lload X32.here hx rfl (hb hby at_229) rfl ?_
          show Steps p.tables e below (T32.setTop (mkF m 231 #[.val (.long q0), .second, .val (.long q1), .second, .val (.long q2), .second, .val (.int p3), .val (.int p4), .val (.long va), .second, .val (.long vb), .second, .val (.long vc), .second, .val (.int vk), .val (.int pm), .val (.ref b1), .val (.long r29), .second, .val (.long (own_f5 va)), .second, .val (.long (own_f5 vb)), .second, .val (.long (own_f5 vc)), .second, .val (.long ((pm.toInt64) * (vk.toInt64))), .second, .val (.int (if (1000 : Int64) < ((pm.toInt64) * (vk.toInt64)) then (if (2000 : Int64) < ((pm.toInt64) * (vk.toInt64)) then (3 : Int32) else (2 : Int32)) else (1 : Int32))), .unset, .unset, .unset, .unset, .unset, .unset, .unset, .unset] [(.long (own_f5 vb)), (.long (own_f5 va))])) t
          refine XS.lload X32.here hx rfl (hb hby at_231) rfl ?_
          exact kt
        obtain ⟨_, _, ⟨T44, L44, k44, n44⟩, -, X44, ⟨Lc44, hQ44, l44, y44, z44⟩, st44⟩ := Jvm.LawKit.callS X32 hx (y := (⟨"java/lang/Math", "min", "(JJ)J"⟩ : MethodName)) hown (mvT hZ (hw _ (List.mem_of_getElem? (i := 37) rfl))) (mvT hZ (hw _ (List.mem_of_getElem? (i := 38) rfl))) (mvT hZ (hw _ (List.mem_of_getElem? (i := 39) rfl))) (mvT hZ (hw _ (List.mem_of_getElem? (i := 40) rfl))) (by decide) (backOf (W := 2) (rm6 l Z aw hw [] (own_f5 vb) (own_f5 vc) hJ3 n0 (Nat.le_trans Z0 KJ3.1) ) hZ (hw _ (List.mem_of_getElem? (i := 40) rfl)) (hw _ (List.mem_of_getElem? (i := 39) rfl)) (by decide) (by decide)) (g := (mkF m 233 #[.val (.long q0), .second, .val (.long q1), .second, .val (.long q2), .second, .val (.int p3), .val (.int p4), .val (.long va), .second, .val (.long vb), .second, .val (.long vc), .second, .val (.int vk), .val (.int pm), .val (.ref b1), .val (.long r29), .second, .val (.long (own_f5 va)), .second, .val (.long (own_f5 vb)), .second, .val (.long (own_f5 vc)), .second, .val (.long ((pm.toInt64) * (vk.toInt64))), .second, .val (.int (if (1000 : Int64) < ((pm.toInt64) * (vk.toInt64)) then (if (2000 : Int64) < ((pm.toInt64) * (vk.toInt64)) then (3 : Int32) else (2 : Int32)) else (1 : Int32))), .unset, .unset, .unset, .unset, .unset, .unset, .unset, .unset] [(.long (own_f5 vc)), (.long (own_f5 vb)), (.long (own_f5 va))])) rfl (by rw [hml]; rfl) (argsL := [(.long (own_f5 vb)), (.long (own_f5 vc))]) (rest := [(.long (own_f5 va))]) (lenOf pd_3 rfl) rfl (by show 2 * 0 + _ ≤ _; exact Nat.le_of_eq rfl) (hb hby at_233) (fun _ _ => ⟨rfl, e32, (by decide : 3 + 0 ≤ _), (by decide : 3074 + 0 ≤ _)⟩)
        dsimp only [Pt.U, Pt.locs, Pt.cells, Pt.slots] at X44 l44 y44 z44 st44 hQ44
        subst l44 y44 z44
        obtain ⟨rfl, N44q, e44⟩ := hQ44
        have N44 := Fr.app N32 N44q
        refine own_by (A' := T44.setTop (mkF m 236 #[.val (.long q0), .second, .val (.long q1), .second, .val (.long q2), .second, .val (.int p3), .val (.int p4), .val (.long va), .second, .val (.long vb), .second, .val (.long vc), .second, .val (.int vk), .val (.int pm), .val (.ref b1), .val (.long r29), .second, .val (.long (own_f5 va)), .second, .val (.long (own_f5 vb)), .second, .val (.long (own_f5 vc)), .second, .val (.long ((pm.toInt64) * (vk.toInt64))), .second, .val (.int (if (1000 : Int64) < ((pm.toInt64) * (vk.toInt64)) then (if (2000 : Int64) < ((pm.toInt64) * (vk.toInt64)) then (3 : Int32) else (2 : Int32)) else (1 : Int32))), .unset, .unset, .unset, .unset, .unset, .unset, .unset, .unset] [(.long (own_f6 (own_f5 vb) (own_f5 vc))), (.long (own_f5 va))])) (fun t kt => st44 t kt) ?_
        obtain ⟨_, _, ⟨T45, L45, k45, n45⟩, -, X45, ⟨Lc45, hQ45, l45, y45, z45⟩, st45⟩ := Jvm.LawKit.callS X44 hx (y := (⟨"java/lang/Math", "min", "(JJ)J"⟩ : MethodName)) hown (mvT hZ (hw _ (List.mem_of_getElem? (i := 37) rfl))) (mvT hZ (hw _ (List.mem_of_getElem? (i := 38) rfl))) (mvT hZ (hw _ (List.mem_of_getElem? (i := 39) rfl))) (mvT hZ (hw _ (List.mem_of_getElem? (i := 40) rfl))) (by decide) (backOf (W := 0) (rm6 l Z aw hw [] (own_f5 va) (own_f6 (own_f5 vb) (own_f5 vc)) hJ3 n0 (Nat.le_trans Z0 KJ3.1) ) hZ (hw _ (List.mem_of_getElem? (i := 40) rfl)) (hw _ (List.mem_of_getElem? (i := 39) rfl)) (by decide) (by decide)) (g := (mkF m 236 #[.val (.long q0), .second, .val (.long q1), .second, .val (.long q2), .second, .val (.int p3), .val (.int p4), .val (.long va), .second, .val (.long vb), .second, .val (.long vc), .second, .val (.int vk), .val (.int pm), .val (.ref b1), .val (.long r29), .second, .val (.long (own_f5 va)), .second, .val (.long (own_f5 vb)), .second, .val (.long (own_f5 vc)), .second, .val (.long ((pm.toInt64) * (vk.toInt64))), .second, .val (.int (if (1000 : Int64) < ((pm.toInt64) * (vk.toInt64)) then (if (2000 : Int64) < ((pm.toInt64) * (vk.toInt64)) then (3 : Int32) else (2 : Int32)) else (1 : Int32))), .unset, .unset, .unset, .unset, .unset, .unset, .unset, .unset] [(.long (own_f6 (own_f5 vb) (own_f5 vc))), (.long (own_f5 va))])) rfl (by rw [hml]; rfl) (argsL := [(.long (own_f5 va)), (.long (own_f6 (own_f5 vb) (own_f5 vc)))]) (rest := []) (lenOf pd_3 rfl) rfl (by show 2 * 0 + _ ≤ _; exact Nat.le_of_eq rfl) (hb hby at_236) (fun _ _ => ⟨rfl, e44, (by decide : 3 + 0 ≤ _), (by decide : 3074 + 0 ≤ _)⟩)
        dsimp only [Pt.U, Pt.locs, Pt.cells, Pt.slots] at X45 l45 y45 z45 st45 hQ45
        subst l45 y45 z45
        obtain ⟨rfl, N45q, e45⟩ := hQ45
        have N45 := Fr.app N44 N45q
        refine own_by (A' := T45.setTop (mkF m 239 #[.val (.long q0), .second, .val (.long q1), .second, .val (.long q2), .second, .val (.int p3), .val (.int p4), .val (.long va), .second, .val (.long vb), .second, .val (.long vc), .second, .val (.int vk), .val (.int pm), .val (.ref b1), .val (.long r29), .second, .val (.long (own_f5 va)), .second, .val (.long (own_f5 vb)), .second, .val (.long (own_f5 vc)), .second, .val (.long ((pm.toInt64) * (vk.toInt64))), .second, .val (.int (if (1000 : Int64) < ((pm.toInt64) * (vk.toInt64)) then (if (2000 : Int64) < ((pm.toInt64) * (vk.toInt64)) then (3 : Int32) else (2 : Int32)) else (1 : Int32))), .unset, .unset, .unset, .unset, .unset, .unset, .unset, .unset] [(.long (own_f6 (own_f5 va) (own_f6 (own_f5 vb) (own_f5 vc))))])) (fun t kt => st45 t kt) ?_
        refine own_by (A' := T45.setTop (mkF m 247 #[.val (.long q0), .second, .val (.long q1), .second, .val (.long q2), .second, .val (.int p3), .val (.int p4), .val (.long va), .second, .val (.long vb), .second, .val (.long vc), .second, .val (.int vk), .val (.int pm), .val (.ref b1), .val (.long r29), .second, .val (.long (own_f5 va)), .second, .val (.long (own_f5 vb)), .second, .val (.long (own_f5 vc)), .second, .val (.long ((pm.toInt64) * (vk.toInt64))), .second, .val (.int (if (1000 : Int64) < ((pm.toInt64) * (vk.toInt64)) then (if (2000 : Int64) < ((pm.toInt64) * (vk.toInt64)) then (3 : Int32) else (2 : Int32)) else (1 : Int32))), .unset, .unset, .val (.long (own_f6 (own_f5 va) (own_f6 (own_f5 vb) (own_f5 vc)))), .second, .unset, .unset, .unset, .unset] [(.long (own_f5 vc)), (.long (own_f5 vb)), (.long (own_f5 va))])) (fun t kt => ?_) ?_
        · show Steps p.tables e below (T45.setTop (mkF m 239 #[.val (.long q0), .second, .val (.long q1), .second, .val (.long q2), .second, .val (.int p3), .val (.int p4), .val (.long va), .second, .val (.long vb), .second, .val (.long vc), .second, .val (.int vk), .val (.int pm), .val (.ref b1), .val (.long r29), .second, .val (.long (own_f5 va)), .second, .val (.long (own_f5 vb)), .second, .val (.long (own_f5 vc)), .second, .val (.long ((pm.toInt64) * (vk.toInt64))), .second, .val (.int (if (1000 : Int64) < ((pm.toInt64) * (vk.toInt64)) then (if (2000 : Int64) < ((pm.toInt64) * (vk.toInt64)) then (3 : Int32) else (2 : Int32)) else (1 : Int32))), .unset, .unset, .unset, .unset, .unset, .unset, .unset, .unset] [(.long (own_f6 (own_f5 va) (own_f6 (own_f5 vb) (own_f5 vc))))])) t
          refine XS.lstore X45.here hx rfl (hb hby at_239) rfl (l' := #[.val (.long q0), .second, .val (.long q1), .second, .val (.long q2), .second, .val (.int p3), .val (.int p4), .val (.long va), .second, .val (.long vb), .second, .val (.long vc), .second, .val (.int vk), .val (.int pm), .val (.ref b1), .val (.long r29), .second, .val (.long (own_f5 va)), .second, .val (.long (own_f5 vb)), .second, .val (.long (own_f5 vc)), .second, .val (.long ((pm.toInt64) * (vk.toInt64))), .second, .val (.int (if (1000 : Int64) < ((pm.toInt64) * (vk.toInt64)) then (if (2000 : Int64) < ((pm.toInt64) * (vk.toInt64)) then (3 : Int32) else (2 : Int32)) else (1 : Int32))), .unset, .unset, .val (.long (own_f6 (own_f5 va) (own_f6 (own_f5 vb) (own_f5 vc)))), .second, .unset, .unset, .unset, .unset]) rfl ?_
          show Steps p.tables e below (T45.setTop (mkF m 241 #[.val (.long q0), .second, .val (.long q1), .second, .val (.long q2), .second, .val (.int p3), .val (.int p4), .val (.long va), .second, .val (.long vb), .second, .val (.long vc), .second, .val (.int vk), .val (.int pm), .val (.ref b1), .val (.long r29), .second, .val (.long (own_f5 va)), .second, .val (.long (own_f5 vb)), .second, .val (.long (own_f5 vc)), .second, .val (.long ((pm.toInt64) * (vk.toInt64))), .second, .val (.int (if (1000 : Int64) < ((pm.toInt64) * (vk.toInt64)) then (if (2000 : Int64) < ((pm.toInt64) * (vk.toInt64)) then (3 : Int32) else (2 : Int32)) else (1 : Int32))), .unset, .unset, .val (.long (own_f6 (own_f5 va) (own_f6 (own_f5 vb) (own_f5 vc)))), .second, .unset, .unset, .unset, .unset] [])) t
          refine XS.lload X45.here hx rfl (hb hby at_241) rfl ?_
          show Steps p.tables e below (T45.setTop (mkF m 243 #[.val (.long q0), .second, .val (.long q1), .second, .val (.long q2), .second, .val (.int p3), .val (.int p4), .val (.long va), .second, .val (.long vb), .second, .val (.long vc), .second, .val (.int vk), .val (.int pm), .val (.ref b1), .val (.long r29), .second, .val (.long (own_f5 va)), .second, .val (.long (own_f5 vb)), .second, .val (.long (own_f5 vc)), .second, .val (.long ((pm.toInt64) * (vk.toInt64))), .second, .val (.int (if (1000 : Int64) < ((pm.toInt64) * (vk.toInt64)) then (if (2000 : Int64) < ((pm.toInt64) * (vk.toInt64)) then (3 : Int32) else (2 : Int32)) else (1 : Int32))), .unset, .unset, .val (.long (own_f6 (own_f5 va) (own_f6 (own_f5 vb) (own_f5 vc)))), .second, .unset, .unset, .unset, .unset] [(.long (own_f5 va))])) t
          refine XS.lload X45.here hx rfl (hb hby at_243) rfl ?_
          show Steps p.tables e below (T45.setTop (mkF m 245 #[.val (.long q0), .second, .val (.long q1), .second, .val (.long q2), .second, .val (.int p3), .val (.int p4), .val (.long va), .second, .val (.long vb), .second, .val (.long vc), .second, .val (.int vk), .val (.int pm), .val (.ref b1), .val (.long r29), .second, .val (.long (own_f5 va)), .second, .val (.long (own_f5 vb)), .second, .val (.long (own_f5 vc)), .second, .val (.long ((pm.toInt64) * (vk.toInt64))), .second, .val (.int (if (1000 : Int64) < ((pm.toInt64) * (vk.toInt64)) then (if (2000 : Int64) < ((pm.toInt64) * (vk.toInt64)) then (3 : Int32) else (2 : Int32)) else (1 : Int32))), .unset, .unset, .val (.long (own_f6 (own_f5 va) (own_f6 (own_f5 vb) (own_f5 vc)))), .second, .unset, .unset, .unset, .unset] [(.long (own_f5 vb)), (.long (own_f5 va))])) t
          refine XS.lload X45.here hx rfl (hb hby at_245) rfl ?_
          exact kt
        obtain ⟨_, _, ⟨T46, L46, k46, n46⟩, -, X46, ⟨Lc46, hQ46, l46, y46, z46⟩, st46⟩ := Jvm.LawKit.callS X45 hx (y := (⟨"java/lang/Math", "max", "(JJ)J"⟩ : MethodName)) hown (mvT hZ (hw _ (List.mem_of_getElem? (i := 41) rfl))) (mvT hZ (hw _ (List.mem_of_getElem? (i := 42) rfl))) (mvT hZ (hw _ (List.mem_of_getElem? (i := 39) rfl))) (mvT hZ (hw _ (List.mem_of_getElem? (i := 43) rfl))) (by decide) (backOf (W := 2) (rm7 l Z aw hw [] (own_f5 vb) (own_f5 vc) hJ3 n0 (Nat.le_trans Z0 KJ3.1) ) hZ (hw _ (List.mem_of_getElem? (i := 43) rfl)) (hw _ (List.mem_of_getElem? (i := 39) rfl)) (by decide) (by decide)) (g := (mkF m 247 #[.val (.long q0), .second, .val (.long q1), .second, .val (.long q2), .second, .val (.int p3), .val (.int p4), .val (.long va), .second, .val (.long vb), .second, .val (.long vc), .second, .val (.int vk), .val (.int pm), .val (.ref b1), .val (.long r29), .second, .val (.long (own_f5 va)), .second, .val (.long (own_f5 vb)), .second, .val (.long (own_f5 vc)), .second, .val (.long ((pm.toInt64) * (vk.toInt64))), .second, .val (.int (if (1000 : Int64) < ((pm.toInt64) * (vk.toInt64)) then (if (2000 : Int64) < ((pm.toInt64) * (vk.toInt64)) then (3 : Int32) else (2 : Int32)) else (1 : Int32))), .unset, .unset, .val (.long (own_f6 (own_f5 va) (own_f6 (own_f5 vb) (own_f5 vc)))), .second, .unset, .unset, .unset, .unset] [(.long (own_f5 vc)), (.long (own_f5 vb)), (.long (own_f5 va))])) rfl (by rw [hml]; rfl) (argsL := [(.long (own_f5 vb)), (.long (own_f5 vc))]) (rest := [(.long (own_f5 va))]) (lenOf pd_3 rfl) rfl (by show 2 * 0 + _ ≤ _; exact Nat.le_of_eq rfl) (hb hby at_247) (fun _ _ => ⟨rfl, e45, (by decide : 3 + 0 ≤ _), (by decide : 3074 + 0 ≤ _)⟩)
        dsimp only [Pt.U, Pt.locs, Pt.cells, Pt.slots] at X46 l46 y46 z46 st46 hQ46
        subst l46 y46 z46
        obtain ⟨rfl, N46q, e46⟩ := hQ46
        have N46 := Fr.app N45 N46q
        refine own_by (A' := T46.setTop (mkF m 250 #[.val (.long q0), .second, .val (.long q1), .second, .val (.long q2), .second, .val (.int p3), .val (.int p4), .val (.long va), .second, .val (.long vb), .second, .val (.long vc), .second, .val (.int vk), .val (.int pm), .val (.ref b1), .val (.long r29), .second, .val (.long (own_f5 va)), .second, .val (.long (own_f5 vb)), .second, .val (.long (own_f5 vc)), .second, .val (.long ((pm.toInt64) * (vk.toInt64))), .second, .val (.int (if (1000 : Int64) < ((pm.toInt64) * (vk.toInt64)) then (if (2000 : Int64) < ((pm.toInt64) * (vk.toInt64)) then (3 : Int32) else (2 : Int32)) else (1 : Int32))), .unset, .unset, .val (.long (own_f6 (own_f5 va) (own_f6 (own_f5 vb) (own_f5 vc)))), .second, .unset, .unset, .unset, .unset] [(.long (own_f7 (own_f5 vb) (own_f5 vc))), (.long (own_f5 va))])) (fun t kt => st46 t kt) ?_
        obtain ⟨_, _, ⟨T47, L47, k47, n47⟩, -, X47, ⟨Lc47, hQ47, l47, y47, z47⟩, st47⟩ := Jvm.LawKit.callS X46 hx (y := (⟨"java/lang/Math", "max", "(JJ)J"⟩ : MethodName)) hown (mvT hZ (hw _ (List.mem_of_getElem? (i := 41) rfl))) (mvT hZ (hw _ (List.mem_of_getElem? (i := 42) rfl))) (mvT hZ (hw _ (List.mem_of_getElem? (i := 39) rfl))) (mvT hZ (hw _ (List.mem_of_getElem? (i := 43) rfl))) (by decide) (backOf (W := 0) (rm7 l Z aw hw [] (own_f5 va) (own_f7 (own_f5 vb) (own_f5 vc)) hJ3 n0 (Nat.le_trans Z0 KJ3.1) ) hZ (hw _ (List.mem_of_getElem? (i := 43) rfl)) (hw _ (List.mem_of_getElem? (i := 39) rfl)) (by decide) (by decide)) (g := (mkF m 250 #[.val (.long q0), .second, .val (.long q1), .second, .val (.long q2), .second, .val (.int p3), .val (.int p4), .val (.long va), .second, .val (.long vb), .second, .val (.long vc), .second, .val (.int vk), .val (.int pm), .val (.ref b1), .val (.long r29), .second, .val (.long (own_f5 va)), .second, .val (.long (own_f5 vb)), .second, .val (.long (own_f5 vc)), .second, .val (.long ((pm.toInt64) * (vk.toInt64))), .second, .val (.int (if (1000 : Int64) < ((pm.toInt64) * (vk.toInt64)) then (if (2000 : Int64) < ((pm.toInt64) * (vk.toInt64)) then (3 : Int32) else (2 : Int32)) else (1 : Int32))), .unset, .unset, .val (.long (own_f6 (own_f5 va) (own_f6 (own_f5 vb) (own_f5 vc)))), .second, .unset, .unset, .unset, .unset] [(.long (own_f7 (own_f5 vb) (own_f5 vc))), (.long (own_f5 va))])) rfl (by rw [hml]; rfl) (argsL := [(.long (own_f5 va)), (.long (own_f7 (own_f5 vb) (own_f5 vc)))]) (rest := []) (lenOf pd_3 rfl) rfl (by show 2 * 0 + _ ≤ _; exact Nat.le_of_eq rfl) (hb hby at_250) (fun _ _ => ⟨rfl, e46, (by decide : 3 + 0 ≤ _), (by decide : 3074 + 0 ≤ _)⟩)
        dsimp only [Pt.U, Pt.locs, Pt.cells, Pt.slots] at X47 l47 y47 z47 st47 hQ47
        subst l47 y47 z47
        obtain ⟨rfl, N47q, e47⟩ := hQ47
        have N47 := Fr.app N46 N47q
        refine own_by (A' := T47.setTop (mkF m 253 #[.val (.long q0), .second, .val (.long q1), .second, .val (.long q2), .second, .val (.int p3), .val (.int p4), .val (.long va), .second, .val (.long vb), .second, .val (.long vc), .second, .val (.int vk), .val (.int pm), .val (.ref b1), .val (.long r29), .second, .val (.long (own_f5 va)), .second, .val (.long (own_f5 vb)), .second, .val (.long (own_f5 vc)), .second, .val (.long ((pm.toInt64) * (vk.toInt64))), .second, .val (.int (if (1000 : Int64) < ((pm.toInt64) * (vk.toInt64)) then (if (2000 : Int64) < ((pm.toInt64) * (vk.toInt64)) then (3 : Int32) else (2 : Int32)) else (1 : Int32))), .unset, .unset, .val (.long (own_f6 (own_f5 va) (own_f6 (own_f5 vb) (own_f5 vc)))), .second, .unset, .unset, .unset, .unset] [(.long (own_f7 (own_f5 va) (own_f7 (own_f5 vb) (own_f5 vc))))])) (fun t kt => st47 t kt) ?_
        refine own_by (A' := T47.setTop (mkF m 274 #[.val (.long q0), .second, .val (.long q1), .second, .val (.long q2), .second, .val (.int p3), .val (.int p4), .val (.long va), .second, .val (.long vb), .second, .val (.long vc), .second, .val (.int vk), .val (.int pm), .val (.ref b1), .val (.long r29), .second, .val (.long (own_f5 va)), .second, .val (.long (own_f5 vb)), .second, .val (.long (own_f5 vc)), .second, .val (.long ((pm.toInt64) * (vk.toInt64))), .second, .val (.int (if (1000 : Int64) < ((pm.toInt64) * (vk.toInt64)) then (if (2000 : Int64) < ((pm.toInt64) * (vk.toInt64)) then (3 : Int32) else (2 : Int32)) else (1 : Int32))), .unset, .unset, .val (.long (own_f6 (own_f5 va) (own_f6 (own_f5 vb) (own_f5 vc)))), .second, .val (.long (own_f7 (own_f5 va) (own_f7 (own_f5 vb) (own_f5 vc)))), .second, .val (.long (((((own_f5 va) + (own_f5 vb)) + (own_f5 vc)) - (own_f6 (own_f5 va) (own_f6 (own_f5 vb) (own_f5 vc)))) - (own_f7 (own_f5 va) (own_f7 (own_f5 vb) (own_f5 vc))))), .second] [(.int (1 : Int32)), (.int (if (1000 : Int64) < ((pm.toInt64) * (vk.toInt64)) then (if (2000 : Int64) < ((pm.toInt64) * (vk.toInt64)) then (3 : Int32) else (2 : Int32)) else (1 : Int32)))])) (fun t kt => ?_) ?_
        · show Steps p.tables e below (T47.setTop (mkF m 253 #[.val (.long q0), .second, .val (.long q1), .second, .val (.long q2), .second, .val (.int p3), .val (.int p4), .val (.long va), .second, .val (.long vb), .second, .val (.long vc), .second, .val (.int vk), .val (.int pm), .val (.ref b1), .val (.long r29), .second, .val (.long (own_f5 va)), .second, .val (.long (own_f5 vb)), .second, .val (.long (own_f5 vc)), .second, .val (.long ((pm.toInt64) * (vk.toInt64))), .second, .val (.int (if (1000 : Int64) < ((pm.toInt64) * (vk.toInt64)) then (if (2000 : Int64) < ((pm.toInt64) * (vk.toInt64)) then (3 : Int32) else (2 : Int32)) else (1 : Int32))), .unset, .unset, .val (.long (own_f6 (own_f5 va) (own_f6 (own_f5 vb) (own_f5 vc)))), .second, .unset, .unset, .unset, .unset] [(.long (own_f7 (own_f5 va) (own_f7 (own_f5 vb) (own_f5 vc))))])) t
          refine XS.lstore X47.here hx rfl (hb hby at_253) rfl (l' := #[.val (.long q0), .second, .val (.long q1), .second, .val (.long q2), .second, .val (.int p3), .val (.int p4), .val (.long va), .second, .val (.long vb), .second, .val (.long vc), .second, .val (.int vk), .val (.int pm), .val (.ref b1), .val (.long r29), .second, .val (.long (own_f5 va)), .second, .val (.long (own_f5 vb)), .second, .val (.long (own_f5 vc)), .second, .val (.long ((pm.toInt64) * (vk.toInt64))), .second, .val (.int (if (1000 : Int64) < ((pm.toInt64) * (vk.toInt64)) then (if (2000 : Int64) < ((pm.toInt64) * (vk.toInt64)) then (3 : Int32) else (2 : Int32)) else (1 : Int32))), .unset, .unset, .val (.long (own_f6 (own_f5 va) (own_f6 (own_f5 vb) (own_f5 vc)))), .second, .val (.long (own_f7 (own_f5 va) (own_f7 (own_f5 vb) (own_f5 vc)))), .second, .unset, .unset]) rfl ?_
          show Steps p.tables e below (T47.setTop (mkF m 255 #[.val (.long q0), .second, .val (.long q1), .second, .val (.long q2), .second, .val (.int p3), .val (.int p4), .val (.long va), .second, .val (.long vb), .second, .val (.long vc), .second, .val (.int vk), .val (.int pm), .val (.ref b1), .val (.long r29), .second, .val (.long (own_f5 va)), .second, .val (.long (own_f5 vb)), .second, .val (.long (own_f5 vc)), .second, .val (.long ((pm.toInt64) * (vk.toInt64))), .second, .val (.int (if (1000 : Int64) < ((pm.toInt64) * (vk.toInt64)) then (if (2000 : Int64) < ((pm.toInt64) * (vk.toInt64)) then (3 : Int32) else (2 : Int32)) else (1 : Int32))), .unset, .unset, .val (.long (own_f6 (own_f5 va) (own_f6 (own_f5 vb) (own_f5 vc)))), .second, .val (.long (own_f7 (own_f5 va) (own_f7 (own_f5 vb) (own_f5 vc)))), .second, .unset, .unset] [])) t
          refine XS.lload X47.here hx rfl (hb hby at_255) rfl ?_
          show Steps p.tables e below (T47.setTop (mkF m 257 #[.val (.long q0), .second, .val (.long q1), .second, .val (.long q2), .second, .val (.int p3), .val (.int p4), .val (.long va), .second, .val (.long vb), .second, .val (.long vc), .second, .val (.int vk), .val (.int pm), .val (.ref b1), .val (.long r29), .second, .val (.long (own_f5 va)), .second, .val (.long (own_f5 vb)), .second, .val (.long (own_f5 vc)), .second, .val (.long ((pm.toInt64) * (vk.toInt64))), .second, .val (.int (if (1000 : Int64) < ((pm.toInt64) * (vk.toInt64)) then (if (2000 : Int64) < ((pm.toInt64) * (vk.toInt64)) then (3 : Int32) else (2 : Int32)) else (1 : Int32))), .unset, .unset, .val (.long (own_f6 (own_f5 va) (own_f6 (own_f5 vb) (own_f5 vc)))), .second, .val (.long (own_f7 (own_f5 va) (own_f7 (own_f5 vb) (own_f5 vc)))), .second, .unset, .unset] [(.long (own_f5 va))])) t
          refine XS.lload X47.here hx rfl (hb hby at_257) rfl ?_
          show Steps p.tables e below (T47.setTop (mkF m 259 #[.val (.long q0), .second, .val (.long q1), .second, .val (.long q2), .second, .val (.int p3), .val (.int p4), .val (.long va), .second, .val (.long vb), .second, .val (.long vc), .second, .val (.int vk), .val (.int pm), .val (.ref b1), .val (.long r29), .second, .val (.long (own_f5 va)), .second, .val (.long (own_f5 vb)), .second, .val (.long (own_f5 vc)), .second, .val (.long ((pm.toInt64) * (vk.toInt64))), .second, .val (.int (if (1000 : Int64) < ((pm.toInt64) * (vk.toInt64)) then (if (2000 : Int64) < ((pm.toInt64) * (vk.toInt64)) then (3 : Int32) else (2 : Int32)) else (1 : Int32))), .unset, .unset, .val (.long (own_f6 (own_f5 va) (own_f6 (own_f5 vb) (own_f5 vc)))), .second, .val (.long (own_f7 (own_f5 va) (own_f7 (own_f5 vb) (own_f5 vc)))), .second, .unset, .unset] [(.long (own_f5 vb)), (.long (own_f5 va))])) t
          refine XS.ladd X47.here hx rfl (hb hby at_259) rfl ?_
          show Steps p.tables e below (T47.setTop (mkF m 260 #[.val (.long q0), .second, .val (.long q1), .second, .val (.long q2), .second, .val (.int p3), .val (.int p4), .val (.long va), .second, .val (.long vb), .second, .val (.long vc), .second, .val (.int vk), .val (.int pm), .val (.ref b1), .val (.long r29), .second, .val (.long (own_f5 va)), .second, .val (.long (own_f5 vb)), .second, .val (.long (own_f5 vc)), .second, .val (.long ((pm.toInt64) * (vk.toInt64))), .second, .val (.int (if (1000 : Int64) < ((pm.toInt64) * (vk.toInt64)) then (if (2000 : Int64) < ((pm.toInt64) * (vk.toInt64)) then (3 : Int32) else (2 : Int32)) else (1 : Int32))), .unset, .unset, .val (.long (own_f6 (own_f5 va) (own_f6 (own_f5 vb) (own_f5 vc)))), .second, .val (.long (own_f7 (own_f5 va) (own_f7 (own_f5 vb) (own_f5 vc)))), .second, .unset, .unset] [(.long ((own_f5 va) + (own_f5 vb)))])) t
          refine XS.lload X47.here hx rfl (hb hby at_260) rfl ?_
          show Steps p.tables e below (T47.setTop (mkF m 262 #[.val (.long q0), .second, .val (.long q1), .second, .val (.long q2), .second, .val (.int p3), .val (.int p4), .val (.long va), .second, .val (.long vb), .second, .val (.long vc), .second, .val (.int vk), .val (.int pm), .val (.ref b1), .val (.long r29), .second, .val (.long (own_f5 va)), .second, .val (.long (own_f5 vb)), .second, .val (.long (own_f5 vc)), .second, .val (.long ((pm.toInt64) * (vk.toInt64))), .second, .val (.int (if (1000 : Int64) < ((pm.toInt64) * (vk.toInt64)) then (if (2000 : Int64) < ((pm.toInt64) * (vk.toInt64)) then (3 : Int32) else (2 : Int32)) else (1 : Int32))), .unset, .unset, .val (.long (own_f6 (own_f5 va) (own_f6 (own_f5 vb) (own_f5 vc)))), .second, .val (.long (own_f7 (own_f5 va) (own_f7 (own_f5 vb) (own_f5 vc)))), .second, .unset, .unset] [(.long (own_f5 vc)), (.long ((own_f5 va) + (own_f5 vb)))])) t
          refine XS.ladd X47.here hx rfl (hb hby at_262) rfl ?_
          show Steps p.tables e below (T47.setTop (mkF m 263 #[.val (.long q0), .second, .val (.long q1), .second, .val (.long q2), .second, .val (.int p3), .val (.int p4), .val (.long va), .second, .val (.long vb), .second, .val (.long vc), .second, .val (.int vk), .val (.int pm), .val (.ref b1), .val (.long r29), .second, .val (.long (own_f5 va)), .second, .val (.long (own_f5 vb)), .second, .val (.long (own_f5 vc)), .second, .val (.long ((pm.toInt64) * (vk.toInt64))), .second, .val (.int (if (1000 : Int64) < ((pm.toInt64) * (vk.toInt64)) then (if (2000 : Int64) < ((pm.toInt64) * (vk.toInt64)) then (3 : Int32) else (2 : Int32)) else (1 : Int32))), .unset, .unset, .val (.long (own_f6 (own_f5 va) (own_f6 (own_f5 vb) (own_f5 vc)))), .second, .val (.long (own_f7 (own_f5 va) (own_f7 (own_f5 vb) (own_f5 vc)))), .second, .unset, .unset] [(.long (((own_f5 va) + (own_f5 vb)) + (own_f5 vc)))])) t
          refine XS.lload X47.here hx rfl (hb hby at_263) rfl ?_
          show Steps p.tables e below (T47.setTop (mkF m 265 #[.val (.long q0), .second, .val (.long q1), .second, .val (.long q2), .second, .val (.int p3), .val (.int p4), .val (.long va), .second, .val (.long vb), .second, .val (.long vc), .second, .val (.int vk), .val (.int pm), .val (.ref b1), .val (.long r29), .second, .val (.long (own_f5 va)), .second, .val (.long (own_f5 vb)), .second, .val (.long (own_f5 vc)), .second, .val (.long ((pm.toInt64) * (vk.toInt64))), .second, .val (.int (if (1000 : Int64) < ((pm.toInt64) * (vk.toInt64)) then (if (2000 : Int64) < ((pm.toInt64) * (vk.toInt64)) then (3 : Int32) else (2 : Int32)) else (1 : Int32))), .unset, .unset, .val (.long (own_f6 (own_f5 va) (own_f6 (own_f5 vb) (own_f5 vc)))), .second, .val (.long (own_f7 (own_f5 va) (own_f7 (own_f5 vb) (own_f5 vc)))), .second, .unset, .unset] [(.long (own_f6 (own_f5 va) (own_f6 (own_f5 vb) (own_f5 vc)))), (.long (((own_f5 va) + (own_f5 vb)) + (own_f5 vc)))])) t
          refine XS.lsub X47.here hx rfl (hb hby at_265) rfl ?_
          show Steps p.tables e below (T47.setTop (mkF m 266 #[.val (.long q0), .second, .val (.long q1), .second, .val (.long q2), .second, .val (.int p3), .val (.int p4), .val (.long va), .second, .val (.long vb), .second, .val (.long vc), .second, .val (.int vk), .val (.int pm), .val (.ref b1), .val (.long r29), .second, .val (.long (own_f5 va)), .second, .val (.long (own_f5 vb)), .second, .val (.long (own_f5 vc)), .second, .val (.long ((pm.toInt64) * (vk.toInt64))), .second, .val (.int (if (1000 : Int64) < ((pm.toInt64) * (vk.toInt64)) then (if (2000 : Int64) < ((pm.toInt64) * (vk.toInt64)) then (3 : Int32) else (2 : Int32)) else (1 : Int32))), .unset, .unset, .val (.long (own_f6 (own_f5 va) (own_f6 (own_f5 vb) (own_f5 vc)))), .second, .val (.long (own_f7 (own_f5 va) (own_f7 (own_f5 vb) (own_f5 vc)))), .second, .unset, .unset] [(.long ((((own_f5 va) + (own_f5 vb)) + (own_f5 vc)) - (own_f6 (own_f5 va) (own_f6 (own_f5 vb) (own_f5 vc)))))])) t
          refine XS.lload X47.here hx rfl (hb hby at_266) rfl ?_
          show Steps p.tables e below (T47.setTop (mkF m 268 #[.val (.long q0), .second, .val (.long q1), .second, .val (.long q2), .second, .val (.int p3), .val (.int p4), .val (.long va), .second, .val (.long vb), .second, .val (.long vc), .second, .val (.int vk), .val (.int pm), .val (.ref b1), .val (.long r29), .second, .val (.long (own_f5 va)), .second, .val (.long (own_f5 vb)), .second, .val (.long (own_f5 vc)), .second, .val (.long ((pm.toInt64) * (vk.toInt64))), .second, .val (.int (if (1000 : Int64) < ((pm.toInt64) * (vk.toInt64)) then (if (2000 : Int64) < ((pm.toInt64) * (vk.toInt64)) then (3 : Int32) else (2 : Int32)) else (1 : Int32))), .unset, .unset, .val (.long (own_f6 (own_f5 va) (own_f6 (own_f5 vb) (own_f5 vc)))), .second, .val (.long (own_f7 (own_f5 va) (own_f7 (own_f5 vb) (own_f5 vc)))), .second, .unset, .unset] [(.long (own_f7 (own_f5 va) (own_f7 (own_f5 vb) (own_f5 vc)))), (.long ((((own_f5 va) + (own_f5 vb)) + (own_f5 vc)) - (own_f6 (own_f5 va) (own_f6 (own_f5 vb) (own_f5 vc)))))])) t
          refine XS.lsub X47.here hx rfl (hb hby at_268) rfl ?_
          show Steps p.tables e below (T47.setTop (mkF m 269 #[.val (.long q0), .second, .val (.long q1), .second, .val (.long q2), .second, .val (.int p3), .val (.int p4), .val (.long va), .second, .val (.long vb), .second, .val (.long vc), .second, .val (.int vk), .val (.int pm), .val (.ref b1), .val (.long r29), .second, .val (.long (own_f5 va)), .second, .val (.long (own_f5 vb)), .second, .val (.long (own_f5 vc)), .second, .val (.long ((pm.toInt64) * (vk.toInt64))), .second, .val (.int (if (1000 : Int64) < ((pm.toInt64) * (vk.toInt64)) then (if (2000 : Int64) < ((pm.toInt64) * (vk.toInt64)) then (3 : Int32) else (2 : Int32)) else (1 : Int32))), .unset, .unset, .val (.long (own_f6 (own_f5 va) (own_f6 (own_f5 vb) (own_f5 vc)))), .second, .val (.long (own_f7 (own_f5 va) (own_f7 (own_f5 vb) (own_f5 vc)))), .second, .unset, .unset] [(.long (((((own_f5 va) + (own_f5 vb)) + (own_f5 vc)) - (own_f6 (own_f5 va) (own_f6 (own_f5 vb) (own_f5 vc)))) - (own_f7 (own_f5 va) (own_f7 (own_f5 vb) (own_f5 vc)))))])) t
          refine XS.lstore X47.here hx rfl (hb hby at_269) rfl (l' := #[.val (.long q0), .second, .val (.long q1), .second, .val (.long q2), .second, .val (.int p3), .val (.int p4), .val (.long va), .second, .val (.long vb), .second, .val (.long vc), .second, .val (.int vk), .val (.int pm), .val (.ref b1), .val (.long r29), .second, .val (.long (own_f5 va)), .second, .val (.long (own_f5 vb)), .second, .val (.long (own_f5 vc)), .second, .val (.long ((pm.toInt64) * (vk.toInt64))), .second, .val (.int (if (1000 : Int64) < ((pm.toInt64) * (vk.toInt64)) then (if (2000 : Int64) < ((pm.toInt64) * (vk.toInt64)) then (3 : Int32) else (2 : Int32)) else (1 : Int32))), .unset, .unset, .val (.long (own_f6 (own_f5 va) (own_f6 (own_f5 vb) (own_f5 vc)))), .second, .val (.long (own_f7 (own_f5 va) (own_f7 (own_f5 vb) (own_f5 vc)))), .second, .val (.long (((((own_f5 va) + (own_f5 vb)) + (own_f5 vc)) - (own_f6 (own_f5 va) (own_f6 (own_f5 vb) (own_f5 vc)))) - (own_f7 (own_f5 va) (own_f7 (own_f5 vb) (own_f5 vc))))), .second]) rfl ?_
          show Steps p.tables e below (T47.setTop (mkF m 271 #[.val (.long q0), .second, .val (.long q1), .second, .val (.long q2), .second, .val (.int p3), .val (.int p4), .val (.long va), .second, .val (.long vb), .second, .val (.long vc), .second, .val (.int vk), .val (.int pm), .val (.ref b1), .val (.long r29), .second, .val (.long (own_f5 va)), .second, .val (.long (own_f5 vb)), .second, .val (.long (own_f5 vc)), .second, .val (.long ((pm.toInt64) * (vk.toInt64))), .second, .val (.int (if (1000 : Int64) < ((pm.toInt64) * (vk.toInt64)) then (if (2000 : Int64) < ((pm.toInt64) * (vk.toInt64)) then (3 : Int32) else (2 : Int32)) else (1 : Int32))), .unset, .unset, .val (.long (own_f6 (own_f5 va) (own_f6 (own_f5 vb) (own_f5 vc)))), .second, .val (.long (own_f7 (own_f5 va) (own_f7 (own_f5 vb) (own_f5 vc)))), .second, .val (.long (((((own_f5 va) + (own_f5 vb)) + (own_f5 vc)) - (own_f6 (own_f5 va) (own_f6 (own_f5 vb) (own_f5 vc)))) - (own_f7 (own_f5 va) (own_f7 (own_f5 vb) (own_f5 vc))))), .second] [])) t
          refine XS.iload X47.here hx rfl (hb hby at_271) rfl ?_
          show Steps p.tables e below (T47.setTop (mkF m 273 #[.val (.long q0), .second, .val (.long q1), .second, .val (.long q2), .second, .val (.int p3), .val (.int p4), .val (.long va), .second, .val (.long vb), .second, .val (.long vc), .second, .val (.int vk), .val (.int pm), .val (.ref b1), .val (.long r29), .second, .val (.long (own_f5 va)), .second, .val (.long (own_f5 vb)), .second, .val (.long (own_f5 vc)), .second, .val (.long ((pm.toInt64) * (vk.toInt64))), .second, .val (.int (if (1000 : Int64) < ((pm.toInt64) * (vk.toInt64)) then (if (2000 : Int64) < ((pm.toInt64) * (vk.toInt64)) then (3 : Int32) else (2 : Int32)) else (1 : Int32))), .unset, .unset, .val (.long (own_f6 (own_f5 va) (own_f6 (own_f5 vb) (own_f5 vc)))), .second, .val (.long (own_f7 (own_f5 va) (own_f7 (own_f5 vb) (own_f5 vc)))), .second, .val (.long (((((own_f5 va) + (own_f5 vb)) + (own_f5 vc)) - (own_f6 (own_f5 va) (own_f6 (own_f5 vb) (own_f5 vc)))) - (own_f7 (own_f5 va) (own_f7 (own_f5 vb) (own_f5 vc))))), .second] [(.int (if (1000 : Int64) < ((pm.toInt64) * (vk.toInt64)) then (if (2000 : Int64) < ((pm.toInt64) * (vk.toInt64)) then (3 : Int32) else (2 : Int32)) else (1 : Int32)))])) t
          refine XS.iconst X47.here hx rfl (hb hby at_273) ?_
          exact kt
        refine own_by (A' := T47.setTop (mkF m 301 #[.val (.long q0), .second, .val (.long q1), .second, .val (.long q2), .second, .val (.int p3), .val (.int p4), .val (.long va), .second, .val (.long vb), .second, .val (.long vc), .second, .val (.int vk), .val (.int pm), .val (.ref b1), .val (.long r29), .second, .val (.long (own_f5 va)), .second, .val (.long (own_f5 vb)), .second, .val (.long (own_f5 vc)), .second, .val (.long ((pm.toInt64) * (vk.toInt64))), .second, .val (.int (if (1000 : Int64) < ((pm.toInt64) * (vk.toInt64)) then (if (2000 : Int64) < ((pm.toInt64) * (vk.toInt64)) then (3 : Int32) else (2 : Int32)) else (1 : Int32))), .val (.long (if (if (1000 : Int64) < ((pm.toInt64) * (vk.toInt64)) then (if (2000 : Int64) < ((pm.toInt64) * (vk.toInt64)) then (3 : Int32) else (2 : Int32)) else (1 : Int32)) = (1 : Int32) then (own_f6 (own_f5 va) (own_f6 (own_f5 vb) (own_f5 vc))) else (if (if (1000 : Int64) < ((pm.toInt64) * (vk.toInt64)) then (if (2000 : Int64) < ((pm.toInt64) * (vk.toInt64)) then (3 : Int32) else (2 : Int32)) else (1 : Int32)) = (2 : Int32) then (((((own_f5 va) + (own_f5 vb)) + (own_f5 vc)) - (own_f6 (own_f5 va) (own_f6 (own_f5 vb) (own_f5 vc)))) - (own_f7 (own_f5 va) (own_f7 (own_f5 vb) (own_f5 vc)))) else (own_f7 (own_f5 va) (own_f7 (own_f5 vb) (own_f5 vc)))))), .second, .val (.long (own_f6 (own_f5 va) (own_f6 (own_f5 vb) (own_f5 vc)))), .second, .val (.long (own_f7 (own_f5 va) (own_f7 (own_f5 vb) (own_f5 vc)))), .second, .val (.long (((((own_f5 va) + (own_f5 vb)) + (own_f5 vc)) - (own_f6 (own_f5 va) (own_f6 (own_f5 vb) (own_f5 vc)))) - (own_f7 (own_f5 va) (own_f7 (own_f5 vb) (own_f5 vc))))), .second] [])) (fun t kt => ?_) ?_
        · show Steps p.tables e below (T47.setTop (mkF m 274 #[.val (.long q0), .second, .val (.long q1), .second, .val (.long q2), .second, .val (.int p3), .val (.int p4), .val (.long va), .second, .val (.long vb), .second, .val (.long vc), .second, .val (.int vk), .val (.int pm), .val (.ref b1), .val (.long r29), .second, .val (.long (own_f5 va)), .second, .val (.long (own_f5 vb)), .second, .val (.long (own_f5 vc)), .second, .val (.long ((pm.toInt64) * (vk.toInt64))), .second, .val (.int (if (1000 : Int64) < ((pm.toInt64) * (vk.toInt64)) then (if (2000 : Int64) < ((pm.toInt64) * (vk.toInt64)) then (3 : Int32) else (2 : Int32)) else (1 : Int32))), .unset, .unset, .val (.long (own_f6 (own_f5 va) (own_f6 (own_f5 vb) (own_f5 vc)))), .second, .val (.long (own_f7 (own_f5 va) (own_f7 (own_f5 vb) (own_f5 vc)))), .second, .val (.long (((((own_f5 va) + (own_f5 vb)) + (own_f5 vc)) - (own_f6 (own_f5 va) (own_f6 (own_f5 vb) (own_f5 vc)))) - (own_f7 (own_f5 va) (own_f7 (own_f5 vb) (own_f5 vc))))), .second] [(.int (1 : Int32)), (.int (if (1000 : Int64) < ((pm.toInt64) * (vk.toInt64)) then (if (2000 : Int64) < ((pm.toInt64) * (vk.toInt64)) then (3 : Int32) else (2 : Int32)) else (1 : Int32)))])) t
          by_cases hj274_48 : (if (1000 : Int64) < ((pm.toInt64) * (vk.toInt64)) then (if (2000 : Int64) < ((pm.toInt64) * (vk.toInt64)) then (3 : Int32) else (2 : Int32)) else (1 : Int32)) = (1 : Int32)
          · rw [if_pos hj274_48] at kt
            show Steps p.tables e below (T47.setTop (mkF m 274 #[.val (.long q0), .second, .val (.long q1), .second, .val (.long q2), .second, .val (.int p3), .val (.int p4), .val (.long va), .second, .val (.long vb), .second, .val (.long vc), .second, .val (.int vk), .val (.int pm), .val (.ref b1), .val (.long r29), .second, .val (.long (own_f5 va)), .second, .val (.long (own_f5 vb)), .second, .val (.long (own_f5 vc)), .second, .val (.long ((pm.toInt64) * (vk.toInt64))), .second, .val (.int (if (1000 : Int64) < ((pm.toInt64) * (vk.toInt64)) then (if (2000 : Int64) < ((pm.toInt64) * (vk.toInt64)) then (3 : Int32) else (2 : Int32)) else (1 : Int32))), .unset, .unset, .val (.long (own_f6 (own_f5 va) (own_f6 (own_f5 vb) (own_f5 vc)))), .second, .val (.long (own_f7 (own_f5 va) (own_f7 (own_f5 vb) (own_f5 vc)))), .second, .val (.long (((((own_f5 va) + (own_f5 vb)) + (own_f5 vc)) - (own_f6 (own_f5 va) (own_f6 (own_f5 vb) (own_f5 vc)))) - (own_f7 (own_f5 va) (own_f7 (own_f5 vb) (own_f5 vc))))), .second] [(.int (1 : Int32)), (.int (if (1000 : Int64) < ((pm.toInt64) * (vk.toInt64)) then (if (2000 : Int64) < ((pm.toInt64) * (vk.toInt64)) then (3 : Int32) else (2 : Int32)) else (1 : Int32)))])) t
            refine XS.icmpNo X47.here hx rfl (hb hby at_274) rfl (teq hj274_48).2 ?_
            show Steps p.tables e below (T47.setTop (mkF m 277 #[.val (.long q0), .second, .val (.long q1), .second, .val (.long q2), .second, .val (.int p3), .val (.int p4), .val (.long va), .second, .val (.long vb), .second, .val (.long vc), .second, .val (.int vk), .val (.int pm), .val (.ref b1), .val (.long r29), .second, .val (.long (own_f5 va)), .second, .val (.long (own_f5 vb)), .second, .val (.long (own_f5 vc)), .second, .val (.long ((pm.toInt64) * (vk.toInt64))), .second, .val (.int (if (1000 : Int64) < ((pm.toInt64) * (vk.toInt64)) then (if (2000 : Int64) < ((pm.toInt64) * (vk.toInt64)) then (3 : Int32) else (2 : Int32)) else (1 : Int32))), .unset, .unset, .val (.long (own_f6 (own_f5 va) (own_f6 (own_f5 vb) (own_f5 vc)))), .second, .val (.long (own_f7 (own_f5 va) (own_f7 (own_f5 vb) (own_f5 vc)))), .second, .val (.long (((((own_f5 va) + (own_f5 vb)) + (own_f5 vc)) - (own_f6 (own_f5 va) (own_f6 (own_f5 vb) (own_f5 vc)))) - (own_f7 (own_f5 va) (own_f7 (own_f5 vb) (own_f5 vc))))), .second] [])) t
            refine XS.lload X47.here hx rfl (hb hby at_277) rfl ?_
            show Steps p.tables e below (T47.setTop (mkF m 279 #[.val (.long q0), .second, .val (.long q1), .second, .val (.long q2), .second, .val (.int p3), .val (.int p4), .val (.long va), .second, .val (.long vb), .second, .val (.long vc), .second, .val (.int vk), .val (.int pm), .val (.ref b1), .val (.long r29), .second, .val (.long (own_f5 va)), .second, .val (.long (own_f5 vb)), .second, .val (.long (own_f5 vc)), .second, .val (.long ((pm.toInt64) * (vk.toInt64))), .second, .val (.int (if (1000 : Int64) < ((pm.toInt64) * (vk.toInt64)) then (if (2000 : Int64) < ((pm.toInt64) * (vk.toInt64)) then (3 : Int32) else (2 : Int32)) else (1 : Int32))), .unset, .unset, .val (.long (own_f6 (own_f5 va) (own_f6 (own_f5 vb) (own_f5 vc)))), .second, .val (.long (own_f7 (own_f5 va) (own_f7 (own_f5 vb) (own_f5 vc)))), .second, .val (.long (((((own_f5 va) + (own_f5 vb)) + (own_f5 vc)) - (own_f6 (own_f5 va) (own_f6 (own_f5 vb) (own_f5 vc)))) - (own_f7 (own_f5 va) (own_f7 (own_f5 vb) (own_f5 vc))))), .second] [(.long (own_f6 (own_f5 va) (own_f6 (own_f5 vb) (own_f5 vc))))])) t
            refine XS.lstore X47.here hx rfl (hb hby at_279) rfl (l' := #[.val (.long q0), .second, .val (.long q1), .second, .val (.long q2), .second, .val (.int p3), .val (.int p4), .val (.long va), .second, .val (.long vb), .second, .val (.long vc), .second, .val (.int vk), .val (.int pm), .val (.ref b1), .val (.long r29), .second, .val (.long (own_f5 va)), .second, .val (.long (own_f5 vb)), .second, .val (.long (own_f5 vc)), .second, .val (.long ((pm.toInt64) * (vk.toInt64))), .second, .val (.int (if (1000 : Int64) < ((pm.toInt64) * (vk.toInt64)) then (if (2000 : Int64) < ((pm.toInt64) * (vk.toInt64)) then (3 : Int32) else (2 : Int32)) else (1 : Int32))), .val (.long (own_f6 (own_f5 va) (own_f6 (own_f5 vb) (own_f5 vc)))), .second, .val (.long (own_f6 (own_f5 va) (own_f6 (own_f5 vb) (own_f5 vc)))), .second, .val (.long (own_f7 (own_f5 va) (own_f7 (own_f5 vb) (own_f5 vc)))), .second, .val (.long (((((own_f5 va) + (own_f5 vb)) + (own_f5 vc)) - (own_f6 (own_f5 va) (own_f6 (own_f5 vb) (own_f5 vc)))) - (own_f7 (own_f5 va) (own_f7 (own_f5 vb) (own_f5 vc))))), .second]) rfl ?_
            show Steps p.tables e below (T47.setTop (mkF m 281 #[.val (.long q0), .second, .val (.long q1), .second, .val (.long q2), .second, .val (.int p3), .val (.int p4), .val (.long va), .second, .val (.long vb), .second, .val (.long vc), .second, .val (.int vk), .val (.int pm), .val (.ref b1), .val (.long r29), .second, .val (.long (own_f5 va)), .second, .val (.long (own_f5 vb)), .second, .val (.long (own_f5 vc)), .second, .val (.long ((pm.toInt64) * (vk.toInt64))), .second, .val (.int (if (1000 : Int64) < ((pm.toInt64) * (vk.toInt64)) then (if (2000 : Int64) < ((pm.toInt64) * (vk.toInt64)) then (3 : Int32) else (2 : Int32)) else (1 : Int32))), .val (.long (own_f6 (own_f5 va) (own_f6 (own_f5 vb) (own_f5 vc)))), .second, .val (.long (own_f6 (own_f5 va) (own_f6 (own_f5 vb) (own_f5 vc)))), .second, .val (.long (own_f7 (own_f5 va) (own_f7 (own_f5 vb) (own_f5 vc)))), .second, .val (.long (((((own_f5 va) + (own_f5 vb)) + (own_f5 vc)) - (own_f6 (own_f5 va) (own_f6 (own_f5 vb) (own_f5 vc)))) - (own_f7 (own_f5 va) (own_f7 (own_f5 vb) (own_f5 vc))))), .second] [])) t
            refine XS.goto X47.here hx rfl (pc0 := 281) (pc' := 301) rfl (hb hby at_281) (by decide) (by decide) ?_
            exact kt
          · rw [if_neg hj274_48] at kt
            show Steps p.tables e below (T47.setTop (mkF m 274 #[.val (.long q0), .second, .val (.long q1), .second, .val (.long q2), .second, .val (.int p3), .val (.int p4), .val (.long va), .second, .val (.long vb), .second, .val (.long vc), .second, .val (.int vk), .val (.int pm), .val (.ref b1), .val (.long r29), .second, .val (.long (own_f5 va)), .second, .val (.long (own_f5 vb)), .second, .val (.long (own_f5 vc)), .second, .val (.long ((pm.toInt64) * (vk.toInt64))), .second, .val (.int (if (1000 : Int64) < ((pm.toInt64) * (vk.toInt64)) then (if (2000 : Int64) < ((pm.toInt64) * (vk.toInt64)) then (3 : Int32) else (2 : Int32)) else (1 : Int32))), .unset, .unset, .val (.long (own_f6 (own_f5 va) (own_f6 (own_f5 vb) (own_f5 vc)))), .second, .val (.long (own_f7 (own_f5 va) (own_f7 (own_f5 vb) (own_f5 vc)))), .second, .val (.long (((((own_f5 va) + (own_f5 vb)) + (own_f5 vc)) - (own_f6 (own_f5 va) (own_f6 (own_f5 vb) (own_f5 vc)))) - (own_f7 (own_f5 va) (own_f7 (own_f5 vb) (own_f5 vc))))), .second] [(.int (1 : Int32)), (.int (if (1000 : Int64) < ((pm.toInt64) * (vk.toInt64)) then (if (2000 : Int64) < ((pm.toInt64) * (vk.toInt64)) then (3 : Int32) else (2 : Int32)) else (1 : Int32)))])) t
            refine XS.icmpYes X47.here hx rfl (pc0 := 274) (pc' := 284) rfl (hb hby at_274) rfl (feq hj274_48).2 (by decide) (by decide) ?_
            show Steps p.tables e below (T47.setTop (mkF m 284 #[.val (.long q0), .second, .val (.long q1), .second, .val (.long q2), .second, .val (.int p3), .val (.int p4), .val (.long va), .second, .val (.long vb), .second, .val (.long vc), .second, .val (.int vk), .val (.int pm), .val (.ref b1), .val (.long r29), .second, .val (.long (own_f5 va)), .second, .val (.long (own_f5 vb)), .second, .val (.long (own_f5 vc)), .second, .val (.long ((pm.toInt64) * (vk.toInt64))), .second, .val (.int (if (1000 : Int64) < ((pm.toInt64) * (vk.toInt64)) then (if (2000 : Int64) < ((pm.toInt64) * (vk.toInt64)) then (3 : Int32) else (2 : Int32)) else (1 : Int32))), .unset, .unset, .val (.long (own_f6 (own_f5 va) (own_f6 (own_f5 vb) (own_f5 vc)))), .second, .val (.long (own_f7 (own_f5 va) (own_f7 (own_f5 vb) (own_f5 vc)))), .second, .val (.long (((((own_f5 va) + (own_f5 vb)) + (own_f5 vc)) - (own_f6 (own_f5 va) (own_f6 (own_f5 vb) (own_f5 vc)))) - (own_f7 (own_f5 va) (own_f7 (own_f5 vb) (own_f5 vc))))), .second] [])) t
            refine XS.iload X47.here hx rfl (hb hby at_284) rfl ?_
            show Steps p.tables e below (T47.setTop (mkF m 286 #[.val (.long q0), .second, .val (.long q1), .second, .val (.long q2), .second, .val (.int p3), .val (.int p4), .val (.long va), .second, .val (.long vb), .second, .val (.long vc), .second, .val (.int vk), .val (.int pm), .val (.ref b1), .val (.long r29), .second, .val (.long (own_f5 va)), .second, .val (.long (own_f5 vb)), .second, .val (.long (own_f5 vc)), .second, .val (.long ((pm.toInt64) * (vk.toInt64))), .second, .val (.int (if (1000 : Int64) < ((pm.toInt64) * (vk.toInt64)) then (if (2000 : Int64) < ((pm.toInt64) * (vk.toInt64)) then (3 : Int32) else (2 : Int32)) else (1 : Int32))), .unset, .unset, .val (.long (own_f6 (own_f5 va) (own_f6 (own_f5 vb) (own_f5 vc)))), .second, .val (.long (own_f7 (own_f5 va) (own_f7 (own_f5 vb) (own_f5 vc)))), .second, .val (.long (((((own_f5 va) + (own_f5 vb)) + (own_f5 vc)) - (own_f6 (own_f5 va) (own_f6 (own_f5 vb) (own_f5 vc)))) - (own_f7 (own_f5 va) (own_f7 (own_f5 vb) (own_f5 vc))))), .second] [(.int (if (1000 : Int64) < ((pm.toInt64) * (vk.toInt64)) then (if (2000 : Int64) < ((pm.toInt64) * (vk.toInt64)) then (3 : Int32) else (2 : Int32)) else (1 : Int32)))])) t
            refine XS.iconst X47.here hx rfl (hb hby at_286) ?_
            refine own_stp (A' := T47.setTop (mkF m 301 #[.val (.long q0), .second, .val (.long q1), .second, .val (.long q2), .second, .val (.int p3), .val (.int p4), .val (.long va), .second, .val (.long vb), .second, .val (.long vc), .second, .val (.int vk), .val (.int pm), .val (.ref b1), .val (.long r29), .second, .val (.long (own_f5 va)), .second, .val (.long (own_f5 vb)), .second, .val (.long (own_f5 vc)), .second, .val (.long ((pm.toInt64) * (vk.toInt64))), .second, .val (.int (if (1000 : Int64) < ((pm.toInt64) * (vk.toInt64)) then (if (2000 : Int64) < ((pm.toInt64) * (vk.toInt64)) then (3 : Int32) else (2 : Int32)) else (1 : Int32))), .val (.long (if (if (1000 : Int64) < ((pm.toInt64) * (vk.toInt64)) then (if (2000 : Int64) < ((pm.toInt64) * (vk.toInt64)) then (3 : Int32) else (2 : Int32)) else (1 : Int32)) = (2 : Int32) then (((((own_f5 va) + (own_f5 vb)) + (own_f5 vc)) - (own_f6 (own_f5 va) (own_f6 (own_f5 vb) (own_f5 vc)))) - (own_f7 (own_f5 va) (own_f7 (own_f5 vb) (own_f5 vc)))) else (own_f7 (own_f5 va) (own_f7 (own_f5 vb) (own_f5 vc))))), .second, .val (.long (own_f6 (own_f5 va) (own_f6 (own_f5 vb) (own_f5 vc)))), .second, .val (.long (own_f7 (own_f5 va) (own_f7 (own_f5 vb) (own_f5 vc)))), .second, .val (.long (((((own_f5 va) + (own_f5 vb)) + (own_f5 vc)) - (own_f6 (own_f5 va) (own_f6 (own_f5 vb) (own_f5 vc)))) - (own_f7 (own_f5 va) (own_f7 (own_f5 vb) (own_f5 vc))))), .second] [])) (fun t kt => ?_) ?_
            · show Steps p.tables e below (T47.setTop (mkF m 287 #[.val (.long q0), .second, .val (.long q1), .second, .val (.long q2), .second, .val (.int p3), .val (.int p4), .val (.long va), .second, .val (.long vb), .second, .val (.long vc), .second, .val (.int vk), .val (.int pm), .val (.ref b1), .val (.long r29), .second, .val (.long (own_f5 va)), .second, .val (.long (own_f5 vb)), .second, .val (.long (own_f5 vc)), .second, .val (.long ((pm.toInt64) * (vk.toInt64))), .second, .val (.int (if (1000 : Int64) < ((pm.toInt64) * (vk.toInt64)) then (if (2000 : Int64) < ((pm.toInt64) * (vk.toInt64)) then (3 : Int32) else (2 : Int32)) else (1 : Int32))), .unset, .unset, .val (.long (own_f6 (own_f5 va) (own_f6 (own_f5 vb) (own_f5 vc)))), .second, .val (.long (own_f7 (own_f5 va) (own_f7 (own_f5 vb) (own_f5 vc)))), .second, .val (.long (((((own_f5 va) + (own_f5 vb)) + (own_f5 vc)) - (own_f6 (own_f5 va) (own_f6 (own_f5 vb) (own_f5 vc)))) - (own_f7 (own_f5 va) (own_f7 (own_f5 vb) (own_f5 vc))))), .second] [(.int (2 : Int32)), (.int (if (1000 : Int64) < ((pm.toInt64) * (vk.toInt64)) then (if (2000 : Int64) < ((pm.toInt64) * (vk.toInt64)) then (3 : Int32) else (2 : Int32)) else (1 : Int32)))])) t
              by_cases hj287_49 : (if (1000 : Int64) < ((pm.toInt64) * (vk.toInt64)) then (if (2000 : Int64) < ((pm.toInt64) * (vk.toInt64)) then (3 : Int32) else (2 : Int32)) else (1 : Int32)) = (2 : Int32)
              · rw [if_pos hj287_49] at kt
                show Steps p.tables e below (T47.setTop (mkF m 287 #[.val (.long q0), .second, .val (.long q1), .second, .val (.long q2), .second, .val (.int p3), .val (.int p4), .val (.long va), .second, .val (.long vb), .second, .val (.long vc), .second, .val (.int vk), .val (.int pm), .val (.ref b1), .val (.long r29), .second, .val (.long (own_f5 va)), .second, .val (.long (own_f5 vb)), .second, .val (.long (own_f5 vc)), .second, .val (.long ((pm.toInt64) * (vk.toInt64))), .second, .val (.int (if (1000 : Int64) < ((pm.toInt64) * (vk.toInt64)) then (if (2000 : Int64) < ((pm.toInt64) * (vk.toInt64)) then (3 : Int32) else (2 : Int32)) else (1 : Int32))), .unset, .unset, .val (.long (own_f6 (own_f5 va) (own_f6 (own_f5 vb) (own_f5 vc)))), .second, .val (.long (own_f7 (own_f5 va) (own_f7 (own_f5 vb) (own_f5 vc)))), .second, .val (.long (((((own_f5 va) + (own_f5 vb)) + (own_f5 vc)) - (own_f6 (own_f5 va) (own_f6 (own_f5 vb) (own_f5 vc)))) - (own_f7 (own_f5 va) (own_f7 (own_f5 vb) (own_f5 vc))))), .second] [(.int (2 : Int32)), (.int (if (1000 : Int64) < ((pm.toInt64) * (vk.toInt64)) then (if (2000 : Int64) < ((pm.toInt64) * (vk.toInt64)) then (3 : Int32) else (2 : Int32)) else (1 : Int32)))])) t
                refine XS.icmpNo X47.here hx rfl (hb hby at_287) rfl (teq hj287_49).2 ?_
                show Steps p.tables e below (T47.setTop (mkF m 290 #[.val (.long q0), .second, .val (.long q1), .second, .val (.long q2), .second, .val (.int p3), .val (.int p4), .val (.long va), .second, .val (.long vb), .second, .val (.long vc), .second, .val (.int vk), .val (.int pm), .val (.ref b1), .val (.long r29), .second, .val (.long (own_f5 va)), .second, .val (.long (own_f5 vb)), .second, .val (.long (own_f5 vc)), .second, .val (.long ((pm.toInt64) * (vk.toInt64))), .second, .val (.int (if (1000 : Int64) < ((pm.toInt64) * (vk.toInt64)) then (if (2000 : Int64) < ((pm.toInt64) * (vk.toInt64)) then (3 : Int32) else (2 : Int32)) else (1 : Int32))), .unset, .unset, .val (.long (own_f6 (own_f5 va) (own_f6 (own_f5 vb) (own_f5 vc)))), .second, .val (.long (own_f7 (own_f5 va) (own_f7 (own_f5 vb) (own_f5 vc)))), .second, .val (.long (((((own_f5 va) + (own_f5 vb)) + (own_f5 vc)) - (own_f6 (own_f5 va) (own_f6 (own_f5 vb) (own_f5 vc)))) - (own_f7 (own_f5 va) (own_f7 (own_f5 vb) (own_f5 vc))))), .second] [])) t
                refine XS.lload X47.here hx rfl (hb hby at_290) rfl ?_
                show Steps p.tables e below (T47.setTop (mkF m 292 #[.val (.long q0), .second, .val (.long q1), .second, .val (.long q2), .second, .val (.int p3), .val (.int p4), .val (.long va), .second, .val (.long vb), .second, .val (.long vc), .second, .val (.int vk), .val (.int pm), .val (.ref b1), .val (.long r29), .second, .val (.long (own_f5 va)), .second, .val (.long (own_f5 vb)), .second, .val (.long (own_f5 vc)), .second, .val (.long ((pm.toInt64) * (vk.toInt64))), .second, .val (.int (if (1000 : Int64) < ((pm.toInt64) * (vk.toInt64)) then (if (2000 : Int64) < ((pm.toInt64) * (vk.toInt64)) then (3 : Int32) else (2 : Int32)) else (1 : Int32))), .unset, .unset, .val (.long (own_f6 (own_f5 va) (own_f6 (own_f5 vb) (own_f5 vc)))), .second, .val (.long (own_f7 (own_f5 va) (own_f7 (own_f5 vb) (own_f5 vc)))), .second, .val (.long (((((own_f5 va) + (own_f5 vb)) + (own_f5 vc)) - (own_f6 (own_f5 va) (own_f6 (own_f5 vb) (own_f5 vc)))) - (own_f7 (own_f5 va) (own_f7 (own_f5 vb) (own_f5 vc))))), .second] [(.long (((((own_f5 va) + (own_f5 vb)) + (own_f5 vc)) - (own_f6 (own_f5 va) (own_f6 (own_f5 vb) (own_f5 vc)))) - (own_f7 (own_f5 va) (own_f7 (own_f5 vb) (own_f5 vc)))))])) t
                refine XS.lstore X47.here hx rfl (hb hby at_292) rfl (l' := #[.val (.long q0), .second, .val (.long q1), .second, .val (.long q2), .second, .val (.int p3), .val (.int p4), .val (.long va), .second, .val (.long vb), .second, .val (.long vc), .second, .val (.int vk), .val (.int pm), .val (.ref b1), .val (.long r29), .second, .val (.long (own_f5 va)), .second, .val (.long (own_f5 vb)), .second, .val (.long (own_f5 vc)), .second, .val (.long ((pm.toInt64) * (vk.toInt64))), .second, .val (.int (if (1000 : Int64) < ((pm.toInt64) * (vk.toInt64)) then (if (2000 : Int64) < ((pm.toInt64) * (vk.toInt64)) then (3 : Int32) else (2 : Int32)) else (1 : Int32))), .val (.long (((((own_f5 va) + (own_f5 vb)) + (own_f5 vc)) - (own_f6 (own_f5 va) (own_f6 (own_f5 vb) (own_f5 vc)))) - (own_f7 (own_f5 va) (own_f7 (own_f5 vb) (own_f5 vc))))), .second, .val (.long (own_f6 (own_f5 va) (own_f6 (own_f5 vb) (own_f5 vc)))), .second, .val (.long (own_f7 (own_f5 va) (own_f7 (own_f5 vb) (own_f5 vc)))), .second, .val (.long (((((own_f5 va) + (own_f5 vb)) + (own_f5 vc)) - (own_f6 (own_f5 va) (own_f6 (own_f5 vb) (own_f5 vc)))) - (own_f7 (own_f5 va) (own_f7 (own_f5 vb) (own_f5 vc))))), .second]) rfl ?_
                show Steps p.tables e below (T47.setTop (mkF m 294 #[.val (.long q0), .second, .val (.long q1), .second, .val (.long q2), .second, .val (.int p3), .val (.int p4), .val (.long va), .second, .val (.long vb), .second, .val (.long vc), .second, .val (.int vk), .val (.int pm), .val (.ref b1), .val (.long r29), .second, .val (.long (own_f5 va)), .second, .val (.long (own_f5 vb)), .second, .val (.long (own_f5 vc)), .second, .val (.long ((pm.toInt64) * (vk.toInt64))), .second, .val (.int (if (1000 : Int64) < ((pm.toInt64) * (vk.toInt64)) then (if (2000 : Int64) < ((pm.toInt64) * (vk.toInt64)) then (3 : Int32) else (2 : Int32)) else (1 : Int32))), .val (.long (((((own_f5 va) + (own_f5 vb)) + (own_f5 vc)) - (own_f6 (own_f5 va) (own_f6 (own_f5 vb) (own_f5 vc)))) - (own_f7 (own_f5 va) (own_f7 (own_f5 vb) (own_f5 vc))))), .second, .val (.long (own_f6 (own_f5 va) (own_f6 (own_f5 vb) (own_f5 vc)))), .second, .val (.long (own_f7 (own_f5 va) (own_f7 (own_f5 vb) (own_f5 vc)))), .second, .val (.long (((((own_f5 va) + (own_f5 vb)) + (own_f5 vc)) - (own_f6 (own_f5 va) (own_f6 (own_f5 vb) (own_f5 vc)))) - (own_f7 (own_f5 va) (own_f7 (own_f5 vb) (own_f5 vc))))), .second] [])) t
                refine XS.goto X47.here hx rfl (pc0 := 294) (pc' := 301) rfl (hb hby at_294) (by decide) (by decide) ?_
                exact kt
              · rw [if_neg hj287_49] at kt
                show Steps p.tables e below (T47.setTop (mkF m 287 #[.val (.long q0), .second, .val (.long q1), .second, .val (.long q2), .second, .val (.int p3), .val (.int p4), .val (.long va), .second, .val (.long vb), .second, .val (.long vc), .second, .val (.int vk), .val (.int pm), .val (.ref b1), .val (.long r29), .second, .val (.long (own_f5 va)), .second, .val (.long (own_f5 vb)), .second, .val (.long (own_f5 vc)), .second, .val (.long ((pm.toInt64) * (vk.toInt64))), .second, .val (.int (if (1000 : Int64) < ((pm.toInt64) * (vk.toInt64)) then (if (2000 : Int64) < ((pm.toInt64) * (vk.toInt64)) then (3 : Int32) else (2 : Int32)) else (1 : Int32))), .unset, .unset, .val (.long (own_f6 (own_f5 va) (own_f6 (own_f5 vb) (own_f5 vc)))), .second, .val (.long (own_f7 (own_f5 va) (own_f7 (own_f5 vb) (own_f5 vc)))), .second, .val (.long (((((own_f5 va) + (own_f5 vb)) + (own_f5 vc)) - (own_f6 (own_f5 va) (own_f6 (own_f5 vb) (own_f5 vc)))) - (own_f7 (own_f5 va) (own_f7 (own_f5 vb) (own_f5 vc))))), .second] [(.int (2 : Int32)), (.int (if (1000 : Int64) < ((pm.toInt64) * (vk.toInt64)) then (if (2000 : Int64) < ((pm.toInt64) * (vk.toInt64)) then (3 : Int32) else (2 : Int32)) else (1 : Int32)))])) t
                refine XS.icmpYes X47.here hx rfl (pc0 := 287) (pc' := 297) rfl (hb hby at_287) rfl (feq hj287_49).2 (by decide) (by decide) ?_
                show Steps p.tables e below (T47.setTop (mkF m 297 #[.val (.long q0), .second, .val (.long q1), .second, .val (.long q2), .second, .val (.int p3), .val (.int p4), .val (.long va), .second, .val (.long vb), .second, .val (.long vc), .second, .val (.int vk), .val (.int pm), .val (.ref b1), .val (.long r29), .second, .val (.long (own_f5 va)), .second, .val (.long (own_f5 vb)), .second, .val (.long (own_f5 vc)), .second, .val (.long ((pm.toInt64) * (vk.toInt64))), .second, .val (.int (if (1000 : Int64) < ((pm.toInt64) * (vk.toInt64)) then (if (2000 : Int64) < ((pm.toInt64) * (vk.toInt64)) then (3 : Int32) else (2 : Int32)) else (1 : Int32))), .unset, .unset, .val (.long (own_f6 (own_f5 va) (own_f6 (own_f5 vb) (own_f5 vc)))), .second, .val (.long (own_f7 (own_f5 va) (own_f7 (own_f5 vb) (own_f5 vc)))), .second, .val (.long (((((own_f5 va) + (own_f5 vb)) + (own_f5 vc)) - (own_f6 (own_f5 va) (own_f6 (own_f5 vb) (own_f5 vc)))) - (own_f7 (own_f5 va) (own_f7 (own_f5 vb) (own_f5 vc))))), .second] [])) t
                refine XS.lload X47.here hx rfl (hb hby at_297) rfl ?_
                show Steps p.tables e below (T47.setTop (mkF m 299 #[.val (.long q0), .second, .val (.long q1), .second, .val (.long q2), .second, .val (.int p3), .val (.int p4), .val (.long va), .second, .val (.long vb), .second, .val (.long vc), .second, .val (.int vk), .val (.int pm), .val (.ref b1), .val (.long r29), .second, .val (.long (own_f5 va)), .second, .val (.long (own_f5 vb)), .second, .val (.long (own_f5 vc)), .second, .val (.long ((pm.toInt64) * (vk.toInt64))), .second, .val (.int (if (1000 : Int64) < ((pm.toInt64) * (vk.toInt64)) then (if (2000 : Int64) < ((pm.toInt64) * (vk.toInt64)) then (3 : Int32) else (2 : Int32)) else (1 : Int32))), .unset, .unset, .val (.long (own_f6 (own_f5 va) (own_f6 (own_f5 vb) (own_f5 vc)))), .second, .val (.long (own_f7 (own_f5 va) (own_f7 (own_f5 vb) (own_f5 vc)))), .second, .val (.long (((((own_f5 va) + (own_f5 vb)) + (own_f5 vc)) - (own_f6 (own_f5 va) (own_f6 (own_f5 vb) (own_f5 vc)))) - (own_f7 (own_f5 va) (own_f7 (own_f5 vb) (own_f5 vc))))), .second] [(.long (own_f7 (own_f5 va) (own_f7 (own_f5 vb) (own_f5 vc))))])) t
                refine XS.lstore X47.here hx rfl (hb hby at_299) rfl (l' := #[.val (.long q0), .second, .val (.long q1), .second, .val (.long q2), .second, .val (.int p3), .val (.int p4), .val (.long va), .second, .val (.long vb), .second, .val (.long vc), .second, .val (.int vk), .val (.int pm), .val (.ref b1), .val (.long r29), .second, .val (.long (own_f5 va)), .second, .val (.long (own_f5 vb)), .second, .val (.long (own_f5 vc)), .second, .val (.long ((pm.toInt64) * (vk.toInt64))), .second, .val (.int (if (1000 : Int64) < ((pm.toInt64) * (vk.toInt64)) then (if (2000 : Int64) < ((pm.toInt64) * (vk.toInt64)) then (3 : Int32) else (2 : Int32)) else (1 : Int32))), .val (.long (own_f7 (own_f5 va) (own_f7 (own_f5 vb) (own_f5 vc)))), .second, .val (.long (own_f6 (own_f5 va) (own_f6 (own_f5 vb) (own_f5 vc)))), .second, .val (.long (own_f7 (own_f5 va) (own_f7 (own_f5 vb) (own_f5 vc)))), .second, .val (.long (((((own_f5 va) + (own_f5 vb)) + (own_f5 vc)) - (own_f6 (own_f5 va) (own_f6 (own_f5 vb) (own_f5 vc)))) - (own_f7 (own_f5 va) (own_f7 (own_f5 vb) (own_f5 vc))))), .second]) rfl ?_
                exact kt
            exact kt
        refine own_by (A' := T47.setTop (mkF m 306 #[.val (.long q0), .second, .val (.long q1), .second, .val (.long q2), .second, .val (.int p3), .val (.int p4), .val (.long va), .second, .val (.long vb), .second, .val (.long vc), .second, .val (.int vk), .val (.int pm), .val (.ref b1), .val (.long r29), .second, .val (.long (own_f5 va)), .second, .val (.long (own_f5 vb)), .second, .val (.long (own_f5 vc)), .second, .val (.long ((pm.toInt64) * (vk.toInt64))), .second, .val (.int (if (1000 : Int64) < ((pm.toInt64) * (vk.toInt64)) then (if (2000 : Int64) < ((pm.toInt64) * (vk.toInt64)) then (3 : Int32) else (2 : Int32)) else (1 : Int32))), .val (.long (if (if (1000 : Int64) < ((pm.toInt64) * (vk.toInt64)) then (if (2000 : Int64) < ((pm.toInt64) * (vk.toInt64)) then (3 : Int32) else (2 : Int32)) else (1 : Int32)) = (1 : Int32) then (own_f6 (own_f5 va) (own_f6 (own_f5 vb) (own_f5 vc))) else (if (if (1000 : Int64) < ((pm.toInt64) * (vk.toInt64)) then (if (2000 : Int64) < ((pm.toInt64) * (vk.toInt64)) then (3 : Int32) else (2 : Int32)) else (1 : Int32)) = (2 : Int32) then (((((own_f5 va) + (own_f5 vb)) + (own_f5 vc)) - (own_f6 (own_f5 va) (own_f6 (own_f5 vb) (own_f5 vc)))) - (own_f7 (own_f5 va) (own_f7 (own_f5 vb) (own_f5 vc)))) else (own_f7 (own_f5 va) (own_f7 (own_f5 vb) (own_f5 vc)))))), .second, .val (.long (own_f6 (own_f5 va) (own_f6 (own_f5 vb) (own_f5 vc)))), .second, .val (.long (own_f7 (own_f5 va) (own_f7 (own_f5 vb) (own_f5 vc)))), .second, .val (.long (((((own_f5 va) + (own_f5 vb)) + (own_f5 vc)) - (own_f6 (own_f5 va) (own_f6 (own_f5 vb) (own_f5 vc)))) - (own_f7 (own_f5 va) (own_f7 (own_f5 vb) (own_f5 vc))))), .second] [(.int (lcmpW r29 (if (if (1000 : Int64) < ((pm.toInt64) * (vk.toInt64)) then (if (2000 : Int64) < ((pm.toInt64) * (vk.toInt64)) then (3 : Int32) else (2 : Int32)) else (1 : Int32)) = (1 : Int32) then (own_f6 (own_f5 va) (own_f6 (own_f5 vb) (own_f5 vc))) else (if (if (1000 : Int64) < ((pm.toInt64) * (vk.toInt64)) then (if (2000 : Int64) < ((pm.toInt64) * (vk.toInt64)) then (3 : Int32) else (2 : Int32)) else (1 : Int32)) = (2 : Int32) then (((((own_f5 va) + (own_f5 vb)) + (own_f5 vc)) - (own_f6 (own_f5 va) (own_f6 (own_f5 vb) (own_f5 vc)))) - (own_f7 (own_f5 va) (own_f7 (own_f5 vb) (own_f5 vc)))) else (own_f7 (own_f5 va) (own_f7 (own_f5 vb) (own_f5 vc)))))))])) (fun t kt => ?_) ?_
        · show Steps p.tables e below (T47.setTop (mkF m 301 #[.val (.long q0), .second, .val (.long q1), .second, .val (.long q2), .second, .val (.int p3), .val (.int p4), .val (.long va), .second, .val (.long vb), .second, .val (.long vc), .second, .val (.int vk), .val (.int pm), .val (.ref b1), .val (.long r29), .second, .val (.long (own_f5 va)), .second, .val (.long (own_f5 vb)), .second, .val (.long (own_f5 vc)), .second, .val (.long ((pm.toInt64) * (vk.toInt64))), .second, .val (.int (if (1000 : Int64) < ((pm.toInt64) * (vk.toInt64)) then (if (2000 : Int64) < ((pm.toInt64) * (vk.toInt64)) then (3 : Int32) else (2 : Int32)) else (1 : Int32))), .val (.long (if (if (1000 : Int64) < ((pm.toInt64) * (vk.toInt64)) then (if (2000 : Int64) < ((pm.toInt64) * (vk.toInt64)) then (3 : Int32) else (2 : Int32)) else (1 : Int32)) = (1 : Int32) then (own_f6 (own_f5 va) (own_f6 (own_f5 vb) (own_f5 vc))) else (if (if (1000 : Int64) < ((pm.toInt64) * (vk.toInt64)) then (if (2000 : Int64) < ((pm.toInt64) * (vk.toInt64)) then (3 : Int32) else (2 : Int32)) else (1 : Int32)) = (2 : Int32) then (((((own_f5 va) + (own_f5 vb)) + (own_f5 vc)) - (own_f6 (own_f5 va) (own_f6 (own_f5 vb) (own_f5 vc)))) - (own_f7 (own_f5 va) (own_f7 (own_f5 vb) (own_f5 vc)))) else (own_f7 (own_f5 va) (own_f7 (own_f5 vb) (own_f5 vc)))))), .second, .val (.long (own_f6 (own_f5 va) (own_f6 (own_f5 vb) (own_f5 vc)))), .second, .val (.long (own_f7 (own_f5 va) (own_f7 (own_f5 vb) (own_f5 vc)))), .second, .val (.long (((((own_f5 va) + (own_f5 vb)) + (own_f5 vc)) - (own_f6 (own_f5 va) (own_f6 (own_f5 vb) (own_f5 vc)))) - (own_f7 (own_f5 va) (own_f7 (own_f5 vb) (own_f5 vc))))), .second] [])) t
          refine XS.lload X47.here hx rfl (hb hby at_301) rfl ?_
          show Steps p.tables e below (T47.setTop (mkF m 303 #[.val (.long q0), .second, .val (.long q1), .second, .val (.long q2), .second, .val (.int p3), .val (.int p4), .val (.long va), .second, .val (.long vb), .second, .val (.long vc), .second, .val (.int vk), .val (.int pm), .val (.ref b1), .val (.long r29), .second, .val (.long (own_f5 va)), .second, .val (.long (own_f5 vb)), .second, .val (.long (own_f5 vc)), .second, .val (.long ((pm.toInt64) * (vk.toInt64))), .second, .val (.int (if (1000 : Int64) < ((pm.toInt64) * (vk.toInt64)) then (if (2000 : Int64) < ((pm.toInt64) * (vk.toInt64)) then (3 : Int32) else (2 : Int32)) else (1 : Int32))), .val (.long (if (if (1000 : Int64) < ((pm.toInt64) * (vk.toInt64)) then (if (2000 : Int64) < ((pm.toInt64) * (vk.toInt64)) then (3 : Int32) else (2 : Int32)) else (1 : Int32)) = (1 : Int32) then (own_f6 (own_f5 va) (own_f6 (own_f5 vb) (own_f5 vc))) else (if (if (1000 : Int64) < ((pm.toInt64) * (vk.toInt64)) then (if (2000 : Int64) < ((pm.toInt64) * (vk.toInt64)) then (3 : Int32) else (2 : Int32)) else (1 : Int32)) = (2 : Int32) then (((((own_f5 va) + (own_f5 vb)) + (own_f5 vc)) - (own_f6 (own_f5 va) (own_f6 (own_f5 vb) (own_f5 vc)))) - (own_f7 (own_f5 va) (own_f7 (own_f5 vb) (own_f5 vc)))) else (own_f7 (own_f5 va) (own_f7 (own_f5 vb) (own_f5 vc)))))), .second, .val (.long (own_f6 (own_f5 va) (own_f6 (own_f5 vb) (own_f5 vc)))), .second, .val (.long (own_f7 (own_f5 va) (own_f7 (own_f5 vb) (own_f5 vc)))), .second, .val (.long (((((own_f5 va) + (own_f5 vb)) + (own_f5 vc)) - (own_f6 (own_f5 va) (own_f6 (own_f5 vb) (own_f5 vc)))) - (own_f7 (own_f5 va) (own_f7 (own_f5 vb) (own_f5 vc))))), .second] [(.long r29)])) t
          refine XS.lload X47.here hx rfl (hb hby at_303) rfl ?_
          show Steps p.tables e below (T47.setTop (mkF m 305 #[.val (.long q0), .second, .val (.long q1), .second, .val (.long q2), .second, .val (.int p3), .val (.int p4), .val (.long va), .second, .val (.long vb), .second, .val (.long vc), .second, .val (.int vk), .val (.int pm), .val (.ref b1), .val (.long r29), .second, .val (.long (own_f5 va)), .second, .val (.long (own_f5 vb)), .second, .val (.long (own_f5 vc)), .second, .val (.long ((pm.toInt64) * (vk.toInt64))), .second, .val (.int (if (1000 : Int64) < ((pm.toInt64) * (vk.toInt64)) then (if (2000 : Int64) < ((pm.toInt64) * (vk.toInt64)) then (3 : Int32) else (2 : Int32)) else (1 : Int32))), .val (.long (if (if (1000 : Int64) < ((pm.toInt64) * (vk.toInt64)) then (if (2000 : Int64) < ((pm.toInt64) * (vk.toInt64)) then (3 : Int32) else (2 : Int32)) else (1 : Int32)) = (1 : Int32) then (own_f6 (own_f5 va) (own_f6 (own_f5 vb) (own_f5 vc))) else (if (if (1000 : Int64) < ((pm.toInt64) * (vk.toInt64)) then (if (2000 : Int64) < ((pm.toInt64) * (vk.toInt64)) then (3 : Int32) else (2 : Int32)) else (1 : Int32)) = (2 : Int32) then (((((own_f5 va) + (own_f5 vb)) + (own_f5 vc)) - (own_f6 (own_f5 va) (own_f6 (own_f5 vb) (own_f5 vc)))) - (own_f7 (own_f5 va) (own_f7 (own_f5 vb) (own_f5 vc)))) else (own_f7 (own_f5 va) (own_f7 (own_f5 vb) (own_f5 vc)))))), .second, .val (.long (own_f6 (own_f5 va) (own_f6 (own_f5 vb) (own_f5 vc)))), .second, .val (.long (own_f7 (own_f5 va) (own_f7 (own_f5 vb) (own_f5 vc)))), .second, .val (.long (((((own_f5 va) + (own_f5 vb)) + (own_f5 vc)) - (own_f6 (own_f5 va) (own_f6 (own_f5 vb) (own_f5 vc)))) - (own_f7 (own_f5 va) (own_f7 (own_f5 vb) (own_f5 vc))))), .second] [(.long (if (if (1000 : Int64) < ((pm.toInt64) * (vk.toInt64)) then (if (2000 : Int64) < ((pm.toInt64) * (vk.toInt64)) then (3 : Int32) else (2 : Int32)) else (1 : Int32)) = (1 : Int32) then (own_f6 (own_f5 va) (own_f6 (own_f5 vb) (own_f5 vc))) else (if (if (1000 : Int64) < ((pm.toInt64) * (vk.toInt64)) then (if (2000 : Int64) < ((pm.toInt64) * (vk.toInt64)) then (3 : Int32) else (2 : Int32)) else (1 : Int32)) = (2 : Int32) then (((((own_f5 va) + (own_f5 vb)) + (own_f5 vc)) - (own_f6 (own_f5 va) (own_f6 (own_f5 vb) (own_f5 vc)))) - (own_f7 (own_f5 va) (own_f7 (own_f5 vb) (own_f5 vc)))) else (own_f7 (own_f5 va) (own_f7 (own_f5 vb) (own_f5 vc)))))), (.long r29)])) t
          refine XS.lcmp X47.here hx rfl (hb hby at_305) rfl ?_
          exact kt
        have hk : vk.toInt = 3 := by
          have a0 := hc163_35; have a1 := hc175_37; have a2 := hc188_39
          rw [← Int32.toInt_inj] at a0 a1 a2; simp only [Int32.reduceToInt] at a0 a1 a2; omega
        rw [hk] at hrk
        have s1 := own_tt va hva; have s2 := own_tt vb hvb; have s3 := own_tt vc hvc
        have own_r := own_e3 fJ _ r29 (own_ten va) (own_ten vb) (own_ten vc) (pm.toInt64 * vk.toInt64) (own_t va) (own_t vb) (own_t vc) pm.toInt hP29 s1.1 s2.1 s3.1 ⟨s1.2, s2.2, s3.2⟩ hpm (own_prod pm vk 3 hpm hk (by omega)) hrk (fun j => by rw [hcum]; omega)
        have hc306_50 : r29 = (if (if (1000 : Int64) < ((pm.toInt64) * (vk.toInt64)) then (if (2000 : Int64) < ((pm.toInt64) * (vk.toInt64)) then (3 : Int32) else (2 : Int32)) else (1 : Int32)) = (1 : Int32) then (own_f6 (own_f5 va) (own_f6 (own_f5 vb) (own_f5 vc))) else (if (if (1000 : Int64) < ((pm.toInt64) * (vk.toInt64)) then (if (2000 : Int64) < ((pm.toInt64) * (vk.toInt64)) then (3 : Int32) else (2 : Int32)) else (1 : Int32)) = (2 : Int32) then (((((own_f5 va) + (own_f5 vb)) + (own_f5 vc)) - (own_f6 (own_f5 va) (own_f6 (own_f5 vb) (own_f5 vc)))) - (own_f7 (own_f5 va) (own_f7 (own_f5 vb) (own_f5 vc)))) else (own_f7 (own_f5 va) (own_f7 (own_f5 vb) (own_f5 vc))))) := own_r
        refine own_by (A' := T47.setTop (mkF m 314 #[.val (.long q0), .second, .val (.long q1), .second, .val (.long q2), .second, .val (.int p3), .val (.int p4), .val (.long va), .second, .val (.long vb), .second, .val (.long vc), .second, .val (.int vk), .val (.int pm), .val (.ref b1), .val (.long r29), .second, .val (.long (own_f5 va)), .second, .val (.long (own_f5 vb)), .second, .val (.long (own_f5 vc)), .second, .val (.long ((pm.toInt64) * (vk.toInt64))), .second, .val (.int (if (1000 : Int64) < ((pm.toInt64) * (vk.toInt64)) then (if (2000 : Int64) < ((pm.toInt64) * (vk.toInt64)) then (3 : Int32) else (2 : Int32)) else (1 : Int32))), .val (.long (if (if (1000 : Int64) < ((pm.toInt64) * (vk.toInt64)) then (if (2000 : Int64) < ((pm.toInt64) * (vk.toInt64)) then (3 : Int32) else (2 : Int32)) else (1 : Int32)) = (1 : Int32) then (own_f6 (own_f5 va) (own_f6 (own_f5 vb) (own_f5 vc))) else (if (if (1000 : Int64) < ((pm.toInt64) * (vk.toInt64)) then (if (2000 : Int64) < ((pm.toInt64) * (vk.toInt64)) then (3 : Int32) else (2 : Int32)) else (1 : Int32)) = (2 : Int32) then (((((own_f5 va) + (own_f5 vb)) + (own_f5 vc)) - (own_f6 (own_f5 va) (own_f6 (own_f5 vb) (own_f5 vc)))) - (own_f7 (own_f5 va) (own_f7 (own_f5 vb) (own_f5 vc)))) else (own_f7 (own_f5 va) (own_f7 (own_f5 vb) (own_f5 vc)))))), .second, .val (.long (own_f6 (own_f5 va) (own_f6 (own_f5 vb) (own_f5 vc)))), .second, .val (.long (own_f7 (own_f5 va) (own_f7 (own_f5 vb) (own_f5 vc)))), .second, .val (.long (((((own_f5 va) + (own_f5 vb)) + (own_f5 vc)) - (own_f6 (own_f5 va) (own_f6 (own_f5 vb) (own_f5 vc)))) - (own_f7 (own_f5 va) (own_f7 (own_f5 vb) (own_f5 vc))))), .second] [(.int (1 : Int32))])) (fun t kt => ?_) ?_
        · show Steps p.tables e below (T47.setTop (mkF m 306 #[.val (.long q0), .second, .val (.long q1), .second, .val (.long q2), .second, .val (.int p3), .val (.int p4), .val (.long va), .second, .val (.long vb), .second, .val (.long vc), .second, .val (.int vk), .val (.int pm), .val (.ref b1), .val (.long r29), .second, .val (.long (own_f5 va)), .second, .val (.long (own_f5 vb)), .second, .val (.long (own_f5 vc)), .second, .val (.long ((pm.toInt64) * (vk.toInt64))), .second, .val (.int (if (1000 : Int64) < ((pm.toInt64) * (vk.toInt64)) then (if (2000 : Int64) < ((pm.toInt64) * (vk.toInt64)) then (3 : Int32) else (2 : Int32)) else (1 : Int32))), .val (.long (if (if (1000 : Int64) < ((pm.toInt64) * (vk.toInt64)) then (if (2000 : Int64) < ((pm.toInt64) * (vk.toInt64)) then (3 : Int32) else (2 : Int32)) else (1 : Int32)) = (1 : Int32) then (own_f6 (own_f5 va) (own_f6 (own_f5 vb) (own_f5 vc))) else (if (if (1000 : Int64) < ((pm.toInt64) * (vk.toInt64)) then (if (2000 : Int64) < ((pm.toInt64) * (vk.toInt64)) then (3 : Int32) else (2 : Int32)) else (1 : Int32)) = (2 : Int32) then (((((own_f5 va) + (own_f5 vb)) + (own_f5 vc)) - (own_f6 (own_f5 va) (own_f6 (own_f5 vb) (own_f5 vc)))) - (own_f7 (own_f5 va) (own_f7 (own_f5 vb) (own_f5 vc)))) else (own_f7 (own_f5 va) (own_f7 (own_f5 vb) (own_f5 vc)))))), .second, .val (.long (own_f6 (own_f5 va) (own_f6 (own_f5 vb) (own_f5 vc)))), .second, .val (.long (own_f7 (own_f5 va) (own_f7 (own_f5 vb) (own_f5 vc)))), .second, .val (.long (((((own_f5 va) + (own_f5 vb)) + (own_f5 vc)) - (own_f6 (own_f5 va) (own_f6 (own_f5 vb) (own_f5 vc)))) - (own_f7 (own_f5 va) (own_f7 (own_f5 vb) (own_f5 vc))))), .second] [(.int (lcmpW r29 (if (if (1000 : Int64) < ((pm.toInt64) * (vk.toInt64)) then (if (2000 : Int64) < ((pm.toInt64) * (vk.toInt64)) then (3 : Int32) else (2 : Int32)) else (1 : Int32)) = (1 : Int32) then (own_f6 (own_f5 va) (own_f6 (own_f5 vb) (own_f5 vc))) else (if (if (1000 : Int64) < ((pm.toInt64) * (vk.toInt64)) then (if (2000 : Int64) < ((pm.toInt64) * (vk.toInt64)) then (3 : Int32) else (2 : Int32)) else (1 : Int32)) = (2 : Int32) then (((((own_f5 va) + (own_f5 vb)) + (own_f5 vc)) - (own_f6 (own_f5 va) (own_f6 (own_f5 vb) (own_f5 vc)))) - (own_f7 (own_f5 va) (own_f7 (own_f5 vb) (own_f5 vc)))) else (own_f7 (own_f5 va) (own_f7 (own_f5 vb) (own_f5 vc)))))))])) t
          refine XS.ifNo X47.here hx rfl (hb hby at_306) rfl ((if0 _ _).trans (teq ((lw_eq _ _).mpr hc306_50)).2) ?_
          show Steps p.tables e below (T47.setTop (mkF m 309 #[.val (.long q0), .second, .val (.long q1), .second, .val (.long q2), .second, .val (.int p3), .val (.int p4), .val (.long va), .second, .val (.long vb), .second, .val (.long vc), .second, .val (.int vk), .val (.int pm), .val (.ref b1), .val (.long r29), .second, .val (.long (own_f5 va)), .second, .val (.long (own_f5 vb)), .second, .val (.long (own_f5 vc)), .second, .val (.long ((pm.toInt64) * (vk.toInt64))), .second, .val (.int (if (1000 : Int64) < ((pm.toInt64) * (vk.toInt64)) then (if (2000 : Int64) < ((pm.toInt64) * (vk.toInt64)) then (3 : Int32) else (2 : Int32)) else (1 : Int32))), .val (.long (if (if (1000 : Int64) < ((pm.toInt64) * (vk.toInt64)) then (if (2000 : Int64) < ((pm.toInt64) * (vk.toInt64)) then (3 : Int32) else (2 : Int32)) else (1 : Int32)) = (1 : Int32) then (own_f6 (own_f5 va) (own_f6 (own_f5 vb) (own_f5 vc))) else (if (if (1000 : Int64) < ((pm.toInt64) * (vk.toInt64)) then (if (2000 : Int64) < ((pm.toInt64) * (vk.toInt64)) then (3 : Int32) else (2 : Int32)) else (1 : Int32)) = (2 : Int32) then (((((own_f5 va) + (own_f5 vb)) + (own_f5 vc)) - (own_f6 (own_f5 va) (own_f6 (own_f5 vb) (own_f5 vc)))) - (own_f7 (own_f5 va) (own_f7 (own_f5 vb) (own_f5 vc)))) else (own_f7 (own_f5 va) (own_f7 (own_f5 vb) (own_f5 vc)))))), .second, .val (.long (own_f6 (own_f5 va) (own_f6 (own_f5 vb) (own_f5 vc)))), .second, .val (.long (own_f7 (own_f5 va) (own_f7 (own_f5 vb) (own_f5 vc)))), .second, .val (.long (((((own_f5 va) + (own_f5 vb)) + (own_f5 vc)) - (own_f6 (own_f5 va) (own_f6 (own_f5 vb) (own_f5 vc)))) - (own_f7 (own_f5 va) (own_f7 (own_f5 vb) (own_f5 vc))))), .second] [])) t
          refine XS.iconst X47.here hx rfl (hb hby at_309) ?_
          show Steps p.tables e below (T47.setTop (mkF m 310 #[.val (.long q0), .second, .val (.long q1), .second, .val (.long q2), .second, .val (.int p3), .val (.int p4), .val (.long va), .second, .val (.long vb), .second, .val (.long vc), .second, .val (.int vk), .val (.int pm), .val (.ref b1), .val (.long r29), .second, .val (.long (own_f5 va)), .second, .val (.long (own_f5 vb)), .second, .val (.long (own_f5 vc)), .second, .val (.long ((pm.toInt64) * (vk.toInt64))), .second, .val (.int (if (1000 : Int64) < ((pm.toInt64) * (vk.toInt64)) then (if (2000 : Int64) < ((pm.toInt64) * (vk.toInt64)) then (3 : Int32) else (2 : Int32)) else (1 : Int32))), .val (.long (if (if (1000 : Int64) < ((pm.toInt64) * (vk.toInt64)) then (if (2000 : Int64) < ((pm.toInt64) * (vk.toInt64)) then (3 : Int32) else (2 : Int32)) else (1 : Int32)) = (1 : Int32) then (own_f6 (own_f5 va) (own_f6 (own_f5 vb) (own_f5 vc))) else (if (if (1000 : Int64) < ((pm.toInt64) * (vk.toInt64)) then (if (2000 : Int64) < ((pm.toInt64) * (vk.toInt64)) then (3 : Int32) else (2 : Int32)) else (1 : Int32)) = (2 : Int32) then (((((own_f5 va) + (own_f5 vb)) + (own_f5 vc)) - (own_f6 (own_f5 va) (own_f6 (own_f5 vb) (own_f5 vc)))) - (own_f7 (own_f5 va) (own_f7 (own_f5 vb) (own_f5 vc)))) else (own_f7 (own_f5 va) (own_f7 (own_f5 vb) (own_f5 vc)))))), .second, .val (.long (own_f6 (own_f5 va) (own_f6 (own_f5 vb) (own_f5 vc)))), .second, .val (.long (own_f7 (own_f5 va) (own_f7 (own_f5 vb) (own_f5 vc)))), .second, .val (.long (((((own_f5 va) + (own_f5 vb)) + (own_f5 vc)) - (own_f6 (own_f5 va) (own_f6 (own_f5 vb) (own_f5 vc)))) - (own_f7 (own_f5 va) (own_f7 (own_f5 vb) (own_f5 vc))))), .second] [(.int (1 : Int32))])) t
          refine XS.goto X47.here hx rfl (pc0 := 310) (pc' := 314) rfl (hb hby at_310) (by decide) (by decide) ?_
          exact kt
        obtain ⟨fs, hr, hrun, hended, hW, hsame⟩ := X47.leave (v := some (.int (1 : Int32))) (fun h => by rw [Bd.returns] at h; cases h)
        refine ⟨_, _, ?_, hrun, hended, _, _, rfl, ?_, ⟨_, rfl⟩, hW, hsame.mono (by decide) (by decide)⟩
        · exact retN X47 hx (t := .boolean) Bd.returns (by simp) (hb hby at_314) hr
        · show Q0 Z q0 q1 q2 p3 p4 h0 n0 _ T47.heap _
          rw [e47]
          exact ⟨rfl, N47⟩
set_option maxRecDepth 65536 in
set_option maxHeartbeats 40000000 in
theorem comes_1 {Post : Tables → Env → Array Value → State → Outcome → State → Prop} (hpost : ∀ tb e args s v u, (limb_1_1.after args s (.returned v) u = true ∧ limb_1_2.after args s (.returned v) u = true ∧ True) → FrameEnd s (.returned v) u (Jvm.fieldLocs frame_1_writes args s ++ Jvm.arrayLocs frame_1_arrays args s ++ Jvm.staticLocs frame_1_statics s) 16 6272 → Post tb e args s (.returned v) u) :
    ArmFor flags0 classFile x code maxLocals ret World_1 tables_1 room_1 Calls_1 rest_1 Pre_1 Post := by
  intro l hfl _ _ p e ha hc hk s m args below hf hA hF happ hP
  obtain ⟨hcalls, hrest, hpre⟩ := hP
  obtain ⟨-, -, -, hnamed, -, -, -, hat⟩ := (Spec.applies_iff hf).mp happ
  obtain ⟨hg, hn⟩ := and_e (Cond.before_iff.mp (show (Jvm.Cond.and given_1 narrow_1).before args s = true from hpre))
  obtain ⟨ga1, ga2⟩ := and_e hg
  obtain ⟨ga3, ga4⟩ := and_e ga2
  obtain ⟨ga5, ga6⟩ := and_e ga4
  obtain ⟨ga7, ga8⟩ := and_e ga6
  obtain ⟨ga9, ga10⟩ := and_e ga8
  obtain ⟨w0, w1, w2, w3, w4, rfl⟩ : ∃ w0 w1 w2 w3 w4 : Value, args = #[w0, w1, w2, w3, w4] := by
    have hs : args.size = 5 := by simpa [Cond.value, given_1] using ga1
    obtain ⟨L⟩ := args
    match L, hs with
    | [w0, w1, w2, w3, w4], _ => exact ⟨w0, w1, w2, w3, w4, rfl⟩
  have hw := fun d (hd : d ∈ tables_1) => atoms_spec (ws := Jvm.Cond.code x code maxLocals ret :: tables_1) hat d (List.mem_cons_of_mem _ hd)
  have hfit : Fit s := fun {y c} hc i hi => by
    obtain ⟨ha, rfl⟩ := Array.getElem?_eq_some_iff.mp hc
    have q := List.all_eq_true.mp ((Array.all_eq_true_iff_forall_mem.mp hF) _ (Array.getElem_mem ha)) i (List.mem_range.mpr hi)
    simpa [Array.getElem?_eq_getElem hi] using q
  obtain ⟨i0, ei0⟩ := isL_v ga3
  obtain rfl : w0 = (.long i0) := Option.some.inj ei0
  obtain ⟨i1, ei1⟩ := isL_v ga5
  obtain rfl : w1 = (.long i1) := Option.some.inj ei1
  obtain ⟨i2, ei2⟩ := isL_v ga7
  obtain rfl : w2 = (.long i2) := Option.some.inj ei2
  obtain ⟨i3, ei3⟩ := is_v ga9
  obtain rfl : w3 = (.int i3) := Option.some.inj ei3
  obtain ⟨i4, ei4⟩ := is_v ga10
  obtain rfl : w4 = (.int i4) := Option.some.inj ei4
  obtain ⟨n, o, h1, h2, h3, _, L, rfl, ⟨rfl, N⟩, hq⟩ := rm0 l s _ hw tables_1 i0 i1 i2 i3 i4  s.heap s.heap.size (Nat.le_refl _)  p e ha hc hk s m _ below hf ((Spec.applies_iff_loose hf).mp happ).1 ⟨rfl, State.Warmed39.refl s, rfl⟩ trivial
  refine ⟨n, _, h1, h2, h3, hpost _ _ _ _ _ _ ⟨Cond.after_iff.mpr rfl, Cond.after_iff.mpr (eq_i res_at (Term.int_eval (1)) rfl), trivial⟩ ⟨hq.1, hq.2.1, (hq.2.2.sift fun y hy => Or.inr (N y hy)).mono (by decide) (by decide)⟩⟩
theorem main_1_1 : Claimed_1_1 := comes_1 fun _ _ _ _ _ _ h hF => ⟨h.1, hF⟩
theorem main_1_2 : Claimed_1_2 := comes_1 fun _ _ _ _ _ _ h hF => ⟨h.2.1, hF⟩
end Jvm.Pilot.@@N@@
namespace Jvm.Pilot.@@N@@
open Jvm Jvm.ClassFile Sem Op Lib Jvm.Free Jvm.Stand Jvm.Pilot.@@N@@.Jvm.D
/-! MADE BY PROGRAM (witnessworld.py) out of the Statement's table words and the real class files: 14 classes; the members and pool entries that the words name. The judged class is class 1, her method 2. -/
namespace start1
open Jvm.ClassFile
def u (s : String) : CpInfo := .utf8 (stringToUtf16 s)
/-- a pool by its gaps: so many unusable entries, then the entry; so many at the end -/
def gap : Nat → List CpInfo → List CpInfo
  | 0, r => r
  | n + 1, r => .unusable :: gap n r
def poolList (es : List (Nat × CpInfo)) (last : Nat) : List CpInfo := es.foldr (fun e r => gap e.1 (e.2 :: r)) (gap last [])
def pool (es : List (Nat × CpInfo)) (last : Nat) : Array CpInfo := ⟨poolList es last⟩
def fileOf (pool : Array CpInfo) (this : Nat) (attrs : Array Attribute := #[]) (ms : Array MethodInfo := #[]) (fl : Nat := 33) (sup : Nat := 0) (ifs : Array Nat := #[]) (fds : Array FieldInfo := #[]) : ClassFile where
  minorVersion := 0
  majorVersion := 65
  constantPool := pool
  accessFlags := fl
  thisClass := this
  superClass := sup
  interfaces := ifs
  fields := fds
  methods := ms
  attributes := attrs
def plain (name : String) (sup : Option ClassId) : Class where
  name := name
  kind := .ordinary
  loader := none
  accessFlags := 33
  super := sup
  interfaces := #[]
  cf := none
  fields := #[]
  methods := #[]
  instanceTypes := #[]
  staticTypes := #[]
  resolved := #[]
  callSites := []
  init := .initialized
  statics := none
  mirror := none

def pool0 : Array CpInfo := pool [(5, u "<init>"), (0, u "()V"), (1, .class_ 10), (1, u "java/lang/Object")] 113

def k0c0 : Code := { maxStack := 0, maxLocals := 1, code := object_method_1_code, exceptionTable := #[], attributes := #[] }
def k0m0 : Method := { name := "<init>", desc := "()V", sig := { parameters := [], returnType := none }, accessFlags := 1, code := some k0c0 }
/-- java/lang/Object -/
def k0 : Class := { plain "java/lang/Object" none with
  accessFlags := 33
  interfaces := #[]
  cf := some (fileOf pool0 8 #[] #[{ accessFlags := 1, nameIndex := 5, descriptorIndex := 6, attributes := #[] }] 33 0 #[] #[])
  fields := #[]
  methods := #[k0m0]
  instanceTypes := #[]
  staticTypes := #[]
  resolved := Array.replicate 124 none
  statics := none }

def pool1 : Array CpInfo := pool [(2, .class_ 4), (0, .nameAndType 5 6), (0, u "java/lang/Object"), (0, u "<init>"), (0, u "()V"), (0, .long 50000), (1, .long 100000), (1, .long 134217727), (1, .integer 2147483647), (0, .class_ 15), (0, u "com/example/flashsafe/flashsafe/Latencies"), (0, .methodref 14 3), (0, .methodref 14 18), (0, .nameAndType 19 20), (0, u "add"), (0, u "(J)V"), (0, .methodref 14 22), (0, .nameAndType 23 24), (0, u "percentile"), (0, u "(I)J"), (0, .methodref 26 27), (0, .class_ 28), (0, .nameAndType 29 30), (0, u "com/example/flashsafe/flashsafe/LatenciesPercentilePinLaw"), (0, u "tenths"), (0, u "(J)J"), (0, .long 1000), (1, .long 2000), (1, .methodref 36 37), (0, .class_ 38), (0, .nameAndType 39 40), (0, u "java/lang/Math"), (0, u "min"), (0, u "(JJ)J"), (0, .methodref 36 42), (0, .nameAndType 43 40), (0, u "max"), (2, u "law"), (0, u "(JJJII)Z")] 3

def k1m0 : Method := { name := "<init>", desc := "()V", sig := { parameters := [], returnType := none }, accessFlags := 1, code := none }
def k1c1 : Code := { maxStack := 4, maxLocals := 2, code := method_2_code, exceptionTable := #[], attributes := #[] }
def k1m1 : Method := { name := "tenths", desc := "(J)J", sig := { parameters := [.long], returnType := some .long }, accessFlags := 10, code := some k1c1 }
def k1c2 : Code := { maxStack := 6, maxLocals := 36, code := code, exceptionTable := #[], attributes := #[] }
def k1m2 : Method := { name := "law", desc := "(JJJII)Z", sig := { parameters := [.long, .long, .long, .int, .int], returnType := some .boolean }, accessFlags := 9, code := some k1c2 }
/-- com/example/flashsafe/flashsafe/LatenciesPercentilePinLaw -/
def k1 : Class := { plain "com/example/flashsafe/flashsafe/LatenciesPercentilePinLaw" (some 0) with
  accessFlags := 49
  interfaces := #[]
  cf := some (fileOf pool1 26 #[] #[{ accessFlags := 1, nameIndex := 5, descriptorIndex := 6, attributes := #[] }, { accessFlags := 10, nameIndex := 29, descriptorIndex := 30, attributes := #[] }, { accessFlags := 9, nameIndex := 46, descriptorIndex := 47, attributes := #[] }] 49 2 #[] #[])
  fields := #[]
  methods := #[k1m0, k1m1, k1m2]
  instanceTypes := #[]
  staticTypes := #[]
  resolved := Array.replicate 51 none
  statics := none }

def pool2 : Array CpInfo := pool [(1, .methodref 2 3), (0, .class_ 4), (0, .nameAndType 5 6), (0, u "java/lang/Object"), (0, u "<init>"), (0, u "()V"), (0, .fieldref 8 9), (0, .class_ 10), (0, .nameAndType 11 12), (0, u "com/example/flashsafe/flashsafe/Latencies"), (0, u "counts"), (0, u "[J"), (0, .long 50000), (1, .long 100000), (1, .long 2), (1, .methodref 20 21), (0, .class_ 22), (0, .nameAndType 23 24), (0, u "java/lang/Math"), (0, u "max"), (0, u "(JJ)J"), (0, .methodref 26 27), (0, .class_ 28), (0, .nameAndType 29 30), (0, u "java/util/Arrays"), (0, u "copyOf"), (0, u "([JI)[J"), (0, .fieldref 8 32), (0, .nameAndType 33 34), (0, u "total"), (0, u "J"), (0, .long 999), (1, .long 1000), (1, u "NANOS_PER_TENTH"), (3, u "add"), (0, u "(J)V"), (1, u "percentile"), (0, u "(I)J")] 2

def k2c0 : Code := { maxStack := 2, maxLocals := 1, code := prog_7_method_1_code, exceptionTable := #[], attributes := #[] }
def k2m0 : Method := { name := "<init>", desc := "()V", sig := { parameters := [], returnType := none }, accessFlags := 1, code := some k2c0 }
def k2c1 : Code := { maxStack := 8, maxLocals := 5, code := prog_7_method_2_code, exceptionTable := #[], attributes := #[] }
def k2m1 : Method := { name := "add", desc := "(J)V", sig := { parameters := [.long], returnType := none }, accessFlags := 1, code := some k2c1 }
def k2c2 : Code := { maxStack := 4, maxLocals := 9, code := prog_7_method_3_code, exceptionTable := #[], attributes := #[] }
def k2m2 : Method := { name := "percentile", desc := "(I)J", sig := { parameters := [.int], returnType := some .long }, accessFlags := 1, code := some k2c2 }
/-- com/example/flashsafe/flashsafe/Latencies -/
def k2 : Class := { plain "com/example/flashsafe/flashsafe/Latencies" (some 0) with
  accessFlags := 33
  interfaces := #[]
  cf := some (fileOf pool2 8 #[] #[{ accessFlags := 1, nameIndex := 5, descriptorIndex := 6, attributes := #[] }, { accessFlags := 1, nameIndex := 43, descriptorIndex := 44, attributes := #[] }, { accessFlags := 1, nameIndex := 46, descriptorIndex := 47, attributes := #[] }] 33 2 #[] #[{ accessFlags := 26, nameIndex := 39, descriptorIndex := 34, attributes := #[] }, { accessFlags := 2, nameIndex := 11, descriptorIndex := 12, attributes := #[] }, { accessFlags := 2, nameIndex := 33, descriptorIndex := 34, attributes := #[] }])
  fields := #[{ name := "NANOS_PER_TENTH", type := .long, accessFlags := 26, slot := 0, constantValue := 0 }, { name := "counts", type := (.array .long), accessFlags := 2, slot := 0, constantValue := 0 }, { name := "total", type := .long, accessFlags := 2, slot := 1, constantValue := 0 }]
  methods := #[k2m0, k2m1, k2m2]
  instanceTypes := #[(.array .long), .long]
  staticTypes := #[.long]
  resolved := Array.replicate 50 none
  statics := none }

def pool3 : Array CpInfo := pool [(1, .class_ 2), (0, u "java/lang/Math"), (1, .class_ 6), (1, u "java/lang/Object"), (0, u "<init>"), (0, u "()V"), (89, .class_ 100), (1, u "java/lang/Math$RandomNumberGeneratorHolder"), (20, u "(JJ)J"), (50, u "negativeZeroFloatBits"), (0, u "J"), (2, u "negativeZeroDoubleBits"), (21, u "max"), (2, u "min"), (43, u "$assertionsDisabled"), (0, u "Z"), (88, u "(II)I"), (2, u "twoToTheDoubleScaleDown"), (0, u "D"), (4, u "twoToTheDoubleScaleUp"), (9, u "E"), (3, u "PI"), (2, u "TAU"), (2, u "DEGREES_TO_RADIANS"), (0, u "RADIANS_TO_DEGREES")] 94

def k3m0 : Method := { name := "<init>", desc := "()V", sig := { parameters := [], returnType := none }, accessFlags := 2, code := none }
def k3c1 : Code := { maxStack := 4, maxLocals := 4, code := jdk_29_method_66_code, exceptionTable := #[], attributes := #[] }
def k3m1 : Method := { name := "max", desc := "(JJ)J", sig := { parameters := [.long, .long], returnType := some .long }, accessFlags := 9, code := some k3c1 }
def k3c2 : Code := { maxStack := 2, maxLocals := 2, code := jdk_29_method_69_code, exceptionTable := #[], attributes := #[] }
def k3m2 : Method := { name := "min", desc := "(II)I", sig := { parameters := [.int, .int], returnType := some .int }, accessFlags := 9, code := some k3c2 }
def k3c3 : Code := { maxStack := 4, maxLocals := 4, code := jdk_29_method_70_code, exceptionTable := #[], attributes := #[] }
def k3m3 : Method := { name := "min", desc := "(JJ)J", sig := { parameters := [.long, .long], returnType := some .long }, accessFlags := 9, code := some k3c3 }
/-- java/lang/Math -/
def k3 : Class := { plain "java/lang/Math" (some 0) with
  accessFlags := 49
  interfaces := #[]
  cf := some (fileOf pool3 1 #[.nestMembers #[98]] #[{ accessFlags := 2, nameIndex := 7, descriptorIndex := 8, attributes := #[] }, { accessFlags := 9, nameIndex := 198, descriptorIndex := 121, attributes := #[] }, { accessFlags := 9, nameIndex := 201, descriptorIndex := 335, attributes := #[] }, { accessFlags := 9, nameIndex := 201, descriptorIndex := 121, attributes := #[] }] 49 4 #[] #[{ accessFlags := 25, nameIndex := 354, descriptorIndex := 339, attributes := #[] }, { accessFlags := 25, nameIndex := 358, descriptorIndex := 339, attributes := #[] }, { accessFlags := 25, nameIndex := 361, descriptorIndex := 339, attributes := #[] }, { accessFlags := 26, nameIndex := 364, descriptorIndex := 339, attributes := #[] }, { accessFlags := 26, nameIndex := 365, descriptorIndex := 339, attributes := #[] }, { accessFlags := 26, nameIndex := 172, descriptorIndex := 173, attributes := #[] }, { accessFlags := 26, nameIndex := 176, descriptorIndex := 173, attributes := #[] }, { accessFlags := 8, nameIndex := 344, descriptorIndex := 339, attributes := #[] }, { accessFlags := 8, nameIndex := 338, descriptorIndex := 339, attributes := #[] }, { accessFlags := 4120, nameIndex := 245, descriptorIndex := 246, attributes := #[] }])
  fields := #[{ name := "E", type := .double, accessFlags := 25, slot := 0, constantValue := 0 }, { name := "PI", type := .double, accessFlags := 25, slot := 1, constantValue := 0 }, { name := "TAU", type := .double, accessFlags := 25, slot := 2, constantValue := 0 }, { name := "DEGREES_TO_RADIANS", type := .double, accessFlags := 26, slot := 3, constantValue := 0 }, { name := "RADIANS_TO_DEGREES", type := .double, accessFlags := 26, slot := 4, constantValue := 0 }, { name := "negativeZeroFloatBits", type := .long, accessFlags := 26, slot := 5, constantValue := 0 }, { name := "negativeZeroDoubleBits", type := .long, accessFlags := 26, slot := 6, constantValue := 0 }, { name := "twoToTheDoubleScaleUp", type := .double, accessFlags := 8, slot := 7, constantValue := 0 }, { name := "twoToTheDoubleScaleDown", type := .double, accessFlags := 8, slot := 8, constantValue := 0 }, { name := "$assertionsDisabled", type := .boolean, accessFlags := 4120, slot := 9, constantValue := 0 }]
  methods := #[k3m0, k3m1, k3m2, k3m3]
  instanceTypes := #[]
  staticTypes := #[.double, .double, .double, .double, .double, .long, .long, .double, .double, .boolean]
  resolved := Array.replicate 460 none
  statics := none }

def pool4 : Array CpInfo := pool [(2, .class_ 4), (1, u "java/lang/Object"), (0, u "<init>"), (0, u "()V"), (7, .class_ 16), (1, u "java/util/Arrays"), (57, .class_ 76), (1, u "java/util/Arrays$NaturalOrder"), (36, .class_ 115), (1, u "java/util/Arrays$LegacyMergeSort"), (1, u "Z"), (32, .methodref 151 152), (0, .class_ 153), (0, .nameAndType 154 155), (0, u "java/lang/System"), (0, u "arraycopy"), (0, u "(Ljava/lang/Object;ILjava/lang/Object;II)V"), (146, u "copyOf"), (1, .methodref 305 306), (0, .class_ 307), (0, .nameAndType 308 309), (0, u "java/lang/Math"), (0, u "min"), (0, u "(II)I"), (65, .class_ 376), (0, u "java/util/Arrays$ArrayList"), (68, u "$assertionsDisabled"), (269, u "MIN_ARRAY_SORT_GRAN"), (0, u "I"), (2, u "INSERTIONSORT_THRESHOLD"), (152, u "([JI)[J"), (102, .class_ 976), (0, u "java/util/Arrays$ArrayItr")] 52

def k4m0 : Method := { name := "<init>", desc := "()V", sig := { parameters := [], returnType := none }, accessFlags := 2, code := none }
def k4c1 : Code := { maxStack := 6, maxLocals := 3, code := jdk_65_method_124_code, exceptionTable := #[], attributes := #[] }
def k4m1 : Method := { name := "copyOf", desc := "([JI)[J", sig := { parameters := [(.array .long), .int], returnType := some (.array .long) }, accessFlags := 9, code := some k4c1 }
/-- java/util/Arrays -/
def k4 : Class := { plain "java/util/Arrays" (some 0) with
  accessFlags := 49
  interfaces := #[]
  cf := some (fileOf pool4 14 #[.nestMembers #[975, 375, 113, 74]] #[{ accessFlags := 2, nameIndex := 5, descriptorIndex := 6, attributes := #[] }, { accessFlags := 9, nameIndex := 302, descriptorIndex := 872, attributes := #[] }] 49 2 #[] #[{ accessFlags := 26, nameIndex := 715, descriptorIndex := 716, attributes := #[] }, { accessFlags := 26, nameIndex := 719, descriptorIndex := 716, attributes := #[] }, { accessFlags := 4120, nameIndex := 445, descriptorIndex := 117, attributes := #[] }])
  fields := #[{ name := "MIN_ARRAY_SORT_GRAN", type := .int, accessFlags := 26, slot := 0, constantValue := 0 }, { name := "INSERTIONSORT_THRESHOLD", type := .int, accessFlags := 26, slot := 1, constantValue := 0 }, { name := "$assertionsDisabled", type := .boolean, accessFlags := 4120, slot := 2, constantValue := 0 }]
  methods := #[k4m0, k4m1]
  instanceTypes := #[]
  staticTypes := #[.int, .int, .boolean]
  resolved := Array.replicate 1029 none
  statics := none }

def pool5 : Array CpInfo := pool [(2, .class_ 4), (1, u "java/lang/Object"), (0, u "<init>"), (0, u "()V"), (1, .class_ 10), (1, u "java/lang/System"), (0, u "allowSecurityManager"), (0, u "I"), (16, u "cons"), (0, u "Ljava/io/Console;"), (77, .class_ 110), (1, u "java/lang/System$CallersHolder"), (43, u "initialErrStream"), (0, u "Ljava/io/PrintStream;"), (19, u "security"), (0, u "Ljava/lang/SecurityManager;"), (31, .class_ 209), (0, u "java/lang/System$1"), (7, u "props"), (0, u "Ljava/util/Properties;"), (2, u "lineSeparator"), (0, u "Ljava/lang/String;"), (96, .class_ 321), (1, u "java/lang/System$LoggerFinder"), (5, .class_ 328), (0, u "java/lang/System$Logger"), (67, u "err"), (2, u "out"), (91, u "notSupportedJnuEncoding"), (15, u "in"), (17, u "initialIn"), (0, u "Ljava/io/InputStream;"), (35, u "bootLayer"), (0, u "Ljava/lang/ModuleLayer;"), (99, .class_ 664), (0, u "java/lang/System$2"), (9, u "NEVER"), (2, u "MAYBE"), (49, u "arraycopy"), (0, u "(Ljava/lang/Object;ILjava/lang/Object;II)V"), (72, .class_ 802), (0, u "java/lang/System$Logger$Level")] 31

def k5m0 : Method := { name := "<init>", desc := "()V", sig := { parameters := [], returnType := none }, accessFlags := 2, code := none }
def k5m1 : Method := { name := "arraycopy", desc := "(Ljava/lang/Object;ILjava/lang/Object;II)V", sig := { parameters := [(.object "java/lang/Object"), .int, (.object "java/lang/Object"), .int, .int], returnType := none }, accessFlags := 265, code := none }
/-- java/lang/System -/
def k5 : Class := { plain "java/lang/System" (some 0) with
  accessFlags := 49
  interfaces := #[]
  cf := some (fileOf pool5 8 #[.nestMembers #[319, 327, 801, 108, 663, 208]] #[{ accessFlags := 2, nameIndex := 5, descriptorIndex := 6, attributes := #[] }, { accessFlags := 265, nameIndex := 727, descriptorIndex := 728, attributes := #[] }] 49 2 #[] #[{ accessFlags := 25, nameIndex := 507, descriptorIndex := 526, attributes := #[] }, { accessFlags := 25, nameIndex := 399, descriptorIndex := 155, attributes := #[] }, { accessFlags := 25, nameIndex := 396, descriptorIndex := 155, attributes := #[] }, { accessFlags := 10, nameIndex := 525, descriptorIndex := 526, attributes := #[] }, { accessFlags := 26, nameIndex := 674, descriptorIndex := 12, attributes := #[] }, { accessFlags := 26, nameIndex := 677, descriptorIndex := 12, attributes := #[] }, { accessFlags := 10, nameIndex := 11, descriptorIndex := 12, attributes := #[] }, { accessFlags := 74, nameIndex := 175, descriptorIndex := 176, attributes := #[] }, { accessFlags := 10, nameIndex := 491, descriptorIndex := 222, attributes := #[] }, { accessFlags := 74, nameIndex := 29, descriptorIndex := 30, attributes := #[] }, { accessFlags := 74, nameIndex := 154, descriptorIndex := 155, attributes := #[] }, { accessFlags := 10, nameIndex := 217, descriptorIndex := 218, attributes := #[] }, { accessFlags := 10, nameIndex := 221, descriptorIndex := 222, attributes := #[] }, { accessFlags := 8, nameIndex := 562, descriptorIndex := 563, attributes := #[] }])
  fields := #[{ name := "in", type := (.object "java/io/InputStream"), accessFlags := 25, slot := 0, constantValue := 0 }, { name := "out", type := (.object "java/io/PrintStream"), accessFlags := 25, slot := 1, constantValue := 0 }, { name := "err", type := (.object "java/io/PrintStream"), accessFlags := 25, slot := 2, constantValue := 0 }, { name := "initialIn", type := (.object "java/io/InputStream"), accessFlags := 10, slot := 3, constantValue := 0 }, { name := "NEVER", type := .int, accessFlags := 26, slot := 4, constantValue := 0 }, { name := "MAYBE", type := .int, accessFlags := 26, slot := 5, constantValue := 0 }, { name := "allowSecurityManager", type := .int, accessFlags := 10, slot := 6, constantValue := 0 }, { name := "security", type := (.object "java/lang/SecurityManager"), accessFlags := 74, slot := 7, constantValue := 0 }, { name := "notSupportedJnuEncoding", type := (.object "java/lang/String"), accessFlags := 10, slot := 8, constantValue := 0 }, { name := "cons", type := (.object "java/io/Console"), accessFlags := 74, slot := 9, constantValue := 0 }, { name := "initialErrStream", type := (.object "java/io/PrintStream"), accessFlags := 74, slot := 10, constantValue := 0 }, { name := "props", type := (.object "java/util/Properties"), accessFlags := 10, slot := 11, constantValue := 0 }, { name := "lineSeparator", type := (.object "java/lang/String"), accessFlags := 10, slot := 12, constantValue := 0 }, { name := "bootLayer", type := (.object "java/lang/ModuleLayer"), accessFlags := 8, slot := 13, constantValue := 0 }]
  methods := #[k5m0, k5m1]
  instanceTypes := #[]
  staticTypes := #[(.object "java/io/InputStream"), (.object "java/io/PrintStream"), (.object "java/io/PrintStream"), (.object "java/io/InputStream"), .int, .int, .int, (.object "java/lang/SecurityManager"), (.object "java/lang/String"), (.object "java/io/Console"), (.object "java/io/PrintStream"), (.object "java/util/Properties"), (.object "java/lang/String"), (.object "java/lang/ModuleLayer")]
  resolved := Array.replicate 834 none
  statics := none }

def pool6 : Array CpInfo := pool [(1, u "java/lang/Cloneable"), (0, .class_ 1), (0, u "java/lang/Object"), (0, .class_ 3)] 3

/-- java/lang/Cloneable -/
def k6 : Class := { plain "java/lang/Cloneable" (some 0) with
  accessFlags := 1537
  interfaces := #[]
  cf := some (fileOf pool6 2 #[] #[] 1537 4 #[] #[])
  fields := #[]
  methods := #[]
  instanceTypes := #[]
  staticTypes := #[]
  resolved := Array.replicate 8 none
  statics := none }

def pool7 : Array CpInfo := pool [(1, u "java/io/Serializable"), (0, .class_ 1), (0, u "java/lang/Object"), (0, .class_ 3)] 3

/-- java/io/Serializable -/
def k7 : Class := { plain "java/io/Serializable" (some 0) with
  accessFlags := 1537
  interfaces := #[]
  cf := some (fileOf pool7 2 #[] #[] 1537 4 #[] #[])
  fields := #[]
  methods := #[]
  instanceTypes := #[]
  staticTypes := #[]
  resolved := Array.replicate 8 none
  statics := none }

/-- the primitive byte -/
def k8 : Class := { plain "byte" none with kind := .primitive 'B', accessFlags := 0x411 }
/-- [B -/
def k9 : Class := { plain "[B" (some 0) with kind := .array 8 .byte, interfaces := #[6, 7], accessFlags := 1041 }

/-- the primitive int -/
def k10 : Class := { plain "int" none with kind := .primitive 'I', accessFlags := 0x411 }
/-- [I -/
def k11 : Class := { plain "[I" (some 0) with kind := .array 10 .int, interfaces := #[6, 7], accessFlags := 1041 }

/-- the primitive long -/
def k12 : Class := { plain "long" none with kind := .primitive 'J', accessFlags := 0x411 }
/-- [J -/
def k13 : Class := { plain "[J" (some 0) with kind := .array 12 .long, interfaces := #[6, 7], accessFlags := 1041 }

def heap : Heap := #[]
def classes : Array Class := #[k0, k1, k2, k3, k4, k5, k6, k7, k8, k9, k10, k11, k12, k13]
def interned : List (Array UInt16 × Addr) := []
def slotsUsed : Nat := 0
def theMethod : MethodId := ⟨1, 2⟩
def args0 : Array Value := #[.long 7, .long 9, .long 5, .int 3, .int 2]
def aboutOver (below : List Frame) : State where
  vm := { classes := classes, interned := interned.toArray }
  heap := heap
  slotsUsed := slotsUsed
  threads := #[{ frames := .invoking theMethod args0 :: below }]
def below0 : List Frame := [.native { method := ⟨0, 0⟩, args := #[] }]
def about1 : State := aboutOver below0
def p0 : Program := .bare "" "" ""
def e0 : Env := launch0.env 0 0 0
theorem w_frames : about1.frames = Frame.invoking theMethod args0 :: below0 := rfl
set_option maxRecDepth 65536 in
theorem w_args : argsFit about1.vm theMethod args0 = true := by decide +kernel
set_option maxRecDepth 65536 in
theorem w_heap : heapFits about1 = true := by decide +kernel
set_option maxRecDepth 65536 in
theorem w_runnable : about1.curStatus? = some .runnable := by decide +kernel
set_option maxRecDepth 65536 in
theorem w_alone : about1.alone = true := by decide +kernel
set_option maxRecDepth 65536 in
theorem w_named : about1.methodNamed? x = some theMethod := by decide +kernel
set_option maxRecDepth 65536 in
theorem w_hears : about1.hears theMethod below0 = true := by decide +kernel
set_option maxRecDepth 65536 in
theorem w_ripe : about1.ripe theMethod args0 below0 = true := by decide +kernel
theorem w_running : about1.status = .running := rfl
set_option maxRecDepth 65536 in
theorem w_room : about1.hasRoom e0.platform room_1 = true :=
  launch0.hasRoom_least _ room_1 (by decide +kernel) (by decide +kernel) (by decide +kernel) (by decide +kernel) (by decide +kernel) (by decide +kernel)
theorem allAtoms_all (ts : List Jvm.Cond) (a : Array Jvm.Value) (st : Jvm.State) : (allAtoms ts).before a st = ts.all (fun c => c.before a st) := by
  induction ts with
  | nil => rfl
  | cons c t ih =>
    show (Jvm.Cond.and c (allAtoms t)).before a st = _
    rw [Jvm.Cond.before_and, ih, List.all_cons]
def words1 : List Jvm.Cond := Jvm.Cond.code x code maxLocals ret :: tables_1
/-- a 'code' word, met by the world's own term for the bytes: nothing is compared byte by byte -/
theorem code_word {y : MethodName} {bytes : ByteArray} {mx : Nat} {rt : Option FieldType} {a : Array Value} {s : State} {m : MethodId} {meth : Method} {c : Code} (h1 : s.methodNamed? y = some m) (h2 : s.vm.method? m = some meth) (h3 : meth.code = some c) (h4 : c.code = bytes)
    (h5 : (c.maxLocals == mx && c.exceptionTable.isEmpty && decide (c.maxStack ≤ mostOperands) && decide (meth.sig.returnType = rt) && !meth.locks && decide (parseMethodDescriptor y.desc = some meth.sig)) = true) : (Jvm.Cond.code y bytes mx rt).before a s = true := by
  simp only [Bool.and_eq_true, beq_iff_eq, Bool.not_eq_true', decide_eq_true_eq] at h5
  obtain ⟨⟨⟨⟨⟨g1, g2⟩, g3⟩, g4⟩, g5⟩, g6⟩ := h5
  simp [Cond.before, Cond.holds, Cond.value, h1, h2, h3, h4, g1, g2, g3, g4, g5, g6]
def isCode : Jvm.Cond → Bool
  | .code _ _ _ _ => true
  | _ => false
theorem all_split {L : List Jvm.Cond} {P : Jvm.Cond → Bool} (h1 : L.all (fun c => isCode c || P c) = true) (h2 : ∀ c ∈ L.filter isCode, P c = true) : L.all P = true := by
  refine List.all_eq_true.mpr fun c hc => ?_
  have h := List.all_eq_true.mp h1 c hc
  rcases Bool.eq_false_or_eq_true (isCode c) with hi | hi
  · exact h2 c (List.mem_filter.mpr ⟨hc, hi⟩)
  · simpa [hi] using h
set_option maxRecDepth 65536 in
theorem w_c0 : (Jvm.Cond.code x code maxLocals ret).before args0 about1 = true := code_word (m := ⟨1, 2⟩) (meth := k1m2) (c := k1c2) (by decide +kernel) rfl rfl rfl (by decide +kernel)
set_option maxRecDepth 65536 in
theorem w_c1 : (Jvm.Cond.code ({ cls := "com/example/flashsafe/flashsafe/Latencies", name := "<init>", desc := "()V" } : Jvm.MethodName) prog_7_method_1_code (1 : Nat) (Option.none : Option Jvm.ClassFile.FieldType)).before args0 about1 = true := code_word (m := ⟨2, 0⟩) (meth := k2m0) (c := k2c0) (by decide +kernel) rfl rfl rfl (by decide +kernel)
set_option maxRecDepth 65536 in
theorem w_c2 : (Jvm.Cond.code ({ cls := "java/lang/Object", name := "<init>", desc := "()V" } : Jvm.MethodName) object_method_1_code (1 : Nat) (Option.none : Option Jvm.ClassFile.FieldType)).before args0 about1 = true := code_word (m := ⟨0, 0⟩) (meth := k0m0) (c := k0c0) (by decide +kernel) rfl rfl rfl (by decide +kernel)
set_option maxRecDepth 65536 in
theorem w_c3 : (Jvm.Cond.code ({ cls := "com/example/flashsafe/flashsafe/Latencies", name := "add", desc := "(J)V" } : Jvm.MethodName) prog_7_method_2_code (5 : Nat) (Option.none : Option Jvm.ClassFile.FieldType)).before args0 about1 = true := code_word (m := ⟨2, 1⟩) (meth := k2m1) (c := k2c1) (by decide +kernel) rfl rfl rfl (by decide +kernel)
set_option maxRecDepth 65536 in
theorem w_c4 : (Jvm.Cond.code ({ cls := "com/example/flashsafe/flashsafe/Latencies", name := "percentile", desc := "(I)J" } : Jvm.MethodName) prog_7_method_3_code (9 : Nat) (Option.some Jvm.ClassFile.FieldType.long)).before args0 about1 = true := code_word (m := ⟨2, 2⟩) (meth := k2m2) (c := k2c2) (by decide +kernel) rfl rfl rfl (by decide +kernel)
set_option maxRecDepth 65536 in
theorem w_c5 : (Jvm.Cond.code ({ cls := "com/example/flashsafe/flashsafe/LatenciesPercentilePinLaw", name := "tenths", desc := "(J)J" } : Jvm.MethodName) method_2_code (2 : Nat) (Option.some Jvm.ClassFile.FieldType.long)).before args0 about1 = true := code_word (m := ⟨1, 1⟩) (meth := k1m1) (c := k1c1) (by decide +kernel) rfl rfl rfl (by decide +kernel)
set_option maxRecDepth 65536 in
theorem w_c6 : (Jvm.Cond.code ({ cls := "java/lang/Math", name := "min", desc := "(JJ)J" } : Jvm.MethodName) jdk_29_method_70_code (4 : Nat) (Option.some Jvm.ClassFile.FieldType.long)).before args0 about1 = true := code_word (m := ⟨3, 3⟩) (meth := k3m3) (c := k3c3) (by decide +kernel) rfl rfl rfl (by decide +kernel)
set_option maxRecDepth 65536 in
theorem w_c7 : (Jvm.Cond.code ({ cls := "java/lang/Math", name := "max", desc := "(JJ)J" } : Jvm.MethodName) jdk_29_method_66_code (4 : Nat) (Option.some Jvm.ClassFile.FieldType.long)).before args0 about1 = true := code_word (m := ⟨3, 1⟩) (meth := k3m1) (c := k3c1) (by decide +kernel) rfl rfl rfl (by decide +kernel)
set_option maxRecDepth 65536 in
theorem w_c8 : (Jvm.Cond.code ({ cls := "java/util/Arrays", name := "copyOf", desc := "([JI)[J" } : Jvm.MethodName) jdk_65_method_124_code (3 : Nat) (Option.some (Jvm.ClassFile.FieldType.array Jvm.ClassFile.FieldType.long))).before args0 about1 = true := code_word (m := ⟨4, 1⟩) (meth := k4m1) (c := k4c1) (by decide +kernel) rfl rfl rfl (by decide +kernel)
set_option maxRecDepth 65536 in
theorem w_c9 : (Jvm.Cond.code ({ cls := "java/lang/Math", name := "min", desc := "(II)I" } : Jvm.MethodName) jdk_29_method_69_code (2 : Nat) (Option.some Jvm.ClassFile.FieldType.int)).before args0 about1 = true := code_word (m := ⟨3, 2⟩) (meth := k3m2) (c := k3c2) (by decide +kernel) rfl rfl rfl (by decide +kernel)
def codes1 : List Jvm.Cond := [Jvm.Cond.code x code maxLocals ret, Jvm.Cond.code ({ cls := "com/example/flashsafe/flashsafe/Latencies", name := "<init>", desc := "()V" } : Jvm.MethodName) prog_7_method_1_code (1 : Nat) (Option.none : Option Jvm.ClassFile.FieldType), Jvm.Cond.code ({ cls := "java/lang/Object", name := "<init>", desc := "()V" } : Jvm.MethodName) object_method_1_code (1 : Nat) (Option.none : Option Jvm.ClassFile.FieldType), Jvm.Cond.code ({ cls := "com/example/flashsafe/flashsafe/Latencies", name := "add", desc := "(J)V" } : Jvm.MethodName) prog_7_method_2_code (5 : Nat) (Option.none : Option Jvm.ClassFile.FieldType), Jvm.Cond.code ({ cls := "com/example/flashsafe/flashsafe/Latencies", name := "percentile", desc := "(I)J" } : Jvm.MethodName) prog_7_method_3_code (9 : Nat) (Option.some Jvm.ClassFile.FieldType.long), Jvm.Cond.code ({ cls := "com/example/flashsafe/flashsafe/LatenciesPercentilePinLaw", name := "tenths", desc := "(J)J" } : Jvm.MethodName) method_2_code (2 : Nat) (Option.some Jvm.ClassFile.FieldType.long), Jvm.Cond.code ({ cls := "java/lang/Math", name := "min", desc := "(JJ)J" } : Jvm.MethodName) jdk_29_method_70_code (4 : Nat) (Option.some Jvm.ClassFile.FieldType.long), Jvm.Cond.code ({ cls := "java/lang/Math", name := "max", desc := "(JJ)J" } : Jvm.MethodName) jdk_29_method_66_code (4 : Nat) (Option.some Jvm.ClassFile.FieldType.long), Jvm.Cond.code ({ cls := "java/util/Arrays", name := "copyOf", desc := "([JI)[J" } : Jvm.MethodName) jdk_65_method_124_code (3 : Nat) (Option.some (Jvm.ClassFile.FieldType.array Jvm.ClassFile.FieldType.long)), Jvm.Cond.code ({ cls := "java/lang/Math", name := "min", desc := "(II)I" } : Jvm.MethodName) jdk_29_method_69_code (2 : Nat) (Option.some Jvm.ClassFile.FieldType.int)]
set_option maxRecDepth 65536 in
theorem codes_eq : words1.filter isCode = codes1 := rfl
theorem w_codes : ∀ c ∈ words1.filter isCode, c.before args0 about1 = true := by
  rw [codes_eq]
  intro c hc
  simp only [codes1, List.mem_cons, List.not_mem_nil, or_false] at hc
  rcases hc with rfl | rfl | rfl | rfl | rfl | rfl | rfl | rfl | rfl | rfl
  · exact w_c0
  · exact w_c1
  · exact w_c2
  · exact w_c3
  · exact w_c4
  · exact w_c5
  · exact w_c6
  · exact w_c7
  · exact w_c8
  · exact w_c9
set_option maxRecDepth 65536 in
theorem w_t1 : (words1.take 24).all (fun c => isCode c || c.before args0 about1) = true := by decide +kernel
set_option maxRecDepth 65536 in
theorem w_t2 : ((words1.drop 24).take 24).all (fun c => isCode c || c.before args0 about1) = true := by decide +kernel
set_option maxRecDepth 65536 in
theorem w_t3 : ((words1.drop 24).drop 24).all (fun c => isCode c || c.before args0 about1) = true := by decide +kernel
theorem w_tables : (allAtoms (Jvm.Cond.code x code maxLocals ret :: tables_1)).before args0 about1 = true := by
  rw [allAtoms_all]
  show words1.all (fun c => c.before args0 about1) = true
  refine all_split ?_ w_codes
  rw [← List.take_append_drop 24 words1, List.all_append, w_t1, ← List.take_append_drop 24 (words1.drop 24), List.all_append, w_t2, w_t3]
  rfl
set_option maxRecDepth 65536 in
theorem w_case : (Jvm.Cond.and given_1 narrow_1).before args0 about1 = true := by decide +kernel
theorem w_applies : (headSpec (Jvm.Cond.code x code maxLocals ret :: tables_1) room_1).applies x e0.platform about1 = true :=
  (Spec.applies_iff w_frames).mpr ⟨w_running, w_runnable, w_alone, w_named, w_hears, w_ripe, w_room, w_tables⟩
theorem atStart : AtStart classFile x code maxLocals ret World_1 tables_1 room_1 Calls_1 rest_1 Pre_1 launch0 p0 e0 about1 theMethod args0 below0 :=
  ⟨lists_1, trivial, launch0.admits_env _ _ _, launch0.least_env, fairChoices_fair.cas, fairChoices_fair.clock, w_frames, w_args, w_heap, w_applies, trivial, trivial, w_case⟩
end start1
theorem witness_1 : WitnessClaimed_1 := ⟨start1.p0, start1.e0, start1.about1, start1.theMethod, start1.args0, start1.below0, start1.atStart⟩
end Jvm.Pilot.@@N@@
