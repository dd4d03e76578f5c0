import JvmDerived
import JvmDerived.Pilot.@@N@@Statement
import JvmDerived.Pilot.@@N@@Code
set_option linter.unusedVariables false
set_option linter.unusedSimpArgs false
namespace Jvm.RoadKit
open Sem ClassFile Op Lib Jvm.Stand Jvm.Free Jvm.LawKit
section New
variable {p : Program} {l : Launch} {e : Env} {R : Room} {s : State} {m : MethodId} {args : Array Value} {below : List Frame} {meth : Method} {c : Code} {T : State} {locs : List Loc} {cells slots : Nat}
theorem retI (X : Stand p l e R s m args below meth c T locs cells slots) (hx : p.tables.exec = Jvm.exec) {pc : Nat} {Ls : Array Slot} {z : Int32} {rest : List Value} (hret : meth.sig.returnType = some .int) (hd : decode c.code pc = .ok (.ireturn, 1)) {fs : List Frame}
    (hl : ∀ (f : JFrame) (acts : List Action), f.method = m → f.locked = none → f.entered = [] → (doReturn e (T.setTop f) acts (some (.int z))).1 = T.setFrames fs) : Steps p.tables e below (T.setTop (mkF m pc Ls (.int z :: rest))) (T.setFrames fs) :=
  retOut X hx hret rfl (Or.inl ⟨rfl, Or.inl rfl, _, rfl⟩) hd hl
theorem own_retL (X : Stand p l e R s m args below meth c T locs cells slots) (hx : p.tables.exec = Jvm.exec) {pc : Nat} {Ls : Array Slot} {z : Int64} {rest : List Value} (hret : meth.sig.returnType = some .long) (hd : decode c.code pc = .ok (.lreturn, 1)) {fs : List Frame}
    (hl : ∀ (f : JFrame) (acts : List Action), f.method = m → f.locked = none → f.entered = [] → (doReturn e (T.setTop f) acts (some (.long z))).1 = T.setFrames fs) : Steps p.tables e below (T.setTop (mkF m pc Ls (.long z :: rest))) (T.setFrames fs) :=
  retOut X hx hret rfl (Or.inr (Or.inl ⟨rfl, rfl, _, rfl⟩)) hd hl
theorem own_retA (X : Stand p l e R s m args below meth c T locs cells slots) (hx : p.tables.exec = Jvm.exec) {pc : Nat} {Ls : Array Slot} {z : Addr} {rest : List Value} {t : FieldType} (hret : meth.sig.returnType = some t) (ht : t.isReference = true) (hd : decode c.code pc = .ok (.areturn, 1)) {fs : List Frame}
    (hl : ∀ (f : JFrame) (acts : List Action), f.method = m → f.locked = none → f.entered = [] → (doReturn e (T.setTop f) acts (some (.ref z))).1 = T.setFrames fs) : Steps p.tables e below (T.setTop (mkF m pc Ls (.ref z :: rest))) (T.setFrames fs) :=
  retOut X hx hret (by cases t <;> first | rfl | (cases ht; done)) (Or.inr (Or.inr (Or.inr (Or.inr ⟨rfl, ht, rfl⟩)))) hd hl
theorem own_lrem {g : JFrame} {target : State} (X : Stand p l e R s m args below meth c T locs cells slots) (hx : p.tables.exec = Jvm.exec) (hg : g.method = m) {x y : Int64} {rest : List Value} (hd : decode c.code g.pc = .ok (.lrem, 1)) (hs : g.stack = .long y :: .long x :: rest) (hy : y ≠ 0)
    (hr : Steps p.tables e below (T.setTop { g with pc := g.pc + 1, stack := .long (x % y) :: rest }) target) : Steps p.tables e below (T.setTop g) target :=
  XS.lrem X.here hx hg hd hs hy (by rw [lrem_mod]; exact hr)
end New
/-- one step of a walk whose end is still to be found -/
theorem own_by {tb : Tables} {e : Env} {below : List Frame} {A A' : State} {P : State → Outcome → Prop} (k : ∀ t, Steps tb e below A' t → Steps tb e below A t) (h : ∃ s₂ o, Steps tb e below A' s₂ ∧ P s₂ o) : ∃ s₂ o, Steps tb e below A s₂ ∧ P s₂ o := by
  obtain ⟨s₂, o, h1, h2⟩ := h; exact ⟨s₂, o, k _ h1, h2⟩
theorem own_st {tb : Tables} {e : Env} {below : List Frame} {A A' t : State} (k : ∀ t, Steps tb e below A' t → Steps tb e below A t) (h : Steps tb e below A' t) : Steps tb e below A t := k _ h
/-- all roads that meet again -/
theorem own_cut {tb : Tables} {e : Env} {below : List Frame} {A : State} {P : State → Outcome → Prop} {Φ : State → Prop} (h1 : (∀ A', Φ A' → ∃ s₂ o, Steps tb e below A' s₂ ∧ P s₂ o) → ∃ s₂ o, Steps tb e below A s₂ ∧ P s₂ o) (h2 : ∀ A', Φ A' → ∃ s₂ o, Steps tb e below A' s₂ ∧ P s₂ o) : ∃ s₂ o, Steps tb e below A s₂ ∧ P s₂ o := h1 h2
/-- an array: its kind, its length, and what each place holds -/
def AF (Z : State) (h : Heap) (a : Addr) (ty : FieldType) (n : Int32) (f : Nat → Value) : Prop := ∃ c : Cell, Arr Z h a c ty ∧ c.slots.size = n.toNatClampNeg ∧ ¬ n < 0 ∧ ∀ i, i < c.slots.size → c.slots[i]? = some (f i)
section AFs
variable {Z : State} {h h' : Heap} {a b : Addr} {ty : FieldType} {n : Int32} {f f' : Nat → Value} {v : Value} {sl : Nat} {ws : List Addr}
theorem AF.lt (F : AF Z h a ty n f) : a < h.size := by obtain ⟨c, A, -⟩ := F; exact A.lt
theorem AF.ext (F : AF Z h a ty n f) (E : Ext h h') : AF Z h' a ty n f := by obtain ⟨c, A, r⟩ := F; exact ⟨c, A.ext E, r⟩
theorem AF.other (F : AF Z h b ty n f) (W : Wr h h' a sl v) (q : b ≠ a) : AF Z h' b ty n f := by obtain ⟨c, A, r⟩ := F; exact ⟨c, A.other W q, r⟩
theorem AF.keep (F : AF Z h a ty n f) (K : Keep h h' ws) (q : a ∉ ws) : AF Z h' a ty n f := by obtain ⟨c, A, r⟩ := F; exact ⟨c, ⟨K.2.1 a c A.1 q, A.2⟩, r⟩
theorem AF.to (F : AF Z h a ty n f) (q : ∀ i, i < n.toNatClampNeg → f i = f' i) : AF Z h a ty n f' := by
  obtain ⟨c, A, S, M, H⟩ := F; exact ⟨c, A, S, M, fun i hi => by rw [← q i (S ▸ hi)]; exact H i hi⟩
theorem AF.new {k : ClassId} (A : Arr Z h a (newA k ty n) ty) (q : ¬ n < 0) : AF Z h a ty n (fun _ => defaultValue ty) := ⟨_, A, sz_new _ _ _, q, fun i hi => by rw [sz_new] at hi; simp [newA, hi]⟩
theorem AF.set {c : Cell} {j : Int32} (A : Arr Z h a c ty) (S : c.slots.size = n.toNatClampNeg) (M : ¬ n < 0) (H : ∀ i, i < c.slots.size → c.slots[i]? = some (f i)) (hj : ¬ (j < 0 ∨ c.slots.size ≤ j.toNatClampNeg)) (W : Wr h h' a j.toNatClampNeg v) :
    AF Z h' a ty n (fun i => if i = j.toNatClampNeg then v else f i) := by
  refine ⟨_, A.same W, by rw [sz_set]; exact S, M, fun i hi => ?_⟩
  rw [sz_set] at hi
  have hj' : j.toNatClampNeg < c.slots.size := Nat.lt_of_not_le fun q => hj (Or.inr q)
  by_cases u : i = j.toNatClampNeg
  · subst u; simp [Cell.setSlot, hj']
  · have := H i hi; simp only [Cell.setSlot, if_neg u]
    rw [Array.getElem?_setIfInBounds_ne (Ne.symm u)]; exact this
end AFs
end Jvm.RoadKit
namespace Jvm.Pilot.@@N@@
open Jvm Jvm.ClassFile Sem Op Lib Jvm.Free Jvm.Stand Jvm.LawKit Jvm.RoadKit Bundle Jvm.Pilot.@@N@@.Jvm.D
def own_f1 (q0 : Int64) (q1 : Int64) (q2 : Int64) (q3 : Int64) : Int64 := (if (q1 + q3) < (1000000000000000000 : Int64) then (q0 + q2) else ((q0 + q2) + (1 : Int64)))
theorem pn_0 : plainName "com/example/matchline/matchline/decimal/Nanos" = true := by first | (simp [plainName, overriddenIn]; done) | decide +kernel
theorem d1_0 : decode prog_1_method_9_code 0 = .ok (.lload_n 2, 1) := by decide +kernel
theorem d1_1 : decode prog_1_method_9_code 1 = .ok (.lload 6, 2) := by decide +kernel
theorem d1_3 : decode prog_1_method_9_code 3 = .ok (.ladd, 1) := by decide +kernel
theorem d1_4 : decode prog_1_method_9_code 4 = .ok (.ldc2_w 17, 3) := by decide +kernel
theorem d1_7 : decode prog_1_method_9_code 7 = .ok (.lcmp, 1) := by decide +kernel
theorem d1_8 : decode prog_1_method_9_code 8 = .ok (.ifCond .lt 12, 3) := by decide +kernel
theorem d1_11 : decode prog_1_method_9_code 11 = .ok (.lload_n 0, 1) := by decide +kernel
theorem d1_12 : decode prog_1_method_9_code 12 = .ok (.lload 4, 2) := by decide +kernel
theorem d1_14 : decode prog_1_method_9_code 14 = .ok (.ladd, 1) := by decide +kernel
theorem d1_15 : decode prog_1_method_9_code 15 = .ok (.lconst 1, 1) := by decide +kernel
theorem d1_16 : decode prog_1_method_9_code 16 = .ok (.ladd, 1) := by decide +kernel
theorem d1_17 : decode prog_1_method_9_code 17 = .ok (.goto 7, 3) := by decide +kernel
theorem d1_20 : decode prog_1_method_9_code 20 = .ok (.lload_n 0, 1) := by decide +kernel
theorem d1_21 : decode prog_1_method_9_code 21 = .ok (.lload 4, 2) := by decide +kernel
theorem d1_23 : decode prog_1_method_9_code 23 = .ok (.ladd, 1) := by decide +kernel
theorem d1_24 : decode prog_1_method_9_code 24 = .ok (.lreturn, 1) := by decide +kernel
theorem ef_rm1 (m : MethodId) (q0 : Int64) (q1 : Int64) (q2 : Int64) (q3 : Int64) : entryFrame m #[(.long q0), (.long q1), (.long q2), (.long q3)] 8 = mkF m 0 #[.val (.long q0), .second, .val (.long q1), .second, .val (.long q2), .second, .val (.long q3), .second] [] := by first | (simp [entryFrame, mkF, argsToLocals, Value.category]; done) | rfl
def Q1 (Z : State) (q0 : Int64) (q1 : Int64) (q2 : Int64) (q3 : Int64) (h0 : Heap) (n0 : Nat) (v : Option Value) (h : Heap) (L : List Loc) : Prop := v = some (.long (own_f1 q0 q1 q2 q3)) ∧ Fr n0 L ∧ h = h0
set_option maxRecDepth 65536 in
set_option maxHeartbeats 40000000 in
theorem rm1 (l : Launch) (Z : State) (aw : Array Value) (hw : ∀ d ∈ tables_1, d.before aw Z = true) (ws : List Jvm.Cond) (q0 : Int64) (q1 : Int64) (q2 : Int64) (q3 : Int64) (h0 : Heap) (n0 : Nat) (Z0 : n0 ≤ h0.size) :
    MetFree l (⟨"com/example/matchline/matchline/decimal/Nanos", "sumHigh", "(JJJJ)J"⟩ : MethodName) (head1 (Jvm.Cond.code (⟨"com/example/matchline/matchline/decimal/Nanos", "sumHigh", "(JJJJ)J"⟩ : MethodName) prog_1_method_9_code 8 (some .long) :: ws) ({ frames := 0, cells := 0, slots := 0, locals := 0 } : Room)) (fun a U => a = #[(.long q0), (.long q1), (.long q2), (.long q3)] ∧ Z.Warmed39 U.vm ∧ U.heap = h0) (fun _ _ _ _ _ => True) (fun _ U o U' => ∃ v L, o = .returned v ∧ Q1 Z q0 q1 q2 q3 h0 n0 v U'.heap L ∧ FrameEnd U o U' L ({ frames := 0, cells := 0, slots := 0, locals := 0 } : Room).cells ({ frames := 0, cells := 0, slots := 0, locals := 0 } : Room).slots) := by
  refine MetFree.of_bodySF (plainFor_of_name pn_0) hisR ?_
  intro p e s m args below meth c s₁ Bd hml0 hP hK
  obtain ⟨rfl, hZ, hh⟩ := hP
  have hx := Bd.exec
  have hby := Bd.bytes
  have hml : c.maxLocals = 8 := hml0
  have hown : s.vm.findClass "com/example/matchline/matchline/decimal/Nanos" = some m.cls := findClass_of_methodNamed Bd.named
  have hnm := (name_of_methodNamed Bd.named Bd.method).1
  have X0 : Stand p l e ({ frames := 0, cells := 0, slots := 0, locals := 0 } : Room) s m #[(.long q0), (.long q1), (.long q2), (.long q3)] below meth c s₁ [] 0 0 := Stand.of_body Bd
  have e0 : s₁.heap = h0 := by rw [← hh, Bd.state]; rfl
  have N0 := Fr.nil n0
  have K0 : Keep h0 h0 [] := Keep.refl _ _
  refine own_by (A' := s₁.setTop (mkF m 0 #[.val (.long q0), .second, .val (.long q1), .second, .val (.long q2), .second, .val (.long q3), .second] [])) (fun t k => castTop (ef_rm1 m q0 q1 q2 q3) k) ?_
  refine own_by (A' := s₁.setTop (mkF m 8 #[.val (.long q0), .second, .val (.long q1), .second, .val (.long q2), .second, .val (.long q3), .second] [(.int (lcmpW (q1 + q3) (1000000000000000000 : Int64)))])) (fun t kt => ?_) ?_
  · show Steps p.tables e below (s₁.setTop (mkF m 0 #[.val (.long q0), .second, .val (.long q1), .second, .val (.long q2), .second, .val (.long q3), .second] [])) t
    refine XS.lloadN X0.here hx rfl (hb hby d1_0) rfl ?_
    show Steps p.tables e below (s₁.setTop (mkF m 1 #[.val (.long q0), .second, .val (.long q1), .second, .val (.long q2), .second, .val (.long q3), .second] [(.long q1)])) t
    refine XS.lload X0.here hx rfl (hb hby d1_1) rfl ?_
    show Steps p.tables e below (s₁.setTop (mkF m 3 #[.val (.long q0), .second, .val (.long q1), .second, .val (.long q2), .second, .val (.long q3), .second] [(.long q3), (.long q1)])) t
    refine XS.ladd X0.here hx rfl (hb hby d1_3) rfl ?_
    show Steps p.tables e below (s₁.setTop (mkF m 4 #[.val (.long q0), .second, .val (.long q1), .second, .val (.long q2), .second, .val (.long q3), .second] [(.long (q1 + q3))])) t
    refine X0.ldc2Long hx hown (mvT hZ (hw _ (List.mem_of_getElem? (i := 6) rfl))) (g := (mkF m 4 #[.val (.long q0), .second, .val (.long q1), .second, .val (.long q2), .second, .val (.long q3), .second] [(.long (q1 + q3))])) rfl (hb hby d1_4) _ ?_
    show Steps p.tables e below (s₁.setTop (mkF m 7 #[.val (.long q0), .second, .val (.long q1), .second, .val (.long q2), .second, .val (.long q3), .second] [(.long (1000000000000000000 : Int64)), (.long (q1 + q3))])) t
    refine XS.lcmp X0.here hx rfl (hb hby d1_7) rfl ?_
    exact kt
  by_cases hc8_1 : (q1 + q3) < (1000000000000000000 : Int64)
  · refine own_by (A' := s₁.setTop (mkF m 24 #[.val (.long q0), .second, .val (.long q1), .second, .val (.long q2), .second, .val (.long q3), .second] [(.long (q0 + q2))])) (fun t kt => ?_) ?_
    · show Steps p.tables e below (s₁.setTop (mkF m 8 #[.val (.long q0), .second, .val (.long q1), .second, .val (.long q2), .second, .val (.long q3), .second] [(.int (lcmpW (q1 + q3) (1000000000000000000 : Int64)))])) t
      refine XS.ifYes X0.here hx rfl (pc0 := 8) (pc' := 20) rfl (hb hby d1_8) rfl ((if0 _ _).trans (tlt ((lw_lt _ _).mpr hc8_1)).1) (by decide) (by decide) ?_
      show Steps p.tables e below (s₁.setTop (mkF m 20 #[.val (.long q0), .second, .val (.long q1), .second, .val (.long q2), .second, .val (.long q3), .second] [])) t
      refine XS.lloadN X0.here hx rfl (hb hby d1_20) rfl ?_
      show Steps p.tables e below (s₁.setTop (mkF m 21 #[.val (.long q0), .second, .val (.long q1), .second, .val (.long q2), .second, .val (.long q3), .second] [(.long q0)])) t
      refine XS.lload X0.here hx rfl (hb hby d1_21) rfl ?_
      show Steps p.tables e below (s₁.setTop (mkF m 23 #[.val (.long q0), .second, .val (.long q1), .second, .val (.long q2), .second, .val (.long q3), .second] [(.long q2), (.long q0)])) t
      refine XS.ladd X0.here hx rfl (hb hby d1_23) rfl ?_
      exact kt
    obtain ⟨fs, hr, hrun, hended, hW, hsame⟩ := X0.leave (v := some (.long (q0 + q2))) (fun h => by rw [Bd.returns] at h; cases h)
    refine ⟨_, _, ?_, hrun, hended, _, _, rfl, ?_, ⟨_, rfl⟩, hW, hsame.mono (by decide) (by decide)⟩
    · exact own_retL X0 hx Bd.returns (hb hby d1_24) hr
    · show Q1 Z q0 q1 q2 q3 h0 n0 _ s₁.heap _
      rw [e0]
      exact ⟨(by rw [own_f1, if_pos hc8_1]), N0, rfl⟩
  · refine own_by (A' := s₁.setTop (mkF m 24 #[.val (.long q0), .second, .val (.long q1), .second, .val (.long q2), .second, .val (.long q3), .second] [(.long ((q0 + q2) + (1 : Int64)))])) (fun t kt => ?_) ?_
    · show Steps p.tables e below (s₁.setTop (mkF m 8 #[.val (.long q0), .second, .val (.long q1), .second, .val (.long q2), .second, .val (.long q3), .second] [(.int (lcmpW (q1 + q3) (1000000000000000000 : Int64)))])) t
      refine XS.ifNo X0.here hx rfl (hb hby d1_8) rfl ((if0 _ _).trans (flt (fun q => hc8_1 ((lw_lt _ _).mp q))).1) ?_
      show Steps p.tables e below (s₁.setTop (mkF m 11 #[.val (.long q0), .second, .val (.long q1), .second, .val (.long q2), .second, .val (.long q3), .second] [])) t
      refine XS.lloadN X0.here hx rfl (hb hby d1_11) rfl ?_
      show Steps p.tables e below (s₁.setTop (mkF m 12 #[.val (.long q0), .second, .val (.long q1), .second, .val (.long q2), .second, .val (.long q3), .second] [(.long q0)])) t
      refine XS.lload X0.here hx rfl (hb hby d1_12) rfl ?_
      show Steps p.tables e below (s₁.setTop (mkF m 14 #[.val (.long q0), .second, .val (.long q1), .second, .val (.long q2), .second, .val (.long q3), .second] [(.long q2), (.long q0)])) t
      refine XS.ladd X0.here hx rfl (hb hby d1_14) rfl ?_
      show Steps p.tables e below (s₁.setTop (mkF m 15 #[.val (.long q0), .second, .val (.long q1), .second, .val (.long q2), .second, .val (.long q3), .second] [(.long (q0 + q2))])) t
      refine XS.lconst X0.here hx rfl (hb hby d1_15) ?_
      show Steps p.tables e below (s₁.setTop (mkF m 16 #[.val (.long q0), .second, .val (.long q1), .second, .val (.long q2), .second, .val (.long q3), .second] [(.long (1 : Int64)), (.long (q0 + q2))])) t
      refine XS.ladd X0.here hx rfl (hb hby d1_16) rfl ?_
      show Steps p.tables e below (s₁.setTop (mkF m 17 #[.val (.long q0), .second, .val (.long q1), .second, .val (.long q2), .second, .val (.long q3), .second] [(.long ((q0 + q2) + (1 : Int64)))])) t
      refine XS.goto X0.here hx rfl (pc0 := 17) (pc' := 24) rfl (hb hby d1_17) (by decide) (by decide) ?_
      exact kt
    obtain ⟨fs, hr, hrun, hended, hW, hsame⟩ := X0.leave (v := some (.long ((q0 + q2) + (1 : Int64)))) (fun h => by rw [Bd.returns] at h; cases h)
    refine ⟨_, _, ?_, hrun, hended, _, _, rfl, ?_, ⟨_, rfl⟩, hW, hsame.mono (by decide) (by decide)⟩
    · exact own_retL X0 hx Bd.returns (hb hby d1_24) hr
    · show Q1 Z q0 q1 q2 q3 h0 n0 _ s₁.heap _
      rw [e0]
      exact ⟨(by rw [own_f1, if_neg hc8_1]), N0, rfl⟩
def own_f2 (q0 : Int64) (q1 : Int64) : Int64 := (if (q0 + q1) < (1000000000000000000 : Int64) then (q0 + q1) else ((q0 + q1) - (1000000000000000000 : Int64)))
theorem d2_0 : decode prog_1_method_10_code 0 = .ok (.lload_n 0, 1) := by decide +kernel
theorem d2_1 : decode prog_1_method_10_code 1 = .ok (.lload_n 2, 1) := by decide +kernel
theorem d2_2 : decode prog_1_method_10_code 2 = .ok (.ladd, 1) := by decide +kernel
theorem d2_3 : decode prog_1_method_10_code 3 = .ok (.lstore 4, 2) := by decide +kernel
theorem d2_5 : decode prog_1_method_10_code 5 = .ok (.lload 4, 2) := by decide +kernel
theorem d2_7 : decode prog_1_method_10_code 7 = .ok (.ldc2_w 17, 3) := by decide +kernel
theorem d2_10 : decode prog_1_method_10_code 10 = .ok (.lcmp, 1) := by decide +kernel
theorem d2_11 : decode prog_1_method_10_code 11 = .ok (.ifCond .lt 12, 3) := by decide +kernel
theorem d2_14 : decode prog_1_method_10_code 14 = .ok (.lload 4, 2) := by decide +kernel
theorem d2_16 : decode prog_1_method_10_code 16 = .ok (.ldc2_w 17, 3) := by decide +kernel
theorem d2_19 : decode prog_1_method_10_code 19 = .ok (.lsub, 1) := by decide +kernel
theorem d2_20 : decode prog_1_method_10_code 20 = .ok (.goto 5, 3) := by decide +kernel
theorem d2_23 : decode prog_1_method_10_code 23 = .ok (.lload 4, 2) := by decide +kernel
theorem d2_25 : decode prog_1_method_10_code 25 = .ok (.lreturn, 1) := by decide +kernel
theorem ef_rm2 (m : MethodId) (q0 : Int64) (q1 : Int64) : entryFrame m #[(.long q0), (.long q1)] 6 = mkF m 0 #[.val (.long q0), .second, .val (.long q1), .second, .unset, .unset] [] := by first | (simp [entryFrame, mkF, argsToLocals, Value.category]; done) | rfl
def Q2 (Z : State) (q0 : Int64) (q1 : Int64) (h0 : Heap) (n0 : Nat) (v : Option Value) (h : Heap) (L : List Loc) : Prop := v = some (.long (own_f2 q0 q1)) ∧ Fr n0 L ∧ h = h0
set_option maxRecDepth 65536 in
set_option maxHeartbeats 40000000 in
theorem rm2 (l : Launch) (Z : State) (aw : Array Value) (hw : ∀ d ∈ tables_1, d.before aw Z = true) (ws : List Jvm.Cond) (q0 : Int64) (q1 : Int64) (h0 : Heap) (n0 : Nat) (Z0 : n0 ≤ h0.size) :
    MetFree l (⟨"com/example/matchline/matchline/decimal/Nanos", "sumLow", "(JJ)J"⟩ : MethodName) (head1 (Jvm.Cond.code (⟨"com/example/matchline/matchline/decimal/Nanos", "sumLow", "(JJ)J"⟩ : MethodName) prog_1_method_10_code 6 (some .long) :: ws) ({ frames := 0, cells := 0, slots := 0, locals := 0 } : Room)) (fun a U => a = #[(.long q0), (.long q1)] ∧ Z.Warmed39 U.vm ∧ U.heap = h0) (fun _ _ _ _ _ => True) (fun _ U o U' => ∃ v L, o = .returned v ∧ Q2 Z q0 q1 h0 n0 v U'.heap L ∧ FrameEnd U o U' L ({ frames := 0, cells := 0, slots := 0, locals := 0 } : Room).cells ({ frames := 0, cells := 0, slots := 0, locals := 0 } : Room).slots) := by
  refine MetFree.of_bodySF (plainFor_of_name pn_0) hisR ?_
  intro p e s m args below meth c s₁ Bd hml0 hP hK
  obtain ⟨rfl, hZ, hh⟩ := hP
  have hx := Bd.exec
  have hby := Bd.bytes
  have hml : c.maxLocals = 6 := hml0
  have hown : s.vm.findClass "com/example/matchline/matchline/decimal/Nanos" = some m.cls := findClass_of_methodNamed Bd.named
  have hnm := (name_of_methodNamed Bd.named Bd.method).1
  have X0 : Stand p l e ({ frames := 0, cells := 0, slots := 0, locals := 0 } : Room) s m #[(.long q0), (.long q1)] below meth c s₁ [] 0 0 := Stand.of_body Bd
  have e0 : s₁.heap = h0 := by rw [← hh, Bd.state]; rfl
  have N0 := Fr.nil n0
  have K0 : Keep h0 h0 [] := Keep.refl _ _
  refine own_by (A' := s₁.setTop (mkF m 0 #[.val (.long q0), .second, .val (.long q1), .second, .unset, .unset] [])) (fun t k => castTop (ef_rm2 m q0 q1) k) ?_
  refine own_by (A' := s₁.setTop (mkF m 11 #[.val (.long q0), .second, .val (.long q1), .second, .val (.long (q0 + q1)), .second] [(.int (lcmpW (q0 + q1) (1000000000000000000 : Int64)))])) (fun t kt => ?_) ?_
  · show Steps p.tables e below (s₁.setTop (mkF m 0 #[.val (.long q0), .second, .val (.long q1), .second, .unset, .unset] [])) t
    refine XS.lloadN X0.here hx rfl (hb hby d2_0) rfl ?_
    show Steps p.tables e below (s₁.setTop (mkF m 1 #[.val (.long q0), .second, .val (.long q1), .second, .unset, .unset] [(.long q0)])) t
    refine XS.lloadN X0.here hx rfl (hb hby d2_1) rfl ?_
    show Steps p.tables e below (s₁.setTop (mkF m 2 #[.val (.long q0), .second, .val (.long q1), .second, .unset, .unset] [(.long q1), (.long q0)])) t
    refine XS.ladd X0.here hx rfl (hb hby d2_2) rfl ?_
    show Steps p.tables e below (s₁.setTop (mkF m 3 #[.val (.long q0), .second, .val (.long q1), .second, .unset, .unset] [(.long (q0 + q1))])) t
    refine XS.lstore X0.here hx rfl (hb hby d2_3) rfl (l' := #[.val (.long q0), .second, .val (.long q1), .second, .val (.long (q0 + q1)), .second]) rfl ?_
    show Steps p.tables e below (s₁.setTop (mkF m 5 #[.val (.long q0), .second, .val (.long q1), .second, .val (.long (q0 + q1)), .second] [])) t
    refine XS.lload X0.here hx rfl (hb hby d2_5) rfl ?_
    show Steps p.tables e below (s₁.setTop (mkF m 7 #[.val (.long q0), .second, .val (.long q1), .second, .val (.long (q0 + q1)), .second] [(.long (q0 + q1))])) t
    refine X0.ldc2Long hx hown (mvT hZ (hw _ (List.mem_of_getElem? (i := 6) rfl))) (g := (mkF m 7 #[.val (.long q0), .second, .val (.long q1), .second, .val (.long (q0 + q1)), .second] [(.long (q0 + q1))])) rfl (hb hby d2_7) _ ?_
    show Steps p.tables e below (s₁.setTop (mkF m 10 #[.val (.long q0), .second, .val (.long q1), .second, .val (.long (q0 + q1)), .second] [(.long (1000000000000000000 : Int64)), (.long (q0 + q1))])) t
    refine XS.lcmp X0.here hx rfl (hb hby d2_10) rfl ?_
    exact kt
  by_cases hc11_1 : (q0 + q1) < (1000000000000000000 : Int64)
  · refine own_by (A' := s₁.setTop (mkF m 25 #[.val (.long q0), .second, .val (.long q1), .second, .val (.long (q0 + q1)), .second] [(.long (q0 + q1))])) (fun t kt => ?_) ?_
    · show Steps p.tables e below (s₁.setTop (mkF m 11 #[.val (.long q0), .second, .val (.long q1), .second, .val (.long (q0 + q1)), .second] [(.int (lcmpW (q0 + q1) (1000000000000000000 : Int64)))])) t
      refine XS.ifYes X0.here hx rfl (pc0 := 11) (pc' := 23) rfl (hb hby d2_11) rfl ((if0 _ _).trans (tlt ((lw_lt _ _).mpr hc11_1)).1) (by decide) (by decide) ?_
      show Steps p.tables e below (s₁.setTop (mkF m 23 #[.val (.long q0), .second, .val (.long q1), .second, .val (.long (q0 + q1)), .second] [])) t
      refine XS.lload X0.here hx rfl (hb hby d2_23) rfl ?_
      exact kt
    obtain ⟨fs, hr, hrun, hended, hW, hsame⟩ := X0.leave (v := some (.long (q0 + q1))) (fun h => by rw [Bd.returns] at h; cases h)
    refine ⟨_, _, ?_, hrun, hended, _, _, rfl, ?_, ⟨_, rfl⟩, hW, hsame.mono (by decide) (by decide)⟩
    · exact own_retL X0 hx Bd.returns (hb hby d2_25) hr
    · show Q2 Z q0 q1 h0 n0 _ s₁.heap _
      rw [e0]
      exact ⟨(by rw [own_f2, if_pos hc11_1]), N0, rfl⟩
  · refine own_by (A' := s₁.setTop (mkF m 25 #[.val (.long q0), .second, .val (.long q1), .second, .val (.long (q0 + q1)), .second] [(.long ((q0 + q1) - (1000000000000000000 : Int64)))])) (fun t kt => ?_) ?_
    · show Steps p.tables e below (s₁.setTop (mkF m 11 #[.val (.long q0), .second, .val (.long q1), .second, .val (.long (q0 + q1)), .second] [(.int (lcmpW (q0 + q1) (1000000000000000000 : Int64)))])) t
      refine XS.ifNo X0.here hx rfl (hb hby d2_11) rfl ((if0 _ _).trans (flt (fun q => hc11_1 ((lw_lt _ _).mp q))).1) ?_
      show Steps p.tables e below (s₁.setTop (mkF m 14 #[.val (.long q0), .second, .val (.long q1), .second, .val (.long (q0 + q1)), .second] [])) t
      refine XS.lload X0.here hx rfl (hb hby d2_14) rfl ?_
      show Steps p.tables e below (s₁.setTop (mkF m 16 #[.val (.long q0), .second, .val (.long q1), .second, .val (.long (q0 + q1)), .second] [(.long (q0 + q1))])) t
      refine X0.ldc2Long hx hown (mvT hZ (hw _ (List.mem_of_getElem? (i := 6) rfl))) (g := (mkF m 16 #[.val (.long q0), .second, .val (.long q1), .second, .val (.long (q0 + q1)), .second] [(.long (q0 + q1))])) rfl (hb hby d2_16) _ ?_
      show Steps p.tables e below (s₁.setTop (mkF m 19 #[.val (.long q0), .second, .val (.long q1), .second, .val (.long (q0 + q1)), .second] [(.long (1000000000000000000 : Int64)), (.long (q0 + q1))])) t
      refine XS.lsub X0.here hx rfl (hb hby d2_19) rfl ?_
      show Steps p.tables e below (s₁.setTop (mkF m 20 #[.val (.long q0), .second, .val (.long q1), .second, .val (.long (q0 + q1)), .second] [(.long ((q0 + q1) - (1000000000000000000 : Int64)))])) t
      refine XS.goto X0.here hx rfl (pc0 := 20) (pc' := 25) rfl (hb hby d2_20) (by decide) (by decide) ?_
      exact kt
    obtain ⟨fs, hr, hrun, hended, hW, hsame⟩ := X0.leave (v := some (.long ((q0 + q1) - (1000000000000000000 : Int64)))) (fun h => by rw [Bd.returns] at h; cases h)
    refine ⟨_, _, ?_, hrun, hended, _, _, rfl, ?_, ⟨_, rfl⟩, hW, hsame.mono (by decide) (by decide)⟩
    · exact own_retL X0 hx Bd.returns (hb hby d2_25) hr
    · show Q2 Z q0 q1 h0 n0 _ s₁.heap _
      rw [e0]
      exact ⟨(by rw [own_f2, if_neg hc11_1]), N0, rfl⟩
theorem own_rng (a : Int64) : 0 ≤ ((a &&& (9223372036854775807 : Int64)) % (1000000000000000000 : Int64)).toInt ∧ ((a &&& (9223372036854775807 : Int64)) % (1000000000000000000 : Int64)).toInt < 1000000000000000000 := by
  have h := c_maskL a 9223372036854775807 63 (by decide) (by decide)
  have e : (1000000000000000000 : Int64).toInt = 1000000000000000000 := by decide
  rw [Int64.toInt_mod, e, Int.tmod_eq_emod_of_nonneg (by omega)]
  omega
theorem own_carry (a x b y : Int64) : (own_f1 a x b y - a) - b = if x + y < (1000000000000000000 : Int64) then (0 : Int64) else (1 : Int64) := by
  apply Int64.toInt_inj.mp
  have e0 : (0 : Int64).toInt = 0 := by decide
  have e1 : (1 : Int64).toInt = 1 := by decide
  rw [own_f1]
  split
  · have h1 := c_ladd a b; have h2 := c_lsub (a + b) a; have h3 := c_lsub (a + b - a) b; have h4 := rng64 (a + b - a - b); omega
  · have h1 := c_ladd a b; have h0 := c_ladd (a + b) 1; have h2 := c_lsub (a + b + 1) a; have h3 := c_lsub (a + b + 1 - a) b; have h4 := rng64 (a + b + 1 - a - b); omega
theorem own_rest (x y : Int64) : (x + y) - (if x + y < (1000000000000000000 : Int64) then (0 : Int64) else (1 : Int64)) * (1000000000000000000 : Int64) = own_f2 x y := by
  rw [own_f2]
  by_cases h : x + y < (1000000000000000000 : Int64)
  · rw [if_pos h, if_pos h, show (0 : Int64) * 1000000000000000000 = 0 from by decide]; simp
  · rw [if_neg h, if_neg h, show (1 : Int64) * 1000000000000000000 = 1000000000000000000 from by decide]
theorem own_low (x y : Int64) (hx : 0 ≤ x.toInt ∧ x.toInt < 1000000000000000000) (hy : 0 ≤ y.toInt ∧ y.toInt < 1000000000000000000) : 0 ≤ (own_f2 x y).toInt ∧ (own_f2 x y).toInt < 1000000000000000000 := by
  have e : (1000000000000000000 : Int64).toInt = 1000000000000000000 := by decide
  have h1 := c_ladd x y
  have h2 := rng64 (x + y)
  have h3 := c_lsub (x + y) 1000000000000000000
  have h4 := rng64 (x + y - 1000000000000000000)
  rw [own_f2]
  by_cases h : x + y < (1000000000000000000 : Int64)
  · rw [if_pos h]; rw [Int64.lt_iff_toInt_lt, e] at h; omega
  · rw [if_neg h]; rw [Int64.lt_iff_toInt_lt, e] at h; omega
theorem pn_1 : plainName "com/example/matchline/matchline/decimal/NanosSumHighPinLaw" = true := by first | (simp [plainName, overriddenIn]; done) | decide +kernel
theorem pd_2 : parseMethodDescriptor "(JJJJ)J" = some ⟨[.long, .long, .long, .long], some .long⟩ := by decide +kernel
theorem pd_3 : parseMethodDescriptor "(JJ)J" = some ⟨[.long, .long], some .long⟩ := by decide +kernel
theorem ef_rm0 (m : MethodId) (q0 : Int64) (q1 : Int64) (q2 : Int64) (q3 : Int64) : entryFrame m #[(.long q0), (.long q1), (.long q2), (.long q3)] maxLocals = mkF m 0 #[.val (.long q0), .second, .val (.long q1), .second, .val (.long q2), .second, .val (.long q3), .second, .unset, .unset, .unset, .unset, .unset, .unset, .unset, .unset, .unset, .unset] [] := by first | (simp [entryFrame, mkF, argsToLocals, Value.category, maxLocals]; done) | rfl
def Q0 (Z : State) (q0 : Int64) (q1 : Int64) (q2 : Int64) (q3 : Int64) (h0 : Heap) (n0 : Nat) (v : Option Value) (h : Heap) (L : List Loc) : Prop := v = some (.int 1) ∧ Fr n0 L
set_option maxRecDepth 65536 in
set_option maxHeartbeats 40000000 in
theorem rm0 (l : Launch) (Z : State) (aw : Array Value) (hw : ∀ d ∈ tables_1, d.before aw Z = true) (ws : List Jvm.Cond) (q0 : Int64) (q1 : Int64) (q2 : Int64) (q3 : Int64) (h0 : Heap) (n0 : Nat) (Z0 : n0 ≤ h0.size) :
    MetFree l x (head1 (Jvm.Cond.code x code maxLocals ret :: ws) room_1) (fun a U => a = #[(.long q0), (.long q1), (.long q2), (.long q3)] ∧ Z.Warmed39 U.vm ∧ U.heap = h0) (fun _ _ _ _ _ => True) (fun _ U o U' => ∃ v L, o = .returned v ∧ Q0 Z q0 q1 q2 q3 h0 n0 v U'.heap L ∧ FrameEnd U o U' L 0 0) := by
  refine MetFree.of_bodySF (plainFor_of_name pn_1) hisR ?_
  intro p e s m args below meth c s₁ Bd hml0 hP hK
  obtain ⟨rfl, hZ, hh⟩ := hP
  have hx := Bd.exec
  have hby := Bd.bytes
  have hml : c.maxLocals = 18 := hml0
  have hown : s.vm.findClass "com/example/matchline/matchline/decimal/NanosSumHighPinLaw" = some m.cls := findClass_of_methodNamed Bd.named
  have hnm := (name_of_methodNamed Bd.named Bd.method).1
  have X0 : Stand p l e room_1 s m #[(.long q0), (.long q1), (.long q2), (.long q3)] below meth c s₁ [] 0 0 := Stand.of_body Bd
  have e0 : s₁.heap = h0 := by rw [← hh, Bd.state]; rfl
  have N0 := Fr.nil n0
  have K0 : Keep h0 h0 [] := Keep.refl _ _
  refine own_by (A' := s₁.setTop (mkF m 0 #[.val (.long q0), .second, .val (.long q1), .second, .val (.long q2), .second, .val (.long q3), .second, .unset, .unset, .unset, .unset, .unset, .unset, .unset, .unset, .unset, .unset] [])) (fun t k => castTop (ef_rm0 m q0 q1 q2 q3) k) ?_
  refine own_by (A' := s₁.setTop (mkF m 11 #[.val (.long q0), .second, .val (.long q1), .second, .val (.long q2), .second, .val (.long q3), .second, .val (.long ((q1 &&& (9223372036854775807 : Int64)) % (1000000000000000000 : Int64))), .second, .unset, .unset, .unset, .unset, .unset, .unset, .unset, .unset] [])) (fun t kt => ?_) ?_
  · show Steps p.tables e below (s₁.setTop (mkF m 0 #[.val (.long q0), .second, .val (.long q1), .second, .val (.long q2), .second, .val (.long q3), .second, .unset, .unset, .unset, .unset, .unset, .unset, .unset, .unset, .unset, .unset] [])) t
    refine XS.lloadN X0.here hx rfl (hb hby at_0) rfl ?_
    show Steps p.tables e below (s₁.setTop (mkF m 1 #[.val (.long q0), .second, .val (.long q1), .second, .val (.long q2), .second, .val (.long q3), .second, .unset, .unset, .unset, .unset, .unset, .unset, .unset, .unset, .unset, .unset] [(.long q1)])) t
    refine X0.ldc2Long hx hown (mvT hZ (hw _ (List.mem_of_getElem? (i := 0) rfl))) (g := (mkF m 1 #[.val (.long q0), .second, .val (.long q1), .second, .val (.long q2), .second, .val (.long q3), .second, .unset, .unset, .unset, .unset, .unset, .unset, .unset, .unset, .unset, .unset] [(.long q1)])) rfl (hb hby at_1) _ ?_
    show Steps p.tables e below (s₁.setTop (mkF m 4 #[.val (.long q0), .second, .val (.long q1), .second, .val (.long q2), .second, .val (.long q3), .second, .unset, .unset, .unset, .unset, .unset, .unset, .unset, .unset, .unset, .unset] [(.long (9223372036854775807 : Int64)), (.long q1)])) t
    refine XS.land X0.here hx rfl (hb hby at_4) rfl ?_
    show Steps p.tables e below (s₁.setTop (mkF m 5 #[.val (.long q0), .second, .val (.long q1), .second, .val (.long q2), .second, .val (.long q3), .second, .unset, .unset, .unset, .unset, .unset, .unset, .unset, .unset, .unset, .unset] [(.long (q1 &&& (9223372036854775807 : Int64)))])) t
    refine X0.ldc2Long hx hown (mvT hZ (hw _ (List.mem_of_getElem? (i := 1) rfl))) (g := (mkF m 5 #[.val (.long q0), .second, .val (.long q1), .second, .val (.long q2), .second, .val (.long q3), .second, .unset, .unset, .unset, .unset, .unset, .unset, .unset, .unset, .unset, .unset] [(.long (q1 &&& (9223372036854775807 : Int64)))])) rfl (hb hby at_5) _ ?_
    show Steps p.tables e below (s₁.setTop (mkF m 8 #[.val (.long q0), .second, .val (.long q1), .second, .val (.long q2), .second, .val (.long q3), .second, .unset, .unset, .unset, .unset, .unset, .unset, .unset, .unset, .unset, .unset] [(.long (1000000000000000000 : Int64)), (.long (q1 &&& (9223372036854775807 : Int64)))])) t
    refine own_lrem X0 hx rfl (hb hby at_8) rfl (by decide) ?_
    show Steps p.tables e below (s₁.setTop (mkF m 9 #[.val (.long q0), .second, .val (.long q1), .second, .val (.long q2), .second, .val (.long q3), .second, .unset, .unset, .unset, .unset, .unset, .unset, .unset, .unset, .unset, .unset] [(.long ((q1 &&& (9223372036854775807 : Int64)) % (1000000000000000000 : Int64)))])) t
    refine XS.lstore X0.here hx rfl (hb hby at_9) rfl (l' := #[.val (.long q0), .second, .val (.long q1), .second, .val (.long q2), .second, .val (.long q3), .second, .val (.long ((q1 &&& (9223372036854775807 : Int64)) % (1000000000000000000 : Int64))), .second, .unset, .unset, .unset, .unset, .unset, .unset, .unset, .unset]) rfl ?_
    exact kt
  generalize h_vx : ((q1 &&& (9223372036854775807 : Int64)) % (1000000000000000000 : Int64)) = vx
  have hvx := own_rng q1
  rw [h_vx] at hvx
  refine own_by (A' := s₁.setTop (mkF m 23 #[.val (.long q0), .second, .val (.long q1), .second, .val (.long q2), .second, .val (.long q3), .second, .val (.long vx), .second, .val (.long ((q3 &&& (9223372036854775807 : Int64)) % (1000000000000000000 : Int64))), .second, .unset, .unset, .unset, .unset, .unset, .unset] [])) (fun t kt => ?_) ?_
  · show Steps p.tables e below (s₁.setTop (mkF m 11 #[.val (.long q0), .second, .val (.long q1), .second, .val (.long q2), .second, .val (.long q3), .second, .val (.long vx), .second, .unset, .unset, .unset, .unset, .unset, .unset, .unset, .unset] [])) t
    refine XS.lload X0.here hx rfl (hb hby at_11) rfl ?_
    show Steps p.tables e below (s₁.setTop (mkF m 13 #[.val (.long q0), .second, .val (.long q1), .second, .val (.long q2), .second, .val (.long q3), .second, .val (.long vx), .second, .unset, .unset, .unset, .unset, .unset, .unset, .unset, .unset] [(.long q3)])) t
    refine X0.ldc2Long hx hown (mvT hZ (hw _ (List.mem_of_getElem? (i := 0) rfl))) (g := (mkF m 13 #[.val (.long q0), .second, .val (.long q1), .second, .val (.long q2), .second, .val (.long q3), .second, .val (.long vx), .second, .unset, .unset, .unset, .unset, .unset, .unset, .unset, .unset] [(.long q3)])) rfl (hb hby at_13) _ ?_
    show Steps p.tables e below (s₁.setTop (mkF m 16 #[.val (.long q0), .second, .val (.long q1), .second, .val (.long q2), .second, .val (.long q3), .second, .val (.long vx), .second, .unset, .unset, .unset, .unset, .unset, .unset, .unset, .unset] [(.long (9223372036854775807 : Int64)), (.long q3)])) t
    refine XS.land X0.here hx rfl (hb hby at_16) rfl ?_
    show Steps p.tables e below (s₁.setTop (mkF m 17 #[.val (.long q0), .second, .val (.long q1), .second, .val (.long q2), .second, .val (.long q3), .second, .val (.long vx), .second, .unset, .unset, .unset, .unset, .unset, .unset, .unset, .unset] [(.long (q3 &&& (9223372036854775807 : Int64)))])) t
    refine X0.ldc2Long hx hown (mvT hZ (hw _ (List.mem_of_getElem? (i := 1) rfl))) (g := (mkF m 17 #[.val (.long q0), .second, .val (.long q1), .second, .val (.long q2), .second, .val (.long q3), .second, .val (.long vx), .second, .unset, .unset, .unset, .unset, .unset, .unset, .unset, .unset] [(.long (q3 &&& (9223372036854775807 : Int64)))])) rfl (hb hby at_17) _ ?_
    show Steps p.tables e below (s₁.setTop (mkF m 20 #[.val (.long q0), .second, .val (.long q1), .second, .val (.long q2), .second, .val (.long q3), .second, .val (.long vx), .second, .unset, .unset, .unset, .unset, .unset, .unset, .unset, .unset] [(.long (1000000000000000000 : Int64)), (.long (q3 &&& (9223372036854775807 : Int64)))])) t
    refine own_lrem X0 hx rfl (hb hby at_20) rfl (by decide) ?_
    show Steps p.tables e below (s₁.setTop (mkF m 21 #[.val (.long q0), .second, .val (.long q1), .second, .val (.long q2), .second, .val (.long q3), .second, .val (.long vx), .second, .unset, .unset, .unset, .unset, .unset, .unset, .unset, .unset] [(.long ((q3 &&& (9223372036854775807 : Int64)) % (1000000000000000000 : Int64)))])) t
    refine XS.lstore X0.here hx rfl (hb hby at_21) rfl (l' := #[.val (.long q0), .second, .val (.long q1), .second, .val (.long q2), .second, .val (.long q3), .second, .val (.long vx), .second, .val (.long ((q3 &&& (9223372036854775807 : Int64)) % (1000000000000000000 : Int64))), .second, .unset, .unset, .unset, .unset, .unset, .unset]) rfl ?_
    exact kt
  generalize h_vy : ((q3 &&& (9223372036854775807 : Int64)) % (1000000000000000000 : Int64)) = vy
  have hvy := own_rng q3
  rw [h_vy] at hvy
  refine own_by (A' := s₁.setTop (mkF m 30 #[.val (.long q0), .second, .val (.long q1), .second, .val (.long q2), .second, .val (.long q3), .second, .val (.long vx), .second, .val (.long vy), .second, .unset, .unset, .unset, .unset, .unset, .unset] [(.long vy), (.long q2), (.long vx), (.long q0)])) (fun t kt => ?_) ?_
  · show Steps p.tables e below (s₁.setTop (mkF m 23 #[.val (.long q0), .second, .val (.long q1), .second, .val (.long q2), .second, .val (.long q3), .second, .val (.long vx), .second, .val (.long vy), .second, .unset, .unset, .unset, .unset, .unset, .unset] [])) t
    refine XS.lloadN X0.here hx rfl (hb hby at_23) rfl ?_
    show Steps p.tables e below (s₁.setTop (mkF m 24 #[.val (.long q0), .second, .val (.long q1), .second, .val (.long q2), .second, .val (.long q3), .second, .val (.long vx), .second, .val (.long vy), .second, .unset, .unset, .unset, .unset, .unset, .unset] [(.long q0)])) t
    refine XS.lload X0.here hx rfl (hb hby at_24) rfl ?_
    show Steps p.tables e below (s₁.setTop (mkF m 26 #[.val (.long q0), .second, .val (.long q1), .second, .val (.long q2), .second, .val (.long q3), .second, .val (.long vx), .second, .val (.long vy), .second, .unset, .unset, .unset, .unset, .unset, .unset] [(.long vx), (.long q0)])) t
    refine XS.lload X0.here hx rfl (hb hby at_26) rfl ?_
    show Steps p.tables e below (s₁.setTop (mkF m 28 #[.val (.long q0), .second, .val (.long q1), .second, .val (.long q2), .second, .val (.long q3), .second, .val (.long vx), .second, .val (.long vy), .second, .unset, .unset, .unset, .unset, .unset, .unset] [(.long q2), (.long vx), (.long q0)])) t
    refine XS.lload X0.here hx rfl (hb hby at_28) rfl ?_
    exact kt
  obtain ⟨_, _, ⟨T1, L1, k1, n1⟩, -, X1, ⟨Lc1, hQ1, l1, y1, z1⟩, st1⟩ := Jvm.LawKit.callS X0 hx (y := (⟨"com/example/matchline/matchline/decimal/Nanos", "sumHigh", "(JJJJ)J"⟩ : MethodName)) hown (mvT hZ (hw _ (List.mem_of_getElem? (i := 2) rfl))) (mvT hZ (hw _ (List.mem_of_getElem? (i := 3) rfl))) (mvT hZ (hw _ (List.mem_of_getElem? (i := 4) rfl))) (mvT hZ (hw _ (List.mem_of_getElem? (i := 5) rfl))) (by decide) (backOf (W := 0) (rm1 l Z aw hw [] q0 vx q2 vy h0 n0 (Nat.le_trans Z0 K0.1) ) hZ (hw _ (List.mem_of_getElem? (i := 5) rfl)) (hw _ (List.mem_of_getElem? (i := 4) rfl)) (by decide) (by decide)) (g := (mkF m 30 #[.val (.long q0), .second, .val (.long q1), .second, .val (.long q2), .second, .val (.long q3), .second, .val (.long vx), .second, .val (.long vy), .second, .unset, .unset, .unset, .unset, .unset, .unset] [(.long vy), (.long q2), (.long vx), (.long q0)])) rfl (by rw [hml]; rfl) (argsL := [(.long q0), (.long vx), (.long q2), (.long vy)]) (rest := []) (lenOf pd_2 rfl) rfl (by show 2 * 0 + _ ≤ _; exact Nat.le_of_eq rfl) (hb hby at_30) (fun _ _ => ⟨rfl, e0, (by decide : 0 + 0 ≤ _), (by decide : 0 + 0 ≤ _)⟩)
  dsimp only [Pt.U, Pt.locs, Pt.cells, Pt.slots] at X1 l1 y1 z1 st1 hQ1
  subst l1 y1 z1
  obtain ⟨rfl, N1q, e1⟩ := hQ1
  have N1 := Fr.app N0 N1q
  refine own_by (A' := T1.setTop (mkF m 33 #[.val (.long q0), .second, .val (.long q1), .second, .val (.long q2), .second, .val (.long q3), .second, .val (.long vx), .second, .val (.long vy), .second, .unset, .unset, .unset, .unset, .unset, .unset] [(.long (own_f1 q0 vx q2 vy))])) (fun t kt => st1 t kt) ?_
  refine own_by (A' := T1.setTop (mkF m 44 #[.val (.long q0), .second, .val (.long q1), .second, .val (.long q2), .second, .val (.long q3), .second, .val (.long vx), .second, .val (.long vy), .second, .val (.long (own_f1 q0 vx q2 vy)), .second, .val (.long (((own_f1 q0 vx q2 vy) - q0) - q2)), .second, .unset, .unset] [])) (fun t kt => ?_) ?_
  · show Steps p.tables e below (T1.setTop (mkF m 33 #[.val (.long q0), .second, .val (.long q1), .second, .val (.long q2), .second, .val (.long q3), .second, .val (.long vx), .second, .val (.long vy), .second, .unset, .unset, .unset, .unset, .unset, .unset] [(.long (own_f1 q0 vx q2 vy))])) t
    refine XS.lstore X1.here hx rfl (hb hby at_33) rfl (l' := #[.val (.long q0), .second, .val (.long q1), .second, .val (.long q2), .second, .val (.long q3), .second, .val (.long vx), .second, .val (.long vy), .second, .val (.long (own_f1 q0 vx q2 vy)), .second, .unset, .unset, .unset, .unset]) rfl ?_
    show Steps p.tables e below (T1.setTop (mkF m 35 #[.val (.long q0), .second, .val (.long q1), .second, .val (.long q2), .second, .val (.long q3), .second, .val (.long vx), .second, .val (.long vy), .second, .val (.long (own_f1 q0 vx q2 vy)), .second, .unset, .unset, .unset, .unset] [])) t
    refine XS.lload X1.here hx rfl (hb hby at_35) rfl ?_
    show Steps p.tables e below (T1.setTop (mkF m 37 #[.val (.long q0), .second, .val (.long q1), .second, .val (.long q2), .second, .val (.long q3), .second, .val (.long vx), .second, .val (.long vy), .second, .val (.long (own_f1 q0 vx q2 vy)), .second, .unset, .unset, .unset, .unset] [(.long (own_f1 q0 vx q2 vy))])) t
    refine XS.lloadN X1.here hx rfl (hb hby at_37) rfl ?_
    show Steps p.tables e below (T1.setTop (mkF m 38 #[.val (.long q0), .second, .val (.long q1), .second, .val (.long q2), .second, .val (.long q3), .second, .val (.long vx), .second, .val (.long vy), .second, .val (.long (own_f1 q0 vx q2 vy)), .second, .unset, .unset, .unset, .unset] [(.long q0), (.long (own_f1 q0 vx q2 vy))])) t
    refine XS.lsub X1.here hx rfl (hb hby at_38) rfl ?_
    show Steps p.tables e below (T1.setTop (mkF m 39 #[.val (.long q0), .second, .val (.long q1), .second, .val (.long q2), .second, .val (.long q3), .second, .val (.long vx), .second, .val (.long vy), .second, .val (.long (own_f1 q0 vx q2 vy)), .second, .unset, .unset, .unset, .unset] [(.long ((own_f1 q0 vx q2 vy) - q0))])) t
    refine XS.lload X1.here hx rfl (hb hby at_39) rfl ?_
    show Steps p.tables e below (T1.setTop (mkF m 41 #[.val (.long q0), .second, .val (.long q1), .second, .val (.long q2), .second, .val (.long q3), .second, .val (.long vx), .second, .val (.long vy), .second, .val (.long (own_f1 q0 vx q2 vy)), .second, .unset, .unset, .unset, .unset] [(.long q2), (.long ((own_f1 q0 vx q2 vy) - q0))])) t
    refine XS.lsub X1.here hx rfl (hb hby at_41) rfl ?_
    show Steps p.tables e below (T1.setTop (mkF m 42 #[.val (.long q0), .second, .val (.long q1), .second, .val (.long q2), .second, .val (.long q3), .second, .val (.long vx), .second, .val (.long vy), .second, .val (.long (own_f1 q0 vx q2 vy)), .second, .unset, .unset, .unset, .unset] [(.long (((own_f1 q0 vx q2 vy) - q0) - q2))])) t
    refine XS.lstore X1.here hx rfl (hb hby at_42) rfl (l' := #[.val (.long q0), .second, .val (.long q1), .second, .val (.long q2), .second, .val (.long q3), .second, .val (.long vx), .second, .val (.long vy), .second, .val (.long (own_f1 q0 vx q2 vy)), .second, .val (.long (((own_f1 q0 vx q2 vy) - q0) - q2)), .second, .unset, .unset]) rfl ?_
    exact kt
  generalize h_vc : (((own_f1 q0 vx q2 vy) - q0) - q2) = vc
  have hvc := own_carry q0 vx q2 vy
  rw [h_vc] at hvc
  refine own_by (A' := T1.setTop (mkF m 48 #[.val (.long q0), .second, .val (.long q1), .second, .val (.long q2), .second, .val (.long q3), .second, .val (.long vx), .second, .val (.long vy), .second, .val (.long (own_f1 q0 vx q2 vy)), .second, .val (.long vc), .second, .unset, .unset] [(.int (lcmpW vc (0 : Int64)))])) (fun t kt => ?_) ?_
  · show Steps p.tables e below (T1.setTop (mkF m 44 #[.val (.long q0), .second, .val (.long q1), .second, .val (.long q2), .second, .val (.long q3), .second, .val (.long vx), .second, .val (.long vy), .second, .val (.long (own_f1 q0 vx q2 vy)), .second, .val (.long vc), .second, .unset, .unset] [])) t
    refine XS.lload X1.here hx rfl (hb hby at_44) rfl ?_
    show Steps p.tables e below (T1.setTop (mkF m 46 #[.val (.long q0), .second, .val (.long q1), .second, .val (.long q2), .second, .val (.long q3), .second, .val (.long vx), .second, .val (.long vy), .second, .val (.long (own_f1 q0 vx q2 vy)), .second, .val (.long vc), .second, .unset, .unset] [(.long vc)])) t
    refine XS.lconst X1.here hx rfl (hb hby at_46) ?_
    show Steps p.tables e below (T1.setTop (mkF m 47 #[.val (.long q0), .second, .val (.long q1), .second, .val (.long q2), .second, .val (.long q3), .second, .val (.long vx), .second, .val (.long vy), .second, .val (.long (own_f1 q0 vx q2 vy)), .second, .val (.long vc), .second, .unset, .unset] [(.long (0 : Int64)), (.long vc)])) t
    refine XS.lcmp X1.here hx rfl (hb hby at_47) rfl ?_
    exact kt
  by_cases hc48_2 : vc = (0 : Int64)
  · refine own_by (A' := T1.setTop (mkF m 74 #[.val (.long q0), .second, .val (.long q1), .second, .val (.long q2), .second, .val (.long q3), .second, .val (.long vx), .second, .val (.long vy), .second, .val (.long (own_f1 q0 vx q2 vy)), .second, .val (.long vc), .second, .val (.long ((vx + vy) - (vc * (1000000000000000000 : Int64)))), .second] [])) (fun t kt => ?_) ?_
    · show Steps p.tables e below (T1.setTop (mkF m 48 #[.val (.long q0), .second, .val (.long q1), .second, .val (.long q2), .second, .val (.long q3), .second, .val (.long vx), .second, .val (.long vy), .second, .val (.long (own_f1 q0 vx q2 vy)), .second, .val (.long vc), .second, .unset, .unset] [(.int (lcmpW vc (0 : Int64)))])) t
      refine XS.ifYes X1.here hx rfl (pc0 := 48) (pc' := 60) rfl (hb hby at_48) rfl ((if0 _ _).trans (teq ((lw_eq _ _).mpr hc48_2)).1) (by decide) (by decide) ?_
      show Steps p.tables e below (T1.setTop (mkF m 60 #[.val (.long q0), .second, .val (.long q1), .second, .val (.long q2), .second, .val (.long q3), .second, .val (.long vx), .second, .val (.long vy), .second, .val (.long (own_f1 q0 vx q2 vy)), .second, .val (.long vc), .second, .unset, .unset] [])) t
      refine XS.lload X1.here hx rfl (hb hby at_60) rfl ?_
      show Steps p.tables e below (T1.setTop (mkF m 62 #[.val (.long q0), .second, .val (.long q1), .second, .val (.long q2), .second, .val (.long q3), .second, .val (.long vx), .second, .val (.long vy), .second, .val (.long (own_f1 q0 vx q2 vy)), .second, .val (.long vc), .second, .unset, .unset] [(.long vx)])) t
      refine XS.lload X1.here hx rfl (hb hby at_62) rfl ?_
      show Steps p.tables e below (T1.setTop (mkF m 64 #[.val (.long q0), .second, .val (.long q1), .second, .val (.long q2), .second, .val (.long q3), .second, .val (.long vx), .second, .val (.long vy), .second, .val (.long (own_f1 q0 vx q2 vy)), .second, .val (.long vc), .second, .unset, .unset] [(.long vy), (.long vx)])) t
      refine XS.ladd X1.here hx rfl (hb hby at_64) rfl ?_
      show Steps p.tables e below (T1.setTop (mkF m 65 #[.val (.long q0), .second, .val (.long q1), .second, .val (.long q2), .second, .val (.long q3), .second, .val (.long vx), .second, .val (.long vy), .second, .val (.long (own_f1 q0 vx q2 vy)), .second, .val (.long vc), .second, .unset, .unset] [(.long (vx + vy))])) t
      refine XS.lload X1.here hx rfl (hb hby at_65) rfl ?_
      show Steps p.tables e below (T1.setTop (mkF m 67 #[.val (.long q0), .second, .val (.long q1), .second, .val (.long q2), .second, .val (.long q3), .second, .val (.long vx), .second, .val (.long vy), .second, .val (.long (own_f1 q0 vx q2 vy)), .second, .val (.long vc), .second, .unset, .unset] [(.long vc), (.long (vx + vy))])) t
      refine X1.ldc2Long hx hown (mvT hZ (hw _ (List.mem_of_getElem? (i := 1) rfl))) (g := (mkF m 67 #[.val (.long q0), .second, .val (.long q1), .second, .val (.long q2), .second, .val (.long q3), .second, .val (.long vx), .second, .val (.long vy), .second, .val (.long (own_f1 q0 vx q2 vy)), .second, .val (.long vc), .second, .unset, .unset] [(.long vc), (.long (vx + vy))])) rfl (hb hby at_67) _ ?_
      show Steps p.tables e below (T1.setTop (mkF m 70 #[.val (.long q0), .second, .val (.long q1), .second, .val (.long q2), .second, .val (.long q3), .second, .val (.long vx), .second, .val (.long vy), .second, .val (.long (own_f1 q0 vx q2 vy)), .second, .val (.long vc), .second, .unset, .unset] [(.long (1000000000000000000 : Int64)), (.long vc), (.long (vx + vy))])) t
      refine XS.lmul X1.here hx rfl (hb hby at_70) rfl ?_
      show Steps p.tables e below (T1.setTop (mkF m 71 #[.val (.long q0), .second, .val (.long q1), .second, .val (.long q2), .second, .val (.long q3), .second, .val (.long vx), .second, .val (.long vy), .second, .val (.long (own_f1 q0 vx q2 vy)), .second, .val (.long vc), .second, .unset, .unset] [(.long (vc * (1000000000000000000 : Int64))), (.long (vx + vy))])) t
      refine XS.lsub X1.here hx rfl (hb hby at_71) rfl ?_
      show Steps p.tables e below (T1.setTop (mkF m 72 #[.val (.long q0), .second, .val (.long q1), .second, .val (.long q2), .second, .val (.long q3), .second, .val (.long vx), .second, .val (.long vy), .second, .val (.long (own_f1 q0 vx q2 vy)), .second, .val (.long vc), .second, .unset, .unset] [(.long ((vx + vy) - (vc * (1000000000000000000 : Int64))))])) t
      refine XS.lstore X1.here hx rfl (hb hby at_72) rfl (l' := #[.val (.long q0), .second, .val (.long q1), .second, .val (.long q2), .second, .val (.long q3), .second, .val (.long vx), .second, .val (.long vy), .second, .val (.long (own_f1 q0 vx q2 vy)), .second, .val (.long vc), .second, .val (.long ((vx + vy) - (vc * (1000000000000000000 : Int64)))), .second]) rfl ?_
      exact kt
    generalize h_vr : ((vx + vy) - (vc * (1000000000000000000 : Int64))) = vr
    have hvr : vr = own_f2 vx vy := by rw [← h_vr, hvc]; exact own_rest vx vy
    have hlo := own_low vx vy hvx hvy
    rw [← hvr] at hlo
    refine own_by (A' := T1.setTop (mkF m 78 #[.val (.long q0), .second, .val (.long q1), .second, .val (.long q2), .second, .val (.long q3), .second, .val (.long vx), .second, .val (.long vy), .second, .val (.long (own_f1 q0 vx q2 vy)), .second, .val (.long vc), .second, .val (.long vr), .second] [(.int (lcmpW vr (0 : Int64)))])) (fun t kt => ?_) ?_
    · show Steps p.tables e below (T1.setTop (mkF m 74 #[.val (.long q0), .second, .val (.long q1), .second, .val (.long q2), .second, .val (.long q3), .second, .val (.long vx), .second, .val (.long vy), .second, .val (.long (own_f1 q0 vx q2 vy)), .second, .val (.long vc), .second, .val (.long vr), .second] [])) t
      refine XS.lload X1.here hx rfl (hb hby at_74) rfl ?_
      show Steps p.tables e below (T1.setTop (mkF m 76 #[.val (.long q0), .second, .val (.long q1), .second, .val (.long q2), .second, .val (.long q3), .second, .val (.long vx), .second, .val (.long vy), .second, .val (.long (own_f1 q0 vx q2 vy)), .second, .val (.long vc), .second, .val (.long vr), .second] [(.long vr)])) t
      refine XS.lconst X1.here hx rfl (hb hby at_76) ?_
      show Steps p.tables e below (T1.setTop (mkF m 77 #[.val (.long q0), .second, .val (.long q1), .second, .val (.long q2), .second, .val (.long q3), .second, .val (.long vx), .second, .val (.long vy), .second, .val (.long (own_f1 q0 vx q2 vy)), .second, .val (.long vc), .second, .val (.long vr), .second] [(.long (0 : Int64)), (.long vr)])) t
      refine XS.lcmp X1.here hx rfl (hb hby at_77) rfl ?_
      exact kt
    have hc78_3 : ¬ (vr < (0 : Int64)) := by rw [Int64.lt_iff_toInt_lt, show (0 : Int64).toInt = 0 from by decide]; omega
    refine own_by (A' := T1.setTop (mkF m 87 #[.val (.long q0), .second, .val (.long q1), .second, .val (.long q2), .second, .val (.long q3), .second, .val (.long vx), .second, .val (.long vy), .second, .val (.long (own_f1 q0 vx q2 vy)), .second, .val (.long vc), .second, .val (.long vr), .second] [(.int (lcmpW vr (1000000000000000000 : Int64)))])) (fun t kt => ?_) ?_
    · show Steps p.tables e below (T1.setTop (mkF m 78 #[.val (.long q0), .second, .val (.long q1), .second, .val (.long q2), .second, .val (.long q3), .second, .val (.long vx), .second, .val (.long vy), .second, .val (.long (own_f1 q0 vx q2 vy)), .second, .val (.long vc), .second, .val (.long vr), .second] [(.int (lcmpW vr (0 : Int64)))])) t
      refine XS.ifNo X1.here hx rfl (hb hby at_78) rfl ((if0 _ _).trans (flt (fun q => hc78_3 ((lw_lt _ _).mp q))).1) ?_
      show Steps p.tables e below (T1.setTop (mkF m 81 #[.val (.long q0), .second, .val (.long q1), .second, .val (.long q2), .second, .val (.long q3), .second, .val (.long vx), .second, .val (.long vy), .second, .val (.long (own_f1 q0 vx q2 vy)), .second, .val (.long vc), .second, .val (.long vr), .second] [])) t
      refine XS.lload X1.here hx rfl (hb hby at_81) rfl ?_
      show Steps p.tables e below (T1.setTop (mkF m 83 #[.val (.long q0), .second, .val (.long q1), .second, .val (.long q2), .second, .val (.long q3), .second, .val (.long vx), .second, .val (.long vy), .second, .val (.long (own_f1 q0 vx q2 vy)), .second, .val (.long vc), .second, .val (.long vr), .second] [(.long vr)])) t
      refine X1.ldc2Long hx hown (mvT hZ (hw _ (List.mem_of_getElem? (i := 1) rfl))) (g := (mkF m 83 #[.val (.long q0), .second, .val (.long q1), .second, .val (.long q2), .second, .val (.long q3), .second, .val (.long vx), .second, .val (.long vy), .second, .val (.long (own_f1 q0 vx q2 vy)), .second, .val (.long vc), .second, .val (.long vr), .second] [(.long vr)])) rfl (hb hby at_83) _ ?_
      show Steps p.tables e below (T1.setTop (mkF m 86 #[.val (.long q0), .second, .val (.long q1), .second, .val (.long q2), .second, .val (.long q3), .second, .val (.long vx), .second, .val (.long vy), .second, .val (.long (own_f1 q0 vx q2 vy)), .second, .val (.long vc), .second, .val (.long vr), .second] [(.long (1000000000000000000 : Int64)), (.long vr)])) t
      refine XS.lcmp X1.here hx rfl (hb hby at_86) rfl ?_
      exact kt
    have hc87_4 : vr < (1000000000000000000 : Int64) := by rw [Int64.lt_iff_toInt_lt, show (1000000000000000000 : Int64).toInt = 1000000000000000000 from by decide]; omega
    refine own_by (A' := T1.setTop (mkF m 98 #[.val (.long q0), .second, .val (.long q1), .second, .val (.long q2), .second, .val (.long q3), .second, .val (.long vx), .second, .val (.long vy), .second, .val (.long (own_f1 q0 vx q2 vy)), .second, .val (.long vc), .second, .val (.long vr), .second] [(.long vy), (.long vx), (.long vr)])) (fun t kt => ?_) ?_
    · show Steps p.tables e below (T1.setTop (mkF m 87 #[.val (.long q0), .second, .val (.long q1), .second, .val (.long q2), .second, .val (.long q3), .second, .val (.long vx), .second, .val (.long vy), .second, .val (.long (own_f1 q0 vx q2 vy)), .second, .val (.long vc), .second, .val (.long vr), .second] [(.int (lcmpW vr (1000000000000000000 : Int64)))])) t
      refine XS.ifYes X1.here hx rfl (pc0 := 87) (pc' := 92) rfl (hb hby at_87) rfl ((if0 _ _).trans (tlt ((lw_lt _ _).mpr hc87_4)).1) (by decide) (by decide) ?_
      show Steps p.tables e below (T1.setTop (mkF m 92 #[.val (.long q0), .second, .val (.long q1), .second, .val (.long q2), .second, .val (.long q3), .second, .val (.long vx), .second, .val (.long vy), .second, .val (.long (own_f1 q0 vx q2 vy)), .second, .val (.long vc), .second, .val (.long vr), .second] [])) t
      refine XS.lload X1.here hx rfl (hb hby at_92) rfl ?_
      show Steps p.tables e below (T1.setTop (mkF m 94 #[.val (.long q0), .second, .val (.long q1), .second, .val (.long q2), .second, .val (.long q3), .second, .val (.long vx), .second, .val (.long vy), .second, .val (.long (own_f1 q0 vx q2 vy)), .second, .val (.long vc), .second, .val (.long vr), .second] [(.long vr)])) t
      refine XS.lload X1.here hx rfl (hb hby at_94) rfl ?_
      show Steps p.tables e below (T1.setTop (mkF m 96 #[.val (.long q0), .second, .val (.long q1), .second, .val (.long q2), .second, .val (.long q3), .second, .val (.long vx), .second, .val (.long vy), .second, .val (.long (own_f1 q0 vx q2 vy)), .second, .val (.long vc), .second, .val (.long vr), .second] [(.long vx), (.long vr)])) t
      refine XS.lload X1.here hx rfl (hb hby at_96) rfl ?_
      exact kt
    obtain ⟨_, _, ⟨T5, L5, k5, n5⟩, -, X5, ⟨Lc5, hQ5, l5, y5, z5⟩, st5⟩ := Jvm.LawKit.callS X1 hx (y := (⟨"com/example/matchline/matchline/decimal/Nanos", "sumLow", "(JJ)J"⟩ : MethodName)) hown (mvT hZ (hw _ (List.mem_of_getElem? (i := 7) rfl))) (mvT hZ (hw _ (List.mem_of_getElem? (i := 8) rfl))) (mvT hZ (hw _ (List.mem_of_getElem? (i := 4) rfl))) (mvT hZ (hw _ (List.mem_of_getElem? (i := 9) rfl))) (by decide) (backOf (W := 2) (rm2 l Z aw hw [] vx vy h0 n0 (Nat.le_trans Z0 K0.1) ) hZ (hw _ (List.mem_of_getElem? (i := 9) rfl)) (hw _ (List.mem_of_getElem? (i := 4) rfl)) (by decide) (by decide)) (g := (mkF m 98 #[.val (.long q0), .second, .val (.long q1), .second, .val (.long q2), .second, .val (.long q3), .second, .val (.long vx), .second, .val (.long vy), .second, .val (.long (own_f1 q0 vx q2 vy)), .second, .val (.long vc), .second, .val (.long vr), .second] [(.long vy), (.long vx), (.long vr)])) rfl (by rw [hml]; rfl) (argsL := [(.long vx), (.long vy)]) (rest := [(.long vr)]) (lenOf pd_3 rfl) rfl (by show 2 * 0 + _ ≤ _; exact Nat.le_of_eq rfl) (hb hby at_98) (fun _ _ => ⟨rfl, e1, (by decide : 0 + 0 ≤ _), (by decide : 0 + 0 ≤ _)⟩)
    dsimp only [Pt.U, Pt.locs, Pt.cells, Pt.slots] at X5 l5 y5 z5 st5 hQ5
    subst l5 y5 z5
    obtain ⟨rfl, N5q, e5⟩ := hQ5
    have N5 := Fr.app N1 N5q
    refine own_by (A' := T5.setTop (mkF m 101 #[.val (.long q0), .second, .val (.long q1), .second, .val (.long q2), .second, .val (.long q3), .second, .val (.long vx), .second, .val (.long vy), .second, .val (.long (own_f1 q0 vx q2 vy)), .second, .val (.long vc), .second, .val (.long vr), .second] [(.long (own_f2 vx vy)), (.long vr)])) (fun t kt => st5 t kt) ?_
    refine own_by (A' := T5.setTop (mkF m 102 #[.val (.long q0), .second, .val (.long q1), .second, .val (.long q2), .second, .val (.long q3), .second, .val (.long vx), .second, .val (.long vy), .second, .val (.long (own_f1 q0 vx q2 vy)), .second, .val (.long vc), .second, .val (.long vr), .second] [(.int (lcmpW vr (own_f2 vx vy)))])) (fun t kt => ?_) ?_
    · show Steps p.tables e below (T5.setTop (mkF m 101 #[.val (.long q0), .second, .val (.long q1), .second, .val (.long q2), .second, .val (.long q3), .second, .val (.long vx), .second, .val (.long vy), .second, .val (.long (own_f1 q0 vx q2 vy)), .second, .val (.long vc), .second, .val (.long vr), .second] [(.long (own_f2 vx vy)), (.long vr)])) t
      refine XS.lcmp X5.here hx rfl (hb hby at_101) rfl ?_
      exact kt
    have hc102_6 : vr = (own_f2 vx vy) := hvr
    refine own_by (A' := T5.setTop (mkF m 110 #[.val (.long q0), .second, .val (.long q1), .second, .val (.long q2), .second, .val (.long q3), .second, .val (.long vx), .second, .val (.long vy), .second, .val (.long (own_f1 q0 vx q2 vy)), .second, .val (.long vc), .second, .val (.long vr), .second] [(.int (1 : Int32))])) (fun t kt => ?_) ?_
    · show Steps p.tables e below (T5.setTop (mkF m 102 #[.val (.long q0), .second, .val (.long q1), .second, .val (.long q2), .second, .val (.long q3), .second, .val (.long vx), .second, .val (.long vy), .second, .val (.long (own_f1 q0 vx q2 vy)), .second, .val (.long vc), .second, .val (.long vr), .second] [(.int (lcmpW vr (own_f2 vx vy)))])) t
      refine XS.ifNo X5.here hx rfl (hb hby at_102) rfl ((if0 _ _).trans (teq ((lw_eq _ _).mpr hc102_6)).2) ?_
      show Steps p.tables e below (T5.setTop (mkF m 105 #[.val (.long q0), .second, .val (.long q1), .second, .val (.long q2), .second, .val (.long q3), .second, .val (.long vx), .second, .val (.long vy), .second, .val (.long (own_f1 q0 vx q2 vy)), .second, .val (.long vc), .second, .val (.long vr), .second] [])) t
      refine XS.iconst X5.here hx rfl (hb hby at_105) ?_
      show Steps p.tables e below (T5.setTop (mkF m 106 #[.val (.long q0), .second, .val (.long q1), .second, .val (.long q2), .second, .val (.long q3), .second, .val (.long vx), .second, .val (.long vy), .second, .val (.long (own_f1 q0 vx q2 vy)), .second, .val (.long vc), .second, .val (.long vr), .second] [(.int (1 : Int32))])) t
      refine XS.goto X5.here hx rfl (pc0 := 106) (pc' := 110) rfl (hb hby at_106) (by decide) (by decide) ?_
      exact kt
    obtain ⟨fs, hr, hrun, hended, hW, hsame⟩ := X5.leave (v := some (.int (1 : Int32))) (fun h => by rw [Bd.returns] at h; cases h)
    refine ⟨_, _, ?_, hrun, hended, _, _, rfl, ?_, ⟨_, rfl⟩, hW, hsame.mono (by decide) (by decide)⟩
    · exact retN X5 hx (t := .boolean) Bd.returns (by simp) (hb hby at_110) hr
    · show Q0 Z q0 q1 q2 q3 h0 n0 _ T5.heap _
      rw [e5]
      exact ⟨rfl, N5⟩
  · refine own_by (A' := T1.setTop (mkF m 55 #[.val (.long q0), .second, .val (.long q1), .second, .val (.long q2), .second, .val (.long q3), .second, .val (.long vx), .second, .val (.long vy), .second, .val (.long (own_f1 q0 vx q2 vy)), .second, .val (.long vc), .second, .unset, .unset] [(.int (lcmpW vc (1 : Int64)))])) (fun t kt => ?_) ?_
    · show Steps p.tables e below (T1.setTop (mkF m 48 #[.val (.long q0), .second, .val (.long q1), .second, .val (.long q2), .second, .val (.long q3), .second, .val (.long vx), .second, .val (.long vy), .second, .val (.long (own_f1 q0 vx q2 vy)), .second, .val (.long vc), .second, .unset, .unset] [(.int (lcmpW vc (0 : Int64)))])) t
      refine XS.ifNo X1.here hx rfl (hb hby at_48) rfl ((if0 _ _).trans (feq (fun q => hc48_2 ((lw_eq _ _).mp q))).1) ?_
      show Steps p.tables e below (T1.setTop (mkF m 51 #[.val (.long q0), .second, .val (.long q1), .second, .val (.long q2), .second, .val (.long q3), .second, .val (.long vx), .second, .val (.long vy), .second, .val (.long (own_f1 q0 vx q2 vy)), .second, .val (.long vc), .second, .unset, .unset] [])) t
      refine XS.lload X1.here hx rfl (hb hby at_51) rfl ?_
      show Steps p.tables e below (T1.setTop (mkF m 53 #[.val (.long q0), .second, .val (.long q1), .second, .val (.long q2), .second, .val (.long q3), .second, .val (.long vx), .second, .val (.long vy), .second, .val (.long (own_f1 q0 vx q2 vy)), .second, .val (.long vc), .second, .unset, .unset] [(.long vc)])) t
      refine XS.lconst X1.here hx rfl (hb hby at_53) ?_
      show Steps p.tables e below (T1.setTop (mkF m 54 #[.val (.long q0), .second, .val (.long q1), .second, .val (.long q2), .second, .val (.long q3), .second, .val (.long vx), .second, .val (.long vy), .second, .val (.long (own_f1 q0 vx q2 vy)), .second, .val (.long vc), .second, .unset, .unset] [(.long (1 : Int64)), (.long vc)])) t
      refine XS.lcmp X1.here hx rfl (hb hby at_54) rfl ?_
      exact kt
    have hc55_7 : vc = (1 : Int64) := by
      rw [hvc]
      split
      · rename_i q; exact absurd (hvc.trans (if_pos q)) hc48_2
      · rfl
    refine own_by (A' := T1.setTop (mkF m 74 #[.val (.long q0), .second, .val (.long q1), .second, .val (.long q2), .second, .val (.long q3), .second, .val (.long vx), .second, .val (.long vy), .second, .val (.long (own_f1 q0 vx q2 vy)), .second, .val (.long vc), .second, .val (.long ((vx + vy) - (vc * (1000000000000000000 : Int64)))), .second] [])) (fun t kt => ?_) ?_
    · show Steps p.tables e below (T1.setTop (mkF m 55 #[.val (.long q0), .second, .val (.long q1), .second, .val (.long q2), .second, .val (.long q3), .second, .val (.long vx), .second, .val (.long vy), .second, .val (.long (own_f1 q0 vx q2 vy)), .second, .val (.long vc), .second, .unset, .unset] [(.int (lcmpW vc (1 : Int64)))])) t
      refine XS.ifYes X1.here hx rfl (pc0 := 55) (pc' := 60) rfl (hb hby at_55) rfl ((if0 _ _).trans (teq ((lw_eq _ _).mpr hc55_7)).1) (by decide) (by decide) ?_
      show Steps p.tables e below (T1.setTop (mkF m 60 #[.val (.long q0), .second, .val (.long q1), .second, .val (.long q2), .second, .val (.long q3), .second, .val (.long vx), .second, .val (.long vy), .second, .val (.long (own_f1 q0 vx q2 vy)), .second, .val (.long vc), .second, .unset, .unset] [])) t
      refine XS.lload X1.here hx rfl (hb hby at_60) rfl ?_
      show Steps p.tables e below (T1.setTop (mkF m 62 #[.val (.long q0), .second, .val (.long q1), .second, .val (.long q2), .second, .val (.long q3), .second, .val (.long vx), .second, .val (.long vy), .second, .val (.long (own_f1 q0 vx q2 vy)), .second, .val (.long vc), .second, .unset, .unset] [(.long vx)])) t
      refine XS.lload X1.here hx rfl (hb hby at_62) rfl ?_
      show Steps p.tables e below (T1.setTop (mkF m 64 #[.val (.long q0), .second, .val (.long q1), .second, .val (.long q2), .second, .val (.long q3), .second, .val (.long vx), .second, .val (.long vy), .second, .val (.long (own_f1 q0 vx q2 vy)), .second, .val (.long vc), .second, .unset, .unset] [(.long vy), (.long vx)])) t
      refine XS.ladd X1.here hx rfl (hb hby at_64) rfl ?_
      show Steps p.tables e below (T1.setTop (mkF m 65 #[.val (.long q0), .second, .val (.long q1), .second, .val (.long q2), .second, .val (.long q3), .second, .val (.long vx), .second, .val (.long vy), .second, .val (.long (own_f1 q0 vx q2 vy)), .second, .val (.long vc), .second, .unset, .unset] [(.long (vx + vy))])) t
      refine XS.lload X1.here hx rfl (hb hby at_65) rfl ?_
      show Steps p.tables e below (T1.setTop (mkF m 67 #[.val (.long q0), .second, .val (.long q1), .second, .val (.long q2), .second, .val (.long q3), .second, .val (.long vx), .second, .val (.long vy), .second, .val (.long (own_f1 q0 vx q2 vy)), .second, .val (.long vc), .second, .unset, .unset] [(.long vc), (.long (vx + vy))])) t
      refine X1.ldc2Long hx hown (mvT hZ (hw _ (List.mem_of_getElem? (i := 1) rfl))) (g := (mkF m 67 #[.val (.long q0), .second, .val (.long q1), .second, .val (.long q2), .second, .val (.long q3), .second, .val (.long vx), .second, .val (.long vy), .second, .val (.long (own_f1 q0 vx q2 vy)), .second, .val (.long vc), .second, .unset, .unset] [(.long vc), (.long (vx + vy))])) rfl (hb hby at_67) _ ?_
      show Steps p.tables e below (T1.setTop (mkF m 70 #[.val (.long q0), .second, .val (.long q1), .second, .val (.long q2), .second, .val (.long q3), .second, .val (.long vx), .second, .val (.long vy), .second, .val (.long (own_f1 q0 vx q2 vy)), .second, .val (.long vc), .second, .unset, .unset] [(.long (1000000000000000000 : Int64)), (.long vc), (.long (vx + vy))])) t
      refine XS.lmul X1.here hx rfl (hb hby at_70) rfl ?_
      show Steps p.tables e below (T1.setTop (mkF m 71 #[.val (.long q0), .second, .val (.long q1), .second, .val (.long q2), .second, .val (.long q3), .second, .val (.long vx), .second, .val (.long vy), .second, .val (.long (own_f1 q0 vx q2 vy)), .second, .val (.long vc), .second, .unset, .unset] [(.long (vc * (1000000000000000000 : Int64))), (.long (vx + vy))])) t
      refine XS.lsub X1.here hx rfl (hb hby at_71) rfl ?_
      show Steps p.tables e below (T1.setTop (mkF m 72 #[.val (.long q0), .second, .val (.long q1), .second, .val (.long q2), .second, .val (.long q3), .second, .val (.long vx), .second, .val (.long vy), .second, .val (.long (own_f1 q0 vx q2 vy)), .second, .val (.long vc), .second, .unset, .unset] [(.long ((vx + vy) - (vc * (1000000000000000000 : Int64))))])) t
      refine XS.lstore X1.here hx rfl (hb hby at_72) rfl (l' := #[.val (.long q0), .second, .val (.long q1), .second, .val (.long q2), .second, .val (.long q3), .second, .val (.long vx), .second, .val (.long vy), .second, .val (.long (own_f1 q0 vx q2 vy)), .second, .val (.long vc), .second, .val (.long ((vx + vy) - (vc * (1000000000000000000 : Int64)))), .second]) rfl ?_
      exact kt
    generalize h_vr : ((vx + vy) - (vc * (1000000000000000000 : Int64))) = vr
    have hvr : vr = own_f2 vx vy := by rw [← h_vr, hvc]; exact own_rest vx vy
    have hlo := own_low vx vy hvx hvy
    rw [← hvr] at hlo
    refine own_by (A' := T1.setTop (mkF m 78 #[.val (.long q0), .second, .val (.long q1), .second, .val (.long q2), .second, .val (.long q3), .second, .val (.long vx), .second, .val (.long vy), .second, .val (.long (own_f1 q0 vx q2 vy)), .second, .val (.long vc), .second, .val (.long vr), .second] [(.int (lcmpW vr (0 : Int64)))])) (fun t kt => ?_) ?_
    · show Steps p.tables e below (T1.setTop (mkF m 74 #[.val (.long q0), .second, .val (.long q1), .second, .val (.long q2), .second, .val (.long q3), .second, .val (.long vx), .second, .val (.long vy), .second, .val (.long (own_f1 q0 vx q2 vy)), .second, .val (.long vc), .second, .val (.long vr), .second] [])) t
      refine XS.lload X1.here hx rfl (hb hby at_74) rfl ?_
      show Steps p.tables e below (T1.setTop (mkF m 76 #[.val (.long q0), .second, .val (.long q1), .second, .val (.long q2), .second, .val (.long q3), .second, .val (.long vx), .second, .val (.long vy), .second, .val (.long (own_f1 q0 vx q2 vy)), .second, .val (.long vc), .second, .val (.long vr), .second] [(.long vr)])) t
      refine XS.lconst X1.here hx rfl (hb hby at_76) ?_
      show Steps p.tables e below (T1.setTop (mkF m 77 #[.val (.long q0), .second, .val (.long q1), .second, .val (.long q2), .second, .val (.long q3), .second, .val (.long vx), .second, .val (.long vy), .second, .val (.long (own_f1 q0 vx q2 vy)), .second, .val (.long vc), .second, .val (.long vr), .second] [(.long (0 : Int64)), (.long vr)])) t
      refine XS.lcmp X1.here hx rfl (hb hby at_77) rfl ?_
      exact kt
    have hc78_8 : ¬ (vr < (0 : Int64)) := by rw [Int64.lt_iff_toInt_lt, show (0 : Int64).toInt = 0 from by decide]; omega
    refine own_by (A' := T1.setTop (mkF m 87 #[.val (.long q0), .second, .val (.long q1), .second, .val (.long q2), .second, .val (.long q3), .second, .val (.long vx), .second, .val (.long vy), .second, .val (.long (own_f1 q0 vx q2 vy)), .second, .val (.long vc), .second, .val (.long vr), .second] [(.int (lcmpW vr (1000000000000000000 : Int64)))])) (fun t kt => ?_) ?_
    · show Steps p.tables e below (T1.setTop (mkF m 78 #[.val (.long q0), .second, .val (.long q1), .second, .val (.long q2), .second, .val (.long q3), .second, .val (.long vx), .second, .val (.long vy), .second, .val (.long (own_f1 q0 vx q2 vy)), .second, .val (.long vc), .second, .val (.long vr), .second] [(.int (lcmpW vr (0 : Int64)))])) t
      refine XS.ifNo X1.here hx rfl (hb hby at_78) rfl ((if0 _ _).trans (flt (fun q => hc78_8 ((lw_lt _ _).mp q))).1) ?_
      show Steps p.tables e below (T1.setTop (mkF m 81 #[.val (.long q0), .second, .val (.long q1), .second, .val (.long q2), .second, .val (.long q3), .second, .val (.long vx), .second, .val (.long vy), .second, .val (.long (own_f1 q0 vx q2 vy)), .second, .val (.long vc), .second, .val (.long vr), .second] [])) t
      refine XS.lload X1.here hx rfl (hb hby at_81) rfl ?_
      show Steps p.tables e below (T1.setTop (mkF m 83 #[.val (.long q0), .second, .val (.long q1), .second, .val (.long q2), .second, .val (.long q3), .second, .val (.long vx), .second, .val (.long vy), .second, .val (.long (own_f1 q0 vx q2 vy)), .second, .val (.long vc), .second, .val (.long vr), .second] [(.long vr)])) t
      refine X1.ldc2Long hx hown (mvT hZ (hw _ (List.mem_of_getElem? (i := 1) rfl))) (g := (mkF m 83 #[.val (.long q0), .second, .val (.long q1), .second, .val (.long q2), .second, .val (.long q3), .second, .val (.long vx), .second, .val (.long vy), .second, .val (.long (own_f1 q0 vx q2 vy)), .second, .val (.long vc), .second, .val (.long vr), .second] [(.long vr)])) rfl (hb hby at_83) _ ?_
      show Steps p.tables e below (T1.setTop (mkF m 86 #[.val (.long q0), .second, .val (.long q1), .second, .val (.long q2), .second, .val (.long q3), .second, .val (.long vx), .second, .val (.long vy), .second, .val (.long (own_f1 q0 vx q2 vy)), .second, .val (.long vc), .second, .val (.long vr), .second] [(.long (1000000000000000000 : Int64)), (.long vr)])) t
      refine XS.lcmp X1.here hx rfl (hb hby at_86) rfl ?_
      exact kt
    have hc87_9 : vr < (1000000000000000000 : Int64) := by rw [Int64.lt_iff_toInt_lt, show (1000000000000000000 : Int64).toInt = 1000000000000000000 from by decide]; omega
    refine own_by (A' := T1.setTop (mkF m 98 #[.val (.long q0), .second, .val (.long q1), .second, .val (.long q2), .second, .val (.long q3), .second, .val (.long vx), .second, .val (.long vy), .second, .val (.long (own_f1 q0 vx q2 vy)), .second, .val (.long vc), .second, .val (.long vr), .second] [(.long vy), (.long vx), (.long vr)])) (fun t kt => ?_) ?_
    · show Steps p.tables e below (T1.setTop (mkF m 87 #[.val (.long q0), .second, .val (.long q1), .second, .val (.long q2), .second, .val (.long q3), .second, .val (.long vx), .second, .val (.long vy), .second, .val (.long (own_f1 q0 vx q2 vy)), .second, .val (.long vc), .second, .val (.long vr), .second] [(.int (lcmpW vr (1000000000000000000 : Int64)))])) t
      refine XS.ifYes X1.here hx rfl (pc0 := 87) (pc' := 92) rfl (hb hby at_87) rfl ((if0 _ _).trans (tlt ((lw_lt _ _).mpr hc87_9)).1) (by decide) (by decide) ?_
      show Steps p.tables e below (T1.setTop (mkF m 92 #[.val (.long q0), .second, .val (.long q1), .second, .val (.long q2), .second, .val (.long q3), .second, .val (.long vx), .second, .val (.long vy), .second, .val (.long (own_f1 q0 vx q2 vy)), .second, .val (.long vc), .second, .val (.long vr), .second] [])) t
      refine XS.lload X1.here hx rfl (hb hby at_92) rfl ?_
      show Steps p.tables e below (T1.setTop (mkF m 94 #[.val (.long q0), .second, .val (.long q1), .second, .val (.long q2), .second, .val (.long q3), .second, .val (.long vx), .second, .val (.long vy), .second, .val (.long (own_f1 q0 vx q2 vy)), .second, .val (.long vc), .second, .val (.long vr), .second] [(.long vr)])) t
      refine XS.lload X1.here hx rfl (hb hby at_94) rfl ?_
      show Steps p.tables e below (T1.setTop (mkF m 96 #[.val (.long q0), .second, .val (.long q1), .second, .val (.long q2), .second, .val (.long q3), .second, .val (.long vx), .second, .val (.long vy), .second, .val (.long (own_f1 q0 vx q2 vy)), .second, .val (.long vc), .second, .val (.long vr), .second] [(.long vx), (.long vr)])) t
      refine XS.lload X1.here hx rfl (hb hby at_96) rfl ?_
      exact kt
    obtain ⟨_, _, ⟨T10, L10, k10, n10⟩, -, X10, ⟨Lc10, hQ10, l10, y10, z10⟩, st10⟩ := Jvm.LawKit.callS X1 hx (y := (⟨"com/example/matchline/matchline/decimal/Nanos", "sumLow", "(JJ)J"⟩ : MethodName)) hown (mvT hZ (hw _ (List.mem_of_getElem? (i := 7) rfl))) (mvT hZ (hw _ (List.mem_of_getElem? (i := 8) rfl))) (mvT hZ (hw _ (List.mem_of_getElem? (i := 4) rfl))) (mvT hZ (hw _ (List.mem_of_getElem? (i := 9) rfl))) (by decide) (backOf (W := 2) (rm2 l Z aw hw [] vx vy h0 n0 (Nat.le_trans Z0 K0.1) ) hZ (hw _ (List.mem_of_getElem? (i := 9) rfl)) (hw _ (List.mem_of_getElem? (i := 4) rfl)) (by decide) (by decide)) (g := (mkF m 98 #[.val (.long q0), .second, .val (.long q1), .second, .val (.long q2), .second, .val (.long q3), .second, .val (.long vx), .second, .val (.long vy), .second, .val (.long (own_f1 q0 vx q2 vy)), .second, .val (.long vc), .second, .val (.long vr), .second] [(.long vy), (.long vx), (.long vr)])) rfl (by rw [hml]; rfl) (argsL := [(.long vx), (.long vy)]) (rest := [(.long vr)]) (lenOf pd_3 rfl) rfl (by show 2 * 0 + _ ≤ _; exact Nat.le_of_eq rfl) (hb hby at_98) (fun _ _ => ⟨rfl, e1, (by decide : 0 + 0 ≤ _), (by decide : 0 + 0 ≤ _)⟩)
    dsimp only [Pt.U, Pt.locs, Pt.cells, Pt.slots] at X10 l10 y10 z10 st10 hQ10
    subst l10 y10 z10
    obtain ⟨rfl, N10q, e10⟩ := hQ10
    have N10 := Fr.app N1 N10q
    refine own_by (A' := T10.setTop (mkF m 101 #[.val (.long q0), .second, .val (.long q1), .second, .val (.long q2), .second, .val (.long q3), .second, .val (.long vx), .second, .val (.long vy), .second, .val (.long (own_f1 q0 vx q2 vy)), .second, .val (.long vc), .second, .val (.long vr), .second] [(.long (own_f2 vx vy)), (.long vr)])) (fun t kt => st10 t kt) ?_
    refine own_by (A' := T10.setTop (mkF m 102 #[.val (.long q0), .second, .val (.long q1), .second, .val (.long q2), .second, .val (.long q3), .second, .val (.long vx), .second, .val (.long vy), .second, .val (.long (own_f1 q0 vx q2 vy)), .second, .val (.long vc), .second, .val (.long vr), .second] [(.int (lcmpW vr (own_f2 vx vy)))])) (fun t kt => ?_) ?_
    · show Steps p.tables e below (T10.setTop (mkF m 101 #[.val (.long q0), .second, .val (.long q1), .second, .val (.long q2), .second, .val (.long q3), .second, .val (.long vx), .second, .val (.long vy), .second, .val (.long (own_f1 q0 vx q2 vy)), .second, .val (.long vc), .second, .val (.long vr), .second] [(.long (own_f2 vx vy)), (.long vr)])) t
      refine XS.lcmp X10.here hx rfl (hb hby at_101) rfl ?_
      exact kt
    have hc102_11 : vr = (own_f2 vx vy) := hvr
    refine own_by (A' := T10.setTop (mkF m 110 #[.val (.long q0), .second, .val (.long q1), .second, .val (.long q2), .second, .val (.long q3), .second, .val (.long vx), .second, .val (.long vy), .second, .val (.long (own_f1 q0 vx q2 vy)), .second, .val (.long vc), .second, .val (.long vr), .second] [(.int (1 : Int32))])) (fun t kt => ?_) ?_
    · show Steps p.tables e below (T10.setTop (mkF m 102 #[.val (.long q0), .second, .val (.long q1), .second, .val (.long q2), .second, .val (.long q3), .second, .val (.long vx), .second, .val (.long vy), .second, .val (.long (own_f1 q0 vx q2 vy)), .second, .val (.long vc), .second, .val (.long vr), .second] [(.int (lcmpW vr (own_f2 vx vy)))])) t
      refine XS.ifNo X10.here hx rfl (hb hby at_102) rfl ((if0 _ _).trans (teq ((lw_eq _ _).mpr hc102_11)).2) ?_
      show Steps p.tables e below (T10.setTop (mkF m 105 #[.val (.long q0), .second, .val (.long q1), .second, .val (.long q2), .second, .val (.long q3), .second, .val (.long vx), .second, .val (.long vy), .second, .val (.long (own_f1 q0 vx q2 vy)), .second, .val (.long vc), .second, .val (.long vr), .second] [])) t
      refine XS.iconst X10.here hx rfl (hb hby at_105) ?_
      show Steps p.tables e below (T10.setTop (mkF m 106 #[.val (.long q0), .second, .val (.long q1), .second, .val (.long q2), .second, .val (.long q3), .second, .val (.long vx), .second, .val (.long vy), .second, .val (.long (own_f1 q0 vx q2 vy)), .second, .val (.long vc), .second, .val (.long vr), .second] [(.int (1 : Int32))])) t
      refine XS.goto X10.here hx rfl (pc0 := 106) (pc' := 110) rfl (hb hby at_106) (by decide) (by decide) ?_
      exact kt
    obtain ⟨fs, hr, hrun, hended, hW, hsame⟩ := X10.leave (v := some (.int (1 : Int32))) (fun h => by rw [Bd.returns] at h; cases h)
    refine ⟨_, _, ?_, hrun, hended, _, _, rfl, ?_, ⟨_, rfl⟩, hW, hsame.mono (by decide) (by decide)⟩
    · exact retN X10 hx (t := .boolean) Bd.returns (by simp) (hb hby at_110) hr
    · show Q0 Z q0 q1 q2 q3 h0 n0 _ T10.heap _
      rw [e10]
      exact ⟨rfl, N10⟩
set_option maxRecDepth 65536 in
set_option maxHeartbeats 40000000 in
theorem comes_1 {Post : Tables → Env → Array Value → State → Outcome → State → Prop} (hpost : ∀ tb e args s v u, (limb_1_1.after args s (.returned v) u = true ∧ limb_1_2.after args s (.returned v) u = true ∧ True) → FrameEnd s (.returned v) u (Jvm.fieldLocs frame_1_writes args s ++ Jvm.arrayLocs frame_1_arrays args s ++ Jvm.staticLocs frame_1_statics s) 0 0 → Post tb e args s (.returned v) u) :
    ArmFor flags0 classFile x code maxLocals ret World_1 tables_1 room_1 Calls_1 rest_1 Pre_1 Post := by
  intro l hfl _ _ p e ha hc hk s m args below hf hA hF happ hP
  obtain ⟨hcalls, hrest, hpre⟩ := hP
  obtain ⟨-, -, -, hnamed, -, -, -, hat⟩ := (Spec.applies_iff hf).mp happ
  obtain ⟨hg, hn⟩ := and_e (Cond.before_iff.mp (show (Jvm.Cond.and given_1 narrow_1).before args s = true from hpre))
  obtain ⟨ga1, ga2⟩ := and_e hg
  obtain ⟨ga3, ga4⟩ := and_e ga2
  obtain ⟨ga5, ga6⟩ := and_e ga4
  obtain ⟨ga7, ga8⟩ := and_e ga6
  obtain ⟨w0, w1, w2, w3, rfl⟩ : ∃ w0 w1 w2 w3 : Value, args = #[w0, w1, w2, w3] := by
    have hs : args.size = 4 := by simpa [Cond.value, given_1] using ga1
    obtain ⟨L⟩ := args
    match L, hs with
    | [w0, w1, w2, w3], _ => exact ⟨w0, w1, w2, w3, rfl⟩
  have hw := fun d (hd : d ∈ tables_1) => atoms_spec (ws := Jvm.Cond.code x code maxLocals ret :: tables_1) hat d (List.mem_cons_of_mem _ hd)
  have hfit : Fit s := fun {y c} hc i hi => by
    obtain ⟨ha, rfl⟩ := Array.getElem?_eq_some_iff.mp hc
    have q := List.all_eq_true.mp ((Array.all_eq_true_iff_forall_mem.mp hF) _ (Array.getElem_mem ha)) i (List.mem_range.mpr hi)
    simpa [Array.getElem?_eq_getElem hi] using q
  obtain ⟨i0, ei0⟩ := isL_v ga3
  obtain rfl : w0 = (.long i0) := Option.some.inj ei0
  obtain ⟨i1, ei1⟩ := isL_v ga5
  obtain rfl : w1 = (.long i1) := Option.some.inj ei1
  obtain ⟨i2, ei2⟩ := isL_v ga7
  obtain rfl : w2 = (.long i2) := Option.some.inj ei2
  obtain ⟨i3, ei3⟩ := isL_v ga8
  obtain rfl : w3 = (.long i3) := Option.some.inj ei3
  obtain ⟨n, o, h1, h2, h3, _, L, rfl, ⟨rfl, N⟩, hq⟩ := rm0 l s _ hw tables_1 i0 i1 i2 i3  s.heap s.heap.size (Nat.le_refl _)  p e ha hc hk s m _ below hf ((Spec.applies_iff_loose hf).mp happ).1 ⟨rfl, State.Warmed39.refl s, rfl⟩ trivial
  refine ⟨n, _, h1, h2, h3, hpost _ _ _ _ _ _ ⟨Cond.after_iff.mpr rfl, Cond.after_iff.mpr (eq_i res_at (Term.int_eval (1)) rfl), trivial⟩ ⟨hq.1, hq.2.1, (hq.2.2.sift fun y hy => Or.inr (N y hy)).mono (by decide) (by decide)⟩⟩
theorem main_1_1 : Claimed_1_1 := comes_1 fun _ _ _ _ _ _ h hF => ⟨h.1, hF⟩
theorem main_1_2 : Claimed_1_2 := comes_1 fun _ _ _ _ _ _ h hF => ⟨h.2.1, hF⟩
end Jvm.Pilot.@@N@@
namespace Jvm.Pilot.@@N@@
open Jvm Jvm.ClassFile Sem Op Lib Jvm.Free Jvm.Stand Jvm.Pilot.@@N@@.Jvm.D
/-! MADE BY PROGRAM (witnessworld.py) out of the Statement's table words and the real class files: 9 classes; the members and pool entries that the words name. The judged class is class 1, her method 1. -/
namespace start1
open Jvm.ClassFile
def u (s : String) : CpInfo := .utf8 (stringToUtf16 s)
/-- a pool by its gaps: so many unusable entries, then the entry; so many at the end -/
def gap : Nat → List CpInfo → List CpInfo
  | 0, r => r
  | n + 1, r => .unusable :: gap n r
def poolList (es : List (Nat × CpInfo)) (last : Nat) : List CpInfo := es.foldr (fun e r => gap e.1 (e.2 :: r)) (gap last [])
def pool (es : List (Nat × CpInfo)) (last : Nat) : Array CpInfo := ⟨poolList es last⟩
def fileOf (pool : Array CpInfo) (this : Nat) (attrs : Array Attribute := #[]) (ms : Array MethodInfo := #[]) (fl : Nat := 33) (sup : Nat := 0) (ifs : Array Nat := #[]) (fds : Array FieldInfo := #[]) : ClassFile where
  minorVersion := 0
  majorVersion := 65
  constantPool := pool
  accessFlags := fl
  thisClass := this
  superClass := sup
  interfaces := ifs
  fields := fds
  methods := ms
  attributes := attrs
def plain (name : String) (sup : Option ClassId) : Class where
  name := name
  kind := .ordinary
  loader := none
  accessFlags := 33
  super := sup
  interfaces := #[]
  cf := none
  fields := #[]
  methods := #[]
  instanceTypes := #[]
  staticTypes := #[]
  resolved := #[]
  callSites := []
  init := .initialized
  statics := none
  mirror := none

def pool0 : Array CpInfo := pool [(5, u "<init>"), (0, u "()V"), (1, .class_ 10), (1, u "java/lang/Object")] 113

def k0m0 : Method := { name := "<init>", desc := "()V", sig := { parameters := [], returnType := none }, accessFlags := 1, code := none }
/-- java/lang/Object -/
def k0 : Class := { plain "java/lang/Object" none with
  accessFlags := 33
  interfaces := #[]
  cf := some (fileOf pool0 8 #[] #[{ accessFlags := 1, nameIndex := 5, descriptorIndex := 6, attributes := #[] }] 33 0 #[] #[])
  fields := #[]
  methods := #[k0m0]
  instanceTypes := #[]
  staticTypes := #[]
  resolved := Array.replicate 124 none
  statics := none }

def pool1 : Array CpInfo := pool [(2, .class_ 4), (1, u "java/lang/Object"), (0, u "<init>"), (0, u "()V"), (0, .long 9223372036854775807), (1, .class_ 10), (0, u "com/example/matchline/matchline/decimal/NanosSumHighPinLaw"), (0, .long 1000000000000000000), (1, .methodref 14 15), (0, .class_ 16), (0, .nameAndType 17 18), (0, u "com/example/matchline/matchline/decimal/Nanos"), (0, u "sumHigh"), (0, u "(JJJJ)J"), (0, .methodref 14 20), (0, .nameAndType 21 22), (0, u "sumLow"), (0, u "(JJ)J"), (0, u "LIMIT"), (0, u "J"), (3, u "law"), (0, u "(JJJJ)Z")] 3

def k1m0 : Method := { name := "<init>", desc := "()V", sig := { parameters := [], returnType := none }, accessFlags := 1, code := none }
def k1c1 : Code := { maxStack := 8, maxLocals := 18, code := code, exceptionTable := #[], attributes := #[] }
def k1m1 : Method := { name := "law", desc := "(JJJJ)Z", sig := { parameters := [.long, .long, .long, .long], returnType := some .boolean }, accessFlags := 9, code := some k1c1 }
/-- com/example/matchline/matchline/decimal/NanosSumHighPinLaw -/
def k1 : Class := { plain "com/example/matchline/matchline/decimal/NanosSumHighPinLaw" (some 0) with
  accessFlags := 49
  interfaces := #[]
  cf := some (fileOf pool1 9 #[] #[{ accessFlags := 1, nameIndex := 5, descriptorIndex := 6, attributes := #[] }, { accessFlags := 9, nameIndex := 28, descriptorIndex := 29, attributes := #[] }] 49 2 #[] #[{ accessFlags := 26, nameIndex := 23, descriptorIndex := 24, attributes := #[] }])
  fields := #[{ name := "LIMIT", type := .long, accessFlags := 26, slot := 0, constantValue := 0 }]
  methods := #[k1m0, k1m1]
  instanceTypes := #[]
  staticTypes := #[.long]
  resolved := Array.replicate 33 none
  statics := none }

def pool2 : Array CpInfo := pool [(2, .class_ 4), (1, u "java/lang/Object"), (0, u "<init>"), (0, u "()V"), (2, .class_ 10), (0, u "com/example/matchline/matchline/decimal/Nanos"), (5, u "(JJ)J"), (0, .long 1000000000000000000), (34, u "POWERS_OF_TEN"), (0, u "[J"), (26, u "LOW_LIMIT"), (0, u "J"), (1, u "FRACTION_DIGITS"), (0, u "I"), (1, u "PER_UNIT"), (0, u "UNITS_PER_HIGH"), (8, u "(JJJJ)J"), (1, u "sumHigh"), (0, u "sumLow")] 24

def k2m0 : Method := { name := "<init>", desc := "()V", sig := { parameters := [], returnType := none }, accessFlags := 2, code := none }
def k2c1 : Code := { maxStack := 4, maxLocals := 8, code := prog_1_method_9_code, exceptionTable := #[], attributes := #[] }
def k2m1 : Method := { name := "sumHigh", desc := "(JJJJ)J", sig := { parameters := [.long, .long, .long, .long], returnType := some .long }, accessFlags := 9, code := some k2c1 }
def k2c2 : Code := { maxStack := 4, maxLocals := 6, code := prog_1_method_10_code, exceptionTable := #[], attributes := #[] }
def k2m2 : Method := { name := "sumLow", desc := "(JJ)J", sig := { parameters := [.long, .long], returnType := some .long }, accessFlags := 9, code := some k2c2 }
/-- com/example/matchline/matchline/decimal/Nanos -/
def k2 : Class := { plain "com/example/matchline/matchline/decimal/Nanos" (some 0) with
  accessFlags := 49
  interfaces := #[]
  cf := some (fileOf pool2 9 #[] #[{ accessFlags := 2, nameIndex := 5, descriptorIndex := 6, attributes := #[] }, { accessFlags := 9, nameIndex := 98, descriptorIndex := 96, attributes := #[] }, { accessFlags := 9, nameIndex := 99, descriptorIndex := 16, attributes := #[] }] 49 2 #[] #[{ accessFlags := 25, nameIndex := 80, descriptorIndex := 81, attributes := #[] }, { accessFlags := 25, nameIndex := 83, descriptorIndex := 84, attributes := #[] }, { accessFlags := 26, nameIndex := 86, descriptorIndex := 81, attributes := #[] }, { accessFlags := 26, nameIndex := 87, descriptorIndex := 81, attributes := #[] }, { accessFlags := 26, nameIndex := 52, descriptorIndex := 53, attributes := #[] }])
  fields := #[{ name := "LOW_LIMIT", type := .long, accessFlags := 25, slot := 0, constantValue := 0 }, { name := "FRACTION_DIGITS", type := .int, accessFlags := 25, slot := 1, constantValue := 0 }, { name := "PER_UNIT", type := .long, accessFlags := 26, slot := 2, constantValue := 0 }, { name := "UNITS_PER_HIGH", type := .long, accessFlags := 26, slot := 3, constantValue := 0 }, { name := "POWERS_OF_TEN", type := (.array .long), accessFlags := 26, slot := 4, constantValue := 0 }]
  methods := #[k2m0, k2m1, k2m2]
  instanceTypes := #[]
  staticTypes := #[.long, .int, .long, .long, (.array .long)]
  resolved := Array.replicate 124 none
  statics := none }

def pool3 : Array CpInfo := pool [(1, u "java/lang/Cloneable"), (0, .class_ 1), (0, u "java/lang/Object"), (0, .class_ 3)] 3

/-- java/lang/Cloneable -/
def k3 : Class := { plain "java/lang/Cloneable" (some 0) with
  accessFlags := 1537
  interfaces := #[]
  cf := some (fileOf pool3 2 #[] #[] 1537 4 #[] #[])
  fields := #[]
  methods := #[]
  instanceTypes := #[]
  staticTypes := #[]
  resolved := Array.replicate 8 none
  statics := none }

def pool4 : Array CpInfo := pool [(1, u "java/io/Serializable"), (0, .class_ 1), (0, u "java/lang/Object"), (0, .class_ 3)] 3

/-- java/io/Serializable -/
def k4 : Class := { plain "java/io/Serializable" (some 0) with
  accessFlags := 1537
  interfaces := #[]
  cf := some (fileOf pool4 2 #[] #[] 1537 4 #[] #[])
  fields := #[]
  methods := #[]
  instanceTypes := #[]
  staticTypes := #[]
  resolved := Array.replicate 8 none
  statics := none }

/-- the primitive byte -/
def k5 : Class := { plain "byte" none with kind := .primitive 'B', accessFlags := 0x411 }
/-- [B -/
def k6 : Class := { plain "[B" (some 0) with kind := .array 5 .byte, interfaces := #[3, 4], accessFlags := 1041 }

/-- the primitive int -/
def k7 : Class := { plain "int" none with kind := .primitive 'I', accessFlags := 0x411 }
/-- [I -/
def k8 : Class := { plain "[I" (some 0) with kind := .array 7 .int, interfaces := #[3, 4], accessFlags := 1041 }

def heap : Heap := #[]
def classes : Array Class := #[k0, k1, k2, k3, k4, k5, k6, k7, k8]
def interned : List (Array UInt16 × Addr) := []
def slotsUsed : Nat := 0
def theMethod : MethodId := ⟨1, 1⟩
def args0 : Array Value := #[.long 7, .long 9, .long 3, .long 4]
def aboutOver (below : List Frame) : State where
  vm := { classes := classes, interned := interned.toArray }
  heap := heap
  slotsUsed := slotsUsed
  threads := #[{ frames := .invoking theMethod args0 :: below }]
def below0 : List Frame := [.native { method := ⟨0, 0⟩, args := #[] }]
def about1 : State := aboutOver below0
def p0 : Program := .bare "" "" ""
def e0 : Env := launch0.env 0 0 0
theorem w_frames : about1.frames = Frame.invoking theMethod args0 :: below0 := rfl
set_option maxRecDepth 65536 in
theorem w_args : argsFit about1.vm theMethod args0 = true := by decide +kernel
set_option maxRecDepth 65536 in
theorem w_heap : heapFits about1 = true := by decide +kernel
set_option maxRecDepth 65536 in
theorem w_runnable : about1.curStatus? = some .runnable := by decide +kernel
set_option maxRecDepth 65536 in
theorem w_alone : about1.alone = true := by decide +kernel
set_option maxRecDepth 65536 in
theorem w_named : about1.methodNamed? x = some theMethod := by decide +kernel
set_option maxRecDepth 65536 in
theorem w_hears : about1.hears theMethod below0 = true := by decide +kernel
set_option maxRecDepth 65536 in
theorem w_ripe : about1.ripe theMethod args0 below0 = true := by decide +kernel
theorem w_running : about1.status = .running := rfl
set_option maxRecDepth 65536 in
theorem w_room : about1.hasRoom e0.platform room_1 = true :=
  launch0.hasRoom_least _ room_1 (by decide +kernel) (by decide +kernel) (by decide +kernel) (by decide +kernel) (by decide +kernel) (by decide +kernel)
theorem allAtoms_all (ts : List Jvm.Cond) (a : Array Jvm.Value) (st : Jvm.State) : (allAtoms ts).before a st = ts.all (fun c => c.before a st) := by
  induction ts with
  | nil => rfl
  | cons c t ih =>
    show (Jvm.Cond.and c (allAtoms t)).before a st = _
    rw [Jvm.Cond.before_and, ih, List.all_cons]
def words1 : List Jvm.Cond := Jvm.Cond.code x code maxLocals ret :: tables_1
/-- a 'code' word, met by the world's own term for the bytes: nothing is compared byte by byte -/
theorem code_word {y : MethodName} {bytes : ByteArray} {mx : Nat} {rt : Option FieldType} {a : Array Value} {s : State} {m : MethodId} {meth : Method} {c : Code} (h1 : s.methodNamed? y = some m) (h2 : s.vm.method? m = some meth) (h3 : meth.code = some c) (h4 : c.code = bytes)
    (h5 : (c.maxLocals == mx && c.exceptionTable.isEmpty && decide (c.maxStack ≤ mostOperands) && decide (meth.sig.returnType = rt) && !meth.locks && decide (parseMethodDescriptor y.desc = some meth.sig)) = true) : (Jvm.Cond.code y bytes mx rt).before a s = true := by
  simp only [Bool.and_eq_true, beq_iff_eq, Bool.not_eq_true', decide_eq_true_eq] at h5
  obtain ⟨⟨⟨⟨⟨g1, g2⟩, g3⟩, g4⟩, g5⟩, g6⟩ := h5
  simp [Cond.before, Cond.holds, Cond.value, h1, h2, h3, h4, g1, g2, g3, g4, g5, g6]
def isCode : Jvm.Cond → Bool
  | .code _ _ _ _ => true
  | _ => false
theorem all_split {L : List Jvm.Cond} {P : Jvm.Cond → Bool} (h1 : L.all (fun c => isCode c || P c) = true) (h2 : ∀ c ∈ L.filter isCode, P c = true) : L.all P = true := by
  refine List.all_eq_true.mpr fun c hc => ?_
  have h := List.all_eq_true.mp h1 c hc
  rcases Bool.eq_false_or_eq_true (isCode c) with hi | hi
  · exact h2 c (List.mem_filter.mpr ⟨hc, hi⟩)
  · simpa [hi] using h
set_option maxRecDepth 65536 in
theorem w_c0 : (Jvm.Cond.code x code maxLocals ret).before args0 about1 = true := code_word (m := ⟨1, 1⟩) (meth := k1m1) (c := k1c1) (by decide +kernel) rfl rfl rfl (by decide +kernel)
set_option maxRecDepth 65536 in
theorem w_c1 : (Jvm.Cond.code ({ cls := "com/example/matchline/matchline/decimal/Nanos", name := "sumHigh", desc := "(JJJJ)J" } : Jvm.MethodName) prog_1_method_9_code (8 : Nat) (Option.some Jvm.ClassFile.FieldType.long)).before args0 about1 = true := code_word (m := ⟨2, 1⟩) (meth := k2m1) (c := k2c1) (by decide +kernel) rfl rfl rfl (by decide +kernel)
set_option maxRecDepth 65536 in
theorem w_c2 : (Jvm.Cond.code ({ cls := "com/example/matchline/matchline/decimal/Nanos", name := "sumLow", desc := "(JJ)J" } : Jvm.MethodName) prog_1_method_10_code (6 : Nat) (Option.some Jvm.ClassFile.FieldType.long)).before args0 about1 = true := code_word (m := ⟨2, 2⟩) (meth := k2m2) (c := k2c2) (by decide +kernel) rfl rfl rfl (by decide +kernel)
def codes1 : List Jvm.Cond := [Jvm.Cond.code x code maxLocals ret, Jvm.Cond.code ({ cls := "com/example/matchline/matchline/decimal/Nanos", name := "sumHigh", desc := "(JJJJ)J" } : Jvm.MethodName) prog_1_method_9_code (8 : Nat) (Option.some Jvm.ClassFile.FieldType.long), Jvm.Cond.code ({ cls := "com/example/matchline/matchline/decimal/Nanos", name := "sumLow", desc := "(JJ)J" } : Jvm.MethodName) prog_1_method_10_code (6 : Nat) (Option.some Jvm.ClassFile.FieldType.long)]
set_option maxRecDepth 65536 in
theorem codes_eq : words1.filter isCode = codes1 := rfl
theorem w_codes : ∀ c ∈ words1.filter isCode, c.before args0 about1 = true := by
  rw [codes_eq]
  intro c hc
  simp only [codes1, List.mem_cons, List.not_mem_nil, or_false] at hc
  rcases hc with rfl | rfl | rfl
  · exact w_c0
  · exact w_c1
  · exact w_c2
set_option maxRecDepth 65536 in
theorem w_t1 : words1.all (fun c => isCode c || c.before args0 about1) = true := by decide +kernel
theorem w_tables : (allAtoms (Jvm.Cond.code x code maxLocals ret :: tables_1)).before args0 about1 = true := by
  rw [allAtoms_all]
  show words1.all (fun c => c.before args0 about1) = true
  refine all_split ?_ w_codes
  rw [w_t1]
set_option maxRecDepth 65536 in
theorem w_case : (Jvm.Cond.and given_1 narrow_1).before args0 about1 = true := by decide +kernel
theorem w_applies : (headSpec (Jvm.Cond.code x code maxLocals ret :: tables_1) room_1).applies x e0.platform about1 = true :=
  (Spec.applies_iff w_frames).mpr ⟨w_running, w_runnable, w_alone, w_named, w_hears, w_ripe, w_room, w_tables⟩
theorem atStart : AtStart classFile x code maxLocals ret World_1 tables_1 room_1 Calls_1 rest_1 Pre_1 launch0 p0 e0 about1 theMethod args0 below0 :=
  ⟨lists_1, trivial, launch0.admits_env _ _ _, launch0.least_env, fairChoices_fair.cas, fairChoices_fair.clock, w_frames, w_args, w_heap, w_applies, trivial, trivial, w_case⟩
end start1
theorem witness_1 : WitnessClaimed_1 := ⟨start1.p0, start1.e0, start1.about1, start1.theMethod, start1.args0, start1.below0, start1.atStart⟩
end Jvm.Pilot.@@N@@
