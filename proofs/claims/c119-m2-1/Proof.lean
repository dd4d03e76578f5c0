import JvmDerived
import JvmDerived.Pilot.@@N@@Statement
import JvmDerived.Pilot.@@N@@Code
set_option linter.unusedVariables false
set_option linter.unusedSimpArgs false
namespace Jvm.RoadKit
open Sem ClassFile Op Lib Jvm.Stand Jvm.Free Jvm.LawKit
section New
variable {p : Program} {l : Launch} {e : Env} {R : Room} {s : State} {m : MethodId} {args : Array Value} {below : List Frame} {meth : Method} {c : Code} {T : State} {locs : List Loc} {cells slots : Nat}
theorem retI (X : Stand p l e R s m args below meth c T locs cells slots) (hx : p.tables.exec = Jvm.exec) {pc : Nat} {Ls : Array Slot} {z : Int32} {rest : List Value} (hret : meth.sig.returnType = some .int) (hd : decode c.code pc = .ok (.ireturn, 1)) {fs : List Frame}
    (hl : ∀ (f : JFrame) (acts : List Action), f.method = m → f.locked = none → f.entered = [] → (doReturn e (T.setTop f) acts (some (.int z))).1 = T.setFrames fs) : Steps p.tables e below (T.setTop (mkF m pc Ls (.int z :: rest))) (T.setFrames fs) :=
  retOut X hx hret rfl (Or.inl ⟨rfl, Or.inl rfl, _, rfl⟩) hd hl
theorem own_retL (X : Stand p l e R s m args below meth c T locs cells slots) (hx : p.tables.exec = Jvm.exec) {pc : Nat} {Ls : Array Slot} {z : Int64} {rest : List Value} (hret : meth.sig.returnType = some .long) (hd : decode c.code pc = .ok (.lreturn, 1)) {fs : List Frame}
    (hl : ∀ (f : JFrame) (acts : List Action), f.method = m → f.locked = none → f.entered = [] → (doReturn e (T.setTop f) acts (some (.long z))).1 = T.setFrames fs) : Steps p.tables e below (T.setTop (mkF m pc Ls (.long z :: rest))) (T.setFrames fs) :=
  retOut X hx hret rfl (Or.inr (Or.inl ⟨rfl, rfl, _, rfl⟩)) hd hl
theorem own_retA (X : Stand p l e R s m args below meth c T locs cells slots) (hx : p.tables.exec = Jvm.exec) {pc : Nat} {Ls : Array Slot} {z : Addr} {rest : List Value} {t : FieldType} (hret : meth.sig.returnType = some t) (ht : t.isReference = true) (hd : decode c.code pc = .ok (.areturn, 1)) {fs : List Frame}
    (hl : ∀ (f : JFrame) (acts : List Action), f.method = m → f.locked = none → f.entered = [] → (doReturn e (T.setTop f) acts (some (.ref z))).1 = T.setFrames fs) : Steps p.tables e below (T.setTop (mkF m pc Ls (.ref z :: rest))) (T.setFrames fs) :=
  retOut X hx hret (by cases t <;> first | rfl | (cases ht; done)) (Or.inr (Or.inr (Or.inr (Or.inr ⟨rfl, ht, rfl⟩)))) hd hl
theorem own_lrem {g : JFrame} {target : State} (X : Stand p l e R s m args below meth c T locs cells slots) (hx : p.tables.exec = Jvm.exec) (hg : g.method = m) {x y : Int64} {rest : List Value} (hd : decode c.code g.pc = .ok (.lrem, 1)) (hs : g.stack = .long y :: .long x :: rest) (hy : y ≠ 0)
    (hr : Steps p.tables e below (T.setTop { g with pc := g.pc + 1, stack := .long (x % y) :: rest }) target) : Steps p.tables e below (T.setTop g) target :=
  XS.lrem X.here hx hg hd hs hy (by rw [lrem_mod]; exact hr)
end New
/-- one step of a walk whose end is still to be found -/
theorem own_by {tb : Tables} {e : Env} {below : List Frame} {A A' : State} {P : State → Outcome → Prop} (k : ∀ t, Steps tb e below A' t → Steps tb e below A t) (h : ∃ s₂ o, Steps tb e below A' s₂ ∧ P s₂ o) : ∃ s₂ o, Steps tb e below A s₂ ∧ P s₂ o := by
  obtain ⟨s₂, o, h1, h2⟩ := h; exact ⟨s₂, o, k _ h1, h2⟩
theorem own_stp {tb : Tables} {e : Env} {below : List Frame} {A A' t : State} (k : ∀ t, Steps tb e below A' t → Steps tb e below A t) (h : Steps tb e below A' t) : Steps tb e below A t := k _ h
/-- all roads that meet again -/
theorem own_cut {tb : Tables} {e : Env} {below : List Frame} {A : State} {P : State → Outcome → Prop} {Φ : State → Prop} (h1 : (∀ A', Φ A' → ∃ s₂ o, Steps tb e below A' s₂ ∧ P s₂ o) → ∃ s₂ o, Steps tb e below A s₂ ∧ P s₂ o) (h2 : ∀ A', Φ A' → ∃ s₂ o, Steps tb e below A' s₂ ∧ P s₂ o) : ∃ s₂ o, Steps tb e below A s₂ ∧ P s₂ o := h1 h2
/-- an array: its kind, its length, and what each place holds -/
def AF (Z : State) (h : Heap) (a : Addr) (ty : FieldType) (n : Int32) (f : Nat → Value) : Prop := ∃ c : Cell, Arr Z h a c ty ∧ c.slots.size = n.toNatClampNeg ∧ ¬ n < 0 ∧ ∀ i, i < c.slots.size → c.slots[i]? = some (f i)
section AFs
variable {Z : State} {h h' : Heap} {a b : Addr} {ty : FieldType} {n : Int32} {f f' : Nat → Value} {v : Value} {sl : Nat} {ws : List Addr}
theorem AF.lt (F : AF Z h a ty n f) : a < h.size := by obtain ⟨c, A, -⟩ := F; exact A.lt
theorem AF.ext (F : AF Z h a ty n f) (E : Ext h h') : AF Z h' a ty n f := by obtain ⟨c, A, r⟩ := F; exact ⟨c, A.ext E, r⟩
theorem AF.other (F : AF Z h b ty n f) (W : Wr h h' a sl v) (q : b ≠ a) : AF Z h' b ty n f := by obtain ⟨c, A, r⟩ := F; exact ⟨c, A.other W q, r⟩
theorem AF.keep (F : AF Z h a ty n f) (K : Keep h h' ws) (q : a ∉ ws) : AF Z h' a ty n f := by obtain ⟨c, A, r⟩ := F; exact ⟨c, ⟨K.2.1 a c A.1 q, A.2⟩, r⟩
theorem AF.to (F : AF Z h a ty n f) (q : ∀ i, i < n.toNatClampNeg → f i = f' i) : AF Z h a ty n f' := by
  obtain ⟨c, A, S, M, H⟩ := F; exact ⟨c, A, S, M, fun i hi => by rw [← q i (S ▸ hi)]; exact H i hi⟩
theorem AF.new {k : ClassId} (A : Arr Z h a (newA k ty n) ty) (q : ¬ n < 0) : AF Z h a ty n (fun _ => defaultValue ty) := ⟨_, A, sz_new _ _ _, q, fun i hi => by rw [sz_new] at hi; simp [newA, hi]⟩
theorem AF.set {c : Cell} {j : Int32} (A : Arr Z h a c ty) (S : c.slots.size = n.toNatClampNeg) (M : ¬ n < 0) (H : ∀ i, i < c.slots.size → c.slots[i]? = some (f i)) (hj : ¬ (j < 0 ∨ c.slots.size ≤ j.toNatClampNeg)) (W : Wr h h' a j.toNatClampNeg v) :
    AF Z h' a ty n (fun i => if i = j.toNatClampNeg then v else f i) := by
  refine ⟨_, A.same W, by rw [sz_set]; exact S, M, fun i hi => ?_⟩
  rw [sz_set] at hi
  have hj' : j.toNatClampNeg < c.slots.size := Nat.lt_of_not_le fun q => hj (Or.inr q)
  by_cases u : i = j.toNatClampNeg
  · subst u; simp [Cell.setSlot, hj']
  · have := H i hi; simp only [Cell.setSlot, if_neg u]
    rw [Array.getElem?_setIfInBounds_ne (Ne.symm u)]; exact this
end AFs
end Jvm.RoadKit
namespace Jvm.Pilot.@@N@@
open Jvm Jvm.ClassFile Sem Op Lib Jvm.Free Jvm.Stand Jvm.LawKit Jvm.RoadKit Bundle Jvm.Pilot.@@N@@.Jvm.D
def own_f1 (u_a0_status : Int32) : Int32 := (if u_a0_status = (40000 : Int32) then (1 : Int32) else (0 : Int32))
theorem pn_0 : plainName "com/example/flashsafe/flashsafe/Code" = true := by first | (simp [plainName, overriddenIn]; done) | decide +kernel
theorem d1_0 : decode prog_4_method_5_code 0 = .ok (.aload_n 0, 1) := by decide +kernel
theorem d1_1 : decode prog_4_method_5_code 1 = .ok (.getfield 59, 3) := by decide +kernel
theorem d1_4 : decode prog_4_method_5_code 4 = .ok (.ldc 63, 2) := by decide +kernel
theorem d1_6 : decode prog_4_method_5_code 6 = .ok (.if_icmp .ne 7, 3) := by decide +kernel
theorem d1_9 : decode prog_4_method_5_code 9 = .ok (.iconst 1, 1) := by decide +kernel
theorem d1_10 : decode prog_4_method_5_code 10 = .ok (.goto 4, 3) := by decide +kernel
theorem d1_13 : decode prog_4_method_5_code 13 = .ok (.iconst 0, 1) := by decide +kernel
theorem d1_14 : decode prog_4_method_5_code 14 = .ok (.ireturn, 1) := by decide +kernel
theorem ef_rm1 (m : MethodId) (a0 : Addr) : entryFrame m #[(.ref a0)] 1 = mkF m 0 #[.val (.ref a0)] [] := by first | (simp [entryFrame, mkF, argsToLocals, Value.category]; done) | rfl
def Q1 (Z : State) (a0 : Addr) (u_a0_status : Int32) (h0 : Heap) (n0 : Nat) (v : Option Value) (h : Heap) (L : List Loc) : Prop := v = some (.int (own_f1 u_a0_status)) ∧ Fr n0 L ∧ h = h0
set_option maxRecDepth 65536 in
set_option maxHeartbeats 40000000 in
theorem rm1 (l : Launch) (Z : State) (aw : Array Value) (hw : ∀ d ∈ tables_1, d.before aw Z = true) (ws : List Jvm.Cond) (a0 : Addr) (u_a0_status : Int32) (h0 : Heap) (n0 : Nat) (Z0 : n0 ≤ h0.size) (F_a0_status : Fld Z h0 a0 "com/example/flashsafe/flashsafe/Code" "status" "I" (.int u_a0_status)) :
    MetFree l (⟨"com/example/flashsafe/flashsafe/Code", "isRefusal", "()Z"⟩ : MethodName) (head1 (Jvm.Cond.code (⟨"com/example/flashsafe/flashsafe/Code", "isRefusal", "()Z"⟩ : MethodName) prog_4_method_5_code 1 (some .boolean) :: ws) ({ frames := 0, cells := 0, slots := 0, locals := 0 } : Room)) (fun a U => a = #[(.ref a0)] ∧ Z.Warmed39 U.vm ∧ U.heap = h0) (fun _ _ _ _ _ => True) (fun _ U o U' => ∃ v L, o = .returned v ∧ Q1 Z a0 u_a0_status h0 n0 v U'.heap L ∧ FrameEnd U o U' L ({ frames := 0, cells := 0, slots := 0, locals := 0 } : Room).cells ({ frames := 0, cells := 0, slots := 0, locals := 0 } : Room).slots) := by
  refine MetFree.of_bodySF (plainFor_of_name pn_0) hisR ?_
  intro p e s m args below meth c s₁ Bd hml0 hP hK
  obtain ⟨rfl, hZ, hh⟩ := hP
  have hx := Bd.exec
  have hby := Bd.bytes
  have hml : c.maxLocals = 1 := hml0
  have hown : s.vm.findClass "com/example/flashsafe/flashsafe/Code" = some m.cls := findClass_of_methodNamed Bd.named
  have hnm := (name_of_methodNamed Bd.named Bd.method).1
  have X0 : Stand p l e ({ frames := 0, cells := 0, slots := 0, locals := 0 } : Room) s m #[(.ref a0)] below meth c s₁ [] 0 0 := Stand.of_body Bd
  have e0 : s₁.heap = h0 := by rw [← hh, Bd.state]; rfl
  have N0 := Fr.nil n0
  have K0 : Keep h0 h0 [] := Keep.refl _ _
  refine own_by (A' := s₁.setTop (mkF m 0 #[.val (.ref a0)] [])) (fun t k => castTop (ef_rm1 m a0) k) ?_
  refine own_by (A' := s₁.setTop (mkF m 1 #[.val (.ref a0)] [(.ref a0)])) (fun t kt => ?_) ?_
  · show Steps p.tables e below (s₁.setTop (mkF m 0 #[.val (.ref a0)] [])) t
    refine XS.aloadN X0.here hx rfl (hb hby d1_0) rfl rfl ?_
    exact kt
  obtain ⟨T1, X1, e1, st1⟩ := getF X0 hx hZ hown (host := "") (Or.inl (hw _ (List.mem_of_getElem? (i := 34) rfl))) Via.refl e0 F_a0_status (g := (mkF m 1 #[.val (.ref a0)] [(.ref a0)])) rfl rfl (hb hby d1_1)
  refine own_by (A' := T1.setTop (mkF m 4 #[.val (.ref a0)] [(.int u_a0_status)])) (fun t kt => st1 t kt) ?_
  refine own_by (A' := T1.setTop (mkF m 6 #[.val (.ref a0)] [(.int (40000 : Int32)), (.int u_a0_status)])) (fun t kt => ?_) ?_
  · show Steps p.tables e below (T1.setTop (mkF m 4 #[.val (.ref a0)] [(.int u_a0_status)])) t
    refine X1.ldcInt hx hown (mvT hZ (hw _ (List.mem_of_getElem? (i := 36) rfl))) (g := (mkF m 4 #[.val (.ref a0)] [(.int u_a0_status)])) rfl (hb hby d1_4) _ ?_
    exact kt
  by_cases hc6_2 : u_a0_status = (40000 : Int32)
  · refine own_by (A' := T1.setTop (mkF m 14 #[.val (.ref a0)] [(.int (1 : Int32))])) (fun t kt => ?_) ?_
    · show Steps p.tables e below (T1.setTop (mkF m 6 #[.val (.ref a0)] [(.int (40000 : Int32)), (.int u_a0_status)])) t
      refine XS.icmpNo X1.here hx rfl (hb hby d1_6) rfl (teq hc6_2).2 ?_
      show Steps p.tables e below (T1.setTop (mkF m 9 #[.val (.ref a0)] [])) t
      refine XS.iconst X1.here hx rfl (hb hby d1_9) ?_
      show Steps p.tables e below (T1.setTop (mkF m 10 #[.val (.ref a0)] [(.int (1 : Int32))])) t
      refine XS.goto X1.here hx rfl (pc0 := 10) (pc' := 14) rfl (hb hby d1_10) (by decide) (by decide) ?_
      exact kt
    obtain ⟨fs, hr, hrun, hended, hW, hsame⟩ := X1.leave (v := some (.int (1 : Int32))) (fun h => by rw [Bd.returns] at h; cases h)
    refine ⟨_, _, ?_, hrun, hended, _, _, rfl, ?_, ⟨_, rfl⟩, hW, hsame.mono (by decide) (by decide)⟩
    · exact retN X1 hx (t := .boolean) Bd.returns (by simp) (hb hby d1_14) hr
    · show Q1 Z a0 u_a0_status h0 n0 _ T1.heap _
      rw [e1]
      exact ⟨(by rw [own_f1, if_pos hc6_2]), N0, rfl⟩
  · refine own_by (A' := T1.setTop (mkF m 14 #[.val (.ref a0)] [(.int (0 : Int32))])) (fun t kt => ?_) ?_
    · show Steps p.tables e below (T1.setTop (mkF m 6 #[.val (.ref a0)] [(.int (40000 : Int32)), (.int u_a0_status)])) t
      refine XS.icmpYes X1.here hx rfl (pc0 := 6) (pc' := 13) rfl (hb hby d1_6) rfl (feq hc6_2).2 (by decide) (by decide) ?_
      show Steps p.tables e below (T1.setTop (mkF m 13 #[.val (.ref a0)] [])) t
      refine XS.iconst X1.here hx rfl (hb hby d1_13) ?_
      exact kt
    obtain ⟨fs, hr, hrun, hended, hW, hsame⟩ := X1.leave (v := some (.int (0 : Int32))) (fun h => by rw [Bd.returns] at h; cases h)
    refine ⟨_, _, ?_, hrun, hended, _, _, rfl, ?_, ⟨_, rfl⟩, hW, hsame.mono (by decide) (by decide)⟩
    · exact retN X1 hx (t := .boolean) Bd.returns (by simp) (hb hby d1_14) hr
    · show Q1 Z a0 u_a0_status h0 n0 _ T1.heap _
      rw [e1]
      exact ⟨(by rw [own_f1, if_neg hc6_2]), N0, rfl⟩
def own_f2 (u_a0_status : Int32) : Int32 := u_a0_status
theorem d2_0 : decode prog_4_method_4_code 0 = .ok (.aload_n 0, 1) := by decide +kernel
theorem d2_1 : decode prog_4_method_4_code 1 = .ok (.getfield 59, 3) := by decide +kernel
theorem d2_4 : decode prog_4_method_4_code 4 = .ok (.ireturn, 1) := by decide +kernel
theorem ef_rm2 (m : MethodId) (a0 : Addr) : entryFrame m #[(.ref a0)] 1 = mkF m 0 #[.val (.ref a0)] [] := by first | (simp [entryFrame, mkF, argsToLocals, Value.category]; done) | rfl
def Q2 (Z : State) (a0 : Addr) (u_a0_status : Int32) (h0 : Heap) (n0 : Nat) (v : Option Value) (h : Heap) (L : List Loc) : Prop := v = some (.int (own_f2 u_a0_status)) ∧ Fr n0 L ∧ h = h0
set_option maxRecDepth 65536 in
set_option maxHeartbeats 40000000 in
theorem rm2 (l : Launch) (Z : State) (aw : Array Value) (hw : ∀ d ∈ tables_1, d.before aw Z = true) (ws : List Jvm.Cond) (a0 : Addr) (u_a0_status : Int32) (h0 : Heap) (n0 : Nat) (Z0 : n0 ≤ h0.size) (F_a0_status : Fld Z h0 a0 "com/example/flashsafe/flashsafe/Code" "status" "I" (.int u_a0_status)) :
    MetFree l (⟨"com/example/flashsafe/flashsafe/Code", "status", "()I"⟩ : MethodName) (head1 (Jvm.Cond.code (⟨"com/example/flashsafe/flashsafe/Code", "status", "()I"⟩ : MethodName) prog_4_method_4_code 1 (some .int) :: ws) ({ frames := 0, cells := 0, slots := 0, locals := 0 } : Room)) (fun a U => a = #[(.ref a0)] ∧ Z.Warmed39 U.vm ∧ U.heap = h0) (fun _ _ _ _ _ => True) (fun _ U o U' => ∃ v L, o = .returned v ∧ Q2 Z a0 u_a0_status h0 n0 v U'.heap L ∧ FrameEnd U o U' L ({ frames := 0, cells := 0, slots := 0, locals := 0 } : Room).cells ({ frames := 0, cells := 0, slots := 0, locals := 0 } : Room).slots) := by
  refine MetFree.of_bodySF (plainFor_of_name pn_0) hisR ?_
  intro p e s m args below meth c s₁ Bd hml0 hP hK
  obtain ⟨rfl, hZ, hh⟩ := hP
  have hx := Bd.exec
  have hby := Bd.bytes
  have hml : c.maxLocals = 1 := hml0
  have hown : s.vm.findClass "com/example/flashsafe/flashsafe/Code" = some m.cls := findClass_of_methodNamed Bd.named
  have hnm := (name_of_methodNamed Bd.named Bd.method).1
  have X0 : Stand p l e ({ frames := 0, cells := 0, slots := 0, locals := 0 } : Room) s m #[(.ref a0)] below meth c s₁ [] 0 0 := Stand.of_body Bd
  have e0 : s₁.heap = h0 := by rw [← hh, Bd.state]; rfl
  have N0 := Fr.nil n0
  have K0 : Keep h0 h0 [] := Keep.refl _ _
  refine own_by (A' := s₁.setTop (mkF m 0 #[.val (.ref a0)] [])) (fun t k => castTop (ef_rm2 m a0) k) ?_
  refine own_by (A' := s₁.setTop (mkF m 1 #[.val (.ref a0)] [(.ref a0)])) (fun t kt => ?_) ?_
  · show Steps p.tables e below (s₁.setTop (mkF m 0 #[.val (.ref a0)] [])) t
    refine XS.aloadN X0.here hx rfl (hb hby d2_0) rfl rfl ?_
    exact kt
  obtain ⟨T1, X1, e1, st1⟩ := getF X0 hx hZ hown (host := "") (Or.inl (hw _ (List.mem_of_getElem? (i := 34) rfl))) Via.refl e0 F_a0_status (g := (mkF m 1 #[.val (.ref a0)] [(.ref a0)])) rfl rfl (hb hby d2_1)
  refine own_by (A' := T1.setTop (mkF m 4 #[.val (.ref a0)] [(.int u_a0_status)])) (fun t kt => st1 t kt) ?_
  obtain ⟨fs, hr, hrun, hended, hW, hsame⟩ := X1.leave (v := some (.int u_a0_status)) (fun h => by rw [Bd.returns] at h; cases h)
  refine ⟨_, _, ?_, hrun, hended, _, _, rfl, ?_, ⟨_, rfl⟩, hW, hsame.mono (by decide) (by decide)⟩
  · exact retI X1 hx Bd.returns (hb hby d2_4) hr
  · show Q2 Z a0 u_a0_status h0 n0 _ T1.heap _
    rw [e1]
    exact ⟨rfl, N0, rfl⟩
def own_st : Nat → Int32
  | 0 => 10000
  | 1 => 40000
  | 2 => 40000
  | 3 => 40000
  | 4 => 40000
  | 5 => 40000
  | 6 => 40000
  | 7 => 40000
  | 8 => 40000
  | 9 => 40000
  | 10 => 40000
  | _ => 50000
theorem own_i (a : Int32) : 0 ≤ ((a &&& (2147483647 : Int32)) % (12 : Int32)).toInt ∧ ((a &&& (2147483647 : Int32)) % (12 : Int32)).toInt < 12 := by
  have h := c_mask a 2147483647 31 (by decide) (by decide)
  have h2 := c_irem (a &&& (2147483647 : Int32)) 12 12 (by decide)
  omega
theorem own_cases {n : Int32} (h : 0 ≤ n.toInt ∧ n.toInt < 12) : n = 0 ∨ n = 1 ∨ n = 2 ∨ n = 3 ∨ n = 4 ∨ n = 5 ∨ n = 6 ∨ n = 7 ∨ n = 8 ∨ n = 9 ∨ n = 10 ∨ n = 11 := by
  simp only [← Int32.toInt_inj, Int32.reduceToInt]
  omega
theorem own_law (n : Int32) (h : 0 ≤ n.toInt ∧ n.toInt < 12) : own_f1 (own_st n.toNatClampNeg) = (if n = (0 : Int32) then (0 : Int32) else (if n = (11 : Int32) then (0 : Int32) else (1 : Int32))) := by
  rcases own_cases h with rfl | rfl | rfl | rfl | rfl | rfl | rfl | rfl | rfl | rfl | rfl | rfl <;> decide
theorem own_law2 (n : Int32) (h : 0 ≤ n.toInt ∧ n.toInt < 12) : own_f1 (own_st n.toNatClampNeg) = (if own_f2 (own_st n.toNatClampNeg) = (40000 : Int32) then (1 : Int32) else (0 : Int32)) := by
  rcases own_cases h with rfl | rfl | rfl | rfl | rfl | rfl | rfl | rfl | rfl | rfl | rfl | rfl <;> decide
theorem pn_1 : plainName "com/example/flashsafe/flashsafe/CodeIsRefusalPinLaw" = true := by first | (simp [plainName, overriddenIn]; done) | decide +kernel
theorem pd_2 : parseMethodDescriptor "()Z" = some ⟨[], some .boolean⟩ := by decide +kernel
theorem pd_3 : parseMethodDescriptor "()I" = some ⟨[], some .int⟩ := by decide +kernel
theorem ef_rm0 (m : MethodId) (p0 : Int32) : entryFrame m #[(.int p0)] maxLocals = mkF m 0 #[.val (.int p0), .unset, .unset, .unset, .unset, .unset] [] := by first | (simp [entryFrame, mkF, argsToLocals, Value.category, maxLocals]; done) | rfl
def Q0 (Z : State) (p0 : Int32) (r : Nat → Addr) (h0 : Heap) (n0 : Nat) (v : Option Value) (h : Heap) (L : List Loc) : Prop := v = some (.int 1) ∧ Fr n0 L
set_option maxRecDepth 65536 in
set_option maxHeartbeats 40000000 in
theorem rm0 (l : Launch) (Z : State) (aw : Array Value) (hw : ∀ d ∈ tables_1, d.before aw Z = true) (ws : List Jvm.Cond) (p0 : Int32) (r : Nat → Addr) (h0 : Heap) (n0 : Nat) (Z0 : n0 ≤ h0.size) (S_0 : Sta Z h0 "com/example/flashsafe/flashsafe/Code" "SUCCESS" "Lcom/example/flashsafe/flashsafe/Code;" (.ref (r 0))) (S_1 : Sta Z h0 "com/example/flashsafe/flashsafe/Code" "SOLD_OUT" "Lcom/example/flashsafe/flashsafe/Code;" (.ref (r 1))) (S_2 : Sta Z h0 "com/example/flashsafe/flashsafe/Code" "QUOTA_EXCEEDED" "Lcom/example/flashsafe/flashsafe/Code;" (.ref (r 2))) (S_3 : Sta Z h0 "com/example/flashsafe/flashsafe/Code" "NOT_STARTED" "Lcom/example/flashsafe/flashsafe/Code;" (.ref (r 3))) (S_4 : Sta Z h0 "com/example/flashsafe/flashsafe/Code" "ENDED" "Lcom/example/flashsafe/flashsafe/Code;" (.ref (r 4))) (S_5 : Sta Z h0 "com/example/flashsafe/flashsafe/Code" "DISABLED" "Lcom/example/flashsafe/flashsafe/Code;" (.ref (r 5))) (S_6 : Sta Z h0 "com/example/flashsafe/flashsafe/Code" "NOT_FOUND" "Lcom/example/flashsafe/flashsafe/Code;" (.ref (r 6))) (S_7 : Sta Z h0 "com/example/flashsafe/flashsafe/Code" "ORDER_CONFLICT" "Lcom/example/flashsafe/flashsafe/Code;" (.ref (r 7))) (S_8 : Sta Z h0 "com/example/flashsafe/flashsafe/Code" "CANCELLED" "Lcom/example/flashsafe/flashsafe/Code;" (.ref (r 8))) (S_9 : Sta Z h0 "com/example/flashsafe/flashsafe/Code" "EXPIRED" "Lcom/example/flashsafe/flashsafe/Code;" (.ref (r 9))) (S_10 : Sta Z h0 "com/example/flashsafe/flashsafe/Code" "BAD_REQUEST" "Lcom/example/flashsafe/flashsafe/Code;" (.ref (r 10))) (S_11 : Sta Z h0 "com/example/flashsafe/flashsafe/Code" "UNAVAILABLE" "Lcom/example/flashsafe/flashsafe/Code;" (.ref (r 11))) (hE : ∀ k, k < 12 → Exa Z h0 (r k) "com/example/flashsafe/flashsafe/Code") (hF : ∀ k, k < 12 → Fld Z h0 (r k) "com/example/flashsafe/flashsafe/Code" "status" "I" (.int (own_st k))) :
    MetFree l x (head1 (Jvm.Cond.code x code maxLocals ret :: ws) room_1) (fun a U => a = #[(.int p0)] ∧ Z.Warmed39 U.vm ∧ U.heap = h0) (fun _ _ _ _ _ => True) (fun _ U o U' => ∃ v L, o = .returned v ∧ Q0 Z p0 r h0 n0 v U'.heap L ∧ FrameEnd U o U' L 1 12) := by
  refine MetFree.of_bodySF (plainFor_of_name pn_1) hisR ?_
  intro p e s m args below meth c s₁ Bd hml0 hP hK
  obtain ⟨rfl, hZ, hh⟩ := hP
  have hx := Bd.exec
  have hby := Bd.bytes
  have hml : c.maxLocals = 6 := hml0
  have hown : s.vm.findClass "com/example/flashsafe/flashsafe/CodeIsRefusalPinLaw" = some m.cls := findClass_of_methodNamed Bd.named
  have hnm := (name_of_methodNamed Bd.named Bd.method).1
  have X0 : Stand p l e room_1 s m #[(.int p0)] below meth c s₁ [] 0 0 := Stand.of_body Bd
  have e0 : s₁.heap = h0 := by rw [← hh, Bd.state]; rfl
  have N0 := Fr.nil n0
  have K0 : Keep h0 h0 [] := Keep.refl _ _
  refine own_by (A' := s₁.setTop (mkF m 0 #[.val (.int p0), .unset, .unset, .unset, .unset, .unset] [])) (fun t k => castTop (ef_rm0 m p0) k) ?_
  refine own_by (A' := s₁.setTop (mkF m 2 #[.val (.int p0), .unset, .unset, .unset, .unset, .unset] [(.int (12 : Int32))])) (fun t kt => ?_) ?_
  · show Steps p.tables e below (s₁.setTop (mkF m 0 #[.val (.int p0), .unset, .unset, .unset, .unset, .unset] [])) t
    refine XS.bipush X0.here hx rfl (hb hby at_0) ?_
    exact kt
  obtain ⟨T1, h1, k1, X1, e1, E1, A1, O1, st1⟩ := newR X0 hx hZ hown (hw _ (List.mem_of_getElem? (i := 0) rfl)) (hw _ (List.mem_of_getElem? (i := 1) rfl)) e0 (g := (mkF m 2 #[.val (.int p0), .unset, .unset, .unset, .unset, .unset] [(.int (12 : Int32))])) rfl (hb hby at_2) rfl (by decide) (cap := 12) (by decide) (by decide) (by decide) (by decide)
  obtain ⟨b1, g1⟩ : ∃ z, z = h0.size := ⟨_, rfl⟩
  rw [← g1] at A1 st1
  have sz_b1 : h0.size ≤ b1 := Nat.le_trans K0.1 (Nat.le_of_eq g1.symm)
  have g_b1 : n0 ≤ b1 := Nat.le_trans Z0 sz_b1
  have K1 : Keep h0 h1 [] := K0.ext E1
  have V1 : AF Z h1 b1 (.object "com/example/flashsafe/flashsafe/Code") (12 : Int32) (fun _ => .null) := AF.new A1 (by decide)
  have St0 := Sto.of A1 O1 (Ins.self ((hE 0 (by decide)).ext E1))
  have St1 := Sto.of A1 O1 (Ins.self ((hE 1 (by decide)).ext E1))
  have St2 := Sto.of A1 O1 (Ins.self ((hE 2 (by decide)).ext E1))
  have St3 := Sto.of A1 O1 (Ins.self ((hE 3 (by decide)).ext E1))
  have St4 := Sto.of A1 O1 (Ins.self ((hE 4 (by decide)).ext E1))
  have St5 := Sto.of A1 O1 (Ins.self ((hE 5 (by decide)).ext E1))
  have St6 := Sto.of A1 O1 (Ins.self ((hE 6 (by decide)).ext E1))
  have St7 := Sto.of A1 O1 (Ins.self ((hE 7 (by decide)).ext E1))
  have St8 := Sto.of A1 O1 (Ins.self ((hE 8 (by decide)).ext E1))
  have St9 := Sto.of A1 O1 (Ins.self ((hE 9 (by decide)).ext E1))
  have St10 := Sto.of A1 O1 (Ins.self ((hE 10 (by decide)).ext E1))
  have St11 := Sto.of A1 O1 (Ins.self ((hE 11 (by decide)).ext E1))
  refine own_by (A' := T1.setTop (mkF m 5 #[.val (.int p0), .unset, .unset, .unset, .unset, .unset] [(.ref b1)])) (fun t kt => st1 t kt) ?_
  refine own_by (A' := T1.setTop (mkF m 7 #[.val (.int p0), .unset, .unset, .unset, .unset, .unset] [(.int (0 : Int32)), (.ref b1), (.ref b1)])) (fun t kt => ?_) ?_
  · show Steps p.tables e below (T1.setTop (mkF m 5 #[.val (.int p0), .unset, .unset, .unset, .unset, .unset] [(.ref b1)])) t
    refine XS.dup X1.here hx rfl (hb hby at_5) rfl rfl ?_
    show Steps p.tables e below (T1.setTop (mkF m 6 #[.val (.int p0), .unset, .unset, .unset, .unset, .unset] [(.ref b1), (.ref b1)])) t
    refine XS.iconst X1.here hx rfl (hb hby at_6) ?_
    exact kt
  obtain ⟨T2, X2, e2, st2⟩ := getS2 X1 hx hZ hown (host := "") (Or.inl (hw _ (List.mem_of_getElem? (i := 2) rfl))) Via.refl e1 (Sta.ext E1 S_0) (g := (mkF m 7 #[.val (.int p0), .unset, .unset, .unset, .unset, .unset] [(.int (0 : Int32)), (.ref b1), (.ref b1)])) rfl (hb hby at_7)
  refine own_by (A' := T2.setTop (mkF m 10 #[.val (.int p0), .unset, .unset, .unset, .unset, .unset] [(.ref (r 0)), (.int (0 : Int32)), (.ref b1), (.ref b1)])) (fun t kt => st2 t kt) ?_
  obtain ⟨cl3, Ar3, Sz3, Mn3, Ha3⟩ := id V1
  have hin3 := inb_of (j := (0 : Int32)) Sz3 ⟨by decide, by decide⟩
  obtain ⟨T3, h3, X3, e3, W3, st3⟩ := stR X2 hx hZ e2 Ar3 (j := (0 : Int32)) hin3 rfl St0 (g := (mkF m 10 #[.val (.int p0), .unset, .unset, .unset, .unset, .unset] [(.ref (r 0)), (.int (0 : Int32)), (.ref b1), (.ref b1)])) rfl rfl (hb hby at_10)
  have V3 : AF Z h3 b1 (.object "com/example/flashsafe/flashsafe/Code") (12 : Int32) (fun i => if i = ((0 : Int32)).toNatClampNeg then (.ref (r 0)) else .null) := AF.set Ar3 Sz3 Mn3 Ha3 hin3 W3
  have N3 := Fr.snoc X3 N0 g_b1
  have K3 : Keep h0 h3 [] := K1.wr W3 (Or.inr sz_b1)
  refine own_by (A' := T3.setTop (mkF m 11 #[.val (.int p0), .unset, .unset, .unset, .unset, .unset] [(.ref b1)])) (fun t kt => st3 t kt) ?_
  refine own_by (A' := T3.setTop (mkF m 13 #[.val (.int p0), .unset, .unset, .unset, .unset, .unset] [(.int (1 : Int32)), (.ref b1), (.ref b1)])) (fun t kt => ?_) ?_
  · show Steps p.tables e below (T3.setTop (mkF m 11 #[.val (.int p0), .unset, .unset, .unset, .unset, .unset] [(.ref b1)])) t
    refine XS.dup X3.here hx rfl (hb hby at_11) rfl rfl ?_
    show Steps p.tables e below (T3.setTop (mkF m 12 #[.val (.int p0), .unset, .unset, .unset, .unset, .unset] [(.ref b1), (.ref b1)])) t
    refine XS.iconst X3.here hx rfl (hb hby at_12) ?_
    exact kt
  obtain ⟨T4, X4, e4, st4⟩ := getS2 X3 hx hZ hown (host := "") (Or.inl (hw _ (List.mem_of_getElem? (i := 6) rfl))) Via.refl e3 (Sta.wr W3 (Sta.ext E1 S_1)) (g := (mkF m 13 #[.val (.int p0), .unset, .unset, .unset, .unset, .unset] [(.int (1 : Int32)), (.ref b1), (.ref b1)])) rfl (hb hby at_13)
  refine own_by (A' := T4.setTop (mkF m 16 #[.val (.int p0), .unset, .unset, .unset, .unset, .unset] [(.ref (r 1)), (.int (1 : Int32)), (.ref b1), (.ref b1)])) (fun t kt => st4 t kt) ?_
  obtain ⟨cl5, Ar5, Sz5, Mn5, Ha5⟩ := id V3
  have hin5 := inb_of (j := (1 : Int32)) Sz5 ⟨by decide, by decide⟩
  obtain ⟨T5, h5, X5, e5, W5, st5⟩ := stR X4 hx hZ e4 Ar5 (j := (1 : Int32)) hin5 rfl (Sto.wr W3 St1) (g := (mkF m 16 #[.val (.int p0), .unset, .unset, .unset, .unset, .unset] [(.ref (r 1)), (.int (1 : Int32)), (.ref b1), (.ref b1)])) rfl rfl (hb hby at_16)
  have V5 : AF Z h5 b1 (.object "com/example/flashsafe/flashsafe/Code") (12 : Int32) (fun i => if i = ((1 : Int32)).toNatClampNeg then (.ref (r 1)) else if i = ((0 : Int32)).toNatClampNeg then (.ref (r 0)) else .null) := AF.set Ar5 Sz5 Mn5 Ha5 hin5 W5
  have N5 := Fr.snoc X5 N3 g_b1
  have K5 : Keep h0 h5 [] := K3.wr W5 (Or.inr sz_b1)
  refine own_by (A' := T5.setTop (mkF m 17 #[.val (.int p0), .unset, .unset, .unset, .unset, .unset] [(.ref b1)])) (fun t kt => st5 t kt) ?_
  refine own_by (A' := T5.setTop (mkF m 19 #[.val (.int p0), .unset, .unset, .unset, .unset, .unset] [(.int (2 : Int32)), (.ref b1), (.ref b1)])) (fun t kt => ?_) ?_
  · show Steps p.tables e below (T5.setTop (mkF m 17 #[.val (.int p0), .unset, .unset, .unset, .unset, .unset] [(.ref b1)])) t
    refine XS.dup X5.here hx rfl (hb hby at_17) rfl rfl ?_
    show Steps p.tables e below (T5.setTop (mkF m 18 #[.val (.int p0), .unset, .unset, .unset, .unset, .unset] [(.ref b1), (.ref b1)])) t
    refine XS.iconst X5.here hx rfl (hb hby at_18) ?_
    exact kt
  obtain ⟨T6, X6, e6, st6⟩ := getS2 X5 hx hZ hown (host := "") (Or.inl (hw _ (List.mem_of_getElem? (i := 8) rfl))) Via.refl e5 (Sta.wr W5 (Sta.wr W3 (Sta.ext E1 S_2))) (g := (mkF m 19 #[.val (.int p0), .unset, .unset, .unset, .unset, .unset] [(.int (2 : Int32)), (.ref b1), (.ref b1)])) rfl (hb hby at_19)
  refine own_by (A' := T6.setTop (mkF m 22 #[.val (.int p0), .unset, .unset, .unset, .unset, .unset] [(.ref (r 2)), (.int (2 : Int32)), (.ref b1), (.ref b1)])) (fun t kt => st6 t kt) ?_
  obtain ⟨cl7, Ar7, Sz7, Mn7, Ha7⟩ := id V5
  have hin7 := inb_of (j := (2 : Int32)) Sz7 ⟨by decide, by decide⟩
  obtain ⟨T7, h7, X7, e7, W7, st7⟩ := stR X6 hx hZ e6 Ar7 (j := (2 : Int32)) hin7 rfl (Sto.wr W5 (Sto.wr W3 St2)) (g := (mkF m 22 #[.val (.int p0), .unset, .unset, .unset, .unset, .unset] [(.ref (r 2)), (.int (2 : Int32)), (.ref b1), (.ref b1)])) rfl rfl (hb hby at_22)
  have V7 : AF Z h7 b1 (.object "com/example/flashsafe/flashsafe/Code") (12 : Int32) (fun i => if i = ((2 : Int32)).toNatClampNeg then (.ref (r 2)) else if i = ((1 : Int32)).toNatClampNeg then (.ref (r 1)) else if i = ((0 : Int32)).toNatClampNeg then (.ref (r 0)) else .null) := AF.set Ar7 Sz7 Mn7 Ha7 hin7 W7
  have N7 := Fr.snoc X7 N5 g_b1
  have K7 : Keep h0 h7 [] := K5.wr W7 (Or.inr sz_b1)
  refine own_by (A' := T7.setTop (mkF m 23 #[.val (.int p0), .unset, .unset, .unset, .unset, .unset] [(.ref b1)])) (fun t kt => st7 t kt) ?_
  refine own_by (A' := T7.setTop (mkF m 25 #[.val (.int p0), .unset, .unset, .unset, .unset, .unset] [(.int (3 : Int32)), (.ref b1), (.ref b1)])) (fun t kt => ?_) ?_
  · show Steps p.tables e below (T7.setTop (mkF m 23 #[.val (.int p0), .unset, .unset, .unset, .unset, .unset] [(.ref b1)])) t
    refine XS.dup X7.here hx rfl (hb hby at_23) rfl rfl ?_
    show Steps p.tables e below (T7.setTop (mkF m 24 #[.val (.int p0), .unset, .unset, .unset, .unset, .unset] [(.ref b1), (.ref b1)])) t
    refine XS.iconst X7.here hx rfl (hb hby at_24) ?_
    exact kt
  obtain ⟨T8, X8, e8, st8⟩ := getS2 X7 hx hZ hown (host := "") (Or.inl (hw _ (List.mem_of_getElem? (i := 10) rfl))) Via.refl e7 (Sta.wr W7 (Sta.wr W5 (Sta.wr W3 (Sta.ext E1 S_3)))) (g := (mkF m 25 #[.val (.int p0), .unset, .unset, .unset, .unset, .unset] [(.int (3 : Int32)), (.ref b1), (.ref b1)])) rfl (hb hby at_25)
  refine own_by (A' := T8.setTop (mkF m 28 #[.val (.int p0), .unset, .unset, .unset, .unset, .unset] [(.ref (r 3)), (.int (3 : Int32)), (.ref b1), (.ref b1)])) (fun t kt => st8 t kt) ?_
  obtain ⟨cl9, Ar9, Sz9, Mn9, Ha9⟩ := id V7
  have hin9 := inb_of (j := (3 : Int32)) Sz9 ⟨by decide, by decide⟩
  obtain ⟨T9, h9, X9, e9, W9, st9⟩ := stR X8 hx hZ e8 Ar9 (j := (3 : Int32)) hin9 rfl (Sto.wr W7 (Sto.wr W5 (Sto.wr W3 St3))) (g := (mkF m 28 #[.val (.int p0), .unset, .unset, .unset, .unset, .unset] [(.ref (r 3)), (.int (3 : Int32)), (.ref b1), (.ref b1)])) rfl rfl (hb hby at_28)
  have V9 : AF Z h9 b1 (.object "com/example/flashsafe/flashsafe/Code") (12 : Int32) (fun i => if i = ((3 : Int32)).toNatClampNeg then (.ref (r 3)) else if i = ((2 : Int32)).toNatClampNeg then (.ref (r 2)) else if i = ((1 : Int32)).toNatClampNeg then (.ref (r 1)) else if i = ((0 : Int32)).toNatClampNeg then (.ref (r 0)) else .null) := AF.set Ar9 Sz9 Mn9 Ha9 hin9 W9
  have N9 := Fr.snoc X9 N7 g_b1
  have K9 : Keep h0 h9 [] := K7.wr W9 (Or.inr sz_b1)
  refine own_by (A' := T9.setTop (mkF m 29 #[.val (.int p0), .unset, .unset, .unset, .unset, .unset] [(.ref b1)])) (fun t kt => st9 t kt) ?_
  refine own_by (A' := T9.setTop (mkF m 31 #[.val (.int p0), .unset, .unset, .unset, .unset, .unset] [(.int (4 : Int32)), (.ref b1), (.ref b1)])) (fun t kt => ?_) ?_
  · show Steps p.tables e below (T9.setTop (mkF m 29 #[.val (.int p0), .unset, .unset, .unset, .unset, .unset] [(.ref b1)])) t
    refine XS.dup X9.here hx rfl (hb hby at_29) rfl rfl ?_
    show Steps p.tables e below (T9.setTop (mkF m 30 #[.val (.int p0), .unset, .unset, .unset, .unset, .unset] [(.ref b1), (.ref b1)])) t
    refine XS.iconst X9.here hx rfl (hb hby at_30) ?_
    exact kt
  obtain ⟨T10, X10, e10, st10⟩ := getS2 X9 hx hZ hown (host := "") (Or.inl (hw _ (List.mem_of_getElem? (i := 12) rfl))) Via.refl e9 (Sta.wr W9 (Sta.wr W7 (Sta.wr W5 (Sta.wr W3 (Sta.ext E1 S_4))))) (g := (mkF m 31 #[.val (.int p0), .unset, .unset, .unset, .unset, .unset] [(.int (4 : Int32)), (.ref b1), (.ref b1)])) rfl (hb hby at_31)
  refine own_by (A' := T10.setTop (mkF m 34 #[.val (.int p0), .unset, .unset, .unset, .unset, .unset] [(.ref (r 4)), (.int (4 : Int32)), (.ref b1), (.ref b1)])) (fun t kt => st10 t kt) ?_
  obtain ⟨cl11, Ar11, Sz11, Mn11, Ha11⟩ := id V9
  have hin11 := inb_of (j := (4 : Int32)) Sz11 ⟨by decide, by decide⟩
  obtain ⟨T11, h11, X11, e11, W11, st11⟩ := stR X10 hx hZ e10 Ar11 (j := (4 : Int32)) hin11 rfl (Sto.wr W9 (Sto.wr W7 (Sto.wr W5 (Sto.wr W3 St4)))) (g := (mkF m 34 #[.val (.int p0), .unset, .unset, .unset, .unset, .unset] [(.ref (r 4)), (.int (4 : Int32)), (.ref b1), (.ref b1)])) rfl rfl (hb hby at_34)
  have V11 : AF Z h11 b1 (.object "com/example/flashsafe/flashsafe/Code") (12 : Int32) (fun i => if i = ((4 : Int32)).toNatClampNeg then (.ref (r 4)) else if i = ((3 : Int32)).toNatClampNeg then (.ref (r 3)) else if i = ((2 : Int32)).toNatClampNeg then (.ref (r 2)) else if i = ((1 : Int32)).toNatClampNeg then (.ref (r 1)) else if i = ((0 : Int32)).toNatClampNeg then (.ref (r 0)) else .null) := AF.set Ar11 Sz11 Mn11 Ha11 hin11 W11
  have N11 := Fr.snoc X11 N9 g_b1
  have K11 : Keep h0 h11 [] := K9.wr W11 (Or.inr sz_b1)
  refine own_by (A' := T11.setTop (mkF m 35 #[.val (.int p0), .unset, .unset, .unset, .unset, .unset] [(.ref b1)])) (fun t kt => st11 t kt) ?_
  refine own_by (A' := T11.setTop (mkF m 37 #[.val (.int p0), .unset, .unset, .unset, .unset, .unset] [(.int (5 : Int32)), (.ref b1), (.ref b1)])) (fun t kt => ?_) ?_
  · show Steps p.tables e below (T11.setTop (mkF m 35 #[.val (.int p0), .unset, .unset, .unset, .unset, .unset] [(.ref b1)])) t
    refine XS.dup X11.here hx rfl (hb hby at_35) rfl rfl ?_
    show Steps p.tables e below (T11.setTop (mkF m 36 #[.val (.int p0), .unset, .unset, .unset, .unset, .unset] [(.ref b1), (.ref b1)])) t
    refine XS.iconst X11.here hx rfl (hb hby at_36) ?_
    exact kt
  obtain ⟨T12, X12, e12, st12⟩ := getS2 X11 hx hZ hown (host := "") (Or.inl (hw _ (List.mem_of_getElem? (i := 14) rfl))) Via.refl e11 (Sta.wr W11 (Sta.wr W9 (Sta.wr W7 (Sta.wr W5 (Sta.wr W3 (Sta.ext E1 S_5)))))) (g := (mkF m 37 #[.val (.int p0), .unset, .unset, .unset, .unset, .unset] [(.int (5 : Int32)), (.ref b1), (.ref b1)])) rfl (hb hby at_37)
  refine own_by (A' := T12.setTop (mkF m 40 #[.val (.int p0), .unset, .unset, .unset, .unset, .unset] [(.ref (r 5)), (.int (5 : Int32)), (.ref b1), (.ref b1)])) (fun t kt => st12 t kt) ?_
  obtain ⟨cl13, Ar13, Sz13, Mn13, Ha13⟩ := id V11
  have hin13 := inb_of (j := (5 : Int32)) Sz13 ⟨by decide, by decide⟩
  obtain ⟨T13, h13, X13, e13, W13, st13⟩ := stR X12 hx hZ e12 Ar13 (j := (5 : Int32)) hin13 rfl (Sto.wr W11 (Sto.wr W9 (Sto.wr W7 (Sto.wr W5 (Sto.wr W3 St5))))) (g := (mkF m 40 #[.val (.int p0), .unset, .unset, .unset, .unset, .unset] [(.ref (r 5)), (.int (5 : Int32)), (.ref b1), (.ref b1)])) rfl rfl (hb hby at_40)
  have V13 : AF Z h13 b1 (.object "com/example/flashsafe/flashsafe/Code") (12 : Int32) (fun i => if i = ((5 : Int32)).toNatClampNeg then (.ref (r 5)) else if i = ((4 : Int32)).toNatClampNeg then (.ref (r 4)) else if i = ((3 : Int32)).toNatClampNeg then (.ref (r 3)) else if i = ((2 : Int32)).toNatClampNeg then (.ref (r 2)) else if i = ((1 : Int32)).toNatClampNeg then (.ref (r 1)) else if i = ((0 : Int32)).toNatClampNeg then (.ref (r 0)) else .null) := AF.set Ar13 Sz13 Mn13 Ha13 hin13 W13
  have N13 := Fr.snoc X13 N11 g_b1
  have K13 : Keep h0 h13 [] := K11.wr W13 (Or.inr sz_b1)
  refine own_by (A' := T13.setTop (mkF m 41 #[.val (.int p0), .unset, .unset, .unset, .unset, .unset] [(.ref b1)])) (fun t kt => st13 t kt) ?_
  refine own_by (A' := T13.setTop (mkF m 44 #[.val (.int p0), .unset, .unset, .unset, .unset, .unset] [(.int (6 : Int32)), (.ref b1), (.ref b1)])) (fun t kt => ?_) ?_
  · show Steps p.tables e below (T13.setTop (mkF m 41 #[.val (.int p0), .unset, .unset, .unset, .unset, .unset] [(.ref b1)])) t
    refine XS.dup X13.here hx rfl (hb hby at_41) rfl rfl ?_
    show Steps p.tables e below (T13.setTop (mkF m 42 #[.val (.int p0), .unset, .unset, .unset, .unset, .unset] [(.ref b1), (.ref b1)])) t
    refine XS.bipush X13.here hx rfl (hb hby at_42) ?_
    exact kt
  obtain ⟨T14, X14, e14, st14⟩ := getS2 X13 hx hZ hown (host := "") (Or.inl (hw _ (List.mem_of_getElem? (i := 16) rfl))) Via.refl e13 (Sta.wr W13 (Sta.wr W11 (Sta.wr W9 (Sta.wr W7 (Sta.wr W5 (Sta.wr W3 (Sta.ext E1 S_6))))))) (g := (mkF m 44 #[.val (.int p0), .unset, .unset, .unset, .unset, .unset] [(.int (6 : Int32)), (.ref b1), (.ref b1)])) rfl (hb hby at_44)
  refine own_by (A' := T14.setTop (mkF m 47 #[.val (.int p0), .unset, .unset, .unset, .unset, .unset] [(.ref (r 6)), (.int (6 : Int32)), (.ref b1), (.ref b1)])) (fun t kt => st14 t kt) ?_
  obtain ⟨cl15, Ar15, Sz15, Mn15, Ha15⟩ := id V13
  have hin15 := inb_of (j := (6 : Int32)) Sz15 ⟨by decide, by decide⟩
  obtain ⟨T15, h15, X15, e15, W15, st15⟩ := stR X14 hx hZ e14 Ar15 (j := (6 : Int32)) hin15 rfl (Sto.wr W13 (Sto.wr W11 (Sto.wr W9 (Sto.wr W7 (Sto.wr W5 (Sto.wr W3 St6)))))) (g := (mkF m 47 #[.val (.int p0), .unset, .unset, .unset, .unset, .unset] [(.ref (r 6)), (.int (6 : Int32)), (.ref b1), (.ref b1)])) rfl rfl (hb hby at_47)
  have V15 : AF Z h15 b1 (.object "com/example/flashsafe/flashsafe/Code") (12 : Int32) (fun i => if i = ((6 : Int32)).toNatClampNeg then (.ref (r 6)) else if i = ((5 : Int32)).toNatClampNeg then (.ref (r 5)) else if i = ((4 : Int32)).toNatClampNeg then (.ref (r 4)) else if i = ((3 : Int32)).toNatClampNeg then (.ref (r 3)) else if i = ((2 : Int32)).toNatClampNeg then (.ref (r 2)) else if i = ((1 : Int32)).toNatClampNeg then (.ref (r 1)) else if i = ((0 : Int32)).toNatClampNeg then (.ref (r 0)) else .null) := AF.set Ar15 Sz15 Mn15 Ha15 hin15 W15
  have N15 := Fr.snoc X15 N13 g_b1
  have K15 : Keep h0 h15 [] := K13.wr W15 (Or.inr sz_b1)
  refine own_by (A' := T15.setTop (mkF m 48 #[.val (.int p0), .unset, .unset, .unset, .unset, .unset] [(.ref b1)])) (fun t kt => st15 t kt) ?_
  refine own_by (A' := T15.setTop (mkF m 51 #[.val (.int p0), .unset, .unset, .unset, .unset, .unset] [(.int (7 : Int32)), (.ref b1), (.ref b1)])) (fun t kt => ?_) ?_
  · show Steps p.tables e below (T15.setTop (mkF m 48 #[.val (.int p0), .unset, .unset, .unset, .unset, .unset] [(.ref b1)])) t
    refine XS.dup X15.here hx rfl (hb hby at_48) rfl rfl ?_
    show Steps p.tables e below (T15.setTop (mkF m 49 #[.val (.int p0), .unset, .unset, .unset, .unset, .unset] [(.ref b1), (.ref b1)])) t
    refine XS.bipush X15.here hx rfl (hb hby at_49) ?_
    exact kt
  obtain ⟨T16, X16, e16, st16⟩ := getS2 X15 hx hZ hown (host := "") (Or.inl (hw _ (List.mem_of_getElem? (i := 18) rfl))) Via.refl e15 (Sta.wr W15 (Sta.wr W13 (Sta.wr W11 (Sta.wr W9 (Sta.wr W7 (Sta.wr W5 (Sta.wr W3 (Sta.ext E1 S_7)))))))) (g := (mkF m 51 #[.val (.int p0), .unset, .unset, .unset, .unset, .unset] [(.int (7 : Int32)), (.ref b1), (.ref b1)])) rfl (hb hby at_51)
  refine own_by (A' := T16.setTop (mkF m 54 #[.val (.int p0), .unset, .unset, .unset, .unset, .unset] [(.ref (r 7)), (.int (7 : Int32)), (.ref b1), (.ref b1)])) (fun t kt => st16 t kt) ?_
  obtain ⟨cl17, Ar17, Sz17, Mn17, Ha17⟩ := id V15
  have hin17 := inb_of (j := (7 : Int32)) Sz17 ⟨by decide, by decide⟩
  obtain ⟨T17, h17, X17, e17, W17, st17⟩ := stR X16 hx hZ e16 Ar17 (j := (7 : Int32)) hin17 rfl (Sto.wr W15 (Sto.wr W13 (Sto.wr W11 (Sto.wr W9 (Sto.wr W7 (Sto.wr W5 (Sto.wr W3 St7))))))) (g := (mkF m 54 #[.val (.int p0), .unset, .unset, .unset, .unset, .unset] [(.ref (r 7)), (.int (7 : Int32)), (.ref b1), (.ref b1)])) rfl rfl (hb hby at_54)
  have V17 : AF Z h17 b1 (.object "com/example/flashsafe/flashsafe/Code") (12 : Int32) (fun i => if i = ((7 : Int32)).toNatClampNeg then (.ref (r 7)) else if i = ((6 : Int32)).toNatClampNeg then (.ref (r 6)) else if i = ((5 : Int32)).toNatClampNeg then (.ref (r 5)) else if i = ((4 : Int32)).toNatClampNeg then (.ref (r 4)) else if i = ((3 : Int32)).toNatClampNeg then (.ref (r 3)) else if i = ((2 : Int32)).toNatClampNeg then (.ref (r 2)) else if i = ((1 : Int32)).toNatClampNeg then (.ref (r 1)) else if i = ((0 : Int32)).toNatClampNeg then (.ref (r 0)) else .null) := AF.set Ar17 Sz17 Mn17 Ha17 hin17 W17
  have N17 := Fr.snoc X17 N15 g_b1
  have K17 : Keep h0 h17 [] := K15.wr W17 (Or.inr sz_b1)
  refine own_by (A' := T17.setTop (mkF m 55 #[.val (.int p0), .unset, .unset, .unset, .unset, .unset] [(.ref b1)])) (fun t kt => st17 t kt) ?_
  refine own_by (A' := T17.setTop (mkF m 58 #[.val (.int p0), .unset, .unset, .unset, .unset, .unset] [(.int (8 : Int32)), (.ref b1), (.ref b1)])) (fun t kt => ?_) ?_
  · show Steps p.tables e below (T17.setTop (mkF m 55 #[.val (.int p0), .unset, .unset, .unset, .unset, .unset] [(.ref b1)])) t
    refine XS.dup X17.here hx rfl (hb hby at_55) rfl rfl ?_
    show Steps p.tables e below (T17.setTop (mkF m 56 #[.val (.int p0), .unset, .unset, .unset, .unset, .unset] [(.ref b1), (.ref b1)])) t
    refine XS.bipush X17.here hx rfl (hb hby at_56) ?_
    exact kt
  obtain ⟨T18, X18, e18, st18⟩ := getS2 X17 hx hZ hown (host := "") (Or.inl (hw _ (List.mem_of_getElem? (i := 20) rfl))) Via.refl e17 (Sta.wr W17 (Sta.wr W15 (Sta.wr W13 (Sta.wr W11 (Sta.wr W9 (Sta.wr W7 (Sta.wr W5 (Sta.wr W3 (Sta.ext E1 S_8))))))))) (g := (mkF m 58 #[.val (.int p0), .unset, .unset, .unset, .unset, .unset] [(.int (8 : Int32)), (.ref b1), (.ref b1)])) rfl (hb hby at_58)
  refine own_by (A' := T18.setTop (mkF m 61 #[.val (.int p0), .unset, .unset, .unset, .unset, .unset] [(.ref (r 8)), (.int (8 : Int32)), (.ref b1), (.ref b1)])) (fun t kt => st18 t kt) ?_
  obtain ⟨cl19, Ar19, Sz19, Mn19, Ha19⟩ := id V17
  have hin19 := inb_of (j := (8 : Int32)) Sz19 ⟨by decide, by decide⟩
  obtain ⟨T19, h19, X19, e19, W19, st19⟩ := stR X18 hx hZ e18 Ar19 (j := (8 : Int32)) hin19 rfl (Sto.wr W17 (Sto.wr W15 (Sto.wr W13 (Sto.wr W11 (Sto.wr W9 (Sto.wr W7 (Sto.wr W5 (Sto.wr W3 St8)))))))) (g := (mkF m 61 #[.val (.int p0), .unset, .unset, .unset, .unset, .unset] [(.ref (r 8)), (.int (8 : Int32)), (.ref b1), (.ref b1)])) rfl rfl (hb hby at_61)
  have V19 : AF Z h19 b1 (.object "com/example/flashsafe/flashsafe/Code") (12 : Int32) (fun i => if i = ((8 : Int32)).toNatClampNeg then (.ref (r 8)) else if i = ((7 : Int32)).toNatClampNeg then (.ref (r 7)) else if i = ((6 : Int32)).toNatClampNeg then (.ref (r 6)) else if i = ((5 : Int32)).toNatClampNeg then (.ref (r 5)) else if i = ((4 : Int32)).toNatClampNeg then (.ref (r 4)) else if i = ((3 : Int32)).toNatClampNeg then (.ref (r 3)) else if i = ((2 : Int32)).toNatClampNeg then (.ref (r 2)) else if i = ((1 : Int32)).toNatClampNeg then (.ref (r 1)) else if i = ((0 : Int32)).toNatClampNeg then (.ref (r 0)) else .null) := AF.set Ar19 Sz19 Mn19 Ha19 hin19 W19
  have N19 := Fr.snoc X19 N17 g_b1
  have K19 : Keep h0 h19 [] := K17.wr W19 (Or.inr sz_b1)
  refine own_by (A' := T19.setTop (mkF m 62 #[.val (.int p0), .unset, .unset, .unset, .unset, .unset] [(.ref b1)])) (fun t kt => st19 t kt) ?_
  refine own_by (A' := T19.setTop (mkF m 65 #[.val (.int p0), .unset, .unset, .unset, .unset, .unset] [(.int (9 : Int32)), (.ref b1), (.ref b1)])) (fun t kt => ?_) ?_
  · show Steps p.tables e below (T19.setTop (mkF m 62 #[.val (.int p0), .unset, .unset, .unset, .unset, .unset] [(.ref b1)])) t
    refine XS.dup X19.here hx rfl (hb hby at_62) rfl rfl ?_
    show Steps p.tables e below (T19.setTop (mkF m 63 #[.val (.int p0), .unset, .unset, .unset, .unset, .unset] [(.ref b1), (.ref b1)])) t
    refine XS.bipush X19.here hx rfl (hb hby at_63) ?_
    exact kt
  obtain ⟨T20, X20, e20, st20⟩ := getS2 X19 hx hZ hown (host := "") (Or.inl (hw _ (List.mem_of_getElem? (i := 22) rfl))) Via.refl e19 (Sta.wr W19 (Sta.wr W17 (Sta.wr W15 (Sta.wr W13 (Sta.wr W11 (Sta.wr W9 (Sta.wr W7 (Sta.wr W5 (Sta.wr W3 (Sta.ext E1 S_9)))))))))) (g := (mkF m 65 #[.val (.int p0), .unset, .unset, .unset, .unset, .unset] [(.int (9 : Int32)), (.ref b1), (.ref b1)])) rfl (hb hby at_65)
  refine own_by (A' := T20.setTop (mkF m 68 #[.val (.int p0), .unset, .unset, .unset, .unset, .unset] [(.ref (r 9)), (.int (9 : Int32)), (.ref b1), (.ref b1)])) (fun t kt => st20 t kt) ?_
  obtain ⟨cl21, Ar21, Sz21, Mn21, Ha21⟩ := id V19
  have hin21 := inb_of (j := (9 : Int32)) Sz21 ⟨by decide, by decide⟩
  obtain ⟨T21, h21, X21, e21, W21, st21⟩ := stR X20 hx hZ e20 Ar21 (j := (9 : Int32)) hin21 rfl (Sto.wr W19 (Sto.wr W17 (Sto.wr W15 (Sto.wr W13 (Sto.wr W11 (Sto.wr W9 (Sto.wr W7 (Sto.wr W5 (Sto.wr W3 St9))))))))) (g := (mkF m 68 #[.val (.int p0), .unset, .unset, .unset, .unset, .unset] [(.ref (r 9)), (.int (9 : Int32)), (.ref b1), (.ref b1)])) rfl rfl (hb hby at_68)
  have V21 : AF Z h21 b1 (.object "com/example/flashsafe/flashsafe/Code") (12 : Int32) (fun i => if i = ((9 : Int32)).toNatClampNeg then (.ref (r 9)) else if i = ((8 : Int32)).toNatClampNeg then (.ref (r 8)) else if i = ((7 : Int32)).toNatClampNeg then (.ref (r 7)) else if i = ((6 : Int32)).toNatClampNeg then (.ref (r 6)) else if i = ((5 : Int32)).toNatClampNeg then (.ref (r 5)) else if i = ((4 : Int32)).toNatClampNeg then (.ref (r 4)) else if i = ((3 : Int32)).toNatClampNeg then (.ref (r 3)) else if i = ((2 : Int32)).toNatClampNeg then (.ref (r 2)) else if i = ((1 : Int32)).toNatClampNeg then (.ref (r 1)) else if i = ((0 : Int32)).toNatClampNeg then (.ref (r 0)) else .null) := AF.set Ar21 Sz21 Mn21 Ha21 hin21 W21
  have N21 := Fr.snoc X21 N19 g_b1
  have K21 : Keep h0 h21 [] := K19.wr W21 (Or.inr sz_b1)
  refine own_by (A' := T21.setTop (mkF m 69 #[.val (.int p0), .unset, .unset, .unset, .unset, .unset] [(.ref b1)])) (fun t kt => st21 t kt) ?_
  refine own_by (A' := T21.setTop (mkF m 72 #[.val (.int p0), .unset, .unset, .unset, .unset, .unset] [(.int (10 : Int32)), (.ref b1), (.ref b1)])) (fun t kt => ?_) ?_
  · show Steps p.tables e below (T21.setTop (mkF m 69 #[.val (.int p0), .unset, .unset, .unset, .unset, .unset] [(.ref b1)])) t
    refine XS.dup X21.here hx rfl (hb hby at_69) rfl rfl ?_
    show Steps p.tables e below (T21.setTop (mkF m 70 #[.val (.int p0), .unset, .unset, .unset, .unset, .unset] [(.ref b1), (.ref b1)])) t
    refine XS.bipush X21.here hx rfl (hb hby at_70) ?_
    exact kt
  obtain ⟨T22, X22, e22, st22⟩ := getS2 X21 hx hZ hown (host := "") (Or.inl (hw _ (List.mem_of_getElem? (i := 24) rfl))) Via.refl e21 (Sta.wr W21 (Sta.wr W19 (Sta.wr W17 (Sta.wr W15 (Sta.wr W13 (Sta.wr W11 (Sta.wr W9 (Sta.wr W7 (Sta.wr W5 (Sta.wr W3 (Sta.ext E1 S_10))))))))))) (g := (mkF m 72 #[.val (.int p0), .unset, .unset, .unset, .unset, .unset] [(.int (10 : Int32)), (.ref b1), (.ref b1)])) rfl (hb hby at_72)
  refine own_by (A' := T22.setTop (mkF m 75 #[.val (.int p0), .unset, .unset, .unset, .unset, .unset] [(.ref (r 10)), (.int (10 : Int32)), (.ref b1), (.ref b1)])) (fun t kt => st22 t kt) ?_
  obtain ⟨cl23, Ar23, Sz23, Mn23, Ha23⟩ := id V21
  have hin23 := inb_of (j := (10 : Int32)) Sz23 ⟨by decide, by decide⟩
  obtain ⟨T23, h23, X23, e23, W23, st23⟩ := stR X22 hx hZ e22 Ar23 (j := (10 : Int32)) hin23 rfl (Sto.wr W21 (Sto.wr W19 (Sto.wr W17 (Sto.wr W15 (Sto.wr W13 (Sto.wr W11 (Sto.wr W9 (Sto.wr W7 (Sto.wr W5 (Sto.wr W3 St10)))))))))) (g := (mkF m 75 #[.val (.int p0), .unset, .unset, .unset, .unset, .unset] [(.ref (r 10)), (.int (10 : Int32)), (.ref b1), (.ref b1)])) rfl rfl (hb hby at_75)
  have V23 : AF Z h23 b1 (.object "com/example/flashsafe/flashsafe/Code") (12 : Int32) (fun i => if i = ((10 : Int32)).toNatClampNeg then (.ref (r 10)) else if i = ((9 : Int32)).toNatClampNeg then (.ref (r 9)) else if i = ((8 : Int32)).toNatClampNeg then (.ref (r 8)) else if i = ((7 : Int32)).toNatClampNeg then (.ref (r 7)) else if i = ((6 : Int32)).toNatClampNeg then (.ref (r 6)) else if i = ((5 : Int32)).toNatClampNeg then (.ref (r 5)) else if i = ((4 : Int32)).toNatClampNeg then (.ref (r 4)) else if i = ((3 : Int32)).toNatClampNeg then (.ref (r 3)) else if i = ((2 : Int32)).toNatClampNeg then (.ref (r 2)) else if i = ((1 : Int32)).toNatClampNeg then (.ref (r 1)) else if i = ((0 : Int32)).toNatClampNeg then (.ref (r 0)) else .null) := AF.set Ar23 Sz23 Mn23 Ha23 hin23 W23
  have N23 := Fr.snoc X23 N21 g_b1
  have K23 : Keep h0 h23 [] := K21.wr W23 (Or.inr sz_b1)
  refine own_by (A' := T23.setTop (mkF m 76 #[.val (.int p0), .unset, .unset, .unset, .unset, .unset] [(.ref b1)])) (fun t kt => st23 t kt) ?_
  refine own_by (A' := T23.setTop (mkF m 79 #[.val (.int p0), .unset, .unset, .unset, .unset, .unset] [(.int (11 : Int32)), (.ref b1), (.ref b1)])) (fun t kt => ?_) ?_
  · show Steps p.tables e below (T23.setTop (mkF m 76 #[.val (.int p0), .unset, .unset, .unset, .unset, .unset] [(.ref b1)])) t
    refine XS.dup X23.here hx rfl (hb hby at_76) rfl rfl ?_
    show Steps p.tables e below (T23.setTop (mkF m 77 #[.val (.int p0), .unset, .unset, .unset, .unset, .unset] [(.ref b1), (.ref b1)])) t
    refine XS.bipush X23.here hx rfl (hb hby at_77) ?_
    exact kt
  obtain ⟨T24, X24, e24, st24⟩ := getS2 X23 hx hZ hown (host := "") (Or.inl (hw _ (List.mem_of_getElem? (i := 26) rfl))) Via.refl e23 (Sta.wr W23 (Sta.wr W21 (Sta.wr W19 (Sta.wr W17 (Sta.wr W15 (Sta.wr W13 (Sta.wr W11 (Sta.wr W9 (Sta.wr W7 (Sta.wr W5 (Sta.wr W3 (Sta.ext E1 S_11)))))))))))) (g := (mkF m 79 #[.val (.int p0), .unset, .unset, .unset, .unset, .unset] [(.int (11 : Int32)), (.ref b1), (.ref b1)])) rfl (hb hby at_79)
  refine own_by (A' := T24.setTop (mkF m 82 #[.val (.int p0), .unset, .unset, .unset, .unset, .unset] [(.ref (r 11)), (.int (11 : Int32)), (.ref b1), (.ref b1)])) (fun t kt => st24 t kt) ?_
  obtain ⟨cl25, Ar25, Sz25, Mn25, Ha25⟩ := id V23
  have hin25 := inb_of (j := (11 : Int32)) Sz25 ⟨by decide, by decide⟩
  obtain ⟨T25, h25, X25, e25, W25, st25⟩ := stR X24 hx hZ e24 Ar25 (j := (11 : Int32)) hin25 rfl (Sto.wr W23 (Sto.wr W21 (Sto.wr W19 (Sto.wr W17 (Sto.wr W15 (Sto.wr W13 (Sto.wr W11 (Sto.wr W9 (Sto.wr W7 (Sto.wr W5 (Sto.wr W3 St11))))))))))) (g := (mkF m 82 #[.val (.int p0), .unset, .unset, .unset, .unset, .unset] [(.ref (r 11)), (.int (11 : Int32)), (.ref b1), (.ref b1)])) rfl rfl (hb hby at_82)
  have V25 : AF Z h25 b1 (.object "com/example/flashsafe/flashsafe/Code") (12 : Int32) (fun i => if i = ((11 : Int32)).toNatClampNeg then (.ref (r 11)) else if i = ((10 : Int32)).toNatClampNeg then (.ref (r 10)) else if i = ((9 : Int32)).toNatClampNeg then (.ref (r 9)) else if i = ((8 : Int32)).toNatClampNeg then (.ref (r 8)) else if i = ((7 : Int32)).toNatClampNeg then (.ref (r 7)) else if i = ((6 : Int32)).toNatClampNeg then (.ref (r 6)) else if i = ((5 : Int32)).toNatClampNeg then (.ref (r 5)) else if i = ((4 : Int32)).toNatClampNeg then (.ref (r 4)) else if i = ((3 : Int32)).toNatClampNeg then (.ref (r 3)) else if i = ((2 : Int32)).toNatClampNeg then (.ref (r 2)) else if i = ((1 : Int32)).toNatClampNeg then (.ref (r 1)) else if i = ((0 : Int32)).toNatClampNeg then (.ref (r 0)) else .null) := AF.set Ar25 Sz25 Mn25 Ha25 hin25 W25
  have N25 := Fr.snoc X25 N23 g_b1
  have K25 : Keep h0 h25 [] := K23.wr W25 (Or.inr sz_b1)
  refine own_by (A' := T25.setTop (mkF m 83 #[.val (.int p0), .unset, .unset, .unset, .unset, .unset] [(.ref b1)])) (fun t kt => st25 t kt) ?_
  refine own_by (A' := T25.setTop (mkF m 92 #[.val (.int p0), .val (.ref b1), .val (.int ((p0 &&& (2147483647 : Int32)) % (12 : Int32))), .unset, .unset, .unset] [])) (fun t kt => ?_) ?_
  · show Steps p.tables e below (T25.setTop (mkF m 83 #[.val (.int p0), .unset, .unset, .unset, .unset, .unset] [(.ref b1)])) t
    refine XS.astoreN X25.here hx rfl (hb hby at_83) rfl rfl (l' := #[.val (.int p0), .val (.ref b1), .unset, .unset, .unset, .unset]) rfl ?_
    show Steps p.tables e below (T25.setTop (mkF m 84 #[.val (.int p0), .val (.ref b1), .unset, .unset, .unset, .unset] [])) t
    refine XS.iloadN X25.here hx rfl (hb hby at_84) rfl ?_
    show Steps p.tables e below (T25.setTop (mkF m 85 #[.val (.int p0), .val (.ref b1), .unset, .unset, .unset, .unset] [(.int p0)])) t
    refine X25.ldcInt hx hown (mvT hZ (hw _ (List.mem_of_getElem? (i := 28) rfl))) (g := (mkF m 85 #[.val (.int p0), .val (.ref b1), .unset, .unset, .unset, .unset] [(.int p0)])) rfl (hb hby at_85) _ ?_
    show Steps p.tables e below (T25.setTop (mkF m 87 #[.val (.int p0), .val (.ref b1), .unset, .unset, .unset, .unset] [(.int (2147483647 : Int32)), (.int p0)])) t
    refine XS.iand X25.here hx rfl (hb hby at_87) rfl ?_
    show Steps p.tables e below (T25.setTop (mkF m 88 #[.val (.int p0), .val (.ref b1), .unset, .unset, .unset, .unset] [(.int (p0 &&& (2147483647 : Int32)))])) t
    refine XS.bipush X25.here hx rfl (hb hby at_88) ?_
    show Steps p.tables e below (T25.setTop (mkF m 90 #[.val (.int p0), .val (.ref b1), .unset, .unset, .unset, .unset] [(.int (12 : Int32)), (.int (p0 &&& (2147483647 : Int32)))])) t
    refine iremM X25 hx rfl (hb hby at_90) rfl (by decide) ?_
    show Steps p.tables e below (T25.setTop (mkF m 91 #[.val (.int p0), .val (.ref b1), .unset, .unset, .unset, .unset] [(.int ((p0 &&& (2147483647 : Int32)) % (12 : Int32)))])) t
    refine XS.istoreN X25.here hx rfl (hb hby at_91) rfl (l' := #[.val (.int p0), .val (.ref b1), .val (.int ((p0 &&& (2147483647 : Int32)) % (12 : Int32))), .unset, .unset, .unset]) rfl ?_
    exact kt
  generalize h_vi : ((p0 &&& (2147483647 : Int32)) % (12 : Int32)) = vi
  have hvi := own_i p0
  rw [h_vi] at hvi
  have hlt : vi.toNatClampNeg < 12 := by simp only [Int32.toNatClampNeg]; omega
  have VE : AF Z h25 b1 (.object "com/example/flashsafe/flashsafe/Code") (12 : Int32) (fun i => .ref (r i)) := AF.to V25 (fun i hi => by
    have hi' : i < 12 := hi
    match i, hi' with
    | 0, _ => rfl
    | 1, _ => rfl
    | 2, _ => rfl
    | 3, _ => rfl
    | 4, _ => rfl
    | 5, _ => rfl
    | 6, _ => rfl
    | 7, _ => rfl
    | 8, _ => rfl
    | 9, _ => rfl
    | 10, _ => rfl
    | 11, _ => rfl)
  refine own_by (A' := T25.setTop (mkF m 94 #[.val (.int p0), .val (.ref b1), .val (.int vi), .unset, .unset, .unset] [(.int vi), (.ref b1)])) (fun t kt => ?_) ?_
  · show Steps p.tables e below (T25.setTop (mkF m 92 #[.val (.int p0), .val (.ref b1), .val (.int vi), .unset, .unset, .unset] [])) t
    refine XS.aloadN X25.here hx rfl (hb hby at_92) rfl rfl ?_
    show Steps p.tables e below (T25.setTop (mkF m 93 #[.val (.int p0), .val (.ref b1), .val (.int vi), .unset, .unset, .unset] [(.ref b1)])) t
    refine XS.iloadN X25.here hx rfl (hb hby at_93) rfl ?_
    exact kt
  obtain ⟨cl26, Ar26, Sz26, Mn26, Ha26⟩ := id VE
  have hin26 := inb_of (j := vi) Sz26 ⟨by rw [Int32.lt_iff_toInt_lt]; have : (0 : Int32).toInt = 0 := (by decide); omega, by rw [Int32.lt_iff_toInt_lt]; have : (12 : Int32).toInt = 12 := (by decide); omega⟩
  have hat26 : cl26.slots[(vi).toNatClampNeg]? = some (.ref (r vi.toNatClampNeg)) := (Ha26 _ (Nat.lt_of_not_le fun q => hin26 (Or.inr q))).trans (congrArg some rfl)
  refine own_by (A' := T25.setTop (mkF m 97 #[.val (.int p0), .val (.ref b1), .val (.int vi), .val (.ref (r vi.toNatClampNeg)), .unset, .unset] [(.int vi)])) (fun t kt => ?_) ?_
  · show Steps p.tables e below (T25.setTop (mkF m 94 #[.val (.int p0), .val (.ref b1), .val (.int vi), .unset, .unset, .unset] [(.int vi), (.ref b1)])) t
    refine X25.aaload hx (j := vi) (v := (.ref (r vi.toNatClampNeg))) (by rw [e25]; exact Ar26.1) (State.isArrayOf_alike hZ.alike Ar26.2.1) rfl Ar26.2.2 hin26 hat26 (g := (mkF m 94 #[.val (.int p0), .val (.ref b1), .val (.int vi), .unset, .unset, .unset] [(.int vi), (.ref b1)])) rfl rfl (hb hby at_94) _ ?_
    show Steps p.tables e below (T25.setTop (mkF m 95 #[.val (.int p0), .val (.ref b1), .val (.int vi), .unset, .unset, .unset] [(.ref (r vi.toNatClampNeg))])) t
    refine XS.astoreN X25.here hx rfl (hb hby at_95) rfl rfl (l' := #[.val (.int p0), .val (.ref b1), .val (.int vi), .val (.ref (r vi.toNatClampNeg)), .unset, .unset]) rfl ?_
    show Steps p.tables e below (T25.setTop (mkF m 96 #[.val (.int p0), .val (.ref b1), .val (.int vi), .val (.ref (r vi.toNatClampNeg)), .unset, .unset] [])) t
    refine XS.iloadN X25.here hx rfl (hb hby at_96) rfl ?_
    exact kt
  refine own_by (A' := T25.setTop (mkF m 121 #[.val (.int p0), .val (.ref b1), .val (.int vi), .val (.ref (r vi.toNatClampNeg)), .val (.int (if vi = (0 : Int32) then (0 : Int32) else (if vi = (11 : Int32) then (0 : Int32) else (1 : Int32)))), .unset] [])) (fun t kt => ?_) ?_
  · show Steps p.tables e below (T25.setTop (mkF m 97 #[.val (.int p0), .val (.ref b1), .val (.int vi), .val (.ref (r vi.toNatClampNeg)), .unset, .unset] [(.int vi)])) t
    by_cases hj97_27 : vi = (0 : Int32)
    · rw [if_pos hj97_27] at kt
      show Steps p.tables e below (T25.setTop (mkF m 97 #[.val (.int p0), .val (.ref b1), .val (.int vi), .val (.ref (r vi.toNatClampNeg)), .unset, .unset] [(.int vi)])) t
      refine XS.ifNo X25.here hx rfl (hb hby at_97) rfl ((if0 _ _).trans (teq hj97_27).2) ?_
      show Steps p.tables e below (T25.setTop (mkF m 100 #[.val (.int p0), .val (.ref b1), .val (.int vi), .val (.ref (r vi.toNatClampNeg)), .unset, .unset] [])) t
      refine XS.iconst X25.here hx rfl (hb hby at_100) ?_
      show Steps p.tables e below (T25.setTop (mkF m 101 #[.val (.int p0), .val (.ref b1), .val (.int vi), .val (.ref (r vi.toNatClampNeg)), .unset, .unset] [(.int (0 : Int32))])) t
      refine XS.istore X25.here hx rfl (hb hby at_101) rfl (l' := #[.val (.int p0), .val (.ref b1), .val (.int vi), .val (.ref (r vi.toNatClampNeg)), .val (.int (0 : Int32)), .unset]) rfl ?_
      show Steps p.tables e below (T25.setTop (mkF m 103 #[.val (.int p0), .val (.ref b1), .val (.int vi), .val (.ref (r vi.toNatClampNeg)), .val (.int (0 : Int32)), .unset] [])) t
      refine XS.goto X25.here hx rfl (pc0 := 103) (pc' := 121) rfl (hb hby at_103) (by decide) (by decide) ?_
      exact kt
    · rw [if_neg hj97_27] at kt
      show Steps p.tables e below (T25.setTop (mkF m 97 #[.val (.int p0), .val (.ref b1), .val (.int vi), .val (.ref (r vi.toNatClampNeg)), .unset, .unset] [(.int vi)])) t
      refine XS.ifYes X25.here hx rfl (pc0 := 97) (pc' := 106) rfl (hb hby at_97) rfl ((if0 _ _).trans (feq hj97_27).2) (by decide) (by decide) ?_
      show Steps p.tables e below (T25.setTop (mkF m 106 #[.val (.int p0), .val (.ref b1), .val (.int vi), .val (.ref (r vi.toNatClampNeg)), .unset, .unset] [])) t
      refine XS.iloadN X25.here hx rfl (hb hby at_106) rfl ?_
      show Steps p.tables e below (T25.setTop (mkF m 107 #[.val (.int p0), .val (.ref b1), .val (.int vi), .val (.ref (r vi.toNatClampNeg)), .unset, .unset] [(.int vi)])) t
      refine XS.bipush X25.here hx rfl (hb hby at_107) ?_
      refine own_stp (A' := T25.setTop (mkF m 121 #[.val (.int p0), .val (.ref b1), .val (.int vi), .val (.ref (r vi.toNatClampNeg)), .val (.int (if vi = (11 : Int32) then (0 : Int32) else (1 : Int32))), .unset] [])) (fun t kt => ?_) ?_
      · show Steps p.tables e below (T25.setTop (mkF m 109 #[.val (.int p0), .val (.ref b1), .val (.int vi), .val (.ref (r vi.toNatClampNeg)), .unset, .unset] [(.int (11 : Int32)), (.int vi)])) t
        by_cases hj109_28 : vi = (11 : Int32)
        · rw [if_pos hj109_28] at kt
          show Steps p.tables e below (T25.setTop (mkF m 109 #[.val (.int p0), .val (.ref b1), .val (.int vi), .val (.ref (r vi.toNatClampNeg)), .unset, .unset] [(.int (11 : Int32)), (.int vi)])) t
          refine XS.icmpNo X25.here hx rfl (hb hby at_109) rfl (teq hj109_28).2 ?_
          show Steps p.tables e below (T25.setTop (mkF m 112 #[.val (.int p0), .val (.ref b1), .val (.int vi), .val (.ref (r vi.toNatClampNeg)), .unset, .unset] [])) t
          refine XS.iconst X25.here hx rfl (hb hby at_112) ?_
          show Steps p.tables e below (T25.setTop (mkF m 113 #[.val (.int p0), .val (.ref b1), .val (.int vi), .val (.ref (r vi.toNatClampNeg)), .unset, .unset] [(.int (0 : Int32))])) t
          refine XS.istore X25.here hx rfl (hb hby at_113) rfl (l' := #[.val (.int p0), .val (.ref b1), .val (.int vi), .val (.ref (r vi.toNatClampNeg)), .val (.int (0 : Int32)), .unset]) rfl ?_
          show Steps p.tables e below (T25.setTop (mkF m 115 #[.val (.int p0), .val (.ref b1), .val (.int vi), .val (.ref (r vi.toNatClampNeg)), .val (.int (0 : Int32)), .unset] [])) t
          refine XS.goto X25.here hx rfl (pc0 := 115) (pc' := 121) rfl (hb hby at_115) (by decide) (by decide) ?_
          exact kt
        · rw [if_neg hj109_28] at kt
          show Steps p.tables e below (T25.setTop (mkF m 109 #[.val (.int p0), .val (.ref b1), .val (.int vi), .val (.ref (r vi.toNatClampNeg)), .unset, .unset] [(.int (11 : Int32)), (.int vi)])) t
          refine XS.icmpYes X25.here hx rfl (pc0 := 109) (pc' := 118) rfl (hb hby at_109) rfl (feq hj109_28).2 (by decide) (by decide) ?_
          show Steps p.tables e below (T25.setTop (mkF m 118 #[.val (.int p0), .val (.ref b1), .val (.int vi), .val (.ref (r vi.toNatClampNeg)), .unset, .unset] [])) t
          refine XS.iconst X25.here hx rfl (hb hby at_118) ?_
          show Steps p.tables e below (T25.setTop (mkF m 119 #[.val (.int p0), .val (.ref b1), .val (.int vi), .val (.ref (r vi.toNatClampNeg)), .unset, .unset] [(.int (1 : Int32))])) t
          refine XS.istore X25.here hx rfl (hb hby at_119) rfl (l' := #[.val (.int p0), .val (.ref b1), .val (.int vi), .val (.ref (r vi.toNatClampNeg)), .val (.int (1 : Int32)), .unset]) rfl ?_
          exact kt
      exact kt
  refine own_by (A' := T25.setTop (mkF m 122 #[.val (.int p0), .val (.ref b1), .val (.int vi), .val (.ref (r vi.toNatClampNeg)), .val (.int (if vi = (0 : Int32) then (0 : Int32) else (if vi = (11 : Int32) then (0 : Int32) else (1 : Int32)))), .unset] [(.ref (r vi.toNatClampNeg))])) (fun t kt => ?_) ?_
  · show Steps p.tables e below (T25.setTop (mkF m 121 #[.val (.int p0), .val (.ref b1), .val (.int vi), .val (.ref (r vi.toNatClampNeg)), .val (.int (if vi = (0 : Int32) then (0 : Int32) else (if vi = (11 : Int32) then (0 : Int32) else (1 : Int32)))), .unset] [])) t
    refine XS.aloadN X25.here hx rfl (hb hby at_121) rfl rfl ?_
    exact kt
  obtain ⟨cq29, kq29, q29a, q29b, q29c⟩ := isOf hZ e25 ((((((((((((((hE _ hlt).ext E1).wr W3).wr W5).wr W7).wr W9).wr W11).wr W13).wr W15).wr W17).wr W19).wr W21).wr W23).wr W25)
  obtain ⟨_, _, ⟨T29, L29, k29, n29⟩, -, X29, ⟨Lc29, hQ29, l29, y29, z29⟩, st29⟩ := X25.virtualBack hx (y := (⟨"com/example/flashsafe/flashsafe/Code", "isRefusal", "()Z"⟩ : MethodName)) (z := (⟨"com/example/flashsafe/flashsafe/Code", "isRefusal", "()Z"⟩ : MethodName)) hown (mvT hZ (hw _ (List.mem_of_getElem? (i := 29) rfl))) (mvT hZ (hw _ (List.mem_of_getElem? (i := 30) rfl))) (notFace_of_selects (args := #[]) (mvT hZ (hw _ (List.mem_of_getElem? (i := 32) rfl)))) (mvT hZ (hw _ (List.mem_of_getElem? (i := 32) rfl))) (mvT hZ (hw _ (List.mem_of_getElem? (i := 31) rfl))) (by decide) (backOf (W := 0) (rm1 l Z aw hw [] (r vi.toNatClampNeg) (own_st vi.toNatClampNeg) h25 n0 (Nat.le_trans Z0 K25.1) ((((((((((((((hF _ hlt).ext E1).other W3 (Or.inl (Nat.ne_of_lt (Nat.lt_of_lt_of_le ((hE _ hlt)).lt (Nat.le_of_eq g1.symm))))).other W5 (Or.inl (Nat.ne_of_lt (Nat.lt_of_lt_of_le ((hE _ hlt)).lt (Nat.le_of_eq g1.symm))))).other W7 (Or.inl (Nat.ne_of_lt (Nat.lt_of_lt_of_le ((hE _ hlt)).lt (Nat.le_of_eq g1.symm))))).other W9 (Or.inl (Nat.ne_of_lt (Nat.lt_of_lt_of_le ((hE _ hlt)).lt (Nat.le_of_eq g1.symm))))).other W11 (Or.inl (Nat.ne_of_lt (Nat.lt_of_lt_of_le ((hE _ hlt)).lt (Nat.le_of_eq g1.symm))))).other W13 (Or.inl (Nat.ne_of_lt (Nat.lt_of_lt_of_le ((hE _ hlt)).lt (Nat.le_of_eq g1.symm))))).other W15 (Or.inl (Nat.ne_of_lt (Nat.lt_of_lt_of_le ((hE _ hlt)).lt (Nat.le_of_eq g1.symm))))).other W17 (Or.inl (Nat.ne_of_lt (Nat.lt_of_lt_of_le ((hE _ hlt)).lt (Nat.le_of_eq g1.symm))))).other W19 (Or.inl (Nat.ne_of_lt (Nat.lt_of_lt_of_le ((hE _ hlt)).lt (Nat.le_of_eq g1.symm))))).other W21 (Or.inl (Nat.ne_of_lt (Nat.lt_of_lt_of_le ((hE _ hlt)).lt (Nat.le_of_eq g1.symm))))).other W23 (Or.inl (Nat.ne_of_lt (Nat.lt_of_lt_of_le ((hE _ hlt)).lt (Nat.le_of_eq g1.symm))))).other W25 (Or.inl (Nat.ne_of_lt (Nat.lt_of_lt_of_le ((hE _ hlt)).lt (Nat.le_of_eq g1.symm)))))) hZ (hw _ (List.mem_of_getElem? (i := 33) rfl)) (hw _ (List.mem_of_getElem? (i := 3) rfl)) (by decide) (by decide)) q29a q29c (g := (mkF m 122 #[.val (.int p0), .val (.ref b1), .val (.int vi), .val (.ref (r vi.toNatClampNeg)), .val (.int (if vi = (0 : Int32) then (0 : Int32) else (if vi = (11 : Int32) then (0 : Int32) else (1 : Int32)))), .unset] [(.ref (r vi.toNatClampNeg))])) rfl (by rw [hml]; rfl) (Steps.refl _) (argsL := []) (rest := []) (lenOf pd_2 rfl) rfl (by show 2 * 0 + _ ≤ _; exact Nat.le_of_eq rfl) (hb hby at_122) (fun _ _ => ⟨rfl, e25, (by decide : 1 + 0 ≤ _), (by decide : 12 + 0 ≤ _)⟩)
  dsimp only [Pt.U, Pt.locs, Pt.cells, Pt.slots] at X29 l29 y29 z29 st29 hQ29
  subst l29 y29 z29
  obtain ⟨rfl, N29q, e29⟩ := hQ29
  have N29 := Fr.app N25 N29q
  refine own_by (A' := T29.setTop (mkF m 125 #[.val (.int p0), .val (.ref b1), .val (.int vi), .val (.ref (r vi.toNatClampNeg)), .val (.int (if vi = (0 : Int32) then (0 : Int32) else (if vi = (11 : Int32) then (0 : Int32) else (1 : Int32)))), .unset] [(.int (own_f1 (own_st vi.toNatClampNeg)))])) (fun t kt => st29.trans kt) ?_
  refine own_by (A' := T29.setTop (mkF m 131 #[.val (.int p0), .val (.ref b1), .val (.int vi), .val (.ref (r vi.toNatClampNeg)), .val (.int (if vi = (0 : Int32) then (0 : Int32) else (if vi = (11 : Int32) then (0 : Int32) else (1 : Int32)))), .val (.int (own_f1 (own_st vi.toNatClampNeg)))] [(.int (if vi = (0 : Int32) then (0 : Int32) else (if vi = (11 : Int32) then (0 : Int32) else (1 : Int32)))), (.int (own_f1 (own_st vi.toNatClampNeg)))])) (fun t kt => ?_) ?_
  · show Steps p.tables e below (T29.setTop (mkF m 125 #[.val (.int p0), .val (.ref b1), .val (.int vi), .val (.ref (r vi.toNatClampNeg)), .val (.int (if vi = (0 : Int32) then (0 : Int32) else (if vi = (11 : Int32) then (0 : Int32) else (1 : Int32)))), .unset] [(.int (own_f1 (own_st vi.toNatClampNeg)))])) t
    refine XS.istore X29.here hx rfl (hb hby at_125) rfl (l' := #[.val (.int p0), .val (.ref b1), .val (.int vi), .val (.ref (r vi.toNatClampNeg)), .val (.int (if vi = (0 : Int32) then (0 : Int32) else (if vi = (11 : Int32) then (0 : Int32) else (1 : Int32)))), .val (.int (own_f1 (own_st vi.toNatClampNeg)))]) rfl ?_
    show Steps p.tables e below (T29.setTop (mkF m 127 #[.val (.int p0), .val (.ref b1), .val (.int vi), .val (.ref (r vi.toNatClampNeg)), .val (.int (if vi = (0 : Int32) then (0 : Int32) else (if vi = (11 : Int32) then (0 : Int32) else (1 : Int32)))), .val (.int (own_f1 (own_st vi.toNatClampNeg)))] [])) t
    refine XS.iload X29.here hx rfl (hb hby at_127) rfl ?_
    show Steps p.tables e below (T29.setTop (mkF m 129 #[.val (.int p0), .val (.ref b1), .val (.int vi), .val (.ref (r vi.toNatClampNeg)), .val (.int (if vi = (0 : Int32) then (0 : Int32) else (if vi = (11 : Int32) then (0 : Int32) else (1 : Int32)))), .val (.int (own_f1 (own_st vi.toNatClampNeg)))] [(.int (own_f1 (own_st vi.toNatClampNeg)))])) t
    refine XS.iload X29.here hx rfl (hb hby at_129) rfl ?_
    exact kt
  have hc131_30 : (own_f1 (own_st vi.toNatClampNeg)) = (if vi = (0 : Int32) then (0 : Int32) else (if vi = (11 : Int32) then (0 : Int32) else (1 : Int32))) := own_law vi hvi
  refine own_by (A' := T29.setTop (mkF m 139 #[.val (.int p0), .val (.ref b1), .val (.int vi), .val (.ref (r vi.toNatClampNeg)), .val (.int (if vi = (0 : Int32) then (0 : Int32) else (if vi = (11 : Int32) then (0 : Int32) else (1 : Int32)))), .val (.int (own_f1 (own_st vi.toNatClampNeg)))] [(.ref (r vi.toNatClampNeg)), (.int (own_f1 (own_st vi.toNatClampNeg)))])) (fun t kt => ?_) ?_
  · show Steps p.tables e below (T29.setTop (mkF m 131 #[.val (.int p0), .val (.ref b1), .val (.int vi), .val (.ref (r vi.toNatClampNeg)), .val (.int (if vi = (0 : Int32) then (0 : Int32) else (if vi = (11 : Int32) then (0 : Int32) else (1 : Int32)))), .val (.int (own_f1 (own_st vi.toNatClampNeg)))] [(.int (if vi = (0 : Int32) then (0 : Int32) else (if vi = (11 : Int32) then (0 : Int32) else (1 : Int32)))), (.int (own_f1 (own_st vi.toNatClampNeg)))])) t
    refine XS.icmpYes X29.here hx rfl (pc0 := 131) (pc' := 136) rfl (hb hby at_131) rfl (teq hc131_30).1 (by decide) (by decide) ?_
    show Steps p.tables e below (T29.setTop (mkF m 136 #[.val (.int p0), .val (.ref b1), .val (.int vi), .val (.ref (r vi.toNatClampNeg)), .val (.int (if vi = (0 : Int32) then (0 : Int32) else (if vi = (11 : Int32) then (0 : Int32) else (1 : Int32)))), .val (.int (own_f1 (own_st vi.toNatClampNeg)))] [])) t
    refine XS.iload X29.here hx rfl (hb hby at_136) rfl ?_
    show Steps p.tables e below (T29.setTop (mkF m 138 #[.val (.int p0), .val (.ref b1), .val (.int vi), .val (.ref (r vi.toNatClampNeg)), .val (.int (if vi = (0 : Int32) then (0 : Int32) else (if vi = (11 : Int32) then (0 : Int32) else (1 : Int32)))), .val (.int (own_f1 (own_st vi.toNatClampNeg)))] [(.int (own_f1 (own_st vi.toNatClampNeg)))])) t
    refine XS.aloadN X29.here hx rfl (hb hby at_138) rfl rfl ?_
    exact kt
  obtain ⟨cq31, kq31, q31a, q31b, q31c⟩ := isOf hZ e29 ((((((((((((((hE _ hlt).ext E1).wr W3).wr W5).wr W7).wr W9).wr W11).wr W13).wr W15).wr W17).wr W19).wr W21).wr W23).wr W25)
  obtain ⟨_, _, ⟨T31, L31, k31, n31⟩, -, X31, ⟨Lc31, hQ31, l31, y31, z31⟩, st31⟩ := X29.virtualBack hx (y := (⟨"com/example/flashsafe/flashsafe/Code", "status", "()I"⟩ : MethodName)) (z := (⟨"com/example/flashsafe/flashsafe/Code", "status", "()I"⟩ : MethodName)) hown (mvT hZ (hw _ (List.mem_of_getElem? (i := 37) rfl))) (mvT hZ (hw _ (List.mem_of_getElem? (i := 38) rfl))) (notFace_of_selects (args := #[]) (mvT hZ (hw _ (List.mem_of_getElem? (i := 40) rfl)))) (mvT hZ (hw _ (List.mem_of_getElem? (i := 40) rfl))) (mvT hZ (hw _ (List.mem_of_getElem? (i := 39) rfl))) (by decide) (backOf (W := 1) (rm2 l Z aw hw [] (r vi.toNatClampNeg) (own_st vi.toNatClampNeg) h25 n0 (Nat.le_trans Z0 K25.1) ((((((((((((((hF _ hlt).ext E1).other W3 (Or.inl (Nat.ne_of_lt (Nat.lt_of_lt_of_le ((hE _ hlt)).lt (Nat.le_of_eq g1.symm))))).other W5 (Or.inl (Nat.ne_of_lt (Nat.lt_of_lt_of_le ((hE _ hlt)).lt (Nat.le_of_eq g1.symm))))).other W7 (Or.inl (Nat.ne_of_lt (Nat.lt_of_lt_of_le ((hE _ hlt)).lt (Nat.le_of_eq g1.symm))))).other W9 (Or.inl (Nat.ne_of_lt (Nat.lt_of_lt_of_le ((hE _ hlt)).lt (Nat.le_of_eq g1.symm))))).other W11 (Or.inl (Nat.ne_of_lt (Nat.lt_of_lt_of_le ((hE _ hlt)).lt (Nat.le_of_eq g1.symm))))).other W13 (Or.inl (Nat.ne_of_lt (Nat.lt_of_lt_of_le ((hE _ hlt)).lt (Nat.le_of_eq g1.symm))))).other W15 (Or.inl (Nat.ne_of_lt (Nat.lt_of_lt_of_le ((hE _ hlt)).lt (Nat.le_of_eq g1.symm))))).other W17 (Or.inl (Nat.ne_of_lt (Nat.lt_of_lt_of_le ((hE _ hlt)).lt (Nat.le_of_eq g1.symm))))).other W19 (Or.inl (Nat.ne_of_lt (Nat.lt_of_lt_of_le ((hE _ hlt)).lt (Nat.le_of_eq g1.symm))))).other W21 (Or.inl (Nat.ne_of_lt (Nat.lt_of_lt_of_le ((hE _ hlt)).lt (Nat.le_of_eq g1.symm))))).other W23 (Or.inl (Nat.ne_of_lt (Nat.lt_of_lt_of_le ((hE _ hlt)).lt (Nat.le_of_eq g1.symm))))).other W25 (Or.inl (Nat.ne_of_lt (Nat.lt_of_lt_of_le ((hE _ hlt)).lt (Nat.le_of_eq g1.symm)))))) hZ (hw _ (List.mem_of_getElem? (i := 41) rfl)) (hw _ (List.mem_of_getElem? (i := 3) rfl)) (by decide) (by decide)) q31a q31c (g := (mkF m 139 #[.val (.int p0), .val (.ref b1), .val (.int vi), .val (.ref (r vi.toNatClampNeg)), .val (.int (if vi = (0 : Int32) then (0 : Int32) else (if vi = (11 : Int32) then (0 : Int32) else (1 : Int32)))), .val (.int (own_f1 (own_st vi.toNatClampNeg)))] [(.ref (r vi.toNatClampNeg)), (.int (own_f1 (own_st vi.toNatClampNeg)))])) rfl (by rw [hml]; rfl) (Steps.refl _) (argsL := []) (rest := [(.int (own_f1 (own_st vi.toNatClampNeg)))]) (lenOf pd_3 rfl) rfl (by show 2 * 0 + _ ≤ _; exact Nat.le_of_eq rfl) (hb hby at_139) (fun _ _ => ⟨rfl, e29, (by decide : 1 + 0 ≤ _), (by decide : 12 + 0 ≤ _)⟩)
  dsimp only [Pt.U, Pt.locs, Pt.cells, Pt.slots] at X31 l31 y31 z31 st31 hQ31
  subst l31 y31 z31
  obtain ⟨rfl, N31q, e31⟩ := hQ31
  have N31 := Fr.app N29 N31q
  refine own_by (A' := T31.setTop (mkF m 142 #[.val (.int p0), .val (.ref b1), .val (.int vi), .val (.ref (r vi.toNatClampNeg)), .val (.int (if vi = (0 : Int32) then (0 : Int32) else (if vi = (11 : Int32) then (0 : Int32) else (1 : Int32)))), .val (.int (own_f1 (own_st vi.toNatClampNeg)))] [(.int (own_f2 (own_st vi.toNatClampNeg))), (.int (own_f1 (own_st vi.toNatClampNeg)))])) (fun t kt => st31.trans kt) ?_
  refine own_by (A' := T31.setTop (mkF m 144 #[.val (.int p0), .val (.ref b1), .val (.int vi), .val (.ref (r vi.toNatClampNeg)), .val (.int (if vi = (0 : Int32) then (0 : Int32) else (if vi = (11 : Int32) then (0 : Int32) else (1 : Int32)))), .val (.int (own_f1 (own_st vi.toNatClampNeg)))] [(.int (40000 : Int32)), (.int (own_f2 (own_st vi.toNatClampNeg))), (.int (own_f1 (own_st vi.toNatClampNeg)))])) (fun t kt => ?_) ?_
  · show Steps p.tables e below (T31.setTop (mkF m 142 #[.val (.int p0), .val (.ref b1), .val (.int vi), .val (.ref (r vi.toNatClampNeg)), .val (.int (if vi = (0 : Int32) then (0 : Int32) else (if vi = (11 : Int32) then (0 : Int32) else (1 : Int32)))), .val (.int (own_f1 (own_st vi.toNatClampNeg)))] [(.int (own_f2 (own_st vi.toNatClampNeg))), (.int (own_f1 (own_st vi.toNatClampNeg)))])) t
    refine X31.ldcInt hx hown (mvT hZ (hw _ (List.mem_of_getElem? (i := 42) rfl))) (g := (mkF m 142 #[.val (.int p0), .val (.ref b1), .val (.int vi), .val (.ref (r vi.toNatClampNeg)), .val (.int (if vi = (0 : Int32) then (0 : Int32) else (if vi = (11 : Int32) then (0 : Int32) else (1 : Int32)))), .val (.int (own_f1 (own_st vi.toNatClampNeg)))] [(.int (own_f2 (own_st vi.toNatClampNeg))), (.int (own_f1 (own_st vi.toNatClampNeg)))])) rfl (hb hby at_142) _ ?_
    exact kt
  refine own_by (A' := T31.setTop (mkF m 152 #[.val (.int p0), .val (.ref b1), .val (.int vi), .val (.ref (r vi.toNatClampNeg)), .val (.int (if vi = (0 : Int32) then (0 : Int32) else (if vi = (11 : Int32) then (0 : Int32) else (1 : Int32)))), .val (.int (own_f1 (own_st vi.toNatClampNeg)))] [(.int (if (own_f2 (own_st vi.toNatClampNeg)) = (40000 : Int32) then (1 : Int32) else (0 : Int32))), (.int (own_f1 (own_st vi.toNatClampNeg)))])) (fun t kt => ?_) ?_
  · show Steps p.tables e below (T31.setTop (mkF m 144 #[.val (.int p0), .val (.ref b1), .val (.int vi), .val (.ref (r vi.toNatClampNeg)), .val (.int (if vi = (0 : Int32) then (0 : Int32) else (if vi = (11 : Int32) then (0 : Int32) else (1 : Int32)))), .val (.int (own_f1 (own_st vi.toNatClampNeg)))] [(.int (40000 : Int32)), (.int (own_f2 (own_st vi.toNatClampNeg))), (.int (own_f1 (own_st vi.toNatClampNeg)))])) t
    by_cases hj144_32 : (own_f2 (own_st vi.toNatClampNeg)) = (40000 : Int32)
    · rw [if_pos hj144_32] at kt
      show Steps p.tables e below (T31.setTop (mkF m 144 #[.val (.int p0), .val (.ref b1), .val (.int vi), .val (.ref (r vi.toNatClampNeg)), .val (.int (if vi = (0 : Int32) then (0 : Int32) else (if vi = (11 : Int32) then (0 : Int32) else (1 : Int32)))), .val (.int (own_f1 (own_st vi.toNatClampNeg)))] [(.int (40000 : Int32)), (.int (own_f2 (own_st vi.toNatClampNeg))), (.int (own_f1 (own_st vi.toNatClampNeg)))])) t
      refine XS.icmpNo X31.here hx rfl (hb hby at_144) rfl (teq hj144_32).2 ?_
      show Steps p.tables e below (T31.setTop (mkF m 147 #[.val (.int p0), .val (.ref b1), .val (.int vi), .val (.ref (r vi.toNatClampNeg)), .val (.int (if vi = (0 : Int32) then (0 : Int32) else (if vi = (11 : Int32) then (0 : Int32) else (1 : Int32)))), .val (.int (own_f1 (own_st vi.toNatClampNeg)))] [(.int (own_f1 (own_st vi.toNatClampNeg)))])) t
      refine XS.iconst X31.here hx rfl (hb hby at_147) ?_
      show Steps p.tables e below (T31.setTop (mkF m 148 #[.val (.int p0), .val (.ref b1), .val (.int vi), .val (.ref (r vi.toNatClampNeg)), .val (.int (if vi = (0 : Int32) then (0 : Int32) else (if vi = (11 : Int32) then (0 : Int32) else (1 : Int32)))), .val (.int (own_f1 (own_st vi.toNatClampNeg)))] [(.int (1 : Int32)), (.int (own_f1 (own_st vi.toNatClampNeg)))])) t
      refine XS.goto X31.here hx rfl (pc0 := 148) (pc' := 152) rfl (hb hby at_148) (by decide) (by decide) ?_
      exact kt
    · rw [if_neg hj144_32] at kt
      show Steps p.tables e below (T31.setTop (mkF m 144 #[.val (.int p0), .val (.ref b1), .val (.int vi), .val (.ref (r vi.toNatClampNeg)), .val (.int (if vi = (0 : Int32) then (0 : Int32) else (if vi = (11 : Int32) then (0 : Int32) else (1 : Int32)))), .val (.int (own_f1 (own_st vi.toNatClampNeg)))] [(.int (40000 : Int32)), (.int (own_f2 (own_st vi.toNatClampNeg))), (.int (own_f1 (own_st vi.toNatClampNeg)))])) t
      refine XS.icmpYes X31.here hx rfl (pc0 := 144) (pc' := 151) rfl (hb hby at_144) rfl (feq hj144_32).2 (by decide) (by decide) ?_
      show Steps p.tables e below (T31.setTop (mkF m 151 #[.val (.int p0), .val (.ref b1), .val (.int vi), .val (.ref (r vi.toNatClampNeg)), .val (.int (if vi = (0 : Int32) then (0 : Int32) else (if vi = (11 : Int32) then (0 : Int32) else (1 : Int32)))), .val (.int (own_f1 (own_st vi.toNatClampNeg)))] [(.int (own_f1 (own_st vi.toNatClampNeg)))])) t
      refine XS.iconst X31.here hx rfl (hb hby at_151) ?_
      exact kt
  have hc152_33 : (own_f1 (own_st vi.toNatClampNeg)) = (if (own_f2 (own_st vi.toNatClampNeg)) = (40000 : Int32) then (1 : Int32) else (0 : Int32)) := own_law2 vi hvi
  refine own_by (A' := T31.setTop (mkF m 160 #[.val (.int p0), .val (.ref b1), .val (.int vi), .val (.ref (r vi.toNatClampNeg)), .val (.int (if vi = (0 : Int32) then (0 : Int32) else (if vi = (11 : Int32) then (0 : Int32) else (1 : Int32)))), .val (.int (own_f1 (own_st vi.toNatClampNeg)))] [(.int (1 : Int32))])) (fun t kt => ?_) ?_
  · show Steps p.tables e below (T31.setTop (mkF m 152 #[.val (.int p0), .val (.ref b1), .val (.int vi), .val (.ref (r vi.toNatClampNeg)), .val (.int (if vi = (0 : Int32) then (0 : Int32) else (if vi = (11 : Int32) then (0 : Int32) else (1 : Int32)))), .val (.int (own_f1 (own_st vi.toNatClampNeg)))] [(.int (if (own_f2 (own_st vi.toNatClampNeg)) = (40000 : Int32) then (1 : Int32) else (0 : Int32))), (.int (own_f1 (own_st vi.toNatClampNeg)))])) t
    refine XS.icmpNo X31.here hx rfl (hb hby at_152) rfl (teq hc152_33).2 ?_
    show Steps p.tables e below (T31.setTop (mkF m 155 #[.val (.int p0), .val (.ref b1), .val (.int vi), .val (.ref (r vi.toNatClampNeg)), .val (.int (if vi = (0 : Int32) then (0 : Int32) else (if vi = (11 : Int32) then (0 : Int32) else (1 : Int32)))), .val (.int (own_f1 (own_st vi.toNatClampNeg)))] [])) t
    refine XS.iconst X31.here hx rfl (hb hby at_155) ?_
    show Steps p.tables e below (T31.setTop (mkF m 156 #[.val (.int p0), .val (.ref b1), .val (.int vi), .val (.ref (r vi.toNatClampNeg)), .val (.int (if vi = (0 : Int32) then (0 : Int32) else (if vi = (11 : Int32) then (0 : Int32) else (1 : Int32)))), .val (.int (own_f1 (own_st vi.toNatClampNeg)))] [(.int (1 : Int32))])) t
    refine XS.goto X31.here hx rfl (pc0 := 156) (pc' := 160) rfl (hb hby at_156) (by decide) (by decide) ?_
    exact kt
  obtain ⟨fs, hr, hrun, hended, hW, hsame⟩ := X31.leave (v := some (.int (1 : Int32))) (fun h => by rw [Bd.returns] at h; cases h)
  refine ⟨_, _, ?_, hrun, hended, _, _, rfl, ?_, ⟨_, rfl⟩, hW, hsame.mono (by decide) (by decide)⟩
  · exact retN X31 hx (t := .boolean) Bd.returns (by simp) (hb hby at_160) hr
  · show Q0 Z p0 r h0 n0 _ T31.heap _
    rw [e31]
    exact ⟨rfl, N31⟩
set_option maxRecDepth 65536 in
set_option maxHeartbeats 40000000 in
theorem comes_1 {Post : Tables → Env → Array Value → State → Outcome → State → Prop} (hpost : ∀ tb e args s v u, (limb_1_1.after args s (.returned v) u = true ∧ limb_1_2.after args s (.returned v) u = true ∧ True) → FrameEnd s (.returned v) u (Jvm.fieldLocs frame_1_writes args s ++ Jvm.arrayLocs frame_1_arrays args s ++ Jvm.staticLocs frame_1_statics s) 16 128 → Post tb e args s (.returned v) u) :
    ArmFor flags0 classFile x code maxLocals ret World_1 tables_1 room_1 Calls_1 rest_1 Pre_1 Post := by
  intro l hfl _ _ p e ha hc hk s m args below hf hA hF happ hP
  obtain ⟨hcalls, hrest, hpre⟩ := hP
  obtain ⟨-, -, -, hnamed, -, -, -, hat⟩ := (Spec.applies_iff hf).mp happ
  obtain ⟨hg, hn⟩ := and_e (Cond.before_iff.mp (show (Jvm.Cond.and given_1 narrow_1).before args s = true from hpre))
  obtain ⟨ga1, ga2⟩ := and_e hg
  obtain ⟨w0, rfl⟩ : ∃ w0 : Value, args = #[w0] := by
    have hs : args.size = 1 := by simpa [Cond.value, given_1] using ga1
    obtain ⟨L⟩ := args
    match L, hs with
    | [w0], _ => exact ⟨w0, rfl⟩
  have hw := fun d (hd : d ∈ tables_1) => atoms_spec (ws := Jvm.Cond.code x code maxLocals ret :: tables_1) hat d (List.mem_cons_of_mem _ hd)
  have hfit : Fit s := fun {y c} hc i hi => by
    obtain ⟨ha, rfl⟩ := Array.getElem?_eq_some_iff.mp hc
    have q := List.all_eq_true.mp ((Array.all_eq_true_iff_forall_mem.mp hF) _ (Array.getElem_mem ha)) i (List.mem_range.mpr hi)
    simpa [Array.getElem?_eq_getElem hi] using q
  obtain ⟨gn1, gn2⟩ := and_e hn
  obtain ⟨gn3, gn4⟩ := and_e gn2
  obtain ⟨gn5, gn6⟩ := and_e gn4
  obtain ⟨gn7, gn8⟩ := and_e gn6
  obtain ⟨gn9, gn10⟩ := and_e gn8
  obtain ⟨gn11, gn12⟩ := and_e gn10
  obtain ⟨gn13, gn14⟩ := and_e gn12
  obtain ⟨gn15, gn16⟩ := and_e gn14
  obtain ⟨gn17, gn18⟩ := and_e gn16
  obtain ⟨gn19, gn20⟩ := and_e gn18
  obtain ⟨gn21, gn22⟩ := and_e gn20
  obtain ⟨gn23, gn24⟩ := and_e gn22
  obtain ⟨gn25, gn26⟩ := and_e gn24
  obtain ⟨gn27, gn28⟩ := and_e gn26
  obtain ⟨gn29, gn30⟩ := and_e gn28
  obtain ⟨gn31, gn32⟩ := and_e gn30
  obtain ⟨gn33, gn34⟩ := and_e gn32
  obtain ⟨gn35, gn36⟩ := and_e gn34
  obtain ⟨gn37, gn38⟩ := and_e gn36
  obtain ⟨gn39, gn40⟩ := and_e gn38
  obtain ⟨gn41, gn42⟩ := and_e gn40
  obtain ⟨gn43, gn44⟩ := and_e gn42
  obtain ⟨gn45, gn46⟩ := and_e gn44
  obtain ⟨r0, _, _, _, ev0, -⟩ := Cond.exactly_spec (Cond.before_iff.mpr gn1)
  have E0 := Exa.start ev0 gn1
  have F0 := Fld.start ((fld_at ev0).symm.trans (eqv_i (Term.int_eval _) gn25))
  have S0 := Sta.start ev0 (Or.inr ⟨(hw _ (List.mem_of_getElem? (i := 3) rfl)), (hw _ (List.mem_of_getElem? (i := 4) rfl))⟩)
  obtain ⟨r1, _, _, _, ev1, -⟩ := Cond.exactly_spec (Cond.before_iff.mpr gn3)
  have E1 := Exa.start ev1 gn3
  have F1 := Fld.start ((fld_at ev1).symm.trans (eqv_i (Term.int_eval _) gn39))
  have S1 := Sta.start ev1 (Or.inr ⟨(hw _ (List.mem_of_getElem? (i := 3) rfl)), (hw _ (List.mem_of_getElem? (i := 7) rfl))⟩)
  obtain ⟨r2, _, _, _, ev2, -⟩ := Cond.exactly_spec (Cond.before_iff.mpr gn5)
  have E2 := Exa.start ev2 gn5
  have F2 := Fld.start ((fld_at ev2).symm.trans (eqv_i (Term.int_eval _) gn29))
  have S2 := Sta.start ev2 (Or.inr ⟨(hw _ (List.mem_of_getElem? (i := 3) rfl)), (hw _ (List.mem_of_getElem? (i := 9) rfl))⟩)
  obtain ⟨r3, _, _, _, ev3, -⟩ := Cond.exactly_spec (Cond.before_iff.mpr gn7)
  have E3 := Exa.start ev3 gn7
  have F3 := Fld.start ((fld_at ev3).symm.trans (eqv_i (Term.int_eval _) gn27))
  have S3 := Sta.start ev3 (Or.inr ⟨(hw _ (List.mem_of_getElem? (i := 3) rfl)), (hw _ (List.mem_of_getElem? (i := 11) rfl))⟩)
  obtain ⟨r4, _, _, _, ev4, -⟩ := Cond.exactly_spec (Cond.before_iff.mpr gn9)
  have E4 := Exa.start ev4 gn9
  have F4 := Fld.start ((fld_at ev4).symm.trans (eqv_i (Term.int_eval _) gn35))
  have S4 := Sta.start ev4 (Or.inr ⟨(hw _ (List.mem_of_getElem? (i := 3) rfl)), (hw _ (List.mem_of_getElem? (i := 13) rfl))⟩)
  obtain ⟨r5, _, _, _, ev5, -⟩ := Cond.exactly_spec (Cond.before_iff.mpr gn11)
  have E5 := Exa.start ev5 gn11
  have F5 := Fld.start ((fld_at ev5).symm.trans (eqv_i (Term.int_eval _) gn46))
  have S5 := Sta.start ev5 (Or.inr ⟨(hw _ (List.mem_of_getElem? (i := 3) rfl)), (hw _ (List.mem_of_getElem? (i := 15) rfl))⟩)
  obtain ⟨r6, _, _, _, ev6, -⟩ := Cond.exactly_spec (Cond.before_iff.mpr gn13)
  have E6 := Exa.start ev6 gn13
  have F6 := Fld.start ((fld_at ev6).symm.trans (eqv_i (Term.int_eval _) gn45))
  have S6 := Sta.start ev6 (Or.inr ⟨(hw _ (List.mem_of_getElem? (i := 3) rfl)), (hw _ (List.mem_of_getElem? (i := 17) rfl))⟩)
  obtain ⟨r7, _, _, _, ev7, -⟩ := Cond.exactly_spec (Cond.before_iff.mpr gn15)
  have E7 := Exa.start ev7 gn15
  have F7 := Fld.start ((fld_at ev7).symm.trans (eqv_i (Term.int_eval _) gn31))
  have S7 := Sta.start ev7 (Or.inr ⟨(hw _ (List.mem_of_getElem? (i := 3) rfl)), (hw _ (List.mem_of_getElem? (i := 19) rfl))⟩)
  obtain ⟨r8, _, _, _, ev8, -⟩ := Cond.exactly_spec (Cond.before_iff.mpr gn17)
  have E8 := Exa.start ev8 gn17
  have F8 := Fld.start ((fld_at ev8).symm.trans (eqv_i (Term.int_eval _) gn37))
  have S8 := Sta.start ev8 (Or.inr ⟨(hw _ (List.mem_of_getElem? (i := 3) rfl)), (hw _ (List.mem_of_getElem? (i := 21) rfl))⟩)
  obtain ⟨r9, _, _, _, ev9, -⟩ := Cond.exactly_spec (Cond.before_iff.mpr gn19)
  have E9 := Exa.start ev9 gn19
  have F9 := Fld.start ((fld_at ev9).symm.trans (eqv_i (Term.int_eval _) gn43))
  have S9 := Sta.start ev9 (Or.inr ⟨(hw _ (List.mem_of_getElem? (i := 3) rfl)), (hw _ (List.mem_of_getElem? (i := 23) rfl))⟩)
  obtain ⟨r10, _, _, _, ev10, -⟩ := Cond.exactly_spec (Cond.before_iff.mpr gn21)
  have E10 := Exa.start ev10 gn21
  have F10 := Fld.start ((fld_at ev10).symm.trans (eqv_i (Term.int_eval _) gn41))
  have S10 := Sta.start ev10 (Or.inr ⟨(hw _ (List.mem_of_getElem? (i := 3) rfl)), (hw _ (List.mem_of_getElem? (i := 25) rfl))⟩)
  obtain ⟨r11, _, _, _, ev11, -⟩ := Cond.exactly_spec (Cond.before_iff.mpr gn23)
  have E11 := Exa.start ev11 gn23
  have F11 := Fld.start ((fld_at ev11).symm.trans (eqv_i (Term.int_eval _) gn33))
  have S11 := Sta.start ev11 (Or.inr ⟨(hw _ (List.mem_of_getElem? (i := 3) rfl)), (hw _ (List.mem_of_getElem? (i := 27) rfl))⟩)
  obtain ⟨rr, hrr⟩ : ∃ rr : Nat → Addr, rr = (fun k => match k with | 0 => r0 | 1 => r1 | 2 => r2 | 3 => r3 | 4 => r4 | 5 => r5 | 6 => r6 | 7 => r7 | 8 => r8 | 9 => r9 | 10 => r10 | _ => r11) := ⟨_, rfl⟩
  have hE : ∀ k, k < 12 → Exa s s.heap (rr k) "com/example/flashsafe/flashsafe/Code" := by
    intro k hk; subst hrr
    match k, hk with
    | 0, _ => exact E0
    | 1, _ => exact E1
    | 2, _ => exact E2
    | 3, _ => exact E3
    | 4, _ => exact E4
    | 5, _ => exact E5
    | 6, _ => exact E6
    | 7, _ => exact E7
    | 8, _ => exact E8
    | 9, _ => exact E9
    | 10, _ => exact E10
    | 11, _ => exact E11
  have hF : ∀ k, k < 12 → Fld s s.heap (rr k) "com/example/flashsafe/flashsafe/Code" "status" "I" (.int (own_st k)) := by
    intro k hk; subst hrr
    match k, hk with
    | 0, _ => exact F0
    | 1, _ => exact F1
    | 2, _ => exact F2
    | 3, _ => exact F3
    | 4, _ => exact F4
    | 5, _ => exact F5
    | 6, _ => exact F6
    | 7, _ => exact F7
    | 8, _ => exact F8
    | 9, _ => exact F9
    | 10, _ => exact F10
    | 11, _ => exact F11
  subst hrr
  obtain ⟨i0, ei0⟩ := is_v ga2
  obtain rfl : w0 = (.int i0) := Option.some.inj ei0
  obtain ⟨n, o, h1, h2, h3, _, L, rfl, ⟨rfl, N⟩, hq⟩ := rm0 l s _ hw tables_1 i0 (fun k => match k with | 0 => r0 | 1 => r1 | 2 => r2 | 3 => r3 | 4 => r4 | 5 => r5 | 6 => r6 | 7 => r7 | 8 => r8 | 9 => r9 | 10 => r10 | _ => r11) s.heap s.heap.size (Nat.le_refl _) S0 S1 S2 S3 S4 S5 S6 S7 S8 S9 S10 S11 hE hF p e ha hc hk s m _ below hf ((Spec.applies_iff_loose hf).mp happ).1 ⟨rfl, State.Warmed39.refl s, rfl⟩ trivial
  refine ⟨n, _, h1, h2, h3, hpost _ _ _ _ _ _ ⟨Cond.after_iff.mpr rfl, Cond.after_iff.mpr (eq_i res_at (Term.int_eval (1)) rfl), trivial⟩ ⟨hq.1, hq.2.1, (hq.2.2.sift fun y hy => Or.inr (N y hy)).mono (by decide) (by decide)⟩⟩
theorem main_1_1 : Claimed_1_1 := comes_1 fun _ _ _ _ _ _ h hF => ⟨h.1, hF⟩
theorem main_1_2 : Claimed_1_2 := comes_1 fun _ _ _ _ _ _ h hF => ⟨h.2.1, hF⟩
end Jvm.Pilot.@@N@@
namespace Jvm.Pilot.@@N@@
open Jvm Jvm.ClassFile Sem Op Lib Jvm.Free Jvm.Stand Jvm.Pilot.@@N@@.Jvm.D
/-! MADE BY PROGRAM (witnessworld.py) out of the Statement's table words and the real class files: 13 classes; the members and pool entries that the words name. The judged class is class 1, her method 1. -/
namespace start1
open Jvm.ClassFile
def u (s : String) : CpInfo := .utf8 (stringToUtf16 s)
/-- a pool by its gaps: so many unusable entries, then the entry; so many at the end -/
def gap : Nat → List CpInfo → List CpInfo
  | 0, r => r
  | n + 1, r => .unusable :: gap n r
def poolList (es : List (Nat × CpInfo)) (last : Nat) : List CpInfo := es.foldr (fun e r => gap e.1 (e.2 :: r)) (gap last [])
def pool (es : List (Nat × CpInfo)) (last : Nat) : Array CpInfo := ⟨poolList es last⟩
def fileOf (pool : Array CpInfo) (this : Nat) (attrs : Array Attribute := #[]) (ms : Array MethodInfo := #[]) (fl : Nat := 33) (sup : Nat := 0) (ifs : Array Nat := #[]) (fds : Array FieldInfo := #[]) : ClassFile where
  minorVersion := 0
  majorVersion := 65
  constantPool := pool
  accessFlags := fl
  thisClass := this
  superClass := sup
  interfaces := ifs
  fields := fds
  methods := ms
  attributes := attrs
def plain (name : String) (sup : Option ClassId) : Class where
  name := name
  kind := .ordinary
  loader := none
  accessFlags := 33
  super := sup
  interfaces := #[]
  cf := none
  fields := #[]
  methods := #[]
  instanceTypes := #[]
  staticTypes := #[]
  resolved := #[]
  callSites := []
  init := .initialized
  statics := none
  mirror := none

def pool0 : Array CpInfo := pool [(5, u "<init>"), (0, u "()V"), (1, .class_ 10), (1, u "java/lang/Object")] 113

def k0m0 : Method := { name := "<init>", desc := "()V", sig := { parameters := [], returnType := none }, accessFlags := 1, code := none }
/-- java/lang/Object -/
def k0 : Class := { plain "java/lang/Object" none with
  accessFlags := 33
  interfaces := #[]
  cf := some (fileOf pool0 8 #[] #[{ accessFlags := 1, nameIndex := 5, descriptorIndex := 6, attributes := #[] }] 33 0 #[] #[])
  fields := #[]
  methods := #[k0m0]
  instanceTypes := #[]
  staticTypes := #[]
  resolved := Array.replicate 124 none
  statics := none }

def pool1 : Array CpInfo := pool [(2, .class_ 4), (1, u "java/lang/Object"), (0, u "<init>"), (0, u "()V"), (0, .class_ 8), (0, u "com/example/flashsafe/flashsafe/Code"), (0, .fieldref 7 10), (0, .nameAndType 11 12), (0, u "SUCCESS"), (0, u "Lcom/example/flashsafe/flashsafe/Code;"), (0, .fieldref 7 14), (0, .nameAndType 15 12), (0, u "SOLD_OUT"), (0, .fieldref 7 17), (0, .nameAndType 18 12), (0, u "QUOTA_EXCEEDED"), (0, .fieldref 7 20), (0, .nameAndType 21 12), (0, u "NOT_STARTED"), (0, .fieldref 7 23), (0, .nameAndType 24 12), (0, u "ENDED"), (0, .fieldref 7 26), (0, .nameAndType 27 12), (0, u "DISABLED"), (0, .fieldref 7 29), (0, .nameAndType 30 12), (0, u "NOT_FOUND"), (0, .fieldref 7 32), (0, .nameAndType 33 12), (0, u "ORDER_CONFLICT"), (0, .fieldref 7 35), (0, .nameAndType 36 12), (0, u "CANCELLED"), (0, .fieldref 7 38), (0, .nameAndType 39 12), (0, u "EXPIRED"), (0, .fieldref 7 41), (0, .nameAndType 42 12), (0, u "BAD_REQUEST"), (0, .fieldref 7 44), (0, .nameAndType 45 12), (0, u "UNAVAILABLE"), (0, .integer 2147483647), (0, .methodref 7 48), (0, .nameAndType 49 50), (0, u "isRefusal"), (0, u "()Z"), (0, .methodref 7 52), (0, .nameAndType 53 54), (0, u "status"), (0, u "()I"), (0, .integer 40000), (0, .class_ 57), (0, u "com/example/flashsafe/flashsafe/CodeIsRefusalPinLaw"), (2, u "law"), (0, u "(I)Z")] 5

def k1m0 : Method := { name := "<init>", desc := "()V", sig := { parameters := [], returnType := none }, accessFlags := 1, code := none }
def k1c1 : Code := { maxStack := 4, maxLocals := 6, code := code, exceptionTable := #[], attributes := #[] }
def k1m1 : Method := { name := "law", desc := "(I)Z", sig := { parameters := [.int], returnType := some .boolean }, accessFlags := 9, code := some k1c1 }
/-- com/example/flashsafe/flashsafe/CodeIsRefusalPinLaw -/
def k1 : Class := { plain "com/example/flashsafe/flashsafe/CodeIsRefusalPinLaw" (some 0) with
  accessFlags := 49
  interfaces := #[]
  cf := some (fileOf pool1 56 #[] #[{ accessFlags := 1, nameIndex := 5, descriptorIndex := 6, attributes := #[] }, { accessFlags := 9, nameIndex := 60, descriptorIndex := 61, attributes := #[] }] 49 2 #[] #[])
  fields := #[]
  methods := #[k1m0, k1m1]
  instanceTypes := #[]
  staticTypes := #[]
  resolved := Array.replicate 67 none
  statics := none }

def pool2 : Array CpInfo := pool [(1, .class_ 2), (0, u "java/lang/constant/Constable"), (0, .class_ 4), (0, u "java/lang/Object")] 6

/-- java/lang/constant/Constable -/
def k2 : Class := { plain "java/lang/constant/Constable" (some 0) with
  accessFlags := 1537
  interfaces := #[]
  cf := some (fileOf pool2 1 #[] #[] 1537 3 #[] #[])
  fields := #[]
  methods := #[]
  instanceTypes := #[]
  staticTypes := #[]
  resolved := Array.replicate 11 none
  statics := none }

def pool3 : Array CpInfo := pool [(1, .class_ 2), (0, u "java/lang/Comparable"), (0, .class_ 4), (0, u "java/lang/Object")] 7

/-- java/lang/Comparable -/
def k3 : Class := { plain "java/lang/Comparable" (some 0) with
  accessFlags := 1537
  interfaces := #[]
  cf := some (fileOf pool3 1 #[] #[] 1537 3 #[] #[])
  fields := #[]
  methods := #[]
  instanceTypes := #[]
  staticTypes := #[]
  resolved := Array.replicate 12 none
  statics := none }

def pool4 : Array CpInfo := pool [(1, .class_ 2), (0, u "java/io/Serializable"), (0, .class_ 4), (0, u "java/lang/Object")] 2

/-- java/io/Serializable -/
def k4 : Class := { plain "java/io/Serializable" (some 0) with
  accessFlags := 1537
  interfaces := #[]
  cf := some (fileOf pool4 1 #[] #[] 1537 3 #[] #[])
  fields := #[]
  methods := #[]
  instanceTypes := #[]
  staticTypes := #[]
  resolved := Array.replicate 7 none
  statics := none }

def pool5 : Array CpInfo := pool [(2, .class_ 4), (1, u "java/lang/Enum"), (0, u "name"), (0, u "Ljava/lang/String;"), (2, u "ordinal"), (0, u "I"), (1, .class_ 14), (1, u "java/lang/Object"), (4, u "hash"), (86, .class_ 108), (1, u "java/lang/Enum$EnumDesc"), (2, .class_ 112), (0, u "java/lang/constant/Constable"), (0, .class_ 114), (0, u "java/lang/Comparable"), (0, .class_ 116), (0, u "java/io/Serializable")] 87

/-- java/lang/Enum -/
def k5 : Class := { plain "java/lang/Enum" (some 0) with
  accessFlags := 1057
  interfaces := #[2, 3, 4]
  cf := some (fileOf pool5 2 #[.nestMembers #[106]] #[] 1057 12 #[111, 113, 115] #[{ accessFlags := 18, nameIndex := 5, descriptorIndex := 6, attributes := #[] }, { accessFlags := 18, nameIndex := 9, descriptorIndex := 10, attributes := #[] }, { accessFlags := 2, nameIndex := 19, descriptorIndex := 10, attributes := #[] }])
  fields := #[{ name := "name", type := (.object "java/lang/String"), accessFlags := 18, slot := 0, constantValue := 0 }, { name := "ordinal", type := .int, accessFlags := 18, slot := 1, constantValue := 0 }, { name := "hash", type := .int, accessFlags := 2, slot := 2, constantValue := 0 }]
  methods := #[]
  instanceTypes := #[(.object "java/lang/String"), .int, .int]
  staticTypes := #[]
  resolved := Array.replicate 204 none
  statics := none }

def pool6 : Array CpInfo := pool [(1, .class_ 2), (0, u "com/example/flashsafe/flashsafe/Code"), (2, u "SUCCESS"), (0, u "Lcom/example/flashsafe/flashsafe/Code;"), (2, u "SOLD_OUT"), (2, u "QUOTA_EXCEEDED"), (2, u "NOT_STARTED"), (2, u "ENDED"), (2, u "DISABLED"), (2, u "NOT_FOUND"), (2, u "ORDER_CONFLICT"), (2, u "CANCELLED"), (2, u "EXPIRED"), (2, u "BAD_REQUEST"), (2, u "UNAVAILABLE"), (2, u "$VALUES"), (0, u "[Lcom/example/flashsafe/flashsafe/Code;"), (6, .class_ 52), (1, u "java/lang/Enum"), (6, .fieldref 1 60), (0, .nameAndType 61 62), (0, u "status"), (0, u "I"), (0, .integer 40000), (27, u "()I"), (0, u "isRefusal"), (0, u "()Z")] 6

def k6c0 : Code := { maxStack := 1, maxLocals := 1, code := prog_4_method_4_code, exceptionTable := #[], attributes := #[] }
def k6m0 : Method := { name := "status", desc := "()I", sig := { parameters := [], returnType := some .int }, accessFlags := 1, code := some k6c0 }
def k6c1 : Code := { maxStack := 2, maxLocals := 1, code := prog_4_method_5_code, exceptionTable := #[], attributes := #[] }
def k6m1 : Method := { name := "isRefusal", desc := "()Z", sig := { parameters := [], returnType := some .boolean }, accessFlags := 1, code := some k6c1 }
/-- com/example/flashsafe/flashsafe/Code -/
def k6 : Class := { plain "com/example/flashsafe/flashsafe/Code" (some 5) with
  accessFlags := 16433
  interfaces := #[]
  cf := some (fileOf pool6 1 #[] #[{ accessFlags := 1, nameIndex := 61, descriptorIndex := 91, attributes := #[] }, { accessFlags := 1, nameIndex := 92, descriptorIndex := 93, attributes := #[] }] 16433 50 #[] #[{ accessFlags := 16409, nameIndex := 5, descriptorIndex := 6, attributes := #[] }, { accessFlags := 16409, nameIndex := 9, descriptorIndex := 6, attributes := #[] }, { accessFlags := 16409, nameIndex := 12, descriptorIndex := 6, attributes := #[] }, { accessFlags := 16409, nameIndex := 15, descriptorIndex := 6, attributes := #[] }, { accessFlags := 16409, nameIndex := 18, descriptorIndex := 6, attributes := #[] }, { accessFlags := 16409, nameIndex := 21, descriptorIndex := 6, attributes := #[] }, { accessFlags := 16409, nameIndex := 24, descriptorIndex := 6, attributes := #[] }, { accessFlags := 16409, nameIndex := 27, descriptorIndex := 6, attributes := #[] }, { accessFlags := 16409, nameIndex := 30, descriptorIndex := 6, attributes := #[] }, { accessFlags := 16409, nameIndex := 33, descriptorIndex := 6, attributes := #[] }, { accessFlags := 16409, nameIndex := 36, descriptorIndex := 6, attributes := #[] }, { accessFlags := 16409, nameIndex := 39, descriptorIndex := 6, attributes := #[] }, { accessFlags := 18, nameIndex := 61, descriptorIndex := 62, attributes := #[] }, { accessFlags := 4122, nameIndex := 42, descriptorIndex := 43, attributes := #[] }])
  fields := #[{ name := "SUCCESS", type := (.object "com/example/flashsafe/flashsafe/Code"), accessFlags := 16409, slot := 0, constantValue := 0 }, { name := "SOLD_OUT", type := (.object "com/example/flashsafe/flashsafe/Code"), accessFlags := 16409, slot := 1, constantValue := 0 }, { name := "QUOTA_EXCEEDED", type := (.object "com/example/flashsafe/flashsafe/Code"), accessFlags := 16409, slot := 2, constantValue := 0 }, { name := "NOT_STARTED", type := (.object "com/example/flashsafe/flashsafe/Code"), accessFlags := 16409, slot := 3, constantValue := 0 }, { name := "ENDED", type := (.object "com/example/flashsafe/flashsafe/Code"), accessFlags := 16409, slot := 4, constantValue := 0 }, { name := "DISABLED", type := (.object "com/example/flashsafe/flashsafe/Code"), accessFlags := 16409, slot := 5, constantValue := 0 }, { name := "NOT_FOUND", type := (.object "com/example/flashsafe/flashsafe/Code"), accessFlags := 16409, slot := 6, constantValue := 0 }, { name := "ORDER_CONFLICT", type := (.object "com/example/flashsafe/flashsafe/Code"), accessFlags := 16409, slot := 7, constantValue := 0 }, { name := "CANCELLED", type := (.object "com/example/flashsafe/flashsafe/Code"), accessFlags := 16409, slot := 8, constantValue := 0 }, { name := "EXPIRED", type := (.object "com/example/flashsafe/flashsafe/Code"), accessFlags := 16409, slot := 9, constantValue := 0 }, { name := "BAD_REQUEST", type := (.object "com/example/flashsafe/flashsafe/Code"), accessFlags := 16409, slot := 10, constantValue := 0 }, { name := "UNAVAILABLE", type := (.object "com/example/flashsafe/flashsafe/Code"), accessFlags := 16409, slot := 11, constantValue := 0 }, { name := "status", type := .int, accessFlags := 18, slot := 3, constantValue := 0 }, { name := "$VALUES", type := (.array (.object "com/example/flashsafe/flashsafe/Code")), accessFlags := 4122, slot := 12, constantValue := 0 }]
  methods := #[k6m0, k6m1]
  instanceTypes := #[(.object "java/lang/String"), .int, .int, .int]
  staticTypes := #[(.object "com/example/flashsafe/flashsafe/Code"), (.object "com/example/flashsafe/flashsafe/Code"), (.object "com/example/flashsafe/flashsafe/Code"), (.object "com/example/flashsafe/flashsafe/Code"), (.object "com/example/flashsafe/flashsafe/Code"), (.object "com/example/flashsafe/flashsafe/Code"), (.object "com/example/flashsafe/flashsafe/Code"), (.object "com/example/flashsafe/flashsafe/Code"), (.object "com/example/flashsafe/flashsafe/Code"), (.object "com/example/flashsafe/flashsafe/Code"), (.object "com/example/flashsafe/flashsafe/Code"), (.object "com/example/flashsafe/flashsafe/Code"), (.array (.object "com/example/flashsafe/flashsafe/Code"))]
  resolved := Array.replicate 100 none
  statics := some 0 }

def pool7 : Array CpInfo := pool [(1, u "java/lang/Cloneable"), (0, .class_ 1), (0, u "java/lang/Object"), (0, .class_ 3)] 3

/-- java/lang/Cloneable -/
def k7 : Class := { plain "java/lang/Cloneable" (some 0) with
  accessFlags := 1537
  interfaces := #[]
  cf := some (fileOf pool7 2 #[] #[] 1537 4 #[] #[])
  fields := #[]
  methods := #[]
  instanceTypes := #[]
  staticTypes := #[]
  resolved := Array.replicate 8 none
  statics := none }

/-- the primitive byte -/
def k8 : Class := { plain "byte" none with kind := .primitive 'B', accessFlags := 0x411 }
/-- [B -/
def k9 : Class := { plain "[B" (some 0) with kind := .array 8 .byte, interfaces := #[7, 4], accessFlags := 1041 }

/-- the primitive int -/
def k10 : Class := { plain "int" none with kind := .primitive 'I', accessFlags := 0x411 }
/-- [I -/
def k11 : Class := { plain "[I" (some 0) with kind := .array 10 .int, interfaces := #[7, 4], accessFlags := 1041 }

/-- [Lcom/example/flashsafe/flashsafe/Code; -/
def k12 : Class := { plain "[Lcom/example/flashsafe/flashsafe/Code;" (some 0) with kind := .array 6 (.object "com/example/flashsafe/flashsafe/Code"), interfaces := #[7, 4], accessFlags := 1041 }

def heap : Heap := #[{ cls := 6, slots := #[.ref 1, .ref 2, .ref 3, .ref 4, .ref 5, .ref 6, .ref 7, .ref 8, .ref 9, .ref 10, .ref 11, .ref 12, .null], vm := .statics 6 },
  { cls := 6, slots := #[.null, .int 0, .int 0, .int 10000], vm := .none },
  { cls := 6, slots := #[.null, .int 1, .int 0, .int 40000], vm := .none },
  { cls := 6, slots := #[.null, .int 2, .int 0, .int 40000], vm := .none },
  { cls := 6, slots := #[.null, .int 3, .int 0, .int 40000], vm := .none },
  { cls := 6, slots := #[.null, .int 4, .int 0, .int 40000], vm := .none },
  { cls := 6, slots := #[.null, .int 5, .int 0, .int 40000], vm := .none },
  { cls := 6, slots := #[.null, .int 6, .int 0, .int 40000], vm := .none },
  { cls := 6, slots := #[.null, .int 7, .int 0, .int 40000], vm := .none },
  { cls := 6, slots := #[.null, .int 8, .int 0, .int 40000], vm := .none },
  { cls := 6, slots := #[.null, .int 9, .int 0, .int 40000], vm := .none },
  { cls := 6, slots := #[.null, .int 10, .int 0, .int 40000], vm := .none },
  { cls := 6, slots := #[.null, .int 11, .int 0, .int 50000], vm := .none }]
def classes : Array Class := #[k0, k1, k2, k3, k4, k5, k6, k7, k8, k9, k10, k11, k12]
def interned : List (Array UInt16 × Addr) := []
def slotsUsed : Nat := 61
def theMethod : MethodId := ⟨1, 1⟩
def args0 : Array Value := #[.int 7]
def aboutOver (below : List Frame) : State where
  vm := { classes := classes, interned := interned.toArray }
  heap := heap
  slotsUsed := slotsUsed
  threads := #[{ frames := .invoking theMethod args0 :: below }]
def below0 : List Frame := [.native { method := ⟨0, 0⟩, args := #[] }]
def about1 : State := aboutOver below0
def p0 : Program := .bare "" "" ""
def e0 : Env := launch0.env 0 0 0
theorem w_frames : about1.frames = Frame.invoking theMethod args0 :: below0 := rfl
set_option maxRecDepth 65536 in
theorem w_args : argsFit about1.vm theMethod args0 = true := by decide +kernel
set_option maxRecDepth 65536 in
theorem w_heap : heapFits about1 = true := by decide +kernel
set_option maxRecDepth 65536 in
theorem w_runnable : about1.curStatus? = some .runnable := by decide +kernel
set_option maxRecDepth 65536 in
theorem w_alone : about1.alone = true := by decide +kernel
set_option maxRecDepth 65536 in
theorem w_named : about1.methodNamed? x = some theMethod := by decide +kernel
set_option maxRecDepth 65536 in
theorem w_hears : about1.hears theMethod below0 = true := by decide +kernel
set_option maxRecDepth 65536 in
theorem w_ripe : about1.ripe theMethod args0 below0 = true := by decide +kernel
theorem w_running : about1.status = .running := rfl
set_option maxRecDepth 65536 in
theorem w_room : about1.hasRoom e0.platform room_1 = true :=
  launch0.hasRoom_least _ room_1 (by decide +kernel) (by decide +kernel) (by decide +kernel) (by decide +kernel) (by decide +kernel) (by decide +kernel)
theorem allAtoms_all (ts : List Jvm.Cond) (a : Array Jvm.Value) (st : Jvm.State) : (allAtoms ts).before a st = ts.all (fun c => c.before a st) := by
  induction ts with
  | nil => rfl
  | cons c t ih =>
    show (Jvm.Cond.and c (allAtoms t)).before a st = _
    rw [Jvm.Cond.before_and, ih, List.all_cons]
def words1 : List Jvm.Cond := Jvm.Cond.code x code maxLocals ret :: tables_1
/-- a 'code' word, met by the world's own term for the bytes: nothing is compared byte by byte -/
theorem code_word {y : MethodName} {bytes : ByteArray} {mx : Nat} {rt : Option FieldType} {a : Array Value} {s : State} {m : MethodId} {meth : Method} {c : Code} (h1 : s.methodNamed? y = some m) (h2 : s.vm.method? m = some meth) (h3 : meth.code = some c) (h4 : c.code = bytes)
    (h5 : (c.maxLocals == mx && c.exceptionTable.isEmpty && decide (c.maxStack ≤ mostOperands) && decide (meth.sig.returnType = rt) && !meth.locks && decide (parseMethodDescriptor y.desc = some meth.sig)) = true) : (Jvm.Cond.code y bytes mx rt).before a s = true := by
  simp only [Bool.and_eq_true, beq_iff_eq, Bool.not_eq_true', decide_eq_true_eq] at h5
  obtain ⟨⟨⟨⟨⟨g1, g2⟩, g3⟩, g4⟩, g5⟩, g6⟩ := h5
  simp [Cond.before, Cond.holds, Cond.value, h1, h2, h3, h4, g1, g2, g3, g4, g5, g6]
def isCode : Jvm.Cond → Bool
  | .code _ _ _ _ => true
  | _ => false
theorem all_split {L : List Jvm.Cond} {P : Jvm.Cond → Bool} (h1 : L.all (fun c => isCode c || P c) = true) (h2 : ∀ c ∈ L.filter isCode, P c = true) : L.all P = true := by
  refine List.all_eq_true.mpr fun c hc => ?_
  have h := List.all_eq_true.mp h1 c hc
  rcases Bool.eq_false_or_eq_true (isCode c) with hi | hi
  · exact h2 c (List.mem_filter.mpr ⟨hc, hi⟩)
  · simpa [hi] using h
set_option maxRecDepth 65536 in
theorem w_c0 : (Jvm.Cond.code x code maxLocals ret).before args0 about1 = true := code_word (m := ⟨1, 1⟩) (meth := k1m1) (c := k1c1) (by decide +kernel) rfl rfl rfl (by decide +kernel)
set_option maxRecDepth 65536 in
theorem w_c1 : (Jvm.Cond.code ({ cls := "com/example/flashsafe/flashsafe/Code", name := "isRefusal", desc := "()Z" } : Jvm.MethodName) prog_4_method_5_code (1 : Nat) (Option.some Jvm.ClassFile.FieldType.boolean)).before args0 about1 = true := code_word (m := ⟨6, 1⟩) (meth := k6m1) (c := k6c1) (by decide +kernel) rfl rfl rfl (by decide +kernel)
set_option maxRecDepth 65536 in
theorem w_c2 : (Jvm.Cond.code ({ cls := "com/example/flashsafe/flashsafe/Code", name := "status", desc := "()I" } : Jvm.MethodName) prog_4_method_4_code (1 : Nat) (Option.some Jvm.ClassFile.FieldType.int)).before args0 about1 = true := code_word (m := ⟨6, 0⟩) (meth := k6m0) (c := k6c0) (by decide +kernel) rfl rfl rfl (by decide +kernel)
def codes1 : List Jvm.Cond := [Jvm.Cond.code x code maxLocals ret, Jvm.Cond.code ({ cls := "com/example/flashsafe/flashsafe/Code", name := "isRefusal", desc := "()Z" } : Jvm.MethodName) prog_4_method_5_code (1 : Nat) (Option.some Jvm.ClassFile.FieldType.boolean), Jvm.Cond.code ({ cls := "com/example/flashsafe/flashsafe/Code", name := "status", desc := "()I" } : Jvm.MethodName) prog_4_method_4_code (1 : Nat) (Option.some Jvm.ClassFile.FieldType.int)]
set_option maxRecDepth 65536 in
theorem codes_eq : words1.filter isCode = codes1 := rfl
theorem w_codes : ∀ c ∈ words1.filter isCode, c.before args0 about1 = true := by
  rw [codes_eq]
  intro c hc
  simp only [codes1, List.mem_cons, List.not_mem_nil, or_false] at hc
  rcases hc with rfl | rfl | rfl
  · exact w_c0
  · exact w_c1
  · exact w_c2
set_option maxRecDepth 65536 in
theorem w_t1 : (words1.take 24).all (fun c => isCode c || c.before args0 about1) = true := by decide +kernel
set_option maxRecDepth 65536 in
theorem w_t2 : (words1.drop 24).all (fun c => isCode c || c.before args0 about1) = true := by decide +kernel
theorem w_tables : (allAtoms (Jvm.Cond.code x code maxLocals ret :: tables_1)).before args0 about1 = true := by
  rw [allAtoms_all]
  show words1.all (fun c => c.before args0 about1) = true
  refine all_split ?_ w_codes
  rw [← List.take_append_drop 24 words1, List.all_append, w_t1, w_t2]
  rfl
set_option maxRecDepth 65536 in
theorem w_case : (Jvm.Cond.and given_1 narrow_1).before args0 about1 = true := by decide +kernel
theorem w_applies : (headSpec (Jvm.Cond.code x code maxLocals ret :: tables_1) room_1).applies x e0.platform about1 = true :=
  (Spec.applies_iff w_frames).mpr ⟨w_running, w_runnable, w_alone, w_named, w_hears, w_ripe, w_room, w_tables⟩
theorem atStart : AtStart classFile x code maxLocals ret World_1 tables_1 room_1 Calls_1 rest_1 Pre_1 launch0 p0 e0 about1 theMethod args0 below0 :=
  ⟨lists_1, trivial, launch0.admits_env _ _ _, launch0.least_env, fairChoices_fair.cas, fairChoices_fair.clock, w_frames, w_args, w_heap, w_applies, trivial, trivial, w_case⟩
end start1
theorem witness_1 : WitnessClaimed_1 := ⟨start1.p0, start1.e0, start1.about1, start1.theMethod, start1.args0, start1.below0, start1.atStart⟩
end Jvm.Pilot.@@N@@
