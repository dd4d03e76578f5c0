import JvmDerived
import JvmDerived.Pilot.@@N@@Statement
import JvmDerived.Pilot.@@N@@Code
set_option linter.unusedVariables false
set_option linter.unusedSimpArgs false
namespace Jvm.RoadKit
open Sem ClassFile Op Lib Jvm.Stand Jvm.Free Jvm.LawKit
section New
variable {p : Program} {l : Launch} {e : Env} {R : Room} {s : State} {m : MethodId} {args : Array Value} {below : List Frame} {meth : Method} {c : Code} {T : State} {locs : List Loc} {cells slots : Nat}
theorem retI (X : Stand p l e R s m args below meth c T locs cells slots) (hx : p.tables.exec = Jvm.exec) {pc : Nat} {Ls : Array Slot} {z : Int32} {rest : List Value} (hret : meth.sig.returnType = some .int) (hd : decode c.code pc = .ok (.ireturn, 1)) {fs : List Frame}
    (hl : ∀ (f : JFrame) (acts : List Action), f.method = m → f.locked = none → f.entered = [] → (doReturn e (T.setTop f) acts (some (.int z))).1 = T.setFrames fs) : Steps p.tables e below (T.setTop (mkF m pc Ls (.int z :: rest))) (T.setFrames fs) :=
  retOut X hx hret rfl (Or.inl ⟨rfl, Or.inl rfl, _, rfl⟩) hd hl
theorem own_retL (X : Stand p l e R s m args below meth c T locs cells slots) (hx : p.tables.exec = Jvm.exec) {pc : Nat} {Ls : Array Slot} {z : Int64} {rest : List Value} (hret : meth.sig.returnType = some .long) (hd : decode c.code pc = .ok (.lreturn, 1)) {fs : List Frame}
    (hl : ∀ (f : JFrame) (acts : List Action), f.method = m → f.locked = none → f.entered = [] → (doReturn e (T.setTop f) acts (some (.long z))).1 = T.setFrames fs) : Steps p.tables e below (T.setTop (mkF m pc Ls (.long z :: rest))) (T.setFrames fs) :=
  retOut X hx hret rfl (Or.inr (Or.inl ⟨rfl, rfl, _, rfl⟩)) hd hl
theorem own_retA (X : Stand p l e R s m args below meth c T locs cells slots) (hx : p.tables.exec = Jvm.exec) {pc : Nat} {Ls : Array Slot} {z : Addr} {rest : List Value} {t : FieldType} (hret : meth.sig.returnType = some t) (ht : t.isReference = true) (hd : decode c.code pc = .ok (.areturn, 1)) {fs : List Frame}
    (hl : ∀ (f : JFrame) (acts : List Action), f.method = m → f.locked = none → f.entered = [] → (doReturn e (T.setTop f) acts (some (.ref z))).1 = T.setFrames fs) : Steps p.tables e below (T.setTop (mkF m pc Ls (.ref z :: rest))) (T.setFrames fs) :=
  retOut X hx hret (by cases t <;> first | rfl | (cases ht; done)) (Or.inr (Or.inr (Or.inr (Or.inr ⟨rfl, ht, rfl⟩)))) hd hl
theorem own_lrem {g : JFrame} {target : State} (X : Stand p l e R s m args below meth c T locs cells slots) (hx : p.tables.exec = Jvm.exec) (hg : g.method = m) {x y : Int64} {rest : List Value} (hd : decode c.code g.pc = .ok (.lrem, 1)) (hs : g.stack = .long y :: .long x :: rest) (hy : y ≠ 0)
    (hr : Steps p.tables e below (T.setTop { g with pc := g.pc + 1, stack := .long (x % y) :: rest }) target) : Steps p.tables e below (T.setTop g) target :=
  XS.lrem X.here hx hg hd hs hy (by rw [lrem_mod]; exact hr)
end New
/-- one step of a walk whose end is still to be found -/
theorem own_by {tb : Tables} {e : Env} {below : List Frame} {A A' : State} {P : State → Outcome → Prop} (k : ∀ t, Steps tb e below A' t → Steps tb e below A t) (h : ∃ s₂ o, Steps tb e below A' s₂ ∧ P s₂ o) : ∃ s₂ o, Steps tb e below A s₂ ∧ P s₂ o := by
  obtain ⟨s₂, o, h1, h2⟩ := h; exact ⟨s₂, o, k _ h1, h2⟩
theorem own_st {tb : Tables} {e : Env} {below : List Frame} {A A' t : State} (k : ∀ t, Steps tb e below A' t → Steps tb e below A t) (h : Steps tb e below A' t) : Steps tb e below A t := k _ h
/-- all roads that meet again -/
theorem own_cut {tb : Tables} {e : Env} {below : List Frame} {A : State} {P : State → Outcome → Prop} {Φ : State → Prop} (h1 : (∀ A', Φ A' → ∃ s₂ o, Steps tb e below A' s₂ ∧ P s₂ o) → ∃ s₂ o, Steps tb e below A s₂ ∧ P s₂ o) (h2 : ∀ A', Φ A' → ∃ s₂ o, Steps tb e below A' s₂ ∧ P s₂ o) : ∃ s₂ o, Steps tb e below A s₂ ∧ P s₂ o := h1 h2
/-- an array: its kind, its length, and what each place holds -/
def AF (Z : State) (h : Heap) (a : Addr) (ty : FieldType) (n : Int32) (f : Nat → Value) : Prop := ∃ c : Cell, Arr Z h a c ty ∧ c.slots.size = n.toNatClampNeg ∧ ¬ n < 0 ∧ ∀ i, i < c.slots.size → c.slots[i]? = some (f i)
section AFs
variable {Z : State} {h h' : Heap} {a b : Addr} {ty : FieldType} {n : Int32} {f f' : Nat → Value} {v : Value} {sl : Nat} {ws : List Addr}
theorem AF.lt (F : AF Z h a ty n f) : a < h.size := by obtain ⟨c, A, -⟩ := F; exact A.lt
theorem AF.ext (F : AF Z h a ty n f) (E : Ext h h') : AF Z h' a ty n f := by obtain ⟨c, A, r⟩ := F; exact ⟨c, A.ext E, r⟩
theorem AF.other (F : AF Z h b ty n f) (W : Wr h h' a sl v) (q : b ≠ a) : AF Z h' b ty n f := by obtain ⟨c, A, r⟩ := F; exact ⟨c, A.other W q, r⟩
theorem AF.keep (F : AF Z h a ty n f) (K : Keep h h' ws) (q : a ∉ ws) : AF Z h' a ty n f := by obtain ⟨c, A, r⟩ := F; exact ⟨c, ⟨K.2.1 a c A.1 q, A.2⟩, r⟩
theorem AF.to (F : AF Z h a ty n f) (q : ∀ i, i < n.toNatClampNeg → f i = f' i) : AF Z h a ty n f' := by
  obtain ⟨c, A, S, M, H⟩ := F; exact ⟨c, A, S, M, fun i hi => by rw [← q i (S ▸ hi)]; exact H i hi⟩
theorem AF.new {k : ClassId} (A : Arr Z h a (newA k ty n) ty) (q : ¬ n < 0) : AF Z h a ty n (fun _ => defaultValue ty) := ⟨_, A, sz_new _ _ _, q, fun i hi => by rw [sz_new] at hi; simp [newA, hi]⟩
theorem AF.set {c : Cell} {j : Int32} (A : Arr Z h a c ty) (S : c.slots.size = n.toNatClampNeg) (M : ¬ n < 0) (H : ∀ i, i < c.slots.size → c.slots[i]? = some (f i)) (hj : ¬ (j < 0 ∨ c.slots.size ≤ j.toNatClampNeg)) (W : Wr h h' a j.toNatClampNeg v) :
    AF Z h' a ty n (fun i => if i = j.toNatClampNeg then v else f i) := by
  refine ⟨_, A.same W, by rw [sz_set]; exact S, M, fun i hi => ?_⟩
  rw [sz_set] at hi
  have hj' : j.toNatClampNeg < c.slots.size := Nat.lt_of_not_le fun q => hj (Or.inr q)
  by_cases u : i = j.toNatClampNeg
  · subst u; simp [Cell.setSlot, hj']
  · have := H i hi; simp only [Cell.setSlot, if_neg u]
    rw [Array.getElem?_setIfInBounds_ne (Ne.symm u)]; exact this
end AFs
end Jvm.RoadKit
namespace Jvm.Pilot.@@N@@
open Jvm Jvm.ClassFile Sem Op Lib Jvm.Free Jvm.Stand Jvm.LawKit Jvm.RoadKit Bundle Jvm.Pilot.@@N@@.Jvm.D
theorem pn_0 : plainName "java/lang/Record" = true := by first | (simp [plainName, overriddenIn]; done) | decide +kernel
theorem d2_0 : decode jdk_30_method_1_code 0 = .ok (.aload_n 0, 1) := by decide +kernel
theorem d2_1 : decode jdk_30_method_1_code 1 = .ok (.invokespecial 1, 3) := by decide +kernel
theorem d2_4 : decode jdk_30_method_1_code 4 = .ok (.return_, 1) := by decide +kernel
theorem ef_rm2 (m : MethodId) (a0 : Addr) : entryFrame m #[(.ref a0)] 1 = mkF m 0 #[.val (.ref a0)] [] := by first | (simp [entryFrame, mkF, argsToLocals, Value.category]; done) | rfl
def Q2 (Z : State) (a0 : Addr) (h0 : Heap) (n0 : Nat) (v : Option Value) (h : Heap) (L : List Loc) : Prop := v = none ∧ Fr n0 L ∧ h = h0
set_option maxRecDepth 65536 in
set_option maxHeartbeats 40000000 in
theorem rm2 (l : Launch) (Z : State) (aw : Array Value) (hw : ∀ d ∈ tables_1, d.before aw Z = true) (ws : List Jvm.Cond) (a0 : Addr) (h0 : Heap) (n0 : Nat) (Z0 : n0 ≤ h0.size) :
    MetFree l (⟨"java/lang/Record", "<init>", "()V"⟩ : MethodName) (head1 (Jvm.Cond.code (⟨"java/lang/Record", "<init>", "()V"⟩ : MethodName) jdk_30_method_1_code 1 none :: ws) ({ frames := 1, cells := 0, slots := 0, locals := 12 } : Room)) (fun a U => a = #[(.ref a0)] ∧ Z.Warmed39 U.vm ∧ U.heap = h0) (fun _ _ _ _ _ => True) (fun _ U o U' => ∃ v L, o = .returned v ∧ Q2 Z a0 h0 n0 v U'.heap L ∧ FrameEnd U o U' L ({ frames := 1, cells := 0, slots := 0, locals := 12 } : Room).cells ({ frames := 1, cells := 0, slots := 0, locals := 12 } : Room).slots) := by
  refine MetFree.of_bodySF (plainFor_of_name pn_0) hisR ?_
  intro p e s m args below meth c s₁ Bd hml0 hP hK
  obtain ⟨rfl, hZ, hh⟩ := hP
  have hx := Bd.exec
  have hby := Bd.bytes
  have hml : c.maxLocals = 1 := hml0
  have hown : s.vm.findClass "java/lang/Record" = some m.cls := findClass_of_methodNamed Bd.named
  have hnm := (name_of_methodNamed Bd.named Bd.method).1
  have X0 : Stand p l e ({ frames := 1, cells := 0, slots := 0, locals := 12 } : Room) s m #[(.ref a0)] below meth c s₁ [] 0 0 := Stand.of_body Bd
  have e0 : s₁.heap = h0 := by rw [← hh, Bd.state]; rfl
  have N0 := Fr.nil n0
  have K0 : Keep h0 h0 [] := Keep.refl _ _
  refine own_by (A' := s₁.setTop (mkF m 0 #[.val (.ref a0)] [])) (fun t k => castTop (ef_rm2 m a0) k) ?_
  refine own_by (A' := s₁.setTop (mkF m 1 #[.val (.ref a0)] [(.ref a0)])) (fun t kt => ?_) ?_
  · show Steps p.tables e below (s₁.setTop (mkF m 0 #[.val (.ref a0)] [])) t
    refine XS.aloadN X0.here hx rfl (hb hby d2_0) rfl rfl ?_
    exact kt
  obtain ⟨T1, X1, e1, st1⟩ := initO X0 hx hZ hown (hw _ (List.mem_of_getElem? (i := 13) rfl)) (hw _ (List.mem_of_getElem? (i := 14) rfl)) (hw _ (List.mem_of_getElem? (i := 15) rfl)) e0 (g := (mkF m 1 #[.val (.ref a0)] [(.ref a0)])) rfl (by rw [hml]; rfl) rfl (hb hby d2_1) (by decide) (W := 0) (by show 2 * 0 + _ ≤ _; exact Nat.le_of_eq rfl) (by decide)
  refine own_by (A' := T1.setTop (mkF m 4 #[.val (.ref a0)] [])) (fun t kt => st1 t kt) ?_
  obtain ⟨fs, hr, hrun, hended, hW, hsame⟩ := X1.leave (v := none) (fun _ => rfl)
  refine ⟨_, _, ?_, hrun, hended, _, _, rfl, ?_, ⟨_, rfl⟩, hW, hsame.mono (by decide) (by decide)⟩
  · exact X1.returnOut hx Bd.returns (hb hby d2_4) hr
  · show Q2 Z a0 h0 n0 _ T1.heap _
    rw [e1]
    exact ⟨rfl, N0, rfl⟩
theorem pn_1 : plainName "com/example/fairshed/fairshed/deployment/Deployment$Burst" = true := by first | (simp [plainName, overriddenIn]; done) | decide +kernel
theorem pd_2 : parseMethodDescriptor "()V" = some ⟨[], none⟩ := by decide +kernel
theorem d1_0 : decode prog_5_method_1_code 0 = .ok (.aload_n 0, 1) := by decide +kernel
theorem d1_1 : decode prog_5_method_1_code 1 = .ok (.invokespecial 1, 3) := by decide +kernel
theorem d1_4 : decode prog_5_method_1_code 4 = .ok (.aload_n 0, 1) := by decide +kernel
theorem d1_5 : decode prog_5_method_1_code 5 = .ok (.iload_n 1, 1) := by decide +kernel
theorem d1_6 : decode prog_5_method_1_code 6 = .ok (.putfield 7, 3) := by decide +kernel
theorem d1_9 : decode prog_5_method_1_code 9 = .ok (.aload_n 0, 1) := by decide +kernel
theorem d1_10 : decode prog_5_method_1_code 10 = .ok (.lload_n 2, 1) := by decide +kernel
theorem d1_11 : decode prog_5_method_1_code 11 = .ok (.putfield 13, 3) := by decide +kernel
theorem d1_14 : decode prog_5_method_1_code 14 = .ok (.aload_n 0, 1) := by decide +kernel
theorem d1_15 : decode prog_5_method_1_code 15 = .ok (.lload 4, 2) := by decide +kernel
theorem d1_17 : decode prog_5_method_1_code 17 = .ok (.putfield 17, 3) := by decide +kernel
theorem d1_20 : decode prog_5_method_1_code 20 = .ok (.aload_n 0, 1) := by decide +kernel
theorem d1_21 : decode prog_5_method_1_code 21 = .ok (.lload 6, 2) := by decide +kernel
theorem d1_23 : decode prog_5_method_1_code 23 = .ok (.putfield 20, 3) := by decide +kernel
theorem d1_26 : decode prog_5_method_1_code 26 = .ok (.return_, 1) := by decide +kernel
theorem ef_rm1 (m : MethodId) (a0 : Addr) (p1 : Int32) (q2 : Int64) (q3 : Int64) (q4 : Int64) : entryFrame m #[(.ref a0), (.int p1), (.long q2), (.long q3), (.long q4)] 8 = mkF m 0 #[.val (.ref a0), .val (.int p1), .val (.long q2), .second, .val (.long q3), .second, .val (.long q4), .second] [] := by first | (simp [entryFrame, mkF, argsToLocals, Value.category]; done) | rfl
def Q1 (Z : State) (a0 : Addr) (p1 : Int32) (q2 : Int64) (q3 : Int64) (q4 : Int64) (u_a0_factor : Int32) (u_a0_everyMs : Int64) (u_a0_forMs : Int64) (u_a0_offsetMs : Int64) (h0 : Heap) (n0 : Nat) (v : Option Value) (h : Heap) (L : List Loc) : Prop := v = none ∧ Fr n0 L ∧ Keep h0 h [a0] ∧ Exa Z h a0 "com/example/fairshed/fairshed/deployment/Deployment$Burst" ∧ Fld Z h a0 "com/example/fairshed/fairshed/deployment/Deployment$Burst" "factor" "I" (.int p1) ∧ Fld Z h a0 "com/example/fairshed/fairshed/deployment/Deployment$Burst" "everyMs" "J" (.long q2) ∧ Fld Z h a0 "com/example/fairshed/fairshed/deployment/Deployment$Burst" "forMs" "J" (.long q3) ∧ Fld Z h a0 "com/example/fairshed/fairshed/deployment/Deployment$Burst" "offsetMs" "J" (.long q4)
set_option maxRecDepth 65536 in
set_option maxHeartbeats 40000000 in
theorem rm1 (l : Launch) (Z : State) (aw : Array Value) (hw : ∀ d ∈ tables_1, d.before aw Z = true) (ws : List Jvm.Cond) (a0 : Addr) (p1 : Int32) (q2 : Int64) (q3 : Int64) (q4 : Int64) (u_a0_factor : Int32) (u_a0_everyMs : Int64) (u_a0_forMs : Int64) (u_a0_offsetMs : Int64) (h0 : Heap) (n0 : Nat) (Z0 : n0 ≤ h0.size) (E_a0 : Exa Z h0 a0 "com/example/fairshed/fairshed/deployment/Deployment$Burst") (F_a0_factor : Fld Z h0 a0 "com/example/fairshed/fairshed/deployment/Deployment$Burst" "factor" "I" (.int u_a0_factor)) (F_a0_everyMs : Fld Z h0 a0 "com/example/fairshed/fairshed/deployment/Deployment$Burst" "everyMs" "J" (.long u_a0_everyMs)) (F_a0_forMs : Fld Z h0 a0 "com/example/fairshed/fairshed/deployment/Deployment$Burst" "forMs" "J" (.long u_a0_forMs)) (F_a0_offsetMs : Fld Z h0 a0 "com/example/fairshed/fairshed/deployment/Deployment$Burst" "offsetMs" "J" (.long u_a0_offsetMs)) (g_a0 : n0 ≤ a0) :
    MetFree l (⟨"com/example/fairshed/fairshed/deployment/Deployment$Burst", "<init>", "(IJJJ)V"⟩ : MethodName) (head1 (Jvm.Cond.code (⟨"com/example/fairshed/fairshed/deployment/Deployment$Burst", "<init>", "(IJJJ)V"⟩ : MethodName) prog_5_method_1_code 8 none :: ws) ({ frames := 2, cells := 0, slots := 0, locals := 24 } : Room)) (fun a U => a = #[(.ref a0), (.int p1), (.long q2), (.long q3), (.long q4)] ∧ Z.Warmed39 U.vm ∧ U.heap = h0) (fun _ _ _ _ _ => True) (fun _ U o U' => ∃ v L, o = .returned v ∧ Q1 Z a0 p1 q2 q3 q4 u_a0_factor u_a0_everyMs u_a0_forMs u_a0_offsetMs h0 n0 v U'.heap L ∧ FrameEnd U o U' L ({ frames := 2, cells := 0, slots := 0, locals := 24 } : Room).cells ({ frames := 2, cells := 0, slots := 0, locals := 24 } : Room).slots) := by
  refine MetFree.of_bodySF (plainFor_of_name pn_1) hisR ?_
  intro p e s m args below meth c s₁ Bd hml0 hP hK
  obtain ⟨rfl, hZ, hh⟩ := hP
  have hx := Bd.exec
  have hby := Bd.bytes
  have hml : c.maxLocals = 8 := hml0
  have hown : s.vm.findClass "com/example/fairshed/fairshed/deployment/Deployment$Burst" = some m.cls := findClass_of_methodNamed Bd.named
  have hnm := (name_of_methodNamed Bd.named Bd.method).1
  have X0 : Stand p l e ({ frames := 2, cells := 0, slots := 0, locals := 24 } : Room) s m #[(.ref a0), (.int p1), (.long q2), (.long q3), (.long q4)] below meth c s₁ [] 0 0 := Stand.of_body Bd
  have e0 : s₁.heap = h0 := by rw [← hh, Bd.state]; rfl
  have N0 := Fr.nil n0
  have K0 : Keep h0 h0 [a0] := Keep.refl _ _
  refine own_by (A' := s₁.setTop (mkF m 0 #[.val (.ref a0), .val (.int p1), .val (.long q2), .second, .val (.long q3), .second, .val (.long q4), .second] [])) (fun t k => castTop (ef_rm1 m a0 p1 q2 q3 q4) k) ?_
  refine own_by (A' := s₁.setTop (mkF m 1 #[.val (.ref a0), .val (.int p1), .val (.long q2), .second, .val (.long q3), .second, .val (.long q4), .second] [(.ref a0)])) (fun t kt => ?_) ?_
  · show Steps p.tables e below (s₁.setTop (mkF m 0 #[.val (.ref a0), .val (.int p1), .val (.long q2), .second, .val (.long q3), .second, .val (.long q4), .second] [])) t
    refine XS.aloadN X0.here hx rfl (hb hby d1_0) rfl rfl ?_
    exact kt
  obtain ⟨_, _, ⟨T1, L1, k1, n1⟩, -, X1, ⟨Lc1, hQ1, l1, y1, z1⟩, st1⟩ := X0.specialBack hx (y := (⟨"java/lang/Record", "<init>", "()V"⟩ : MethodName)) rfl hown (mvT hZ (hw _ (List.mem_of_getElem? (i := 8) rfl))) (mvT hZ (hw _ (List.mem_of_getElem? (i := 9) rfl))) (mvT hZ (hw _ (List.mem_of_getElem? (i := 12) rfl))) (by decide) (backOf (W := 0) (rm2 l Z aw hw [] a0 h0 n0 (Nat.le_trans Z0 K0.1) ) hZ (hw _ (List.mem_of_getElem? (i := 12) rfl)) (hw _ (List.mem_of_getElem? (i := 11) rfl)) (by decide) (by decide)) (g := (mkF m 1 #[.val (.ref a0), .val (.int p1), .val (.long q2), .second, .val (.long q3), .second, .val (.long q4), .second] [(.ref a0)])) rfl (by rw [hml]; rfl) (Steps.refl _) (a := a0) (argsL := []) (rest := []) (lenOf pd_2 rfl) rfl (by show 2 * 0 + _ ≤ _; exact Nat.le_of_eq rfl) (hb hby d1_1) (fun _ _ => ⟨rfl, e0, (by decide : 0 + 0 ≤ _), (by decide : 0 + 0 ≤ _)⟩)
  dsimp only [Pt.U, Pt.locs, Pt.cells, Pt.slots] at X1 l1 y1 z1 st1 hQ1
  subst l1 y1 z1
  obtain ⟨rfl, N1q, e1⟩ := hQ1
  have N1 := Fr.app N0 N1q
  refine own_by (A' := T1.setTop (mkF m 4 #[.val (.ref a0), .val (.int p1), .val (.long q2), .second, .val (.long q3), .second, .val (.long q4), .second] [])) (fun t kt => st1.trans kt) ?_
  refine own_by (A' := T1.setTop (mkF m 6 #[.val (.ref a0), .val (.int p1), .val (.long q2), .second, .val (.long q3), .second, .val (.long q4), .second] [(.int p1), (.ref a0)])) (fun t kt => ?_) ?_
  · show Steps p.tables e below (T1.setTop (mkF m 4 #[.val (.ref a0), .val (.int p1), .val (.long q2), .second, .val (.long q3), .second, .val (.long q4), .second] [])) t
    refine XS.aloadN X1.here hx rfl (hb hby d1_4) rfl rfl ?_
    show Steps p.tables e below (T1.setTop (mkF m 5 #[.val (.ref a0), .val (.int p1), .val (.long q2), .second, .val (.long q3), .second, .val (.long q4), .second] [(.ref a0)])) t
    refine XS.iloadN X1.here hx rfl (hb hby d1_5) rfl ?_
    exact kt
  obtain ⟨T2, h2, X2, e2, W2, st2⟩ := putF X1 hx hZ hown (host := "") (Or.inl (hw _ (List.mem_of_getElem? (i := 16) rfl))) Via.refl e1 F_a0_factor E_a0 (Or.inr ⟨(hw _ (List.mem_of_getElem? (i := 17) rfl)), rfl, hnm⟩) (hw _ (List.mem_of_getElem? (i := 3) rfl)) (ty := .int) (by decide) rfl rfl (g := (mkF m 6 #[.val (.ref a0), .val (.int p1), .val (.long q2), .second, .val (.long q3), .second, .val (.long q4), .second] [(.int p1), (.ref a0)])) rfl rfl (hb hby d1_6)
  have F2 := Fld.same W2 F_a0_factor
  have N2 := Fr.snoc X2 N1 g_a0
  have K2 : Keep h0 h2 [a0] := K0.wr W2 (Or.inl (List.mem_of_getElem? (i := 0) rfl))
  refine own_by (A' := T2.setTop (mkF m 9 #[.val (.ref a0), .val (.int p1), .val (.long q2), .second, .val (.long q3), .second, .val (.long q4), .second] [])) (fun t kt => st2 t kt) ?_
  refine own_by (A' := T2.setTop (mkF m 11 #[.val (.ref a0), .val (.int p1), .val (.long q2), .second, .val (.long q3), .second, .val (.long q4), .second] [(.long q2), (.ref a0)])) (fun t kt => ?_) ?_
  · show Steps p.tables e below (T2.setTop (mkF m 9 #[.val (.ref a0), .val (.int p1), .val (.long q2), .second, .val (.long q3), .second, .val (.long q4), .second] [])) t
    refine XS.aloadN X2.here hx rfl (hb hby d1_9) rfl rfl ?_
    show Steps p.tables e below (T2.setTop (mkF m 10 #[.val (.ref a0), .val (.int p1), .val (.long q2), .second, .val (.long q3), .second, .val (.long q4), .second] [(.ref a0)])) t
    refine XS.lloadN X2.here hx rfl (hb hby d1_10) rfl ?_
    exact kt
  obtain ⟨T3, h3, X3, e3, W3, st3⟩ := putF X2 hx hZ hown (host := "") (Or.inl (hw _ (List.mem_of_getElem? (i := 18) rfl))) Via.refl e2 (F_a0_everyMs.other W2 (Or.inr (slot_ne (Or.inr (hw _ (List.mem_of_getElem? (i := 19) rfl))) (Or.inr (hw _ (List.mem_of_getElem? (i := 17) rfl))) (by decide) (t := .long) (t' := .int) (by decide) (by decide)))) (E_a0.wr W2) (Or.inr ⟨(hw _ (List.mem_of_getElem? (i := 19) rfl)), rfl, hnm⟩) (hw _ (List.mem_of_getElem? (i := 3) rfl)) (ty := .long) (by decide) rfl rfl (g := (mkF m 11 #[.val (.ref a0), .val (.int p1), .val (.long q2), .second, .val (.long q3), .second, .val (.long q4), .second] [(.long q2), (.ref a0)])) rfl rfl (hb hby d1_11)
  have F3 := Fld.same W3 (F_a0_everyMs.other W2 (Or.inr (slot_ne (Or.inr (hw _ (List.mem_of_getElem? (i := 19) rfl))) (Or.inr (hw _ (List.mem_of_getElem? (i := 17) rfl))) (by decide) (t := .long) (t' := .int) (by decide) (by decide))))
  have N3 := Fr.snoc X3 N2 g_a0
  have K3 : Keep h0 h3 [a0] := K2.wr W3 (Or.inl (List.mem_of_getElem? (i := 0) rfl))
  refine own_by (A' := T3.setTop (mkF m 14 #[.val (.ref a0), .val (.int p1), .val (.long q2), .second, .val (.long q3), .second, .val (.long q4), .second] [])) (fun t kt => st3 t kt) ?_
  refine own_by (A' := T3.setTop (mkF m 17 #[.val (.ref a0), .val (.int p1), .val (.long q2), .second, .val (.long q3), .second, .val (.long q4), .second] [(.long q3), (.ref a0)])) (fun t kt => ?_) ?_
  · show Steps p.tables e below (T3.setTop (mkF m 14 #[.val (.ref a0), .val (.int p1), .val (.long q2), .second, .val (.long q3), .second, .val (.long q4), .second] [])) t
    refine XS.aloadN X3.here hx rfl (hb hby d1_14) rfl rfl ?_
    show Steps p.tables e below (T3.setTop (mkF m 15 #[.val (.ref a0), .val (.int p1), .val (.long q2), .second, .val (.long q3), .second, .val (.long q4), .second] [(.ref a0)])) t
    refine XS.lload X3.here hx rfl (hb hby d1_15) rfl ?_
    exact kt
  obtain ⟨T4, h4, X4, e4, W4, st4⟩ := putF X3 hx hZ hown (host := "") (Or.inl (hw _ (List.mem_of_getElem? (i := 20) rfl))) Via.refl e3 ((F_a0_forMs.other W2 (Or.inr (slot_ne (Or.inr (hw _ (List.mem_of_getElem? (i := 21) rfl))) (Or.inr (hw _ (List.mem_of_getElem? (i := 17) rfl))) (by decide) (t := .long) (t' := .int) (by decide) (by decide)))).other W3 (Or.inr (slot_ne (Or.inr (hw _ (List.mem_of_getElem? (i := 21) rfl))) (Or.inr (hw _ (List.mem_of_getElem? (i := 19) rfl))) (by decide) (t := .long) (t' := .long) (by decide) (by decide)))) ((E_a0.wr W2).wr W3) (Or.inr ⟨(hw _ (List.mem_of_getElem? (i := 21) rfl)), rfl, hnm⟩) (hw _ (List.mem_of_getElem? (i := 3) rfl)) (ty := .long) (by decide) rfl rfl (g := (mkF m 17 #[.val (.ref a0), .val (.int p1), .val (.long q2), .second, .val (.long q3), .second, .val (.long q4), .second] [(.long q3), (.ref a0)])) rfl rfl (hb hby d1_17)
  have F4 := Fld.same W4 ((F_a0_forMs.other W2 (Or.inr (slot_ne (Or.inr (hw _ (List.mem_of_getElem? (i := 21) rfl))) (Or.inr (hw _ (List.mem_of_getElem? (i := 17) rfl))) (by decide) (t := .long) (t' := .int) (by decide) (by decide)))).other W3 (Or.inr (slot_ne (Or.inr (hw _ (List.mem_of_getElem? (i := 21) rfl))) (Or.inr (hw _ (List.mem_of_getElem? (i := 19) rfl))) (by decide) (t := .long) (t' := .long) (by decide) (by decide))))
  have N4 := Fr.snoc X4 N3 g_a0
  have K4 : Keep h0 h4 [a0] := K3.wr W4 (Or.inl (List.mem_of_getElem? (i := 0) rfl))
  refine own_by (A' := T4.setTop (mkF m 20 #[.val (.ref a0), .val (.int p1), .val (.long q2), .second, .val (.long q3), .second, .val (.long q4), .second] [])) (fun t kt => st4 t kt) ?_
  refine own_by (A' := T4.setTop (mkF m 23 #[.val (.ref a0), .val (.int p1), .val (.long q2), .second, .val (.long q3), .second, .val (.long q4), .second] [(.long q4), (.ref a0)])) (fun t kt => ?_) ?_
  · show Steps p.tables e below (T4.setTop (mkF m 20 #[.val (.ref a0), .val (.int p1), .val (.long q2), .second, .val (.long q3), .second, .val (.long q4), .second] [])) t
    refine XS.aloadN X4.here hx rfl (hb hby d1_20) rfl rfl ?_
    show Steps p.tables e below (T4.setTop (mkF m 21 #[.val (.ref a0), .val (.int p1), .val (.long q2), .second, .val (.long q3), .second, .val (.long q4), .second] [(.ref a0)])) t
    refine XS.lload X4.here hx rfl (hb hby d1_21) rfl ?_
    exact kt
  obtain ⟨T5, h5, X5, e5, W5, st5⟩ := putF X4 hx hZ hown (host := "") (Or.inl (hw _ (List.mem_of_getElem? (i := 22) rfl))) Via.refl e4 (((F_a0_offsetMs.other W2 (Or.inr (slot_ne (Or.inr (hw _ (List.mem_of_getElem? (i := 23) rfl))) (Or.inr (hw _ (List.mem_of_getElem? (i := 17) rfl))) (by decide) (t := .long) (t' := .int) (by decide) (by decide)))).other W3 (Or.inr (slot_ne (Or.inr (hw _ (List.mem_of_getElem? (i := 23) rfl))) (Or.inr (hw _ (List.mem_of_getElem? (i := 19) rfl))) (by decide) (t := .long) (t' := .long) (by decide) (by decide)))).other W4 (Or.inr (slot_ne (Or.inr (hw _ (List.mem_of_getElem? (i := 23) rfl))) (Or.inr (hw _ (List.mem_of_getElem? (i := 21) rfl))) (by decide) (t := .long) (t' := .long) (by decide) (by decide)))) (((E_a0.wr W2).wr W3).wr W4) (Or.inr ⟨(hw _ (List.mem_of_getElem? (i := 23) rfl)), rfl, hnm⟩) (hw _ (List.mem_of_getElem? (i := 3) rfl)) (ty := .long) (by decide) rfl rfl (g := (mkF m 23 #[.val (.ref a0), .val (.int p1), .val (.long q2), .second, .val (.long q3), .second, .val (.long q4), .second] [(.long q4), (.ref a0)])) rfl rfl (hb hby d1_23)
  have F5 := Fld.same W5 (((F_a0_offsetMs.other W2 (Or.inr (slot_ne (Or.inr (hw _ (List.mem_of_getElem? (i := 23) rfl))) (Or.inr (hw _ (List.mem_of_getElem? (i := 17) rfl))) (by decide) (t := .long) (t' := .int) (by decide) (by decide)))).other W3 (Or.inr (slot_ne (Or.inr (hw _ (List.mem_of_getElem? (i := 23) rfl))) (Or.inr (hw _ (List.mem_of_getElem? (i := 19) rfl))) (by decide) (t := .long) (t' := .long) (by decide) (by decide)))).other W4 (Or.inr (slot_ne (Or.inr (hw _ (List.mem_of_getElem? (i := 23) rfl))) (Or.inr (hw _ (List.mem_of_getElem? (i := 21) rfl))) (by decide) (t := .long) (t' := .long) (by decide) (by decide))))
  have N5 := Fr.snoc X5 N4 g_a0
  have K5 : Keep h0 h5 [a0] := K4.wr W5 (Or.inl (List.mem_of_getElem? (i := 0) rfl))
  refine own_by (A' := T5.setTop (mkF m 26 #[.val (.ref a0), .val (.int p1), .val (.long q2), .second, .val (.long q3), .second, .val (.long q4), .second] [])) (fun t kt => st5 t kt) ?_
  obtain ⟨fs, hr, hrun, hended, hW, hsame⟩ := X5.leave (v := none) (fun _ => rfl)
  refine ⟨_, _, ?_, hrun, hended, _, _, rfl, ?_, ⟨_, rfl⟩, hW, hsame.mono (by decide) (by decide)⟩
  · exact X5.returnOut hx Bd.returns (hb hby d1_26) hr
  · show Q1 Z a0 p1 q2 q3 q4 u_a0_factor u_a0_everyMs u_a0_forMs u_a0_offsetMs h0 n0 _ T5.heap _
    rw [e5]
    exact ⟨rfl, N5, K5, ((((E_a0.wr W2).wr W3).wr W4).wr W5), (((F2.other W3 (Or.inr (slot_ne (Or.inr (hw _ (List.mem_of_getElem? (i := 17) rfl))) (Or.inr (hw _ (List.mem_of_getElem? (i := 19) rfl))) (by decide) (t := .int) (t' := .long) (by decide) (by decide)))).other W4 (Or.inr (slot_ne (Or.inr (hw _ (List.mem_of_getElem? (i := 17) rfl))) (Or.inr (hw _ (List.mem_of_getElem? (i := 21) rfl))) (by decide) (t := .int) (t' := .long) (by decide) (by decide)))).other W5 (Or.inr (slot_ne (Or.inr (hw _ (List.mem_of_getElem? (i := 17) rfl))) (Or.inr (hw _ (List.mem_of_getElem? (i := 23) rfl))) (by decide) (t := .int) (t' := .long) (by decide) (by decide)))), ((F3.other W4 (Or.inr (slot_ne (Or.inr (hw _ (List.mem_of_getElem? (i := 19) rfl))) (Or.inr (hw _ (List.mem_of_getElem? (i := 21) rfl))) (by decide) (t := .long) (t' := .long) (by decide) (by decide)))).other W5 (Or.inr (slot_ne (Or.inr (hw _ (List.mem_of_getElem? (i := 19) rfl))) (Or.inr (hw _ (List.mem_of_getElem? (i := 23) rfl))) (by decide) (t := .long) (t' := .long) (by decide) (by decide)))), (F4.other W5 (Or.inr (slot_ne (Or.inr (hw _ (List.mem_of_getElem? (i := 21) rfl))) (Or.inr (hw _ (List.mem_of_getElem? (i := 23) rfl))) (by decide) (t := .long) (t' := .long) (by decide) (by decide)))), F5⟩
def own_f4 (q1 : Int64) (u_a0_everyMs : Int64) (u_a0_forMs : Int64) (u_a0_offsetMs : Int64) : Int32 := (if (q1 - (u_a0_offsetMs * (1000 : Int64))) < (0 : Int64) then (0 : Int32) else (if ((q1 - (u_a0_offsetMs * (1000 : Int64))) % (u_a0_everyMs * (1000 : Int64))) < (u_a0_forMs * (1000 : Int64)) then (1 : Int32) else (0 : Int32)))
theorem d4_0 : decode prog_5_method_2_code 0 = .ok (.lload_n 1, 1) := by decide +kernel
theorem d4_1 : decode prog_5_method_2_code 1 = .ok (.aload_n 0, 1) := by decide +kernel
theorem d4_2 : decode prog_5_method_2_code 2 = .ok (.getfield 20, 3) := by decide +kernel
theorem d4_5 : decode prog_5_method_2_code 5 = .ok (.ldc2_w 23, 3) := by decide +kernel
theorem d4_8 : decode prog_5_method_2_code 8 = .ok (.lmul, 1) := by decide +kernel
theorem d4_9 : decode prog_5_method_2_code 9 = .ok (.lsub, 1) := by decide +kernel
theorem d4_10 : decode prog_5_method_2_code 10 = .ok (.lstore_n 3, 1) := by decide +kernel
theorem d4_11 : decode prog_5_method_2_code 11 = .ok (.lload_n 3, 1) := by decide +kernel
theorem d4_12 : decode prog_5_method_2_code 12 = .ok (.lconst 0, 1) := by decide +kernel
theorem d4_13 : decode prog_5_method_2_code 13 = .ok (.lcmp, 1) := by decide +kernel
theorem d4_14 : decode prog_5_method_2_code 14 = .ok (.ifCond .lt 29, 3) := by decide +kernel
theorem d4_17 : decode prog_5_method_2_code 17 = .ok (.lload_n 3, 1) := by decide +kernel
theorem d4_18 : decode prog_5_method_2_code 18 = .ok (.aload_n 0, 1) := by decide +kernel
theorem d4_19 : decode prog_5_method_2_code 19 = .ok (.getfield 13, 3) := by decide +kernel
theorem d4_22 : decode prog_5_method_2_code 22 = .ok (.ldc2_w 23, 3) := by decide +kernel
theorem d4_25 : decode prog_5_method_2_code 25 = .ok (.lmul, 1) := by decide +kernel
theorem d4_26 : decode prog_5_method_2_code 26 = .ok (.lrem, 1) := by decide +kernel
theorem d4_27 : decode prog_5_method_2_code 27 = .ok (.aload_n 0, 1) := by decide +kernel
theorem d4_28 : decode prog_5_method_2_code 28 = .ok (.getfield 17, 3) := by decide +kernel
theorem d4_31 : decode prog_5_method_2_code 31 = .ok (.ldc2_w 23, 3) := by decide +kernel
theorem d4_34 : decode prog_5_method_2_code 34 = .ok (.lmul, 1) := by decide +kernel
theorem d4_35 : decode prog_5_method_2_code 35 = .ok (.lcmp, 1) := by decide +kernel
theorem d4_36 : decode prog_5_method_2_code 36 = .ok (.ifCond .ge 7, 3) := by decide +kernel
theorem d4_39 : decode prog_5_method_2_code 39 = .ok (.iconst 1, 1) := by decide +kernel
theorem d4_40 : decode prog_5_method_2_code 40 = .ok (.goto 4, 3) := by decide +kernel
theorem d4_43 : decode prog_5_method_2_code 43 = .ok (.iconst 0, 1) := by decide +kernel
theorem d4_44 : decode prog_5_method_2_code 44 = .ok (.ireturn, 1) := by decide +kernel
theorem ef_rm4 (m : MethodId) (a0 : Addr) (q1 : Int64) : entryFrame m #[(.ref a0), (.long q1)] 5 = mkF m 0 #[.val (.ref a0), .val (.long q1), .second, .unset, .unset] [] := by first | (simp [entryFrame, mkF, argsToLocals, Value.category]; done) | rfl
def Q4 (Z : State) (a0 : Addr) (q1 : Int64) (u_a0_everyMs : Int64) (u_a0_forMs : Int64) (u_a0_offsetMs : Int64) (h0 : Heap) (n0 : Nat) (v : Option Value) (h : Heap) (L : List Loc) : Prop := v = some (.int (own_f4 q1 u_a0_everyMs u_a0_forMs u_a0_offsetMs)) ∧ Fr n0 L ∧ h = h0
set_option maxRecDepth 65536 in
set_option maxHeartbeats 40000000 in
theorem rm4 (l : Launch) (Z : State) (aw : Array Value) (hw : ∀ d ∈ tables_1, d.before aw Z = true) (ws : List Jvm.Cond) (a0 : Addr) (q1 : Int64) (u_a0_everyMs : Int64) (u_a0_forMs : Int64) (u_a0_offsetMs : Int64) (h0 : Heap) (n0 : Nat) (Z0 : n0 ≤ h0.size) (F_a0_everyMs : Fld Z h0 a0 "com/example/fairshed/fairshed/deployment/Deployment$Burst" "everyMs" "J" (.long u_a0_everyMs)) (F_a0_forMs : Fld Z h0 a0 "com/example/fairshed/fairshed/deployment/Deployment$Burst" "forMs" "J" (.long u_a0_forMs)) (F_a0_offsetMs : Fld Z h0 a0 "com/example/fairshed/fairshed/deployment/Deployment$Burst" "offsetMs" "J" (.long u_a0_offsetMs)) (hz : (u_a0_everyMs * (1000 : Int64)) ≠ 0) :
    MetFree l (⟨"com/example/fairshed/fairshed/deployment/Deployment$Burst", "holds", "(J)Z"⟩ : MethodName) (head1 (Jvm.Cond.code (⟨"com/example/fairshed/fairshed/deployment/Deployment$Burst", "holds", "(J)Z"⟩ : MethodName) prog_5_method_2_code 5 (some .boolean) :: ws) ({ frames := 0, cells := 0, slots := 0, locals := 0 } : Room)) (fun a U => a = #[(.ref a0), (.long q1)] ∧ Z.Warmed39 U.vm ∧ U.heap = h0) (fun _ _ _ _ _ => True) (fun _ U o U' => ∃ v L, o = .returned v ∧ Q4 Z a0 q1 u_a0_everyMs u_a0_forMs u_a0_offsetMs h0 n0 v U'.heap L ∧ FrameEnd U o U' L ({ frames := 0, cells := 0, slots := 0, locals := 0 } : Room).cells ({ frames := 0, cells := 0, slots := 0, locals := 0 } : Room).slots) := by
  refine MetFree.of_bodySF (plainFor_of_name pn_1) hisR ?_
  intro p e s m args below meth c s₁ Bd hml0 hP hK
  obtain ⟨rfl, hZ, hh⟩ := hP
  have hx := Bd.exec
  have hby := Bd.bytes
  have hml : c.maxLocals = 5 := hml0
  have hown : s.vm.findClass "com/example/fairshed/fairshed/deployment/Deployment$Burst" = some m.cls := findClass_of_methodNamed Bd.named
  have hnm := (name_of_methodNamed Bd.named Bd.method).1
  have X0 : Stand p l e ({ frames := 0, cells := 0, slots := 0, locals := 0 } : Room) s m #[(.ref a0), (.long q1)] below meth c s₁ [] 0 0 := Stand.of_body Bd
  have e0 : s₁.heap = h0 := by rw [← hh, Bd.state]; rfl
  have N0 := Fr.nil n0
  have K0 : Keep h0 h0 [] := Keep.refl _ _
  refine own_by (A' := s₁.setTop (mkF m 0 #[.val (.ref a0), .val (.long q1), .second, .unset, .unset] [])) (fun t k => castTop (ef_rm4 m a0 q1) k) ?_
  refine own_by (A' := s₁.setTop (mkF m 2 #[.val (.ref a0), .val (.long q1), .second, .unset, .unset] [(.ref a0), (.long q1)])) (fun t kt => ?_) ?_
  · show Steps p.tables e below (s₁.setTop (mkF m 0 #[.val (.ref a0), .val (.long q1), .second, .unset, .unset] [])) t
    refine XS.lloadN X0.here hx rfl (hb hby d4_0) rfl ?_
    show Steps p.tables e below (s₁.setTop (mkF m 1 #[.val (.ref a0), .val (.long q1), .second, .unset, .unset] [(.long q1)])) t
    refine XS.aloadN X0.here hx rfl (hb hby d4_1) rfl rfl ?_
    exact kt
  obtain ⟨T1, X1, e1, st1⟩ := getF X0 hx hZ hown (host := "") (Or.inl (hw _ (List.mem_of_getElem? (i := 22) rfl))) Via.refl e0 F_a0_offsetMs (g := (mkF m 2 #[.val (.ref a0), .val (.long q1), .second, .unset, .unset] [(.ref a0), (.long q1)])) rfl rfl (hb hby d4_2)
  refine own_by (A' := T1.setTop (mkF m 5 #[.val (.ref a0), .val (.long q1), .second, .unset, .unset] [(.long u_a0_offsetMs), (.long q1)])) (fun t kt => st1 t kt) ?_
  refine own_by (A' := T1.setTop (mkF m 14 #[.val (.ref a0), .val (.long q1), .second, .val (.long (q1 - (u_a0_offsetMs * (1000 : Int64)))), .second] [(.int (lcmpW (q1 - (u_a0_offsetMs * (1000 : Int64))) (0 : Int64)))])) (fun t kt => ?_) ?_
  · show Steps p.tables e below (T1.setTop (mkF m 5 #[.val (.ref a0), .val (.long q1), .second, .unset, .unset] [(.long u_a0_offsetMs), (.long q1)])) t
    refine X1.ldc2Long hx hown (mvT hZ (hw _ (List.mem_of_getElem? (i := 31) rfl))) (g := (mkF m 5 #[.val (.ref a0), .val (.long q1), .second, .unset, .unset] [(.long u_a0_offsetMs), (.long q1)])) rfl (hb hby d4_5) _ ?_
    show Steps p.tables e below (T1.setTop (mkF m 8 #[.val (.ref a0), .val (.long q1), .second, .unset, .unset] [(.long (1000 : Int64)), (.long u_a0_offsetMs), (.long q1)])) t
    refine XS.lmul X1.here hx rfl (hb hby d4_8) rfl ?_
    show Steps p.tables e below (T1.setTop (mkF m 9 #[.val (.ref a0), .val (.long q1), .second, .unset, .unset] [(.long (u_a0_offsetMs * (1000 : Int64))), (.long q1)])) t
    refine XS.lsub X1.here hx rfl (hb hby d4_9) rfl ?_
    show Steps p.tables e below (T1.setTop (mkF m 10 #[.val (.ref a0), .val (.long q1), .second, .unset, .unset] [(.long (q1 - (u_a0_offsetMs * (1000 : Int64))))])) t
    refine XS.lstoreN X1.here hx rfl (hb hby d4_10) rfl (l' := #[.val (.ref a0), .val (.long q1), .second, .val (.long (q1 - (u_a0_offsetMs * (1000 : Int64)))), .second]) rfl ?_
    show Steps p.tables e below (T1.setTop (mkF m 11 #[.val (.ref a0), .val (.long q1), .second, .val (.long (q1 - (u_a0_offsetMs * (1000 : Int64)))), .second] [])) t
    refine XS.lloadN X1.here hx rfl (hb hby d4_11) rfl ?_
    show Steps p.tables e below (T1.setTop (mkF m 12 #[.val (.ref a0), .val (.long q1), .second, .val (.long (q1 - (u_a0_offsetMs * (1000 : Int64)))), .second] [(.long (q1 - (u_a0_offsetMs * (1000 : Int64))))])) t
    refine XS.lconst X1.here hx rfl (hb hby d4_12) ?_
    show Steps p.tables e below (T1.setTop (mkF m 13 #[.val (.ref a0), .val (.long q1), .second, .val (.long (q1 - (u_a0_offsetMs * (1000 : Int64)))), .second] [(.long (0 : Int64)), (.long (q1 - (u_a0_offsetMs * (1000 : Int64))))])) t
    refine XS.lcmp X1.here hx rfl (hb hby d4_13) rfl ?_
    exact kt
  by_cases hc14_2 : (q1 - (u_a0_offsetMs * (1000 : Int64))) < (0 : Int64)
  · refine own_by (A' := T1.setTop (mkF m 44 #[.val (.ref a0), .val (.long q1), .second, .val (.long (q1 - (u_a0_offsetMs * (1000 : Int64)))), .second] [(.int (0 : Int32))])) (fun t kt => ?_) ?_
    · show Steps p.tables e below (T1.setTop (mkF m 14 #[.val (.ref a0), .val (.long q1), .second, .val (.long (q1 - (u_a0_offsetMs * (1000 : Int64)))), .second] [(.int (lcmpW (q1 - (u_a0_offsetMs * (1000 : Int64))) (0 : Int64)))])) t
      refine XS.ifYes X1.here hx rfl (pc0 := 14) (pc' := 43) rfl (hb hby d4_14) rfl ((if0 _ _).trans (tlt ((lw_lt _ _).mpr hc14_2)).1) (by decide) (by decide) ?_
      show Steps p.tables e below (T1.setTop (mkF m 43 #[.val (.ref a0), .val (.long q1), .second, .val (.long (q1 - (u_a0_offsetMs * (1000 : Int64)))), .second] [])) t
      refine XS.iconst X1.here hx rfl (hb hby d4_43) ?_
      exact kt
    obtain ⟨fs, hr, hrun, hended, hW, hsame⟩ := X1.leave (v := some (.int (0 : Int32))) (fun h => by rw [Bd.returns] at h; cases h)
    refine ⟨_, _, ?_, hrun, hended, _, _, rfl, ?_, ⟨_, rfl⟩, hW, hsame.mono (by decide) (by decide)⟩
    · exact retN X1 hx (t := .boolean) Bd.returns (by simp) (hb hby d4_44) hr
    · show Q4 Z a0 q1 u_a0_everyMs u_a0_forMs u_a0_offsetMs h0 n0 _ T1.heap _
      rw [e1]
      exact ⟨(by rw [own_f4, if_pos hc14_2]), N0, rfl⟩
  · refine own_by (A' := T1.setTop (mkF m 19 #[.val (.ref a0), .val (.long q1), .second, .val (.long (q1 - (u_a0_offsetMs * (1000 : Int64)))), .second] [(.ref a0), (.long (q1 - (u_a0_offsetMs * (1000 : Int64))))])) (fun t kt => ?_) ?_
    · show Steps p.tables e below (T1.setTop (mkF m 14 #[.val (.ref a0), .val (.long q1), .second, .val (.long (q1 - (u_a0_offsetMs * (1000 : Int64)))), .second] [(.int (lcmpW (q1 - (u_a0_offsetMs * (1000 : Int64))) (0 : Int64)))])) t
      refine XS.ifNo X1.here hx rfl (hb hby d4_14) rfl ((if0 _ _).trans (flt (fun q => hc14_2 ((lw_lt _ _).mp q))).1) ?_
      show Steps p.tables e below (T1.setTop (mkF m 17 #[.val (.ref a0), .val (.long q1), .second, .val (.long (q1 - (u_a0_offsetMs * (1000 : Int64)))), .second] [])) t
      refine XS.lloadN X1.here hx rfl (hb hby d4_17) rfl ?_
      show Steps p.tables e below (T1.setTop (mkF m 18 #[.val (.ref a0), .val (.long q1), .second, .val (.long (q1 - (u_a0_offsetMs * (1000 : Int64)))), .second] [(.long (q1 - (u_a0_offsetMs * (1000 : Int64))))])) t
      refine XS.aloadN X1.here hx rfl (hb hby d4_18) rfl rfl ?_
      exact kt
    obtain ⟨T3, X3, e3, st3⟩ := getF X1 hx hZ hown (host := "") (Or.inl (hw _ (List.mem_of_getElem? (i := 18) rfl))) Via.refl e1 F_a0_everyMs (g := (mkF m 19 #[.val (.ref a0), .val (.long q1), .second, .val (.long (q1 - (u_a0_offsetMs * (1000 : Int64)))), .second] [(.ref a0), (.long (q1 - (u_a0_offsetMs * (1000 : Int64))))])) rfl rfl (hb hby d4_19)
    refine own_by (A' := T3.setTop (mkF m 22 #[.val (.ref a0), .val (.long q1), .second, .val (.long (q1 - (u_a0_offsetMs * (1000 : Int64)))), .second] [(.long u_a0_everyMs), (.long (q1 - (u_a0_offsetMs * (1000 : Int64))))])) (fun t kt => st3 t kt) ?_
    refine own_by (A' := T3.setTop (mkF m 28 #[.val (.ref a0), .val (.long q1), .second, .val (.long (q1 - (u_a0_offsetMs * (1000 : Int64)))), .second] [(.ref a0), (.long ((q1 - (u_a0_offsetMs * (1000 : Int64))) % (u_a0_everyMs * (1000 : Int64))))])) (fun t kt => ?_) ?_
    · show Steps p.tables e below (T3.setTop (mkF m 22 #[.val (.ref a0), .val (.long q1), .second, .val (.long (q1 - (u_a0_offsetMs * (1000 : Int64)))), .second] [(.long u_a0_everyMs), (.long (q1 - (u_a0_offsetMs * (1000 : Int64))))])) t
      refine X3.ldc2Long hx hown (mvT hZ (hw _ (List.mem_of_getElem? (i := 31) rfl))) (g := (mkF m 22 #[.val (.ref a0), .val (.long q1), .second, .val (.long (q1 - (u_a0_offsetMs * (1000 : Int64)))), .second] [(.long u_a0_everyMs), (.long (q1 - (u_a0_offsetMs * (1000 : Int64))))])) rfl (hb hby d4_22) _ ?_
      show Steps p.tables e below (T3.setTop (mkF m 25 #[.val (.ref a0), .val (.long q1), .second, .val (.long (q1 - (u_a0_offsetMs * (1000 : Int64)))), .second] [(.long (1000 : Int64)), (.long u_a0_everyMs), (.long (q1 - (u_a0_offsetMs * (1000 : Int64))))])) t
      refine XS.lmul X3.here hx rfl (hb hby d4_25) rfl ?_
      show Steps p.tables e below (T3.setTop (mkF m 26 #[.val (.ref a0), .val (.long q1), .second, .val (.long (q1 - (u_a0_offsetMs * (1000 : Int64)))), .second] [(.long (u_a0_everyMs * (1000 : Int64))), (.long (q1 - (u_a0_offsetMs * (1000 : Int64))))])) t
      refine own_lrem X3 hx rfl (hb hby d4_26) rfl hz ?_
      show Steps p.tables e below (T3.setTop (mkF m 27 #[.val (.ref a0), .val (.long q1), .second, .val (.long (q1 - (u_a0_offsetMs * (1000 : Int64)))), .second] [(.long ((q1 - (u_a0_offsetMs * (1000 : Int64))) % (u_a0_everyMs * (1000 : Int64))))])) t
      refine XS.aloadN X3.here hx rfl (hb hby d4_27) rfl rfl ?_
      exact kt
    obtain ⟨T4, X4, e4, st4⟩ := getF X3 hx hZ hown (host := "") (Or.inl (hw _ (List.mem_of_getElem? (i := 20) rfl))) Via.refl e3 F_a0_forMs (g := (mkF m 28 #[.val (.ref a0), .val (.long q1), .second, .val (.long (q1 - (u_a0_offsetMs * (1000 : Int64)))), .second] [(.ref a0), (.long ((q1 - (u_a0_offsetMs * (1000 : Int64))) % (u_a0_everyMs * (1000 : Int64))))])) rfl rfl (hb hby d4_28)
    refine own_by (A' := T4.setTop (mkF m 31 #[.val (.ref a0), .val (.long q1), .second, .val (.long (q1 - (u_a0_offsetMs * (1000 : Int64)))), .second] [(.long u_a0_forMs), (.long ((q1 - (u_a0_offsetMs * (1000 : Int64))) % (u_a0_everyMs * (1000 : Int64))))])) (fun t kt => st4 t kt) ?_
    refine own_by (A' := T4.setTop (mkF m 36 #[.val (.ref a0), .val (.long q1), .second, .val (.long (q1 - (u_a0_offsetMs * (1000 : Int64)))), .second] [(.int (lcmpW ((q1 - (u_a0_offsetMs * (1000 : Int64))) % (u_a0_everyMs * (1000 : Int64))) (u_a0_forMs * (1000 : Int64))))])) (fun t kt => ?_) ?_
    · show Steps p.tables e below (T4.setTop (mkF m 31 #[.val (.ref a0), .val (.long q1), .second, .val (.long (q1 - (u_a0_offsetMs * (1000 : Int64)))), .second] [(.long u_a0_forMs), (.long ((q1 - (u_a0_offsetMs * (1000 : Int64))) % (u_a0_everyMs * (1000 : Int64))))])) t
      refine X4.ldc2Long hx hown (mvT hZ (hw _ (List.mem_of_getElem? (i := 31) rfl))) (g := (mkF m 31 #[.val (.ref a0), .val (.long q1), .second, .val (.long (q1 - (u_a0_offsetMs * (1000 : Int64)))), .second] [(.long u_a0_forMs), (.long ((q1 - (u_a0_offsetMs * (1000 : Int64))) % (u_a0_everyMs * (1000 : Int64))))])) rfl (hb hby d4_31) _ ?_
      show Steps p.tables e below (T4.setTop (mkF m 34 #[.val (.ref a0), .val (.long q1), .second, .val (.long (q1 - (u_a0_offsetMs * (1000 : Int64)))), .second] [(.long (1000 : Int64)), (.long u_a0_forMs), (.long ((q1 - (u_a0_offsetMs * (1000 : Int64))) % (u_a0_everyMs * (1000 : Int64))))])) t
      refine XS.lmul X4.here hx rfl (hb hby d4_34) rfl ?_
      show Steps p.tables e below (T4.setTop (mkF m 35 #[.val (.ref a0), .val (.long q1), .second, .val (.long (q1 - (u_a0_offsetMs * (1000 : Int64)))), .second] [(.long (u_a0_forMs * (1000 : Int64))), (.long ((q1 - (u_a0_offsetMs * (1000 : Int64))) % (u_a0_everyMs * (1000 : Int64))))])) t
      refine XS.lcmp X4.here hx rfl (hb hby d4_35) rfl ?_
      exact kt
    by_cases hc36_5 : ((q1 - (u_a0_offsetMs * (1000 : Int64))) % (u_a0_everyMs * (1000 : Int64))) < (u_a0_forMs * (1000 : Int64))
    · refine own_by (A' := T4.setTop (mkF m 44 #[.val (.ref a0), .val (.long q1), .second, .val (.long (q1 - (u_a0_offsetMs * (1000 : Int64)))), .second] [(.int (1 : Int32))])) (fun t kt => ?_) ?_
      · show Steps p.tables e below (T4.setTop (mkF m 36 #[.val (.ref a0), .val (.long q1), .second, .val (.long (q1 - (u_a0_offsetMs * (1000 : Int64)))), .second] [(.int (lcmpW ((q1 - (u_a0_offsetMs * (1000 : Int64))) % (u_a0_everyMs * (1000 : Int64))) (u_a0_forMs * (1000 : Int64))))])) t
        refine XS.ifNo X4.here hx rfl (hb hby d4_36) rfl ((if0 _ _).trans (tlt ((lw_lt _ _).mpr hc36_5)).2.1) ?_
        show Steps p.tables e below (T4.setTop (mkF m 39 #[.val (.ref a0), .val (.long q1), .second, .val (.long (q1 - (u_a0_offsetMs * (1000 : Int64)))), .second] [])) t
        refine XS.iconst X4.here hx rfl (hb hby d4_39) ?_
        show Steps p.tables e below (T4.setTop (mkF m 40 #[.val (.ref a0), .val (.long q1), .second, .val (.long (q1 - (u_a0_offsetMs * (1000 : Int64)))), .second] [(.int (1 : Int32))])) t
        refine XS.goto X4.here hx rfl (pc0 := 40) (pc' := 44) rfl (hb hby d4_40) (by decide) (by decide) ?_
        exact kt
      obtain ⟨fs, hr, hrun, hended, hW, hsame⟩ := X4.leave (v := some (.int (1 : Int32))) (fun h => by rw [Bd.returns] at h; cases h)
      refine ⟨_, _, ?_, hrun, hended, _, _, rfl, ?_, ⟨_, rfl⟩, hW, hsame.mono (by decide) (by decide)⟩
      · exact retN X4 hx (t := .boolean) Bd.returns (by simp) (hb hby d4_44) hr
      · show Q4 Z a0 q1 u_a0_everyMs u_a0_forMs u_a0_offsetMs h0 n0 _ T4.heap _
        rw [e4]
        exact ⟨(by rw [own_f4, if_neg hc14_2, if_pos hc36_5]), N0, rfl⟩
    · refine own_by (A' := T4.setTop (mkF m 44 #[.val (.ref a0), .val (.long q1), .second, .val (.long (q1 - (u_a0_offsetMs * (1000 : Int64)))), .second] [(.int (0 : Int32))])) (fun t kt => ?_) ?_
      · show Steps p.tables e below (T4.setTop (mkF m 36 #[.val (.ref a0), .val (.long q1), .second, .val (.long (q1 - (u_a0_offsetMs * (1000 : Int64)))), .second] [(.int (lcmpW ((q1 - (u_a0_offsetMs * (1000 : Int64))) % (u_a0_everyMs * (1000 : Int64))) (u_a0_forMs * (1000 : Int64))))])) t
        refine XS.ifYes X4.here hx rfl (pc0 := 36) (pc' := 43) rfl (hb hby d4_36) rfl ((if0 _ _).trans (flt (fun q => hc36_5 ((lw_lt _ _).mp q))).2.1) (by decide) (by decide) ?_
        show Steps p.tables e below (T4.setTop (mkF m 43 #[.val (.ref a0), .val (.long q1), .second, .val (.long (q1 - (u_a0_offsetMs * (1000 : Int64)))), .second] [])) t
        refine XS.iconst X4.here hx rfl (hb hby d4_43) ?_
        exact kt
      obtain ⟨fs, hr, hrun, hended, hW, hsame⟩ := X4.leave (v := some (.int (0 : Int32))) (fun h => by rw [Bd.returns] at h; cases h)
      refine ⟨_, _, ?_, hrun, hended, _, _, rfl, ?_, ⟨_, rfl⟩, hW, hsame.mono (by decide) (by decide)⟩
      · exact retN X4 hx (t := .boolean) Bd.returns (by simp) (hb hby d4_44) hr
      · show Q4 Z a0 q1 u_a0_everyMs u_a0_forMs u_a0_offsetMs h0 n0 _ T4.heap _
        rw [e4]
        exact ⟨(by rw [own_f4, if_neg hc14_2, if_neg hc36_5]), N0, rfl⟩
theorem own_E (a : Int64) : 1 ≤ ((1 : Int64) + (a &&& (2147483647 : Int64))).toInt ∧ ((1 : Int64) + (a &&& (2147483647 : Int64))).toInt ≤ 2147483648 := by
  have h := c_maskL a 2147483647 31 (by decide) (by decide)
  have h1 := c_ladd 1 (a &&& (2147483647 : Int64))
  have h2 := rng64 ((1 : Int64) + (a &&& (2147483647 : Int64)))
  have e : (1 : Int64).toInt = 1 := by decide
  omega
theorem own_ne {x : Int64} (h : 1 ≤ x.toInt) : x ≠ 0 := fun q => by subst q; revert h; decide
theorem own_rem (a y : Int64) (h : 1 ≤ y.toInt) : 0 ≤ ((a &&& (9223372036854775807 : Int64)) % y).toInt ∧ ((a &&& (9223372036854775807 : Int64)) % y).toInt < y.toInt := by
  have h1 := c_maskL a 9223372036854775807 63 (by decide) (by decide)
  rw [Int64.toInt_mod, Int.tmod_eq_emod_of_nonneg (by omega)]
  exact ⟨Int.emod_nonneg _ (by omega), Int.emod_lt_of_pos _ (by omega)⟩
theorem own_k (x : Int64) (h : 0 ≤ x.toInt ∧ x.toInt ≤ 2147483648) : (x * (1000 : Int64)).toInt = x.toInt * 1000 := by
  have h1 := c_lmul x 1000
  have h2 := rng64 (x * (1000 : Int64))
  rw [show (1000 : Int64).toInt = 1000 from by decide] at h1
  omega
theorem own_P (k : Int32) : 0 ≤ (k.toInt64 &&& (1048575 : Int64)).toInt ∧ (k.toInt64 &&& (1048575 : Int64)).toInt ≤ 1048575 := by
  have h := c_maskL k.toInt64 1048575 20 (by decide) (by decide)
  omega
theorem own_B (r : Int64) : 0 ≤ (r &&& (17592186044415 : Int64)).toInt ∧ (r &&& (17592186044415 : Int64)).toInt ≤ 17592186044415 := by
  have h := c_maskL r 17592186044415 44 (by decide) (by decide)
  omega
theorem own_in (E F O P S : Int64) (hE : 1 ≤ E.toInt ∧ E.toInt ≤ 2147483648) (hF : 0 ≤ F.toInt ∧ F.toInt < E.toInt) (hO : 0 ≤ O.toInt ∧ O.toInt < E.toInt) (hP : 0 ≤ P.toInt ∧ P.toInt ≤ 1048575) (hS : 0 ≤ S.toInt ∧ S.toInt < (E * (1000 : Int64)).toInt) :
    own_f4 ((O * (1000 : Int64) + P * (E * (1000 : Int64))) + S) E F O = if S < F * (1000 : Int64) then (1 : Int32) else (0 : Int32) := by
  have e0 : (0 : Int64).toInt = 0 := by decide
  rw [own_f4]
  have kE := own_k E (by omega); have kF := own_k F (by omega); have kO := own_k O (by omega)
  generalize E * (1000 : Int64) = U at *
  generalize O * (1000 : Int64) = V at *
  have m1 := mc (a := P.toInt) (b := U.toInt) (l1 := 0) (h1 := 1048575) (l2 := 0) (h2 := 2147483648000) (by omega) (by omega) (by omega) (by omega)
  have c1 := c_lmul P U; have r1 := rng64 (P * U)
  have b1 : 0 ≤ P.toInt * U.toInt := Int.mul_nonneg (by omega) (by omega)
  have b2 : P.toInt * U.toInt ≤ 1048575 * 2147483648000 := Int.mul_le_mul (by omega) (by omega) (by omega) (by omega)
  have p1 : (P * U).toInt = P.toInt * U.toInt := by omega
  have c2 := c_ladd V (P * U); have r2 := rng64 (V + P * U)
  have c3 := c_ladd (V + P * U) S; have r3 := rng64 (V + P * U + S)
  have c4 := c_lsub (V + P * U + S) V; have r4 := rng64 (V + P * U + S - V)
  have q : (V + P * U + S - V).toInt = P.toInt * U.toInt + S.toInt := by omega
  have q2 : (V + P * U + S - V) % U = S := by
    apply Int64.toInt_inj.mp
    rw [Int64.toInt_mod, q, Int.tmod_eq_emod_of_nonneg (by omega), Int.add_comm, Int.add_mul_emod_self_right]
    exact Int.emod_eq_of_lt hS.1 hS.2
  rw [q2, if_neg (by rw [Int64.lt_iff_toInt_lt, q, e0]; omega)]
theorem own_out (E F O R : Int64) (hE : 1 ≤ E.toInt ∧ E.toInt ≤ 2147483648) (hO : 0 ≤ O.toInt ∧ O.toInt < E.toInt) (hR : 0 ≤ R.toInt ∧ R.toInt ≤ 17592186044415) :
    own_f4 ((O * (1000 : Int64) - (1 : Int64)) - R) E F O = 0 := by
  have e0 : (0 : Int64).toInt = 0 := by decide
  have e1 : (1 : Int64).toInt = 1 := by decide
  have kO := own_k O (by omega)
  rw [own_f4]
  generalize O * (1000 : Int64) = V at *
  have c1 := c_lsub V 1; have r1 := rng64 (V - 1)
  have c2 := c_lsub (V - 1) R; have r2 := rng64 (V - 1 - R)
  have c3 := c_lsub (V - 1 - R) V; have r3 := rng64 (V - 1 - R - V)
  rw [if_pos (by rw [Int64.lt_iff_toInt_lt, e0]; omega)]
theorem pn_3 : plainName "com/example/fairshed/fairshed/deployment/BurstHoldsPinLaw" = true := by first | (simp [plainName, overriddenIn]; done) | decide +kernel
theorem pd_4 : parseMethodDescriptor "(IJJJ)V" = some ⟨[.int, .long, .long, .long], none⟩ := by decide +kernel
theorem pd_5 : parseMethodDescriptor "(J)Z" = some ⟨[.long], some .boolean⟩ := by decide +kernel
theorem ef_rm0 (m : MethodId) (q0 : Int64) (q1 : Int64) (q2 : Int64) (p3 : Int32) (q4 : Int64) (p5 : Int32) : entryFrame m #[(.long q0), (.long q1), (.long q2), (.int p3), (.long q4), (.int p5)] maxLocals = mkF m 0 #[.val (.long q0), .second, .val (.long q1), .second, .val (.long q2), .second, .val (.int p3), .val (.long q4), .second, .val (.int p5), .unset, .unset, .unset, .unset, .unset, .unset, .unset, .unset, .unset, .unset, .unset, .unset, .unset, .unset, .unset, .unset, .unset, .unset, .unset, .unset] [] := by first | (simp [entryFrame, mkF, argsToLocals, Value.category, maxLocals]; done) | rfl
def Q0 (Z : State) (q0 : Int64) (q1 : Int64) (q2 : Int64) (p3 : Int32) (q4 : Int64) (p5 : Int32) (h0 : Heap) (n0 : Nat) (v : Option Value) (h : Heap) (L : List Loc) : Prop := v = some (.int 1) ∧ Fr n0 L
set_option maxRecDepth 65536 in
set_option maxHeartbeats 40000000 in
theorem rm0 (l : Launch) (Z : State) (aw : Array Value) (hw : ∀ d ∈ tables_1, d.before aw Z = true) (ws : List Jvm.Cond) (q0 : Int64) (q1 : Int64) (q2 : Int64) (p3 : Int32) (q4 : Int64) (p5 : Int32) (h0 : Heap) (n0 : Nat) (Z0 : n0 ≤ h0.size) :
    MetFree l x (head1 (Jvm.Cond.code x code maxLocals ret :: ws) room_1) (fun a U => a = #[(.long q0), (.long q1), (.long q2), (.int p3), (.long q4), (.int p5)] ∧ Z.Warmed39 U.vm ∧ U.heap = h0) (fun _ _ _ _ _ => True) (fun _ U o U' => ∃ v L, o = .returned v ∧ Q0 Z q0 q1 q2 p3 q4 p5 h0 n0 v U'.heap L ∧ FrameEnd U o U' L 1 4) := by
  refine MetFree.of_bodySF (plainFor_of_name pn_3) hisR ?_
  intro p e s m args below meth c s₁ Bd hml0 hP hK
  obtain ⟨rfl, hZ, hh⟩ := hP
  have hx := Bd.exec
  have hby := Bd.bytes
  have hml : c.maxLocals = 30 := hml0
  have hown : s.vm.findClass "com/example/fairshed/fairshed/deployment/BurstHoldsPinLaw" = some m.cls := findClass_of_methodNamed Bd.named
  have hnm := (name_of_methodNamed Bd.named Bd.method).1
  have X0 : Stand p l e room_1 s m #[(.long q0), (.long q1), (.long q2), (.int p3), (.long q4), (.int p5)] below meth c s₁ [] 0 0 := Stand.of_body Bd
  have e0 : s₁.heap = h0 := by rw [← hh, Bd.state]; rfl
  have N0 := Fr.nil n0
  have K0 : Keep h0 h0 [] := Keep.refl _ _
  refine own_by (A' := s₁.setTop (mkF m 0 #[.val (.long q0), .second, .val (.long q1), .second, .val (.long q2), .second, .val (.int p3), .val (.long q4), .second, .val (.int p5), .unset, .unset, .unset, .unset, .unset, .unset, .unset, .unset, .unset, .unset, .unset, .unset, .unset, .unset, .unset, .unset, .unset, .unset, .unset, .unset] [])) (fun t k => castTop (ef_rm0 m q0 q1 q2 p3 q4 p5) k) ?_
  refine own_by (A' := s₁.setTop (mkF m 9 #[.val (.long q0), .second, .val (.long q1), .second, .val (.long q2), .second, .val (.int p3), .val (.long q4), .second, .val (.int p5), .val (.long ((1 : Int64) + (q0 &&& (2147483647 : Int64)))), .second, .unset, .unset, .unset, .unset, .unset, .unset, .unset, .unset, .unset, .unset, .unset, .unset, .unset, .unset, .unset, .unset, .unset, .unset] [])) (fun t kt => ?_) ?_
  · show Steps p.tables e below (s₁.setTop (mkF m 0 #[.val (.long q0), .second, .val (.long q1), .second, .val (.long q2), .second, .val (.int p3), .val (.long q4), .second, .val (.int p5), .unset, .unset, .unset, .unset, .unset, .unset, .unset, .unset, .unset, .unset, .unset, .unset, .unset, .unset, .unset, .unset, .unset, .unset, .unset, .unset] [])) t
    refine XS.lconst X0.here hx rfl (hb hby at_0) ?_
    show Steps p.tables e below (s₁.setTop (mkF m 1 #[.val (.long q0), .second, .val (.long q1), .second, .val (.long q2), .second, .val (.int p3), .val (.long q4), .second, .val (.int p5), .unset, .unset, .unset, .unset, .unset, .unset, .unset, .unset, .unset, .unset, .unset, .unset, .unset, .unset, .unset, .unset, .unset, .unset, .unset, .unset] [(.long (1 : Int64))])) t
    refine XS.lloadN X0.here hx rfl (hb hby at_1) rfl ?_
    show Steps p.tables e below (s₁.setTop (mkF m 2 #[.val (.long q0), .second, .val (.long q1), .second, .val (.long q2), .second, .val (.int p3), .val (.long q4), .second, .val (.int p5), .unset, .unset, .unset, .unset, .unset, .unset, .unset, .unset, .unset, .unset, .unset, .unset, .unset, .unset, .unset, .unset, .unset, .unset, .unset, .unset] [(.long q0), (.long (1 : Int64))])) t
    refine X0.ldc2Long hx hown (mvT hZ (hw _ (List.mem_of_getElem? (i := 0) rfl))) (g := (mkF m 2 #[.val (.long q0), .second, .val (.long q1), .second, .val (.long q2), .second, .val (.int p3), .val (.long q4), .second, .val (.int p5), .unset, .unset, .unset, .unset, .unset, .unset, .unset, .unset, .unset, .unset, .unset, .unset, .unset, .unset, .unset, .unset, .unset, .unset, .unset, .unset] [(.long q0), (.long (1 : Int64))])) rfl (hb hby at_2) _ ?_
    show Steps p.tables e below (s₁.setTop (mkF m 5 #[.val (.long q0), .second, .val (.long q1), .second, .val (.long q2), .second, .val (.int p3), .val (.long q4), .second, .val (.int p5), .unset, .unset, .unset, .unset, .unset, .unset, .unset, .unset, .unset, .unset, .unset, .unset, .unset, .unset, .unset, .unset, .unset, .unset, .unset, .unset] [(.long (2147483647 : Int64)), (.long q0), (.long (1 : Int64))])) t
    refine XS.land X0.here hx rfl (hb hby at_5) rfl ?_
    show Steps p.tables e below (s₁.setTop (mkF m 6 #[.val (.long q0), .second, .val (.long q1), .second, .val (.long q2), .second, .val (.int p3), .val (.long q4), .second, .val (.int p5), .unset, .unset, .unset, .unset, .unset, .unset, .unset, .unset, .unset, .unset, .unset, .unset, .unset, .unset, .unset, .unset, .unset, .unset, .unset, .unset] [(.long (q0 &&& (2147483647 : Int64))), (.long (1 : Int64))])) t
    refine XS.ladd X0.here hx rfl (hb hby at_6) rfl ?_
    show Steps p.tables e below (s₁.setTop (mkF m 7 #[.val (.long q0), .second, .val (.long q1), .second, .val (.long q2), .second, .val (.int p3), .val (.long q4), .second, .val (.int p5), .unset, .unset, .unset, .unset, .unset, .unset, .unset, .unset, .unset, .unset, .unset, .unset, .unset, .unset, .unset, .unset, .unset, .unset, .unset, .unset] [(.long ((1 : Int64) + (q0 &&& (2147483647 : Int64))))])) t
    refine XS.lstore X0.here hx rfl (hb hby at_7) rfl (l' := #[.val (.long q0), .second, .val (.long q1), .second, .val (.long q2), .second, .val (.int p3), .val (.long q4), .second, .val (.int p5), .val (.long ((1 : Int64) + (q0 &&& (2147483647 : Int64)))), .second, .unset, .unset, .unset, .unset, .unset, .unset, .unset, .unset, .unset, .unset, .unset, .unset, .unset, .unset, .unset, .unset, .unset, .unset]) rfl ?_
    exact kt
  generalize h_vE : ((1 : Int64) + (q0 &&& (2147483647 : Int64))) = vE
  have hE := own_E q0
  rw [h_vE] at hE
  refine own_by (A' := s₁.setTop (mkF m 19 #[.val (.long q0), .second, .val (.long q1), .second, .val (.long q2), .second, .val (.int p3), .val (.long q4), .second, .val (.int p5), .val (.long vE), .second, .val (.long ((q1 &&& (9223372036854775807 : Int64)) % vE)), .second, .unset, .unset, .unset, .unset, .unset, .unset, .unset, .unset, .unset, .unset, .unset, .unset, .unset, .unset, .unset, .unset] [])) (fun t kt => ?_) ?_
  · show Steps p.tables e below (s₁.setTop (mkF m 9 #[.val (.long q0), .second, .val (.long q1), .second, .val (.long q2), .second, .val (.int p3), .val (.long q4), .second, .val (.int p5), .val (.long vE), .second, .unset, .unset, .unset, .unset, .unset, .unset, .unset, .unset, .unset, .unset, .unset, .unset, .unset, .unset, .unset, .unset, .unset, .unset] [])) t
    refine XS.lloadN X0.here hx rfl (hb hby at_9) rfl ?_
    show Steps p.tables e below (s₁.setTop (mkF m 10 #[.val (.long q0), .second, .val (.long q1), .second, .val (.long q2), .second, .val (.int p3), .val (.long q4), .second, .val (.int p5), .val (.long vE), .second, .unset, .unset, .unset, .unset, .unset, .unset, .unset, .unset, .unset, .unset, .unset, .unset, .unset, .unset, .unset, .unset, .unset, .unset] [(.long q1)])) t
    refine X0.ldc2Long hx hown (mvT hZ (hw _ (List.mem_of_getElem? (i := 1) rfl))) (g := (mkF m 10 #[.val (.long q0), .second, .val (.long q1), .second, .val (.long q2), .second, .val (.int p3), .val (.long q4), .second, .val (.int p5), .val (.long vE), .second, .unset, .unset, .unset, .unset, .unset, .unset, .unset, .unset, .unset, .unset, .unset, .unset, .unset, .unset, .unset, .unset, .unset, .unset] [(.long q1)])) rfl (hb hby at_10) _ ?_
    show Steps p.tables e below (s₁.setTop (mkF m 13 #[.val (.long q0), .second, .val (.long q1), .second, .val (.long q2), .second, .val (.int p3), .val (.long q4), .second, .val (.int p5), .val (.long vE), .second, .unset, .unset, .unset, .unset, .unset, .unset, .unset, .unset, .unset, .unset, .unset, .unset, .unset, .unset, .unset, .unset, .unset, .unset] [(.long (9223372036854775807 : Int64)), (.long q1)])) t
    refine XS.land X0.here hx rfl (hb hby at_13) rfl ?_
    show Steps p.tables e below (s₁.setTop (mkF m 14 #[.val (.long q0), .second, .val (.long q1), .second, .val (.long q2), .second, .val (.int p3), .val (.long q4), .second, .val (.int p5), .val (.long vE), .second, .unset, .unset, .unset, .unset, .unset, .unset, .unset, .unset, .unset, .unset, .unset, .unset, .unset, .unset, .unset, .unset, .unset, .unset] [(.long (q1 &&& (9223372036854775807 : Int64)))])) t
    refine XS.lload X0.here hx rfl (hb hby at_14) rfl ?_
    show Steps p.tables e below (s₁.setTop (mkF m 16 #[.val (.long q0), .second, .val (.long q1), .second, .val (.long q2), .second, .val (.int p3), .val (.long q4), .second, .val (.int p5), .val (.long vE), .second, .unset, .unset, .unset, .unset, .unset, .unset, .unset, .unset, .unset, .unset, .unset, .unset, .unset, .unset, .unset, .unset, .unset, .unset] [(.long vE), (.long (q1 &&& (9223372036854775807 : Int64)))])) t
    refine own_lrem X0 hx rfl (hb hby at_16) rfl (own_ne hE.1) ?_
    show Steps p.tables e below (s₁.setTop (mkF m 17 #[.val (.long q0), .second, .val (.long q1), .second, .val (.long q2), .second, .val (.int p3), .val (.long q4), .second, .val (.int p5), .val (.long vE), .second, .unset, .unset, .unset, .unset, .unset, .unset, .unset, .unset, .unset, .unset, .unset, .unset, .unset, .unset, .unset, .unset, .unset, .unset] [(.long ((q1 &&& (9223372036854775807 : Int64)) % vE))])) t
    refine XS.lstore X0.here hx rfl (hb hby at_17) rfl (l' := #[.val (.long q0), .second, .val (.long q1), .second, .val (.long q2), .second, .val (.int p3), .val (.long q4), .second, .val (.int p5), .val (.long vE), .second, .val (.long ((q1 &&& (9223372036854775807 : Int64)) % vE)), .second, .unset, .unset, .unset, .unset, .unset, .unset, .unset, .unset, .unset, .unset, .unset, .unset, .unset, .unset, .unset, .unset]) rfl ?_
    exact kt
  generalize h_vF : ((q1 &&& (9223372036854775807 : Int64)) % vE) = vF
  have hF := own_rem q1 vE hE.1
  rw [h_vF] at hF
  refine own_by (A' := s₁.setTop (mkF m 30 #[.val (.long q0), .second, .val (.long q1), .second, .val (.long q2), .second, .val (.int p3), .val (.long q4), .second, .val (.int p5), .val (.long vE), .second, .val (.long vF), .second, .val (.long ((q2 &&& (9223372036854775807 : Int64)) % vE)), .second, .unset, .unset, .unset, .unset, .unset, .unset, .unset, .unset, .unset, .unset, .unset, .unset, .unset, .unset] [])) (fun t kt => ?_) ?_
  · show Steps p.tables e below (s₁.setTop (mkF m 19 #[.val (.long q0), .second, .val (.long q1), .second, .val (.long q2), .second, .val (.int p3), .val (.long q4), .second, .val (.int p5), .val (.long vE), .second, .val (.long vF), .second, .unset, .unset, .unset, .unset, .unset, .unset, .unset, .unset, .unset, .unset, .unset, .unset, .unset, .unset, .unset, .unset] [])) t
    refine XS.lload X0.here hx rfl (hb hby at_19) rfl ?_
    show Steps p.tables e below (s₁.setTop (mkF m 21 #[.val (.long q0), .second, .val (.long q1), .second, .val (.long q2), .second, .val (.int p3), .val (.long q4), .second, .val (.int p5), .val (.long vE), .second, .val (.long vF), .second, .unset, .unset, .unset, .unset, .unset, .unset, .unset, .unset, .unset, .unset, .unset, .unset, .unset, .unset, .unset, .unset] [(.long q2)])) t
    refine X0.ldc2Long hx hown (mvT hZ (hw _ (List.mem_of_getElem? (i := 1) rfl))) (g := (mkF m 21 #[.val (.long q0), .second, .val (.long q1), .second, .val (.long q2), .second, .val (.int p3), .val (.long q4), .second, .val (.int p5), .val (.long vE), .second, .val (.long vF), .second, .unset, .unset, .unset, .unset, .unset, .unset, .unset, .unset, .unset, .unset, .unset, .unset, .unset, .unset, .unset, .unset] [(.long q2)])) rfl (hb hby at_21) _ ?_
    show Steps p.tables e below (s₁.setTop (mkF m 24 #[.val (.long q0), .second, .val (.long q1), .second, .val (.long q2), .second, .val (.int p3), .val (.long q4), .second, .val (.int p5), .val (.long vE), .second, .val (.long vF), .second, .unset, .unset, .unset, .unset, .unset, .unset, .unset, .unset, .unset, .unset, .unset, .unset, .unset, .unset, .unset, .unset] [(.long (9223372036854775807 : Int64)), (.long q2)])) t
    refine XS.land X0.here hx rfl (hb hby at_24) rfl ?_
    show Steps p.tables e below (s₁.setTop (mkF m 25 #[.val (.long q0), .second, .val (.long q1), .second, .val (.long q2), .second, .val (.int p3), .val (.long q4), .second, .val (.int p5), .val (.long vE), .second, .val (.long vF), .second, .unset, .unset, .unset, .unset, .unset, .unset, .unset, .unset, .unset, .unset, .unset, .unset, .unset, .unset, .unset, .unset] [(.long (q2 &&& (9223372036854775807 : Int64)))])) t
    refine XS.lload X0.here hx rfl (hb hby at_25) rfl ?_
    show Steps p.tables e below (s₁.setTop (mkF m 27 #[.val (.long q0), .second, .val (.long q1), .second, .val (.long q2), .second, .val (.int p3), .val (.long q4), .second, .val (.int p5), .val (.long vE), .second, .val (.long vF), .second, .unset, .unset, .unset, .unset, .unset, .unset, .unset, .unset, .unset, .unset, .unset, .unset, .unset, .unset, .unset, .unset] [(.long vE), (.long (q2 &&& (9223372036854775807 : Int64)))])) t
    refine own_lrem X0 hx rfl (hb hby at_27) rfl (own_ne hE.1) ?_
    show Steps p.tables e below (s₁.setTop (mkF m 28 #[.val (.long q0), .second, .val (.long q1), .second, .val (.long q2), .second, .val (.int p3), .val (.long q4), .second, .val (.int p5), .val (.long vE), .second, .val (.long vF), .second, .unset, .unset, .unset, .unset, .unset, .unset, .unset, .unset, .unset, .unset, .unset, .unset, .unset, .unset, .unset, .unset] [(.long ((q2 &&& (9223372036854775807 : Int64)) % vE))])) t
    refine XS.lstore X0.here hx rfl (hb hby at_28) rfl (l' := #[.val (.long q0), .second, .val (.long q1), .second, .val (.long q2), .second, .val (.int p3), .val (.long q4), .second, .val (.int p5), .val (.long vE), .second, .val (.long vF), .second, .val (.long ((q2 &&& (9223372036854775807 : Int64)) % vE)), .second, .unset, .unset, .unset, .unset, .unset, .unset, .unset, .unset, .unset, .unset, .unset, .unset, .unset, .unset]) rfl ?_
    exact kt
  generalize h_vO : ((q2 &&& (9223372036854775807 : Int64)) % vE) = vO
  have hO := own_rem q2 vE hE.1
  rw [h_vO] at hO
  have hU := own_k vE ⟨by omega, by omega⟩
  have hU0 : (vE * (1000 : Int64)) ≠ 0 := own_ne (by omega)
  obtain ⟨T1, h1, X1, e1, E1, A1, D1, -, st1⟩ := newO X0 hx hZ hown (hw _ (List.mem_of_getElem? (i := 2) rfl)) (hw _ (List.mem_of_getElem? (i := 3) rfl)) (hw _ (List.mem_of_getElem? (i := 4) rfl)) e0 (g := (mkF m 30 #[.val (.long q0), .second, .val (.long q1), .second, .val (.long q2), .second, .val (.int p3), .val (.long q4), .second, .val (.int p5), .val (.long vE), .second, .val (.long vF), .second, .val (.long vO), .second, .unset, .unset, .unset, .unset, .unset, .unset, .unset, .unset, .unset, .unset, .unset, .unset, .unset, .unset] [])) rfl (hb hby at_30) (by decide) (by decide)
  obtain ⟨b1, g1⟩ : ∃ z, z = h0.size := ⟨_, rfl⟩
  rw [← g1] at A1 D1 st1
  have sz_b1 : h0.size ≤ b1 := Nat.le_trans K0.1 (Nat.le_of_eq g1.symm)
  have g_b1 : n0 ≤ b1 := Nat.le_trans Z0 sz_b1
  have K1 : Keep h0 h1 [] := K0.ext E1
  have F_factor_b1 : Fld Z h1 b1 "com/example/fairshed/fairshed/deployment/Deployment$Burst" "factor" "I" (.int (0 : Int32)) := D1 (Or.inr (hw _ (List.mem_of_getElem? (i := 17) rfl))) (ty := .int) (by decide)
  have F_everyMs_b1 : Fld Z h1 b1 "com/example/fairshed/fairshed/deployment/Deployment$Burst" "everyMs" "J" (.long (0 : Int64)) := D1 (Or.inr (hw _ (List.mem_of_getElem? (i := 19) rfl))) (ty := .long) (by decide)
  have F_forMs_b1 : Fld Z h1 b1 "com/example/fairshed/fairshed/deployment/Deployment$Burst" "forMs" "J" (.long (0 : Int64)) := D1 (Or.inr (hw _ (List.mem_of_getElem? (i := 21) rfl))) (ty := .long) (by decide)
  have F_offsetMs_b1 : Fld Z h1 b1 "com/example/fairshed/fairshed/deployment/Deployment$Burst" "offsetMs" "J" (.long (0 : Int64)) := D1 (Or.inr (hw _ (List.mem_of_getElem? (i := 23) rfl))) (ty := .long) (by decide)
  refine own_by (A' := T1.setTop (mkF m 33 #[.val (.long q0), .second, .val (.long q1), .second, .val (.long q2), .second, .val (.int p3), .val (.long q4), .second, .val (.int p5), .val (.long vE), .second, .val (.long vF), .second, .val (.long vO), .second, .unset, .unset, .unset, .unset, .unset, .unset, .unset, .unset, .unset, .unset, .unset, .unset, .unset, .unset] [(.ref b1)])) (fun t kt => st1 t kt) ?_
  refine own_by (A' := T1.setTop (mkF m 42 #[.val (.long q0), .second, .val (.long q1), .second, .val (.long q2), .second, .val (.int p3), .val (.long q4), .second, .val (.int p5), .val (.long vE), .second, .val (.long vF), .second, .val (.long vO), .second, .unset, .unset, .unset, .unset, .unset, .unset, .unset, .unset, .unset, .unset, .unset, .unset, .unset, .unset] [(.long vO), (.long vF), (.long vE), (.int p5), (.ref b1), (.ref b1)])) (fun t kt => ?_) ?_
  · show Steps p.tables e below (T1.setTop (mkF m 33 #[.val (.long q0), .second, .val (.long q1), .second, .val (.long q2), .second, .val (.int p3), .val (.long q4), .second, .val (.int p5), .val (.long vE), .second, .val (.long vF), .second, .val (.long vO), .second, .unset, .unset, .unset, .unset, .unset, .unset, .unset, .unset, .unset, .unset, .unset, .unset, .unset, .unset] [(.ref b1)])) t
    refine XS.dup X1.here hx rfl (hb hby at_33) rfl rfl ?_
    show Steps p.tables e below (T1.setTop (mkF m 34 #[.val (.long q0), .second, .val (.long q1), .second, .val (.long q2), .second, .val (.int p3), .val (.long q4), .second, .val (.int p5), .val (.long vE), .second, .val (.long vF), .second, .val (.long vO), .second, .unset, .unset, .unset, .unset, .unset, .unset, .unset, .unset, .unset, .unset, .unset, .unset, .unset, .unset] [(.ref b1), (.ref b1)])) t
    refine XS.iload X1.here hx rfl (hb hby at_34) rfl ?_
    show Steps p.tables e below (T1.setTop (mkF m 36 #[.val (.long q0), .second, .val (.long q1), .second, .val (.long q2), .second, .val (.int p3), .val (.long q4), .second, .val (.int p5), .val (.long vE), .second, .val (.long vF), .second, .val (.long vO), .second, .unset, .unset, .unset, .unset, .unset, .unset, .unset, .unset, .unset, .unset, .unset, .unset, .unset, .unset] [(.int p5), (.ref b1), (.ref b1)])) t
    refine XS.lload X1.here hx rfl (hb hby at_36) rfl ?_
    show Steps p.tables e below (T1.setTop (mkF m 38 #[.val (.long q0), .second, .val (.long q1), .second, .val (.long q2), .second, .val (.int p3), .val (.long q4), .second, .val (.int p5), .val (.long vE), .second, .val (.long vF), .second, .val (.long vO), .second, .unset, .unset, .unset, .unset, .unset, .unset, .unset, .unset, .unset, .unset, .unset, .unset, .unset, .unset] [(.long vE), (.int p5), (.ref b1), (.ref b1)])) t
    refine XS.lload X1.here hx rfl (hb hby at_38) rfl ?_
    show Steps p.tables e below (T1.setTop (mkF m 40 #[.val (.long q0), .second, .val (.long q1), .second, .val (.long q2), .second, .val (.int p3), .val (.long q4), .second, .val (.int p5), .val (.long vE), .second, .val (.long vF), .second, .val (.long vO), .second, .unset, .unset, .unset, .unset, .unset, .unset, .unset, .unset, .unset, .unset, .unset, .unset, .unset, .unset] [(.long vF), (.long vE), (.int p5), (.ref b1), (.ref b1)])) t
    refine XS.lload X1.here hx rfl (hb hby at_40) rfl ?_
    exact kt
  obtain ⟨_, _, ⟨T2, L2, k2, n2⟩, -, X2, ⟨Lc2, hQ2, l2, y2, z2⟩, st2⟩ := X1.specialBack hx (y := (⟨"com/example/fairshed/fairshed/deployment/Deployment$Burst", "<init>", "(IJJJ)V"⟩ : MethodName)) rfl hown (mvT hZ (hw _ (List.mem_of_getElem? (i := 5) rfl))) (mvT hZ (hw _ (List.mem_of_getElem? (i := 6) rfl))) (mvT hZ (hw _ (List.mem_of_getElem? (i := 7) rfl))) (by decide) (backOf (W := 1) (rm1 l Z aw hw [] b1 p5 vE vF vO (0 : Int32) (0 : Int64) (0 : Int64) (0 : Int64) h1 n0 (Nat.le_trans Z0 K1.1) A1 F_factor_b1 F_everyMs_b1 F_forMs_b1 F_offsetMs_b1 g_b1) hZ (hw _ (List.mem_of_getElem? (i := 7) rfl)) (hw _ (List.mem_of_getElem? (i := 4) rfl)) (by decide) (by decide)) (g := (mkF m 42 #[.val (.long q0), .second, .val (.long q1), .second, .val (.long q2), .second, .val (.int p3), .val (.long q4), .second, .val (.int p5), .val (.long vE), .second, .val (.long vF), .second, .val (.long vO), .second, .unset, .unset, .unset, .unset, .unset, .unset, .unset, .unset, .unset, .unset, .unset, .unset, .unset, .unset] [(.long vO), (.long vF), (.long vE), (.int p5), (.ref b1), (.ref b1)])) rfl (by rw [hml]; rfl) (Steps.refl _) (a := b1) (argsL := [(.int p5), (.long vE), (.long vF), (.long vO)]) (rest := [(.ref b1)]) (lenOf pd_4 rfl) rfl (by show 2 * 0 + _ ≤ _; exact Nat.le_of_eq rfl) (hb hby at_42) (fun _ _ => ⟨rfl, e1, (by decide : 1 + 0 ≤ _), (by decide : 4 + 0 ≤ _)⟩)
  dsimp only [Pt.U, Pt.locs, Pt.cells, Pt.slots] at X2 l2 y2 z2 st2 hQ2
  subst l2 y2 z2
  obtain ⟨rfl, N2q, Kq2, G2_0, G2_1, G2_2, G2_3, G2_4⟩ := hQ2
  have N2 := Fr.app N0 N2q
  have K2 : Keep h0 T2.heap [] := K1.trans Kq2 (allS (Or.inr sz_b1) all0)
  refine own_by (A' := T2.setTop (mkF m 45 #[.val (.long q0), .second, .val (.long q1), .second, .val (.long q2), .second, .val (.int p3), .val (.long q4), .second, .val (.int p5), .val (.long vE), .second, .val (.long vF), .second, .val (.long vO), .second, .unset, .unset, .unset, .unset, .unset, .unset, .unset, .unset, .unset, .unset, .unset, .unset, .unset, .unset] [(.ref b1)])) (fun t kt => st2.trans kt) ?_
  refine own_by (A' := T2.setTop (mkF m 75 #[.val (.long q0), .second, .val (.long q1), .second, .val (.long q2), .second, .val (.int p3), .val (.long q4), .second, .val (.int p5), .val (.long vE), .second, .val (.long vF), .second, .val (.long vO), .second, .val (.ref b1), .val (.long (vE * (1000 : Int64))), .second, .val (.long (vF * (1000 : Int64))), .second, .val (.long (vO * (1000 : Int64))), .second, .unset, .unset, .unset, .unset, .unset, .unset, .unset] [(.int (p5 &&& (1 : Int32)))])) (fun t kt => ?_) ?_
  · show Steps p.tables e below (T2.setTop (mkF m 45 #[.val (.long q0), .second, .val (.long q1), .second, .val (.long q2), .second, .val (.int p3), .val (.long q4), .second, .val (.int p5), .val (.long vE), .second, .val (.long vF), .second, .val (.long vO), .second, .unset, .unset, .unset, .unset, .unset, .unset, .unset, .unset, .unset, .unset, .unset, .unset, .unset, .unset] [(.ref b1)])) t
    refine XS.astore X2.here hx rfl (hb hby at_45) rfl rfl (l' := #[.val (.long q0), .second, .val (.long q1), .second, .val (.long q2), .second, .val (.int p3), .val (.long q4), .second, .val (.int p5), .val (.long vE), .second, .val (.long vF), .second, .val (.long vO), .second, .val (.ref b1), .unset, .unset, .unset, .unset, .unset, .unset, .unset, .unset, .unset, .unset, .unset, .unset, .unset]) rfl ?_
    show Steps p.tables e below (T2.setTop (mkF m 47 #[.val (.long q0), .second, .val (.long q1), .second, .val (.long q2), .second, .val (.int p3), .val (.long q4), .second, .val (.int p5), .val (.long vE), .second, .val (.long vF), .second, .val (.long vO), .second, .val (.ref b1), .unset, .unset, .unset, .unset, .unset, .unset, .unset, .unset, .unset, .unset, .unset, .unset, .unset] [])) t
    refine XS.lload X2.here hx rfl (hb hby at_47) rfl ?_
    show Steps p.tables e below (T2.setTop (mkF m 49 #[.val (.long q0), .second, .val (.long q1), .second, .val (.long q2), .second, .val (.int p3), .val (.long q4), .second, .val (.int p5), .val (.long vE), .second, .val (.long vF), .second, .val (.long vO), .second, .val (.ref b1), .unset, .unset, .unset, .unset, .unset, .unset, .unset, .unset, .unset, .unset, .unset, .unset, .unset] [(.long vE)])) t
    refine X2.ldc2Long hx hown (mvT hZ (hw _ (List.mem_of_getElem? (i := 24) rfl))) (g := (mkF m 49 #[.val (.long q0), .second, .val (.long q1), .second, .val (.long q2), .second, .val (.int p3), .val (.long q4), .second, .val (.int p5), .val (.long vE), .second, .val (.long vF), .second, .val (.long vO), .second, .val (.ref b1), .unset, .unset, .unset, .unset, .unset, .unset, .unset, .unset, .unset, .unset, .unset, .unset, .unset] [(.long vE)])) rfl (hb hby at_49) _ ?_
    show Steps p.tables e below (T2.setTop (mkF m 52 #[.val (.long q0), .second, .val (.long q1), .second, .val (.long q2), .second, .val (.int p3), .val (.long q4), .second, .val (.int p5), .val (.long vE), .second, .val (.long vF), .second, .val (.long vO), .second, .val (.ref b1), .unset, .unset, .unset, .unset, .unset, .unset, .unset, .unset, .unset, .unset, .unset, .unset, .unset] [(.long (1000 : Int64)), (.long vE)])) t
    refine XS.lmul X2.here hx rfl (hb hby at_52) rfl ?_
    show Steps p.tables e below (T2.setTop (mkF m 53 #[.val (.long q0), .second, .val (.long q1), .second, .val (.long q2), .second, .val (.int p3), .val (.long q4), .second, .val (.int p5), .val (.long vE), .second, .val (.long vF), .second, .val (.long vO), .second, .val (.ref b1), .unset, .unset, .unset, .unset, .unset, .unset, .unset, .unset, .unset, .unset, .unset, .unset, .unset] [(.long (vE * (1000 : Int64)))])) t
    refine XS.lstore X2.here hx rfl (hb hby at_53) rfl (l' := #[.val (.long q0), .second, .val (.long q1), .second, .val (.long q2), .second, .val (.int p3), .val (.long q4), .second, .val (.int p5), .val (.long vE), .second, .val (.long vF), .second, .val (.long vO), .second, .val (.ref b1), .val (.long (vE * (1000 : Int64))), .second, .unset, .unset, .unset, .unset, .unset, .unset, .unset, .unset, .unset, .unset, .unset]) rfl ?_
    show Steps p.tables e below (T2.setTop (mkF m 55 #[.val (.long q0), .second, .val (.long q1), .second, .val (.long q2), .second, .val (.int p3), .val (.long q4), .second, .val (.int p5), .val (.long vE), .second, .val (.long vF), .second, .val (.long vO), .second, .val (.ref b1), .val (.long (vE * (1000 : Int64))), .second, .unset, .unset, .unset, .unset, .unset, .unset, .unset, .unset, .unset, .unset, .unset] [])) t
    refine XS.lload X2.here hx rfl (hb hby at_55) rfl ?_
    show Steps p.tables e below (T2.setTop (mkF m 57 #[.val (.long q0), .second, .val (.long q1), .second, .val (.long q2), .second, .val (.int p3), .val (.long q4), .second, .val (.int p5), .val (.long vE), .second, .val (.long vF), .second, .val (.long vO), .second, .val (.ref b1), .val (.long (vE * (1000 : Int64))), .second, .unset, .unset, .unset, .unset, .unset, .unset, .unset, .unset, .unset, .unset, .unset] [(.long vF)])) t
    refine X2.ldc2Long hx hown (mvT hZ (hw _ (List.mem_of_getElem? (i := 24) rfl))) (g := (mkF m 57 #[.val (.long q0), .second, .val (.long q1), .second, .val (.long q2), .second, .val (.int p3), .val (.long q4), .second, .val (.int p5), .val (.long vE), .second, .val (.long vF), .second, .val (.long vO), .second, .val (.ref b1), .val (.long (vE * (1000 : Int64))), .second, .unset, .unset, .unset, .unset, .unset, .unset, .unset, .unset, .unset, .unset, .unset] [(.long vF)])) rfl (hb hby at_57) _ ?_
    show Steps p.tables e below (T2.setTop (mkF m 60 #[.val (.long q0), .second, .val (.long q1), .second, .val (.long q2), .second, .val (.int p3), .val (.long q4), .second, .val (.int p5), .val (.long vE), .second, .val (.long vF), .second, .val (.long vO), .second, .val (.ref b1), .val (.long (vE * (1000 : Int64))), .second, .unset, .unset, .unset, .unset, .unset, .unset, .unset, .unset, .unset, .unset, .unset] [(.long (1000 : Int64)), (.long vF)])) t
    refine XS.lmul X2.here hx rfl (hb hby at_60) rfl ?_
    show Steps p.tables e below (T2.setTop (mkF m 61 #[.val (.long q0), .second, .val (.long q1), .second, .val (.long q2), .second, .val (.int p3), .val (.long q4), .second, .val (.int p5), .val (.long vE), .second, .val (.long vF), .second, .val (.long vO), .second, .val (.ref b1), .val (.long (vE * (1000 : Int64))), .second, .unset, .unset, .unset, .unset, .unset, .unset, .unset, .unset, .unset, .unset, .unset] [(.long (vF * (1000 : Int64)))])) t
    refine XS.lstore X2.here hx rfl (hb hby at_61) rfl (l' := #[.val (.long q0), .second, .val (.long q1), .second, .val (.long q2), .second, .val (.int p3), .val (.long q4), .second, .val (.int p5), .val (.long vE), .second, .val (.long vF), .second, .val (.long vO), .second, .val (.ref b1), .val (.long (vE * (1000 : Int64))), .second, .val (.long (vF * (1000 : Int64))), .second, .unset, .unset, .unset, .unset, .unset, .unset, .unset, .unset, .unset]) rfl ?_
    show Steps p.tables e below (T2.setTop (mkF m 63 #[.val (.long q0), .second, .val (.long q1), .second, .val (.long q2), .second, .val (.int p3), .val (.long q4), .second, .val (.int p5), .val (.long vE), .second, .val (.long vF), .second, .val (.long vO), .second, .val (.ref b1), .val (.long (vE * (1000 : Int64))), .second, .val (.long (vF * (1000 : Int64))), .second, .unset, .unset, .unset, .unset, .unset, .unset, .unset, .unset, .unset] [])) t
    refine XS.lload X2.here hx rfl (hb hby at_63) rfl ?_
    show Steps p.tables e below (T2.setTop (mkF m 65 #[.val (.long q0), .second, .val (.long q1), .second, .val (.long q2), .second, .val (.int p3), .val (.long q4), .second, .val (.int p5), .val (.long vE), .second, .val (.long vF), .second, .val (.long vO), .second, .val (.ref b1), .val (.long (vE * (1000 : Int64))), .second, .val (.long (vF * (1000 : Int64))), .second, .unset, .unset, .unset, .unset, .unset, .unset, .unset, .unset, .unset] [(.long vO)])) t
    refine X2.ldc2Long hx hown (mvT hZ (hw _ (List.mem_of_getElem? (i := 24) rfl))) (g := (mkF m 65 #[.val (.long q0), .second, .val (.long q1), .second, .val (.long q2), .second, .val (.int p3), .val (.long q4), .second, .val (.int p5), .val (.long vE), .second, .val (.long vF), .second, .val (.long vO), .second, .val (.ref b1), .val (.long (vE * (1000 : Int64))), .second, .val (.long (vF * (1000 : Int64))), .second, .unset, .unset, .unset, .unset, .unset, .unset, .unset, .unset, .unset] [(.long vO)])) rfl (hb hby at_65) _ ?_
    show Steps p.tables e below (T2.setTop (mkF m 68 #[.val (.long q0), .second, .val (.long q1), .second, .val (.long q2), .second, .val (.int p3), .val (.long q4), .second, .val (.int p5), .val (.long vE), .second, .val (.long vF), .second, .val (.long vO), .second, .val (.ref b1), .val (.long (vE * (1000 : Int64))), .second, .val (.long (vF * (1000 : Int64))), .second, .unset, .unset, .unset, .unset, .unset, .unset, .unset, .unset, .unset] [(.long (1000 : Int64)), (.long vO)])) t
    refine XS.lmul X2.here hx rfl (hb hby at_68) rfl ?_
    show Steps p.tables e below (T2.setTop (mkF m 69 #[.val (.long q0), .second, .val (.long q1), .second, .val (.long q2), .second, .val (.int p3), .val (.long q4), .second, .val (.int p5), .val (.long vE), .second, .val (.long vF), .second, .val (.long vO), .second, .val (.ref b1), .val (.long (vE * (1000 : Int64))), .second, .val (.long (vF * (1000 : Int64))), .second, .unset, .unset, .unset, .unset, .unset, .unset, .unset, .unset, .unset] [(.long (vO * (1000 : Int64)))])) t
    refine XS.lstore X2.here hx rfl (hb hby at_69) rfl (l' := #[.val (.long q0), .second, .val (.long q1), .second, .val (.long q2), .second, .val (.int p3), .val (.long q4), .second, .val (.int p5), .val (.long vE), .second, .val (.long vF), .second, .val (.long vO), .second, .val (.ref b1), .val (.long (vE * (1000 : Int64))), .second, .val (.long (vF * (1000 : Int64))), .second, .val (.long (vO * (1000 : Int64))), .second, .unset, .unset, .unset, .unset, .unset, .unset, .unset]) rfl ?_
    show Steps p.tables e below (T2.setTop (mkF m 71 #[.val (.long q0), .second, .val (.long q1), .second, .val (.long q2), .second, .val (.int p3), .val (.long q4), .second, .val (.int p5), .val (.long vE), .second, .val (.long vF), .second, .val (.long vO), .second, .val (.ref b1), .val (.long (vE * (1000 : Int64))), .second, .val (.long (vF * (1000 : Int64))), .second, .val (.long (vO * (1000 : Int64))), .second, .unset, .unset, .unset, .unset, .unset, .unset, .unset] [])) t
    refine XS.iload X2.here hx rfl (hb hby at_71) rfl ?_
    show Steps p.tables e below (T2.setTop (mkF m 73 #[.val (.long q0), .second, .val (.long q1), .second, .val (.long q2), .second, .val (.int p3), .val (.long q4), .second, .val (.int p5), .val (.long vE), .second, .val (.long vF), .second, .val (.long vO), .second, .val (.ref b1), .val (.long (vE * (1000 : Int64))), .second, .val (.long (vF * (1000 : Int64))), .second, .val (.long (vO * (1000 : Int64))), .second, .unset, .unset, .unset, .unset, .unset, .unset, .unset] [(.int p5)])) t
    refine XS.iconst X2.here hx rfl (hb hby at_73) ?_
    show Steps p.tables e below (T2.setTop (mkF m 74 #[.val (.long q0), .second, .val (.long q1), .second, .val (.long q2), .second, .val (.int p3), .val (.long q4), .second, .val (.int p5), .val (.long vE), .second, .val (.long vF), .second, .val (.long vO), .second, .val (.ref b1), .val (.long (vE * (1000 : Int64))), .second, .val (.long (vF * (1000 : Int64))), .second, .val (.long (vO * (1000 : Int64))), .second, .unset, .unset, .unset, .unset, .unset, .unset, .unset] [(.int (1 : Int32)), (.int p5)])) t
    refine XS.iand X2.here hx rfl (hb hby at_74) rfl ?_
    exact kt
  by_cases hc75_3 : (p5 &&& (1 : Int32)) = (0 : Int32)
  · refine own_by (A' := T2.setTop (mkF m 89 #[.val (.long q0), .second, .val (.long q1), .second, .val (.long q2), .second, .val (.int p3), .val (.long q4), .second, .val (.int p5), .val (.long vE), .second, .val (.long vF), .second, .val (.long vO), .second, .val (.ref b1), .val (.long (vE * (1000 : Int64))), .second, .val (.long (vF * (1000 : Int64))), .second, .val (.long (vO * (1000 : Int64))), .second, .val (.long ((q4 &&& (9223372036854775807 : Int64)) % (vE * (1000 : Int64)))), .second, .unset, .unset, .unset, .unset, .unset] [])) (fun t kt => ?_) ?_
    · show Steps p.tables e below (T2.setTop (mkF m 75 #[.val (.long q0), .second, .val (.long q1), .second, .val (.long q2), .second, .val (.int p3), .val (.long q4), .second, .val (.int p5), .val (.long vE), .second, .val (.long vF), .second, .val (.long vO), .second, .val (.ref b1), .val (.long (vE * (1000 : Int64))), .second, .val (.long (vF * (1000 : Int64))), .second, .val (.long (vO * (1000 : Int64))), .second, .unset, .unset, .unset, .unset, .unset, .unset, .unset] [(.int (p5 &&& (1 : Int32)))])) t
      refine XS.ifNo X2.here hx rfl (hb hby at_75) rfl ((if0 _ _).trans (teq hc75_3).2) ?_
      show Steps p.tables e below (T2.setTop (mkF m 78 #[.val (.long q0), .second, .val (.long q1), .second, .val (.long q2), .second, .val (.int p3), .val (.long q4), .second, .val (.int p5), .val (.long vE), .second, .val (.long vF), .second, .val (.long vO), .second, .val (.ref b1), .val (.long (vE * (1000 : Int64))), .second, .val (.long (vF * (1000 : Int64))), .second, .val (.long (vO * (1000 : Int64))), .second, .unset, .unset, .unset, .unset, .unset, .unset, .unset] [])) t
      refine XS.lload X2.here hx rfl (hb hby at_78) rfl ?_
      show Steps p.tables e below (T2.setTop (mkF m 80 #[.val (.long q0), .second, .val (.long q1), .second, .val (.long q2), .second, .val (.int p3), .val (.long q4), .second, .val (.int p5), .val (.long vE), .second, .val (.long vF), .second, .val (.long vO), .second, .val (.ref b1), .val (.long (vE * (1000 : Int64))), .second, .val (.long (vF * (1000 : Int64))), .second, .val (.long (vO * (1000 : Int64))), .second, .unset, .unset, .unset, .unset, .unset, .unset, .unset] [(.long q4)])) t
      refine X2.ldc2Long hx hown (mvT hZ (hw _ (List.mem_of_getElem? (i := 1) rfl))) (g := (mkF m 80 #[.val (.long q0), .second, .val (.long q1), .second, .val (.long q2), .second, .val (.int p3), .val (.long q4), .second, .val (.int p5), .val (.long vE), .second, .val (.long vF), .second, .val (.long vO), .second, .val (.ref b1), .val (.long (vE * (1000 : Int64))), .second, .val (.long (vF * (1000 : Int64))), .second, .val (.long (vO * (1000 : Int64))), .second, .unset, .unset, .unset, .unset, .unset, .unset, .unset] [(.long q4)])) rfl (hb hby at_80) _ ?_
      show Steps p.tables e below (T2.setTop (mkF m 83 #[.val (.long q0), .second, .val (.long q1), .second, .val (.long q2), .second, .val (.int p3), .val (.long q4), .second, .val (.int p5), .val (.long vE), .second, .val (.long vF), .second, .val (.long vO), .second, .val (.ref b1), .val (.long (vE * (1000 : Int64))), .second, .val (.long (vF * (1000 : Int64))), .second, .val (.long (vO * (1000 : Int64))), .second, .unset, .unset, .unset, .unset, .unset, .unset, .unset] [(.long (9223372036854775807 : Int64)), (.long q4)])) t
      refine XS.land X2.here hx rfl (hb hby at_83) rfl ?_
      show Steps p.tables e below (T2.setTop (mkF m 84 #[.val (.long q0), .second, .val (.long q1), .second, .val (.long q2), .second, .val (.int p3), .val (.long q4), .second, .val (.int p5), .val (.long vE), .second, .val (.long vF), .second, .val (.long vO), .second, .val (.ref b1), .val (.long (vE * (1000 : Int64))), .second, .val (.long (vF * (1000 : Int64))), .second, .val (.long (vO * (1000 : Int64))), .second, .unset, .unset, .unset, .unset, .unset, .unset, .unset] [(.long (q4 &&& (9223372036854775807 : Int64)))])) t
      refine XS.lload X2.here hx rfl (hb hby at_84) rfl ?_
      show Steps p.tables e below (T2.setTop (mkF m 86 #[.val (.long q0), .second, .val (.long q1), .second, .val (.long q2), .second, .val (.int p3), .val (.long q4), .second, .val (.int p5), .val (.long vE), .second, .val (.long vF), .second, .val (.long vO), .second, .val (.ref b1), .val (.long (vE * (1000 : Int64))), .second, .val (.long (vF * (1000 : Int64))), .second, .val (.long (vO * (1000 : Int64))), .second, .unset, .unset, .unset, .unset, .unset, .unset, .unset] [(.long (vE * (1000 : Int64))), (.long (q4 &&& (9223372036854775807 : Int64)))])) t
      refine own_lrem X2 hx rfl (hb hby at_86) rfl hU0 ?_
      show Steps p.tables e below (T2.setTop (mkF m 87 #[.val (.long q0), .second, .val (.long q1), .second, .val (.long q2), .second, .val (.int p3), .val (.long q4), .second, .val (.int p5), .val (.long vE), .second, .val (.long vF), .second, .val (.long vO), .second, .val (.ref b1), .val (.long (vE * (1000 : Int64))), .second, .val (.long (vF * (1000 : Int64))), .second, .val (.long (vO * (1000 : Int64))), .second, .unset, .unset, .unset, .unset, .unset, .unset, .unset] [(.long ((q4 &&& (9223372036854775807 : Int64)) % (vE * (1000 : Int64))))])) t
      refine XS.lstore X2.here hx rfl (hb hby at_87) rfl (l' := #[.val (.long q0), .second, .val (.long q1), .second, .val (.long q2), .second, .val (.int p3), .val (.long q4), .second, .val (.int p5), .val (.long vE), .second, .val (.long vF), .second, .val (.long vO), .second, .val (.ref b1), .val (.long (vE * (1000 : Int64))), .second, .val (.long (vF * (1000 : Int64))), .second, .val (.long (vO * (1000 : Int64))), .second, .val (.long ((q4 &&& (9223372036854775807 : Int64)) % (vE * (1000 : Int64)))), .second, .unset, .unset, .unset, .unset, .unset]) rfl ?_
      exact kt
    generalize h_vS : ((q4 &&& (9223372036854775807 : Int64)) % (vE * (1000 : Int64))) = vS
    have hS := own_rem q4 (vE * (1000 : Int64)) (by omega)
    rw [h_vS] at hS
    refine own_by (A' := T2.setTop (mkF m 98 #[.val (.long q0), .second, .val (.long q1), .second, .val (.long q2), .second, .val (.int p3), .val (.long q4), .second, .val (.int p5), .val (.long vE), .second, .val (.long vF), .second, .val (.long vO), .second, .val (.ref b1), .val (.long (vE * (1000 : Int64))), .second, .val (.long (vF * (1000 : Int64))), .second, .val (.long (vO * (1000 : Int64))), .second, .val (.long vS), .second, .val (.long ((p3.toInt64) &&& (1048575 : Int64))), .second, .unset, .unset, .unset] [])) (fun t kt => ?_) ?_
    · show Steps p.tables e below (T2.setTop (mkF m 89 #[.val (.long q0), .second, .val (.long q1), .second, .val (.long q2), .second, .val (.int p3), .val (.long q4), .second, .val (.int p5), .val (.long vE), .second, .val (.long vF), .second, .val (.long vO), .second, .val (.ref b1), .val (.long (vE * (1000 : Int64))), .second, .val (.long (vF * (1000 : Int64))), .second, .val (.long (vO * (1000 : Int64))), .second, .val (.long vS), .second, .unset, .unset, .unset, .unset, .unset] [])) t
      refine XS.iload X2.here hx rfl (hb hby at_89) rfl ?_
      show Steps p.tables e below (T2.setTop (mkF m 91 #[.val (.long q0), .second, .val (.long q1), .second, .val (.long q2), .second, .val (.int p3), .val (.long q4), .second, .val (.int p5), .val (.long vE), .second, .val (.long vF), .second, .val (.long vO), .second, .val (.ref b1), .val (.long (vE * (1000 : Int64))), .second, .val (.long (vF * (1000 : Int64))), .second, .val (.long (vO * (1000 : Int64))), .second, .val (.long vS), .second, .unset, .unset, .unset, .unset, .unset] [(.int p3)])) t
      refine XS.i2l X2.here hx rfl (hb hby at_91) rfl ?_
      show Steps p.tables e below (T2.setTop (mkF m 92 #[.val (.long q0), .second, .val (.long q1), .second, .val (.long q2), .second, .val (.int p3), .val (.long q4), .second, .val (.int p5), .val (.long vE), .second, .val (.long vF), .second, .val (.long vO), .second, .val (.ref b1), .val (.long (vE * (1000 : Int64))), .second, .val (.long (vF * (1000 : Int64))), .second, .val (.long (vO * (1000 : Int64))), .second, .val (.long vS), .second, .unset, .unset, .unset, .unset, .unset] [(.long (p3.toInt64))])) t
      refine X2.ldc2Long hx hown (mvT hZ (hw _ (List.mem_of_getElem? (i := 25) rfl))) (g := (mkF m 92 #[.val (.long q0), .second, .val (.long q1), .second, .val (.long q2), .second, .val (.int p3), .val (.long q4), .second, .val (.int p5), .val (.long vE), .second, .val (.long vF), .second, .val (.long vO), .second, .val (.ref b1), .val (.long (vE * (1000 : Int64))), .second, .val (.long (vF * (1000 : Int64))), .second, .val (.long (vO * (1000 : Int64))), .second, .val (.long vS), .second, .unset, .unset, .unset, .unset, .unset] [(.long (p3.toInt64))])) rfl (hb hby at_92) _ ?_
      show Steps p.tables e below (T2.setTop (mkF m 95 #[.val (.long q0), .second, .val (.long q1), .second, .val (.long q2), .second, .val (.int p3), .val (.long q4), .second, .val (.int p5), .val (.long vE), .second, .val (.long vF), .second, .val (.long vO), .second, .val (.ref b1), .val (.long (vE * (1000 : Int64))), .second, .val (.long (vF * (1000 : Int64))), .second, .val (.long (vO * (1000 : Int64))), .second, .val (.long vS), .second, .unset, .unset, .unset, .unset, .unset] [(.long (1048575 : Int64)), (.long (p3.toInt64))])) t
      refine XS.land X2.here hx rfl (hb hby at_95) rfl ?_
      show Steps p.tables e below (T2.setTop (mkF m 96 #[.val (.long q0), .second, .val (.long q1), .second, .val (.long q2), .second, .val (.int p3), .val (.long q4), .second, .val (.int p5), .val (.long vE), .second, .val (.long vF), .second, .val (.long vO), .second, .val (.ref b1), .val (.long (vE * (1000 : Int64))), .second, .val (.long (vF * (1000 : Int64))), .second, .val (.long (vO * (1000 : Int64))), .second, .val (.long vS), .second, .unset, .unset, .unset, .unset, .unset] [(.long ((p3.toInt64) &&& (1048575 : Int64)))])) t
      refine XS.lstore X2.here hx rfl (hb hby at_96) rfl (l' := #[.val (.long q0), .second, .val (.long q1), .second, .val (.long q2), .second, .val (.int p3), .val (.long q4), .second, .val (.int p5), .val (.long vE), .second, .val (.long vF), .second, .val (.long vO), .second, .val (.ref b1), .val (.long (vE * (1000 : Int64))), .second, .val (.long (vF * (1000 : Int64))), .second, .val (.long (vO * (1000 : Int64))), .second, .val (.long vS), .second, .val (.long ((p3.toInt64) &&& (1048575 : Int64))), .second, .unset, .unset, .unset]) rfl ?_
      exact kt
    generalize h_vP : ((p3.toInt64) &&& (1048575 : Int64)) = vP
    have hP := own_P p3
    rw [h_vP] at hP
    refine own_by (A' := T2.setTop (mkF m 116 #[.val (.long q0), .second, .val (.long q1), .second, .val (.long q2), .second, .val (.int p3), .val (.long q4), .second, .val (.int p5), .val (.long vE), .second, .val (.long vF), .second, .val (.long vO), .second, .val (.ref b1), .val (.long (vE * (1000 : Int64))), .second, .val (.long (vF * (1000 : Int64))), .second, .val (.long (vO * (1000 : Int64))), .second, .val (.long vS), .second, .val (.long vP), .second, .val (.long (((vO * (1000 : Int64)) + (vP * (vE * (1000 : Int64)))) + vS)), .second, .unset] [(.int (lcmpW vS (vF * (1000 : Int64))))])) (fun t kt => ?_) ?_
    · show Steps p.tables e below (T2.setTop (mkF m 98 #[.val (.long q0), .second, .val (.long q1), .second, .val (.long q2), .second, .val (.int p3), .val (.long q4), .second, .val (.int p5), .val (.long vE), .second, .val (.long vF), .second, .val (.long vO), .second, .val (.ref b1), .val (.long (vE * (1000 : Int64))), .second, .val (.long (vF * (1000 : Int64))), .second, .val (.long (vO * (1000 : Int64))), .second, .val (.long vS), .second, .val (.long vP), .second, .unset, .unset, .unset] [])) t
      refine XS.lload X2.here hx rfl (hb hby at_98) rfl ?_
      show Steps p.tables e below (T2.setTop (mkF m 100 #[.val (.long q0), .second, .val (.long q1), .second, .val (.long q2), .second, .val (.int p3), .val (.long q4), .second, .val (.int p5), .val (.long vE), .second, .val (.long vF), .second, .val (.long vO), .second, .val (.ref b1), .val (.long (vE * (1000 : Int64))), .second, .val (.long (vF * (1000 : Int64))), .second, .val (.long (vO * (1000 : Int64))), .second, .val (.long vS), .second, .val (.long vP), .second, .unset, .unset, .unset] [(.long (vO * (1000 : Int64)))])) t
      refine XS.lload X2.here hx rfl (hb hby at_100) rfl ?_
      show Steps p.tables e below (T2.setTop (mkF m 102 #[.val (.long q0), .second, .val (.long q1), .second, .val (.long q2), .second, .val (.int p3), .val (.long q4), .second, .val (.int p5), .val (.long vE), .second, .val (.long vF), .second, .val (.long vO), .second, .val (.ref b1), .val (.long (vE * (1000 : Int64))), .second, .val (.long (vF * (1000 : Int64))), .second, .val (.long (vO * (1000 : Int64))), .second, .val (.long vS), .second, .val (.long vP), .second, .unset, .unset, .unset] [(.long vP), (.long (vO * (1000 : Int64)))])) t
      refine XS.lload X2.here hx rfl (hb hby at_102) rfl ?_
      show Steps p.tables e below (T2.setTop (mkF m 104 #[.val (.long q0), .second, .val (.long q1), .second, .val (.long q2), .second, .val (.int p3), .val (.long q4), .second, .val (.int p5), .val (.long vE), .second, .val (.long vF), .second, .val (.long vO), .second, .val (.ref b1), .val (.long (vE * (1000 : Int64))), .second, .val (.long (vF * (1000 : Int64))), .second, .val (.long (vO * (1000 : Int64))), .second, .val (.long vS), .second, .val (.long vP), .second, .unset, .unset, .unset] [(.long (vE * (1000 : Int64))), (.long vP), (.long (vO * (1000 : Int64)))])) t
      refine XS.lmul X2.here hx rfl (hb hby at_104) rfl ?_
      show Steps p.tables e below (T2.setTop (mkF m 105 #[.val (.long q0), .second, .val (.long q1), .second, .val (.long q2), .second, .val (.int p3), .val (.long q4), .second, .val (.int p5), .val (.long vE), .second, .val (.long vF), .second, .val (.long vO), .second, .val (.ref b1), .val (.long (vE * (1000 : Int64))), .second, .val (.long (vF * (1000 : Int64))), .second, .val (.long (vO * (1000 : Int64))), .second, .val (.long vS), .second, .val (.long vP), .second, .unset, .unset, .unset] [(.long (vP * (vE * (1000 : Int64)))), (.long (vO * (1000 : Int64)))])) t
      refine XS.ladd X2.here hx rfl (hb hby at_105) rfl ?_
      show Steps p.tables e below (T2.setTop (mkF m 106 #[.val (.long q0), .second, .val (.long q1), .second, .val (.long q2), .second, .val (.int p3), .val (.long q4), .second, .val (.int p5), .val (.long vE), .second, .val (.long vF), .second, .val (.long vO), .second, .val (.ref b1), .val (.long (vE * (1000 : Int64))), .second, .val (.long (vF * (1000 : Int64))), .second, .val (.long (vO * (1000 : Int64))), .second, .val (.long vS), .second, .val (.long vP), .second, .unset, .unset, .unset] [(.long ((vO * (1000 : Int64)) + (vP * (vE * (1000 : Int64)))))])) t
      refine XS.lload X2.here hx rfl (hb hby at_106) rfl ?_
      show Steps p.tables e below (T2.setTop (mkF m 108 #[.val (.long q0), .second, .val (.long q1), .second, .val (.long q2), .second, .val (.int p3), .val (.long q4), .second, .val (.int p5), .val (.long vE), .second, .val (.long vF), .second, .val (.long vO), .second, .val (.ref b1), .val (.long (vE * (1000 : Int64))), .second, .val (.long (vF * (1000 : Int64))), .second, .val (.long (vO * (1000 : Int64))), .second, .val (.long vS), .second, .val (.long vP), .second, .unset, .unset, .unset] [(.long vS), (.long ((vO * (1000 : Int64)) + (vP * (vE * (1000 : Int64)))))])) t
      refine XS.ladd X2.here hx rfl (hb hby at_108) rfl ?_
      show Steps p.tables e below (T2.setTop (mkF m 109 #[.val (.long q0), .second, .val (.long q1), .second, .val (.long q2), .second, .val (.int p3), .val (.long q4), .second, .val (.int p5), .val (.long vE), .second, .val (.long vF), .second, .val (.long vO), .second, .val (.ref b1), .val (.long (vE * (1000 : Int64))), .second, .val (.long (vF * (1000 : Int64))), .second, .val (.long (vO * (1000 : Int64))), .second, .val (.long vS), .second, .val (.long vP), .second, .unset, .unset, .unset] [(.long (((vO * (1000 : Int64)) + (vP * (vE * (1000 : Int64)))) + vS))])) t
      refine XS.lstore X2.here hx rfl (hb hby at_109) rfl (l' := #[.val (.long q0), .second, .val (.long q1), .second, .val (.long q2), .second, .val (.int p3), .val (.long q4), .second, .val (.int p5), .val (.long vE), .second, .val (.long vF), .second, .val (.long vO), .second, .val (.ref b1), .val (.long (vE * (1000 : Int64))), .second, .val (.long (vF * (1000 : Int64))), .second, .val (.long (vO * (1000 : Int64))), .second, .val (.long vS), .second, .val (.long vP), .second, .val (.long (((vO * (1000 : Int64)) + (vP * (vE * (1000 : Int64)))) + vS)), .second, .unset]) rfl ?_
      show Steps p.tables e below (T2.setTop (mkF m 111 #[.val (.long q0), .second, .val (.long q1), .second, .val (.long q2), .second, .val (.int p3), .val (.long q4), .second, .val (.int p5), .val (.long vE), .second, .val (.long vF), .second, .val (.long vO), .second, .val (.ref b1), .val (.long (vE * (1000 : Int64))), .second, .val (.long (vF * (1000 : Int64))), .second, .val (.long (vO * (1000 : Int64))), .second, .val (.long vS), .second, .val (.long vP), .second, .val (.long (((vO * (1000 : Int64)) + (vP * (vE * (1000 : Int64)))) + vS)), .second, .unset] [])) t
      refine XS.lload X2.here hx rfl (hb hby at_111) rfl ?_
      show Steps p.tables e below (T2.setTop (mkF m 113 #[.val (.long q0), .second, .val (.long q1), .second, .val (.long q2), .second, .val (.int p3), .val (.long q4), .second, .val (.int p5), .val (.long vE), .second, .val (.long vF), .second, .val (.long vO), .second, .val (.ref b1), .val (.long (vE * (1000 : Int64))), .second, .val (.long (vF * (1000 : Int64))), .second, .val (.long (vO * (1000 : Int64))), .second, .val (.long vS), .second, .val (.long vP), .second, .val (.long (((vO * (1000 : Int64)) + (vP * (vE * (1000 : Int64)))) + vS)), .second, .unset] [(.long vS)])) t
      refine XS.lload X2.here hx rfl (hb hby at_113) rfl ?_
      show Steps p.tables e below (T2.setTop (mkF m 115 #[.val (.long q0), .second, .val (.long q1), .second, .val (.long q2), .second, .val (.int p3), .val (.long q4), .second, .val (.int p5), .val (.long vE), .second, .val (.long vF), .second, .val (.long vO), .second, .val (.ref b1), .val (.long (vE * (1000 : Int64))), .second, .val (.long (vF * (1000 : Int64))), .second, .val (.long (vO * (1000 : Int64))), .second, .val (.long vS), .second, .val (.long vP), .second, .val (.long (((vO * (1000 : Int64)) + (vP * (vE * (1000 : Int64)))) + vS)), .second, .unset] [(.long (vF * (1000 : Int64))), (.long vS)])) t
      refine XS.lcmp X2.here hx rfl (hb hby at_115) rfl ?_
      exact kt
    refine own_by (A' := T2.setTop (mkF m 124 #[.val (.long q0), .second, .val (.long q1), .second, .val (.long q2), .second, .val (.int p3), .val (.long q4), .second, .val (.int p5), .val (.long vE), .second, .val (.long vF), .second, .val (.long vO), .second, .val (.ref b1), .val (.long (vE * (1000 : Int64))), .second, .val (.long (vF * (1000 : Int64))), .second, .val (.long (vO * (1000 : Int64))), .second, .val (.long vS), .second, .val (.long vP), .second, .val (.long (((vO * (1000 : Int64)) + (vP * (vE * (1000 : Int64)))) + vS)), .second, .unset] [(.int (if vS < (vF * (1000 : Int64)) then (1 : Int32) else (0 : Int32)))])) (fun t kt => ?_) ?_
    · show Steps p.tables e below (T2.setTop (mkF m 116 #[.val (.long q0), .second, .val (.long q1), .second, .val (.long q2), .second, .val (.int p3), .val (.long q4), .second, .val (.int p5), .val (.long vE), .second, .val (.long vF), .second, .val (.long vO), .second, .val (.ref b1), .val (.long (vE * (1000 : Int64))), .second, .val (.long (vF * (1000 : Int64))), .second, .val (.long (vO * (1000 : Int64))), .second, .val (.long vS), .second, .val (.long vP), .second, .val (.long (((vO * (1000 : Int64)) + (vP * (vE * (1000 : Int64)))) + vS)), .second, .unset] [(.int (lcmpW vS (vF * (1000 : Int64))))])) t
      by_cases hj116_4 : vS < (vF * (1000 : Int64))
      · rw [if_pos hj116_4] at kt
        show Steps p.tables e below (T2.setTop (mkF m 116 #[.val (.long q0), .second, .val (.long q1), .second, .val (.long q2), .second, .val (.int p3), .val (.long q4), .second, .val (.int p5), .val (.long vE), .second, .val (.long vF), .second, .val (.long vO), .second, .val (.ref b1), .val (.long (vE * (1000 : Int64))), .second, .val (.long (vF * (1000 : Int64))), .second, .val (.long (vO * (1000 : Int64))), .second, .val (.long vS), .second, .val (.long vP), .second, .val (.long (((vO * (1000 : Int64)) + (vP * (vE * (1000 : Int64)))) + vS)), .second, .unset] [(.int (lcmpW vS (vF * (1000 : Int64))))])) t
        refine XS.ifNo X2.here hx rfl (hb hby at_116) rfl ((if0 _ _).trans (tlt ((lw_lt _ _).mpr hj116_4)).2.1) ?_
        show Steps p.tables e below (T2.setTop (mkF m 119 #[.val (.long q0), .second, .val (.long q1), .second, .val (.long q2), .second, .val (.int p3), .val (.long q4), .second, .val (.int p5), .val (.long vE), .second, .val (.long vF), .second, .val (.long vO), .second, .val (.ref b1), .val (.long (vE * (1000 : Int64))), .second, .val (.long (vF * (1000 : Int64))), .second, .val (.long (vO * (1000 : Int64))), .second, .val (.long vS), .second, .val (.long vP), .second, .val (.long (((vO * (1000 : Int64)) + (vP * (vE * (1000 : Int64)))) + vS)), .second, .unset] [])) t
        refine XS.iconst X2.here hx rfl (hb hby at_119) ?_
        show Steps p.tables e below (T2.setTop (mkF m 120 #[.val (.long q0), .second, .val (.long q1), .second, .val (.long q2), .second, .val (.int p3), .val (.long q4), .second, .val (.int p5), .val (.long vE), .second, .val (.long vF), .second, .val (.long vO), .second, .val (.ref b1), .val (.long (vE * (1000 : Int64))), .second, .val (.long (vF * (1000 : Int64))), .second, .val (.long (vO * (1000 : Int64))), .second, .val (.long vS), .second, .val (.long vP), .second, .val (.long (((vO * (1000 : Int64)) + (vP * (vE * (1000 : Int64)))) + vS)), .second, .unset] [(.int (1 : Int32))])) t
        refine XS.goto X2.here hx rfl (pc0 := 120) (pc' := 124) rfl (hb hby at_120) (by decide) (by decide) ?_
        exact kt
      · rw [if_neg hj116_4] at kt
        show Steps p.tables e below (T2.setTop (mkF m 116 #[.val (.long q0), .second, .val (.long q1), .second, .val (.long q2), .second, .val (.int p3), .val (.long q4), .second, .val (.int p5), .val (.long vE), .second, .val (.long vF), .second, .val (.long vO), .second, .val (.ref b1), .val (.long (vE * (1000 : Int64))), .second, .val (.long (vF * (1000 : Int64))), .second, .val (.long (vO * (1000 : Int64))), .second, .val (.long vS), .second, .val (.long vP), .second, .val (.long (((vO * (1000 : Int64)) + (vP * (vE * (1000 : Int64)))) + vS)), .second, .unset] [(.int (lcmpW vS (vF * (1000 : Int64))))])) t
        refine XS.ifYes X2.here hx rfl (pc0 := 116) (pc' := 123) rfl (hb hby at_116) rfl ((if0 _ _).trans (flt (fun q => hj116_4 ((lw_lt _ _).mp q))).2.1) (by decide) (by decide) ?_
        show Steps p.tables e below (T2.setTop (mkF m 123 #[.val (.long q0), .second, .val (.long q1), .second, .val (.long q2), .second, .val (.int p3), .val (.long q4), .second, .val (.int p5), .val (.long vE), .second, .val (.long vF), .second, .val (.long vO), .second, .val (.ref b1), .val (.long (vE * (1000 : Int64))), .second, .val (.long (vF * (1000 : Int64))), .second, .val (.long (vO * (1000 : Int64))), .second, .val (.long vS), .second, .val (.long vP), .second, .val (.long (((vO * (1000 : Int64)) + (vP * (vE * (1000 : Int64)))) + vS)), .second, .unset] [])) t
        refine XS.iconst X2.here hx rfl (hb hby at_123) ?_
        exact kt
    refine own_by (A' := T2.setTop (mkF m 130 #[.val (.long q0), .second, .val (.long q1), .second, .val (.long q2), .second, .val (.int p3), .val (.long q4), .second, .val (.int p5), .val (.long vE), .second, .val (.long vF), .second, .val (.long vO), .second, .val (.ref b1), .val (.long (vE * (1000 : Int64))), .second, .val (.long (vF * (1000 : Int64))), .second, .val (.long (vO * (1000 : Int64))), .second, .val (.long vS), .second, .val (.long vP), .second, .val (.long (((vO * (1000 : Int64)) + (vP * (vE * (1000 : Int64)))) + vS)), .second, .val (.int (if vS < (vF * (1000 : Int64)) then (1 : Int32) else (0 : Int32)))] [(.long (((vO * (1000 : Int64)) + (vP * (vE * (1000 : Int64)))) + vS)), (.ref b1)])) (fun t kt => ?_) ?_
    · show Steps p.tables e below (T2.setTop (mkF m 124 #[.val (.long q0), .second, .val (.long q1), .second, .val (.long q2), .second, .val (.int p3), .val (.long q4), .second, .val (.int p5), .val (.long vE), .second, .val (.long vF), .second, .val (.long vO), .second, .val (.ref b1), .val (.long (vE * (1000 : Int64))), .second, .val (.long (vF * (1000 : Int64))), .second, .val (.long (vO * (1000 : Int64))), .second, .val (.long vS), .second, .val (.long vP), .second, .val (.long (((vO * (1000 : Int64)) + (vP * (vE * (1000 : Int64)))) + vS)), .second, .unset] [(.int (if vS < (vF * (1000 : Int64)) then (1 : Int32) else (0 : Int32)))])) t
      refine XS.istore X2.here hx rfl (hb hby at_124) rfl (l' := #[.val (.long q0), .second, .val (.long q1), .second, .val (.long q2), .second, .val (.int p3), .val (.long q4), .second, .val (.int p5), .val (.long vE), .second, .val (.long vF), .second, .val (.long vO), .second, .val (.ref b1), .val (.long (vE * (1000 : Int64))), .second, .val (.long (vF * (1000 : Int64))), .second, .val (.long (vO * (1000 : Int64))), .second, .val (.long vS), .second, .val (.long vP), .second, .val (.long (((vO * (1000 : Int64)) + (vP * (vE * (1000 : Int64)))) + vS)), .second, .val (.int (if vS < (vF * (1000 : Int64)) then (1 : Int32) else (0 : Int32)))]) rfl ?_
      show Steps p.tables e below (T2.setTop (mkF m 126 #[.val (.long q0), .second, .val (.long q1), .second, .val (.long q2), .second, .val (.int p3), .val (.long q4), .second, .val (.int p5), .val (.long vE), .second, .val (.long vF), .second, .val (.long vO), .second, .val (.ref b1), .val (.long (vE * (1000 : Int64))), .second, .val (.long (vF * (1000 : Int64))), .second, .val (.long (vO * (1000 : Int64))), .second, .val (.long vS), .second, .val (.long vP), .second, .val (.long (((vO * (1000 : Int64)) + (vP * (vE * (1000 : Int64)))) + vS)), .second, .val (.int (if vS < (vF * (1000 : Int64)) then (1 : Int32) else (0 : Int32)))] [])) t
      refine XS.aload X2.here hx rfl (hb hby at_126) rfl rfl ?_
      show Steps p.tables e below (T2.setTop (mkF m 128 #[.val (.long q0), .second, .val (.long q1), .second, .val (.long q2), .second, .val (.int p3), .val (.long q4), .second, .val (.int p5), .val (.long vE), .second, .val (.long vF), .second, .val (.long vO), .second, .val (.ref b1), .val (.long (vE * (1000 : Int64))), .second, .val (.long (vF * (1000 : Int64))), .second, .val (.long (vO * (1000 : Int64))), .second, .val (.long vS), .second, .val (.long vP), .second, .val (.long (((vO * (1000 : Int64)) + (vP * (vE * (1000 : Int64)))) + vS)), .second, .val (.int (if vS < (vF * (1000 : Int64)) then (1 : Int32) else (0 : Int32)))] [(.ref b1)])) t
      refine XS.lload X2.here hx rfl (hb hby at_128) rfl ?_
      exact kt
    obtain ⟨cq5, kq5, q5a, q5b, q5c⟩ := isOf hZ rfl G2_0
    obtain ⟨_, _, ⟨T5, L5, k5, n5⟩, -, X5, ⟨Lc5, hQ5, l5, y5, z5⟩, st5⟩ := X2.virtualBack hx (y := (⟨"com/example/fairshed/fairshed/deployment/Deployment$Burst", "holds", "(J)Z"⟩ : MethodName)) (z := (⟨"com/example/fairshed/fairshed/deployment/Deployment$Burst", "holds", "(J)Z"⟩ : MethodName)) hown (mvT hZ (hw _ (List.mem_of_getElem? (i := 26) rfl))) (mvT hZ (hw _ (List.mem_of_getElem? (i := 27) rfl))) (notFace_of_selects (args := #[]) (mvT hZ (hw _ (List.mem_of_getElem? (i := 29) rfl)))) (mvT hZ (hw _ (List.mem_of_getElem? (i := 29) rfl))) (mvT hZ (hw _ (List.mem_of_getElem? (i := 28) rfl))) (by decide) (backOf (W := 0) (rm4 l Z aw hw [] b1 (((vO * (1000 : Int64)) + (vP * (vE * (1000 : Int64)))) + vS) vE vF vO T2.heap n0 (Nat.le_trans Z0 K2.1) G2_2 G2_3 G2_4 hU0) hZ (hw _ (List.mem_of_getElem? (i := 30) rfl)) (hw _ (List.mem_of_getElem? (i := 4) rfl)) (by decide) (by decide)) q5a q5c (g := (mkF m 130 #[.val (.long q0), .second, .val (.long q1), .second, .val (.long q2), .second, .val (.int p3), .val (.long q4), .second, .val (.int p5), .val (.long vE), .second, .val (.long vF), .second, .val (.long vO), .second, .val (.ref b1), .val (.long (vE * (1000 : Int64))), .second, .val (.long (vF * (1000 : Int64))), .second, .val (.long (vO * (1000 : Int64))), .second, .val (.long vS), .second, .val (.long vP), .second, .val (.long (((vO * (1000 : Int64)) + (vP * (vE * (1000 : Int64)))) + vS)), .second, .val (.int (if vS < (vF * (1000 : Int64)) then (1 : Int32) else (0 : Int32)))] [(.long (((vO * (1000 : Int64)) + (vP * (vE * (1000 : Int64)))) + vS)), (.ref b1)])) rfl (by rw [hml]; rfl) (Steps.refl _) (argsL := [(.long (((vO * (1000 : Int64)) + (vP * (vE * (1000 : Int64)))) + vS))]) (rest := []) (lenOf pd_5 rfl) rfl (by show 2 * 0 + _ ≤ _; exact Nat.le_of_eq rfl) (hb hby at_130) (fun _ _ => ⟨rfl, rfl, (by decide : 1 + 0 ≤ _), (by decide : 4 + 0 ≤ _)⟩)
    dsimp only [Pt.U, Pt.locs, Pt.cells, Pt.slots] at X5 l5 y5 z5 st5 hQ5
    subst l5 y5 z5
    obtain ⟨rfl, N5q, e5⟩ := hQ5
    have N5 := Fr.app N2 N5q
    refine own_by (A' := T5.setTop (mkF m 133 #[.val (.long q0), .second, .val (.long q1), .second, .val (.long q2), .second, .val (.int p3), .val (.long q4), .second, .val (.int p5), .val (.long vE), .second, .val (.long vF), .second, .val (.long vO), .second, .val (.ref b1), .val (.long (vE * (1000 : Int64))), .second, .val (.long (vF * (1000 : Int64))), .second, .val (.long (vO * (1000 : Int64))), .second, .val (.long vS), .second, .val (.long vP), .second, .val (.long (((vO * (1000 : Int64)) + (vP * (vE * (1000 : Int64)))) + vS)), .second, .val (.int (if vS < (vF * (1000 : Int64)) then (1 : Int32) else (0 : Int32)))] [(.int (own_f4 (((vO * (1000 : Int64)) + (vP * (vE * (1000 : Int64)))) + vS) vE vF vO))])) (fun t kt => st5.trans kt) ?_
    refine own_by (A' := T5.setTop (mkF m 135 #[.val (.long q0), .second, .val (.long q1), .second, .val (.long q2), .second, .val (.int p3), .val (.long q4), .second, .val (.int p5), .val (.long vE), .second, .val (.long vF), .second, .val (.long vO), .second, .val (.ref b1), .val (.long (vE * (1000 : Int64))), .second, .val (.long (vF * (1000 : Int64))), .second, .val (.long (vO * (1000 : Int64))), .second, .val (.long vS), .second, .val (.long vP), .second, .val (.long (((vO * (1000 : Int64)) + (vP * (vE * (1000 : Int64)))) + vS)), .second, .val (.int (if vS < (vF * (1000 : Int64)) then (1 : Int32) else (0 : Int32)))] [(.int (if vS < (vF * (1000 : Int64)) then (1 : Int32) else (0 : Int32))), (.int (own_f4 (((vO * (1000 : Int64)) + (vP * (vE * (1000 : Int64)))) + vS) vE vF vO))])) (fun t kt => ?_) ?_
    · show Steps p.tables e below (T5.setTop (mkF m 133 #[.val (.long q0), .second, .val (.long q1), .second, .val (.long q2), .second, .val (.int p3), .val (.long q4), .second, .val (.int p5), .val (.long vE), .second, .val (.long vF), .second, .val (.long vO), .second, .val (.ref b1), .val (.long (vE * (1000 : Int64))), .second, .val (.long (vF * (1000 : Int64))), .second, .val (.long (vO * (1000 : Int64))), .second, .val (.long vS), .second, .val (.long vP), .second, .val (.long (((vO * (1000 : Int64)) + (vP * (vE * (1000 : Int64)))) + vS)), .second, .val (.int (if vS < (vF * (1000 : Int64)) then (1 : Int32) else (0 : Int32)))] [(.int (own_f4 (((vO * (1000 : Int64)) + (vP * (vE * (1000 : Int64)))) + vS) vE vF vO))])) t
      refine XS.iload X5.here hx rfl (hb hby at_133) rfl ?_
      exact kt
    have hc135_6 : (own_f4 (((vO * (1000 : Int64)) + (vP * (vE * (1000 : Int64)))) + vS) vE vF vO) = (if vS < (vF * (1000 : Int64)) then (1 : Int32) else (0 : Int32)) := own_in vE vF vO vP vS hE hF hO hP hS
    refine own_by (A' := T5.setTop (mkF m 143 #[.val (.long q0), .second, .val (.long q1), .second, .val (.long q2), .second, .val (.int p3), .val (.long q4), .second, .val (.int p5), .val (.long vE), .second, .val (.long vF), .second, .val (.long vO), .second, .val (.ref b1), .val (.long (vE * (1000 : Int64))), .second, .val (.long (vF * (1000 : Int64))), .second, .val (.long (vO * (1000 : Int64))), .second, .val (.long vS), .second, .val (.long vP), .second, .val (.long (((vO * (1000 : Int64)) + (vP * (vE * (1000 : Int64)))) + vS)), .second, .val (.int (if vS < (vF * (1000 : Int64)) then (1 : Int32) else (0 : Int32)))] [(.int (1 : Int32))])) (fun t kt => ?_) ?_
    · show Steps p.tables e below (T5.setTop (mkF m 135 #[.val (.long q0), .second, .val (.long q1), .second, .val (.long q2), .second, .val (.int p3), .val (.long q4), .second, .val (.int p5), .val (.long vE), .second, .val (.long vF), .second, .val (.long vO), .second, .val (.ref b1), .val (.long (vE * (1000 : Int64))), .second, .val (.long (vF * (1000 : Int64))), .second, .val (.long (vO * (1000 : Int64))), .second, .val (.long vS), .second, .val (.long vP), .second, .val (.long (((vO * (1000 : Int64)) + (vP * (vE * (1000 : Int64)))) + vS)), .second, .val (.int (if vS < (vF * (1000 : Int64)) then (1 : Int32) else (0 : Int32)))] [(.int (if vS < (vF * (1000 : Int64)) then (1 : Int32) else (0 : Int32))), (.int (own_f4 (((vO * (1000 : Int64)) + (vP * (vE * (1000 : Int64)))) + vS) vE vF vO))])) t
      refine XS.icmpNo X5.here hx rfl (hb hby at_135) rfl (teq hc135_6).2 ?_
      show Steps p.tables e below (T5.setTop (mkF m 138 #[.val (.long q0), .second, .val (.long q1), .second, .val (.long q2), .second, .val (.int p3), .val (.long q4), .second, .val (.int p5), .val (.long vE), .second, .val (.long vF), .second, .val (.long vO), .second, .val (.ref b1), .val (.long (vE * (1000 : Int64))), .second, .val (.long (vF * (1000 : Int64))), .second, .val (.long (vO * (1000 : Int64))), .second, .val (.long vS), .second, .val (.long vP), .second, .val (.long (((vO * (1000 : Int64)) + (vP * (vE * (1000 : Int64)))) + vS)), .second, .val (.int (if vS < (vF * (1000 : Int64)) then (1 : Int32) else (0 : Int32)))] [])) t
      refine XS.iconst X5.here hx rfl (hb hby at_138) ?_
      show Steps p.tables e below (T5.setTop (mkF m 139 #[.val (.long q0), .second, .val (.long q1), .second, .val (.long q2), .second, .val (.int p3), .val (.long q4), .second, .val (.int p5), .val (.long vE), .second, .val (.long vF), .second, .val (.long vO), .second, .val (.ref b1), .val (.long (vE * (1000 : Int64))), .second, .val (.long (vF * (1000 : Int64))), .second, .val (.long (vO * (1000 : Int64))), .second, .val (.long vS), .second, .val (.long vP), .second, .val (.long (((vO * (1000 : Int64)) + (vP * (vE * (1000 : Int64)))) + vS)), .second, .val (.int (if vS < (vF * (1000 : Int64)) then (1 : Int32) else (0 : Int32)))] [(.int (1 : Int32))])) t
      refine XS.goto X5.here hx rfl (pc0 := 139) (pc' := 143) rfl (hb hby at_139) (by decide) (by decide) ?_
      exact kt
    obtain ⟨fs, hr, hrun, hended, hW, hsame⟩ := X5.leave (v := some (.int (1 : Int32))) (fun h => by rw [Bd.returns] at h; cases h)
    refine ⟨_, _, ?_, hrun, hended, _, _, rfl, ?_, ⟨_, rfl⟩, hW, hsame.mono (by decide) (by decide)⟩
    · exact retN X5 hx (t := .boolean) Bd.returns (by simp) (hb hby at_143) hr
    · show Q0 Z q0 q1 q2 p3 q4 p5 h0 n0 _ T5.heap _
      rw [e5]
      exact ⟨rfl, N5⟩
  · refine own_by (A' := T2.setTop (mkF m 152 #[.val (.long q0), .second, .val (.long q1), .second, .val (.long q2), .second, .val (.int p3), .val (.long q4), .second, .val (.int p5), .val (.long vE), .second, .val (.long vF), .second, .val (.long vO), .second, .val (.ref b1), .val (.long (vE * (1000 : Int64))), .second, .val (.long (vF * (1000 : Int64))), .second, .val (.long (vO * (1000 : Int64))), .second, .val (.long (q4 &&& (17592186044415 : Int64))), .second, .unset, .unset, .unset, .unset, .unset] [])) (fun t kt => ?_) ?_
    · show Steps p.tables e below (T2.setTop (mkF m 75 #[.val (.long q0), .second, .val (.long q1), .second, .val (.long q2), .second, .val (.int p3), .val (.long q4), .second, .val (.int p5), .val (.long vE), .second, .val (.long vF), .second, .val (.long vO), .second, .val (.ref b1), .val (.long (vE * (1000 : Int64))), .second, .val (.long (vF * (1000 : Int64))), .second, .val (.long (vO * (1000 : Int64))), .second, .unset, .unset, .unset, .unset, .unset, .unset, .unset] [(.int (p5 &&& (1 : Int32)))])) t
      refine XS.ifYes X2.here hx rfl (pc0 := 75) (pc' := 144) rfl (hb hby at_75) rfl ((if0 _ _).trans (feq hc75_3).2) (by decide) (by decide) ?_
      show Steps p.tables e below (T2.setTop (mkF m 144 #[.val (.long q0), .second, .val (.long q1), .second, .val (.long q2), .second, .val (.int p3), .val (.long q4), .second, .val (.int p5), .val (.long vE), .second, .val (.long vF), .second, .val (.long vO), .second, .val (.ref b1), .val (.long (vE * (1000 : Int64))), .second, .val (.long (vF * (1000 : Int64))), .second, .val (.long (vO * (1000 : Int64))), .second, .unset, .unset, .unset, .unset, .unset, .unset, .unset] [])) t
      refine XS.lload X2.here hx rfl (hb hby at_144) rfl ?_
      show Steps p.tables e below (T2.setTop (mkF m 146 #[.val (.long q0), .second, .val (.long q1), .second, .val (.long q2), .second, .val (.int p3), .val (.long q4), .second, .val (.int p5), .val (.long vE), .second, .val (.long vF), .second, .val (.long vO), .second, .val (.ref b1), .val (.long (vE * (1000 : Int64))), .second, .val (.long (vF * (1000 : Int64))), .second, .val (.long (vO * (1000 : Int64))), .second, .unset, .unset, .unset, .unset, .unset, .unset, .unset] [(.long q4)])) t
      refine X2.ldc2Long hx hown (mvT hZ (hw _ (List.mem_of_getElem? (i := 32) rfl))) (g := (mkF m 146 #[.val (.long q0), .second, .val (.long q1), .second, .val (.long q2), .second, .val (.int p3), .val (.long q4), .second, .val (.int p5), .val (.long vE), .second, .val (.long vF), .second, .val (.long vO), .second, .val (.ref b1), .val (.long (vE * (1000 : Int64))), .second, .val (.long (vF * (1000 : Int64))), .second, .val (.long (vO * (1000 : Int64))), .second, .unset, .unset, .unset, .unset, .unset, .unset, .unset] [(.long q4)])) rfl (hb hby at_146) _ ?_
      show Steps p.tables e below (T2.setTop (mkF m 149 #[.val (.long q0), .second, .val (.long q1), .second, .val (.long q2), .second, .val (.int p3), .val (.long q4), .second, .val (.int p5), .val (.long vE), .second, .val (.long vF), .second, .val (.long vO), .second, .val (.ref b1), .val (.long (vE * (1000 : Int64))), .second, .val (.long (vF * (1000 : Int64))), .second, .val (.long (vO * (1000 : Int64))), .second, .unset, .unset, .unset, .unset, .unset, .unset, .unset] [(.long (17592186044415 : Int64)), (.long q4)])) t
      refine XS.land X2.here hx rfl (hb hby at_149) rfl ?_
      show Steps p.tables e below (T2.setTop (mkF m 150 #[.val (.long q0), .second, .val (.long q1), .second, .val (.long q2), .second, .val (.int p3), .val (.long q4), .second, .val (.int p5), .val (.long vE), .second, .val (.long vF), .second, .val (.long vO), .second, .val (.ref b1), .val (.long (vE * (1000 : Int64))), .second, .val (.long (vF * (1000 : Int64))), .second, .val (.long (vO * (1000 : Int64))), .second, .unset, .unset, .unset, .unset, .unset, .unset, .unset] [(.long (q4 &&& (17592186044415 : Int64)))])) t
      refine XS.lstore X2.here hx rfl (hb hby at_150) rfl (l' := #[.val (.long q0), .second, .val (.long q1), .second, .val (.long q2), .second, .val (.int p3), .val (.long q4), .second, .val (.int p5), .val (.long vE), .second, .val (.long vF), .second, .val (.long vO), .second, .val (.ref b1), .val (.long (vE * (1000 : Int64))), .second, .val (.long (vF * (1000 : Int64))), .second, .val (.long (vO * (1000 : Int64))), .second, .val (.long (q4 &&& (17592186044415 : Int64))), .second, .unset, .unset, .unset, .unset, .unset]) rfl ?_
      exact kt
    generalize h_vR : (q4 &&& (17592186044415 : Int64)) = vR
    have hR := own_B q4
    rw [h_vR] at hR
    refine own_by (A' := T2.setTop (mkF m 165 #[.val (.long q0), .second, .val (.long q1), .second, .val (.long q2), .second, .val (.int p3), .val (.long q4), .second, .val (.int p5), .val (.long vE), .second, .val (.long vF), .second, .val (.long vO), .second, .val (.ref b1), .val (.long (vE * (1000 : Int64))), .second, .val (.long (vF * (1000 : Int64))), .second, .val (.long (vO * (1000 : Int64))), .second, .val (.long vR), .second, .val (.long (((vO * (1000 : Int64)) - (1 : Int64)) - vR)), .second, .unset, .unset, .unset] [(.long (((vO * (1000 : Int64)) - (1 : Int64)) - vR)), (.ref b1)])) (fun t kt => ?_) ?_
    · show Steps p.tables e below (T2.setTop (mkF m 152 #[.val (.long q0), .second, .val (.long q1), .second, .val (.long q2), .second, .val (.int p3), .val (.long q4), .second, .val (.int p5), .val (.long vE), .second, .val (.long vF), .second, .val (.long vO), .second, .val (.ref b1), .val (.long (vE * (1000 : Int64))), .second, .val (.long (vF * (1000 : Int64))), .second, .val (.long (vO * (1000 : Int64))), .second, .val (.long vR), .second, .unset, .unset, .unset, .unset, .unset] [])) t
      refine XS.lload X2.here hx rfl (hb hby at_152) rfl ?_
      show Steps p.tables e below (T2.setTop (mkF m 154 #[.val (.long q0), .second, .val (.long q1), .second, .val (.long q2), .second, .val (.int p3), .val (.long q4), .second, .val (.int p5), .val (.long vE), .second, .val (.long vF), .second, .val (.long vO), .second, .val (.ref b1), .val (.long (vE * (1000 : Int64))), .second, .val (.long (vF * (1000 : Int64))), .second, .val (.long (vO * (1000 : Int64))), .second, .val (.long vR), .second, .unset, .unset, .unset, .unset, .unset] [(.long (vO * (1000 : Int64)))])) t
      refine XS.lconst X2.here hx rfl (hb hby at_154) ?_
      show Steps p.tables e below (T2.setTop (mkF m 155 #[.val (.long q0), .second, .val (.long q1), .second, .val (.long q2), .second, .val (.int p3), .val (.long q4), .second, .val (.int p5), .val (.long vE), .second, .val (.long vF), .second, .val (.long vO), .second, .val (.ref b1), .val (.long (vE * (1000 : Int64))), .second, .val (.long (vF * (1000 : Int64))), .second, .val (.long (vO * (1000 : Int64))), .second, .val (.long vR), .second, .unset, .unset, .unset, .unset, .unset] [(.long (1 : Int64)), (.long (vO * (1000 : Int64)))])) t
      refine XS.lsub X2.here hx rfl (hb hby at_155) rfl ?_
      show Steps p.tables e below (T2.setTop (mkF m 156 #[.val (.long q0), .second, .val (.long q1), .second, .val (.long q2), .second, .val (.int p3), .val (.long q4), .second, .val (.int p5), .val (.long vE), .second, .val (.long vF), .second, .val (.long vO), .second, .val (.ref b1), .val (.long (vE * (1000 : Int64))), .second, .val (.long (vF * (1000 : Int64))), .second, .val (.long (vO * (1000 : Int64))), .second, .val (.long vR), .second, .unset, .unset, .unset, .unset, .unset] [(.long ((vO * (1000 : Int64)) - (1 : Int64)))])) t
      refine XS.lload X2.here hx rfl (hb hby at_156) rfl ?_
      show Steps p.tables e below (T2.setTop (mkF m 158 #[.val (.long q0), .second, .val (.long q1), .second, .val (.long q2), .second, .val (.int p3), .val (.long q4), .second, .val (.int p5), .val (.long vE), .second, .val (.long vF), .second, .val (.long vO), .second, .val (.ref b1), .val (.long (vE * (1000 : Int64))), .second, .val (.long (vF * (1000 : Int64))), .second, .val (.long (vO * (1000 : Int64))), .second, .val (.long vR), .second, .unset, .unset, .unset, .unset, .unset] [(.long vR), (.long ((vO * (1000 : Int64)) - (1 : Int64)))])) t
      refine XS.lsub X2.here hx rfl (hb hby at_158) rfl ?_
      show Steps p.tables e below (T2.setTop (mkF m 159 #[.val (.long q0), .second, .val (.long q1), .second, .val (.long q2), .second, .val (.int p3), .val (.long q4), .second, .val (.int p5), .val (.long vE), .second, .val (.long vF), .second, .val (.long vO), .second, .val (.ref b1), .val (.long (vE * (1000 : Int64))), .second, .val (.long (vF * (1000 : Int64))), .second, .val (.long (vO * (1000 : Int64))), .second, .val (.long vR), .second, .unset, .unset, .unset, .unset, .unset] [(.long (((vO * (1000 : Int64)) - (1 : Int64)) - vR))])) t
      refine XS.lstore X2.here hx rfl (hb hby at_159) rfl (l' := #[.val (.long q0), .second, .val (.long q1), .second, .val (.long q2), .second, .val (.int p3), .val (.long q4), .second, .val (.int p5), .val (.long vE), .second, .val (.long vF), .second, .val (.long vO), .second, .val (.ref b1), .val (.long (vE * (1000 : Int64))), .second, .val (.long (vF * (1000 : Int64))), .second, .val (.long (vO * (1000 : Int64))), .second, .val (.long vR), .second, .val (.long (((vO * (1000 : Int64)) - (1 : Int64)) - vR)), .second, .unset, .unset, .unset]) rfl ?_
      show Steps p.tables e below (T2.setTop (mkF m 161 #[.val (.long q0), .second, .val (.long q1), .second, .val (.long q2), .second, .val (.int p3), .val (.long q4), .second, .val (.int p5), .val (.long vE), .second, .val (.long vF), .second, .val (.long vO), .second, .val (.ref b1), .val (.long (vE * (1000 : Int64))), .second, .val (.long (vF * (1000 : Int64))), .second, .val (.long (vO * (1000 : Int64))), .second, .val (.long vR), .second, .val (.long (((vO * (1000 : Int64)) - (1 : Int64)) - vR)), .second, .unset, .unset, .unset] [])) t
      refine XS.aload X2.here hx rfl (hb hby at_161) rfl rfl ?_
      show Steps p.tables e below (T2.setTop (mkF m 163 #[.val (.long q0), .second, .val (.long q1), .second, .val (.long q2), .second, .val (.int p3), .val (.long q4), .second, .val (.int p5), .val (.long vE), .second, .val (.long vF), .second, .val (.long vO), .second, .val (.ref b1), .val (.long (vE * (1000 : Int64))), .second, .val (.long (vF * (1000 : Int64))), .second, .val (.long (vO * (1000 : Int64))), .second, .val (.long vR), .second, .val (.long (((vO * (1000 : Int64)) - (1 : Int64)) - vR)), .second, .unset, .unset, .unset] [(.ref b1)])) t
      refine XS.lload X2.here hx rfl (hb hby at_163) rfl ?_
      exact kt
    obtain ⟨cq7, kq7, q7a, q7b, q7c⟩ := isOf hZ rfl G2_0
    obtain ⟨_, _, ⟨T7, L7, k7, n7⟩, -, X7, ⟨Lc7, hQ7, l7, y7, z7⟩, st7⟩ := X2.virtualBack hx (y := (⟨"com/example/fairshed/fairshed/deployment/Deployment$Burst", "holds", "(J)Z"⟩ : MethodName)) (z := (⟨"com/example/fairshed/fairshed/deployment/Deployment$Burst", "holds", "(J)Z"⟩ : MethodName)) hown (mvT hZ (hw _ (List.mem_of_getElem? (i := 26) rfl))) (mvT hZ (hw _ (List.mem_of_getElem? (i := 27) rfl))) (notFace_of_selects (args := #[]) (mvT hZ (hw _ (List.mem_of_getElem? (i := 29) rfl)))) (mvT hZ (hw _ (List.mem_of_getElem? (i := 29) rfl))) (mvT hZ (hw _ (List.mem_of_getElem? (i := 28) rfl))) (by decide) (backOf (W := 0) (rm4 l Z aw hw [] b1 (((vO * (1000 : Int64)) - (1 : Int64)) - vR) vE vF vO T2.heap n0 (Nat.le_trans Z0 K2.1) G2_2 G2_3 G2_4 hU0) hZ (hw _ (List.mem_of_getElem? (i := 30) rfl)) (hw _ (List.mem_of_getElem? (i := 4) rfl)) (by decide) (by decide)) q7a q7c (g := (mkF m 165 #[.val (.long q0), .second, .val (.long q1), .second, .val (.long q2), .second, .val (.int p3), .val (.long q4), .second, .val (.int p5), .val (.long vE), .second, .val (.long vF), .second, .val (.long vO), .second, .val (.ref b1), .val (.long (vE * (1000 : Int64))), .second, .val (.long (vF * (1000 : Int64))), .second, .val (.long (vO * (1000 : Int64))), .second, .val (.long vR), .second, .val (.long (((vO * (1000 : Int64)) - (1 : Int64)) - vR)), .second, .unset, .unset, .unset] [(.long (((vO * (1000 : Int64)) - (1 : Int64)) - vR)), (.ref b1)])) rfl (by rw [hml]; rfl) (Steps.refl _) (argsL := [(.long (((vO * (1000 : Int64)) - (1 : Int64)) - vR))]) (rest := []) (lenOf pd_5 rfl) rfl (by show 2 * 0 + _ ≤ _; exact Nat.le_of_eq rfl) (hb hby at_165) (fun _ _ => ⟨rfl, rfl, (by decide : 1 + 0 ≤ _), (by decide : 4 + 0 ≤ _)⟩)
    dsimp only [Pt.U, Pt.locs, Pt.cells, Pt.slots] at X7 l7 y7 z7 st7 hQ7
    subst l7 y7 z7
    obtain ⟨rfl, N7q, e7⟩ := hQ7
    have N7 := Fr.app N2 N7q
    refine own_by (A' := T7.setTop (mkF m 168 #[.val (.long q0), .second, .val (.long q1), .second, .val (.long q2), .second, .val (.int p3), .val (.long q4), .second, .val (.int p5), .val (.long vE), .second, .val (.long vF), .second, .val (.long vO), .second, .val (.ref b1), .val (.long (vE * (1000 : Int64))), .second, .val (.long (vF * (1000 : Int64))), .second, .val (.long (vO * (1000 : Int64))), .second, .val (.long vR), .second, .val (.long (((vO * (1000 : Int64)) - (1 : Int64)) - vR)), .second, .unset, .unset, .unset] [(.int (own_f4 (((vO * (1000 : Int64)) - (1 : Int64)) - vR) vE vF vO))])) (fun t kt => st7.trans kt) ?_
    have hc168_8 : (own_f4 (((vO * (1000 : Int64)) - (1 : Int64)) - vR) vE vF vO) = (0 : Int32) := own_out vE vF vO vR hE hO hR
    refine own_by (A' := T7.setTop (mkF m 176 #[.val (.long q0), .second, .val (.long q1), .second, .val (.long q2), .second, .val (.int p3), .val (.long q4), .second, .val (.int p5), .val (.long vE), .second, .val (.long vF), .second, .val (.long vO), .second, .val (.ref b1), .val (.long (vE * (1000 : Int64))), .second, .val (.long (vF * (1000 : Int64))), .second, .val (.long (vO * (1000 : Int64))), .second, .val (.long vR), .second, .val (.long (((vO * (1000 : Int64)) - (1 : Int64)) - vR)), .second, .unset, .unset, .unset] [(.int (1 : Int32))])) (fun t kt => ?_) ?_
    · show Steps p.tables e below (T7.setTop (mkF m 168 #[.val (.long q0), .second, .val (.long q1), .second, .val (.long q2), .second, .val (.int p3), .val (.long q4), .second, .val (.int p5), .val (.long vE), .second, .val (.long vF), .second, .val (.long vO), .second, .val (.ref b1), .val (.long (vE * (1000 : Int64))), .second, .val (.long (vF * (1000 : Int64))), .second, .val (.long (vO * (1000 : Int64))), .second, .val (.long vR), .second, .val (.long (((vO * (1000 : Int64)) - (1 : Int64)) - vR)), .second, .unset, .unset, .unset] [(.int (own_f4 (((vO * (1000 : Int64)) - (1 : Int64)) - vR) vE vF vO))])) t
      refine XS.ifNo X7.here hx rfl (hb hby at_168) rfl ((if0 _ _).trans (teq hc168_8).2) ?_
      show Steps p.tables e below (T7.setTop (mkF m 171 #[.val (.long q0), .second, .val (.long q1), .second, .val (.long q2), .second, .val (.int p3), .val (.long q4), .second, .val (.int p5), .val (.long vE), .second, .val (.long vF), .second, .val (.long vO), .second, .val (.ref b1), .val (.long (vE * (1000 : Int64))), .second, .val (.long (vF * (1000 : Int64))), .second, .val (.long (vO * (1000 : Int64))), .second, .val (.long vR), .second, .val (.long (((vO * (1000 : Int64)) - (1 : Int64)) - vR)), .second, .unset, .unset, .unset] [])) t
      refine XS.iconst X7.here hx rfl (hb hby at_171) ?_
      show Steps p.tables e below (T7.setTop (mkF m 172 #[.val (.long q0), .second, .val (.long q1), .second, .val (.long q2), .second, .val (.int p3), .val (.long q4), .second, .val (.int p5), .val (.long vE), .second, .val (.long vF), .second, .val (.long vO), .second, .val (.ref b1), .val (.long (vE * (1000 : Int64))), .second, .val (.long (vF * (1000 : Int64))), .second, .val (.long (vO * (1000 : Int64))), .second, .val (.long vR), .second, .val (.long (((vO * (1000 : Int64)) - (1 : Int64)) - vR)), .second, .unset, .unset, .unset] [(.int (1 : Int32))])) t
      refine XS.goto X7.here hx rfl (pc0 := 172) (pc' := 176) rfl (hb hby at_172) (by decide) (by decide) ?_
      exact kt
    obtain ⟨fs, hr, hrun, hended, hW, hsame⟩ := X7.leave (v := some (.int (1 : Int32))) (fun h => by rw [Bd.returns] at h; cases h)
    refine ⟨_, _, ?_, hrun, hended, _, _, rfl, ?_, ⟨_, rfl⟩, hW, hsame.mono (by decide) (by decide)⟩
    · exact retN X7 hx (t := .boolean) Bd.returns (by simp) (hb hby at_176) hr
    · show Q0 Z q0 q1 q2 p3 q4 p5 h0 n0 _ T7.heap _
      rw [e7]
      exact ⟨rfl, N7⟩
set_option maxRecDepth 65536 in
set_option maxHeartbeats 40000000 in
theorem comes_1 {Post : Tables → Env → Array Value → State → Outcome → State → Prop} (hpost : ∀ tb e args s v u, (limb_1_1.after args s (.returned v) u = true ∧ limb_1_2.after args s (.returned v) u = true ∧ True) → FrameEnd s (.returned v) u (Jvm.fieldLocs frame_1_writes args s ++ Jvm.arrayLocs frame_1_arrays args s ++ Jvm.staticLocs frame_1_statics s) 16 128 → Post tb e args s (.returned v) u) :
    ArmFor flags0 classFile x code maxLocals ret World_1 tables_1 room_1 Calls_1 rest_1 Pre_1 Post := by
  intro l hfl _ _ p e ha hc hk s m args below hf hA hF happ hP
  obtain ⟨hcalls, hrest, hpre⟩ := hP
  obtain ⟨-, -, -, hnamed, -, -, -, hat⟩ := (Spec.applies_iff hf).mp happ
  obtain ⟨hg, hn⟩ := and_e (Cond.before_iff.mp (show (Jvm.Cond.and given_1 narrow_1).before args s = true from hpre))
  obtain ⟨ga1, ga2⟩ := and_e hg
  obtain ⟨ga3, ga4⟩ := and_e ga2
  obtain ⟨ga5, ga6⟩ := and_e ga4
  obtain ⟨ga7, ga8⟩ := and_e ga6
  obtain ⟨ga9, ga10⟩ := and_e ga8
  obtain ⟨ga11, ga12⟩ := and_e ga10
  obtain ⟨w0, w1, w2, w3, w4, w5, rfl⟩ : ∃ w0 w1 w2 w3 w4 w5 : Value, args = #[w0, w1, w2, w3, w4, w5] := by
    have hs : args.size = 6 := by simpa [Cond.value, given_1] using ga1
    obtain ⟨L⟩ := args
    match L, hs with
    | [w0, w1, w2, w3, w4, w5], _ => exact ⟨w0, w1, w2, w3, w4, w5, rfl⟩
  have hw := fun d (hd : d ∈ tables_1) => atoms_spec (ws := Jvm.Cond.code x code maxLocals ret :: tables_1) hat d (List.mem_cons_of_mem _ hd)
  have hfit : Fit s := fun {y c} hc i hi => by
    obtain ⟨ha, rfl⟩ := Array.getElem?_eq_some_iff.mp hc
    have q := List.all_eq_true.mp ((Array.all_eq_true_iff_forall_mem.mp hF) _ (Array.getElem_mem ha)) i (List.mem_range.mpr hi)
    simpa [Array.getElem?_eq_getElem hi] using q
  obtain ⟨i0, ei0⟩ := isL_v ga3
  obtain rfl : w0 = (.long i0) := Option.some.inj ei0
  obtain ⟨i1, ei1⟩ := isL_v ga5
  obtain rfl : w1 = (.long i1) := Option.some.inj ei1
  obtain ⟨i2, ei2⟩ := isL_v ga7
  obtain rfl : w2 = (.long i2) := Option.some.inj ei2
  obtain ⟨i3, ei3⟩ := is_v ga9
  obtain rfl : w3 = (.int i3) := Option.some.inj ei3
  obtain ⟨i4, ei4⟩ := isL_v ga11
  obtain rfl : w4 = (.long i4) := Option.some.inj ei4
  obtain ⟨i5, ei5⟩ := is_v ga12
  obtain rfl : w5 = (.int i5) := Option.some.inj ei5
  obtain ⟨n, o, h1, h2, h3, _, L, rfl, ⟨rfl, N⟩, hq⟩ := rm0 l s _ hw tables_1 i0 i1 i2 i3 i4 i5  s.heap s.heap.size (Nat.le_refl _)  p e ha hc hk s m _ below hf ((Spec.applies_iff_loose hf).mp happ).1 ⟨rfl, State.Warmed39.refl s, rfl⟩ trivial
  refine ⟨n, _, h1, h2, h3, hpost _ _ _ _ _ _ ⟨Cond.after_iff.mpr rfl, Cond.after_iff.mpr (eq_i res_at (Term.int_eval (1)) rfl), trivial⟩ ⟨hq.1, hq.2.1, (hq.2.2.sift fun y hy => Or.inr (N y hy)).mono (by decide) (by decide)⟩⟩
theorem main_1_1 : Claimed_1_1 := comes_1 fun _ _ _ _ _ _ h hF => ⟨h.1, hF⟩
theorem main_1_2 : Claimed_1_2 := comes_1 fun _ _ _ _ _ _ h hF => ⟨h.2.1, hF⟩
end Jvm.Pilot.@@N@@
namespace Jvm.Pilot.@@N@@
open Jvm Jvm.ClassFile Sem Op Lib Jvm.Free Jvm.Stand Jvm.Pilot.@@N@@.Jvm.D
/-! MADE BY PROGRAM (witnessworld.py) out of the Statement's table words and the real class files: 10 classes; the members and pool entries that the words name. The judged class is class 1, her method 1. -/
namespace start1
open Jvm.ClassFile
def u (s : String) : CpInfo := .utf8 (stringToUtf16 s)
/-- a pool by its gaps: so many unusable entries, then the entry; so many at the end -/
def gap : Nat → List CpInfo → List CpInfo
  | 0, r => r
  | n + 1, r => .unusable :: gap n r
def poolList (es : List (Nat × CpInfo)) (last : Nat) : List CpInfo := es.foldr (fun e r => gap e.1 (e.2 :: r)) (gap last [])
def pool (es : List (Nat × CpInfo)) (last : Nat) : Array CpInfo := ⟨poolList es last⟩
def fileOf (pool : Array CpInfo) (this : Nat) (attrs : Array Attribute := #[]) (ms : Array MethodInfo := #[]) (fl : Nat := 33) (sup : Nat := 0) (ifs : Array Nat := #[]) (fds : Array FieldInfo := #[]) : ClassFile where
  minorVersion := 0
  majorVersion := 65
  constantPool := pool
  accessFlags := fl
  thisClass := this
  superClass := sup
  interfaces := ifs
  fields := fds
  methods := ms
  attributes := attrs
def plain (name : String) (sup : Option ClassId) : Class where
  name := name
  kind := .ordinary
  loader := none
  accessFlags := 33
  super := sup
  interfaces := #[]
  cf := none
  fields := #[]
  methods := #[]
  instanceTypes := #[]
  staticTypes := #[]
  resolved := #[]
  callSites := []
  init := .initialized
  statics := none
  mirror := none

def pool0 : Array CpInfo := pool [(5, u "<init>"), (0, u "()V"), (1, .class_ 10), (1, u "java/lang/Object")] 113

def k0c0 : Code := { maxStack := 0, maxLocals := 1, code := object_method_1_code, exceptionTable := #[], attributes := #[] }
def k0m0 : Method := { name := "<init>", desc := "()V", sig := { parameters := [], returnType := none }, accessFlags := 1, code := some k0c0 }
/-- java/lang/Object -/
def k0 : Class := { plain "java/lang/Object" none with
  accessFlags := 33
  interfaces := #[]
  cf := some (fileOf pool0 8 #[] #[{ accessFlags := 1, nameIndex := 5, descriptorIndex := 6, attributes := #[] }] 33 0 #[] #[])
  fields := #[]
  methods := #[k0m0]
  instanceTypes := #[]
  staticTypes := #[]
  resolved := Array.replicate 124 none
  statics := none }

def pool1 : Array CpInfo := pool [(2, .class_ 4), (1, u "java/lang/Object"), (0, u "<init>"), (0, u "()V"), (0, .long 2147483647), (3, .long 9223372036854775807), (1, .class_ 14), (0, u "com/example/fairshed/fairshed/deployment/Deployment$Burst"), (0, .methodref 13 16), (0, .nameAndType 5 17), (0, u "(IJJJ)V"), (0, .long 1000), (1, .long 1048575), (1, .methodref 13 23), (0, .nameAndType 24 25), (0, u "holds"), (0, u "(J)Z"), (0, .long 17592186044415), (1, .class_ 29), (0, u "com/example/fairshed/fairshed/deployment/BurstHoldsPinLaw"), (2, u "law"), (0, u "(JJJIJI)Z")] 7

def k1m0 : Method := { name := "<init>", desc := "()V", sig := { parameters := [], returnType := none }, accessFlags := 2, code := none }
def k1c1 : Code := { maxStack := 9, maxLocals := 30, code := code, exceptionTable := #[], attributes := #[] }
def k1m1 : Method := { name := "law", desc := "(JJJIJI)Z", sig := { parameters := [.long, .long, .long, .int, .long, .int], returnType := some .boolean }, accessFlags := 9, code := some k1c1 }
/-- com/example/fairshed/fairshed/deployment/BurstHoldsPinLaw -/
def k1 : Class := { plain "com/example/fairshed/fairshed/deployment/BurstHoldsPinLaw" (some 0) with
  accessFlags := 49
  interfaces := #[]
  cf := some (fileOf pool1 28 #[] #[{ accessFlags := 2, nameIndex := 5, descriptorIndex := 6, attributes := #[] }, { accessFlags := 9, nameIndex := 32, descriptorIndex := 33, attributes := #[] }] 49 2 #[] #[])
  fields := #[]
  methods := #[k1m0, k1m1]
  instanceTypes := #[]
  staticTypes := #[]
  resolved := Array.replicate 41 none
  statics := none }

def pool2 : Array CpInfo := pool [(1, .methodref 2 3), (0, .class_ 4), (0, .nameAndType 5 6), (0, u "java/lang/Object"), (0, u "<init>"), (0, u "()V"), (0, .class_ 8), (0, u "java/lang/Record")] 13

def k2c0 : Code := { maxStack := 1, maxLocals := 1, code := jdk_30_method_1_code, exceptionTable := #[], attributes := #[] }
def k2m0 : Method := { name := "<init>", desc := "()V", sig := { parameters := [], returnType := none }, accessFlags := 4, code := some k2c0 }
/-- java/lang/Record -/
def k2 : Class := { plain "java/lang/Record" (some 0) with
  accessFlags := 1057
  interfaces := #[]
  cf := some (fileOf pool2 7 #[] #[{ accessFlags := 4, nameIndex := 5, descriptorIndex := 6, attributes := #[] }] 1057 2 #[] #[])
  fields := #[]
  methods := #[k2m0]
  instanceTypes := #[]
  staticTypes := #[]
  resolved := Array.replicate 22 none
  statics := none }

def pool3 : Array CpInfo := pool [(1, .methodref 2 3), (0, .class_ 4), (0, .nameAndType 5 6), (0, u "java/lang/Record"), (0, u "<init>"), (0, u "()V"), (0, .fieldref 8 9), (0, .class_ 10), (0, .nameAndType 11 12), (0, u "com/example/fairshed/fairshed/deployment/Deployment$Burst"), (0, u "factor"), (0, u "I"), (0, .fieldref 8 14), (0, .nameAndType 15 16), (0, u "everyMs"), (0, u "J"), (0, .fieldref 8 18), (0, .nameAndType 19 16), (0, u "forMs"), (0, .fieldref 8 21), (0, .nameAndType 22 16), (0, u "offsetMs"), (0, .long 1000), (45, u "SECOND_US"), (1, u "(IJJJ)V"), (3, u "holds"), (0, u "(J)Z"), (12, .class_ 90), (0, u "com/example/fairshed/fairshed/deployment/Deployment")] 31

def k3c0 : Code := { maxStack := 3, maxLocals := 8, code := prog_5_method_1_code, exceptionTable := #[], attributes := #[] }
def k3m0 : Method := { name := "<init>", desc := "(IJJJ)V", sig := { parameters := [.int, .long, .long, .long], returnType := none }, accessFlags := 1, code := some k3c0 }
def k3c1 : Code := { maxStack := 6, maxLocals := 5, code := prog_5_method_2_code, exceptionTable := #[], attributes := #[] }
def k3m1 : Method := { name := "holds", desc := "(J)Z", sig := { parameters := [.long], returnType := some .boolean }, accessFlags := 1, code := some k3c1 }
/-- com/example/fairshed/fairshed/deployment/Deployment$Burst -/
def k3 : Class := { plain "com/example/fairshed/fairshed/deployment/Deployment$Burst" (some 2) with
  accessFlags := 49
  interfaces := #[]
  cf := some (fileOf pool3 8 #[.nestHost 89] #[{ accessFlags := 1, nameIndex := 5, descriptorIndex := 71, attributes := #[] }, { accessFlags := 1, nameIndex := 75, descriptorIndex := 76, attributes := #[] }] 49 2 #[] #[{ accessFlags := 18, nameIndex := 11, descriptorIndex := 12, attributes := #[] }, { accessFlags := 18, nameIndex := 15, descriptorIndex := 16, attributes := #[] }, { accessFlags := 18, nameIndex := 19, descriptorIndex := 16, attributes := #[] }, { accessFlags := 18, nameIndex := 22, descriptorIndex := 16, attributes := #[] }, { accessFlags := 26, nameIndex := 69, descriptorIndex := 16, attributes := #[] }])
  fields := #[{ name := "factor", type := .int, accessFlags := 18, slot := 0, constantValue := 0 }, { name := "everyMs", type := .long, accessFlags := 18, slot := 1, constantValue := 0 }, { name := "forMs", type := .long, accessFlags := 18, slot := 2, constantValue := 0 }, { name := "offsetMs", type := .long, accessFlags := 18, slot := 3, constantValue := 0 }, { name := "SECOND_US", type := .long, accessFlags := 26, slot := 0, constantValue := 0 }]
  methods := #[k3m0, k3m1]
  instanceTypes := #[.int, .long, .long, .long]
  staticTypes := #[.long]
  resolved := Array.replicate 122 none
  statics := none }

def pool4 : Array CpInfo := pool [(1, u "java/lang/Cloneable"), (0, .class_ 1), (0, u "java/lang/Object"), (0, .class_ 3)] 3

/-- java/lang/Cloneable -/
def k4 : Class := { plain "java/lang/Cloneable" (some 0) with
  accessFlags := 1537
  interfaces := #[]
  cf := some (fileOf pool4 2 #[] #[] 1537 4 #[] #[])
  fields := #[]
  methods := #[]
  instanceTypes := #[]
  staticTypes := #[]
  resolved := Array.replicate 8 none
  statics := none }

def pool5 : Array CpInfo := pool [(1, u "java/io/Serializable"), (0, .class_ 1), (0, u "java/lang/Object"), (0, .class_ 3)] 3

/-- java/io/Serializable -/
def k5 : Class := { plain "java/io/Serializable" (some 0) with
  accessFlags := 1537
  interfaces := #[]
  cf := some (fileOf pool5 2 #[] #[] 1537 4 #[] #[])
  fields := #[]
  methods := #[]
  instanceTypes := #[]
  staticTypes := #[]
  resolved := Array.replicate 8 none
  statics := none }

/-- the primitive byte -/
def k6 : Class := { plain "byte" none with kind := .primitive 'B', accessFlags := 0x411 }
/-- [B -/
def k7 : Class := { plain "[B" (some 0) with kind := .array 6 .byte, interfaces := #[4, 5], accessFlags := 1041 }

/-- the primitive int -/
def k8 : Class := { plain "int" none with kind := .primitive 'I', accessFlags := 0x411 }
/-- [I -/
def k9 : Class := { plain "[I" (some 0) with kind := .array 8 .int, interfaces := #[4, 5], accessFlags := 1041 }

def heap : Heap := #[]
def classes : Array Class := #[k0, k1, k2, k3, k4, k5, k6, k7, k8, k9]
def interned : List (Array UInt16 × Addr) := []
def slotsUsed : Nat := 0
def theMethod : MethodId := ⟨1, 1⟩
def args0 : Array Value := #[.long 7, .long 9, .long 3, .int 4, .long 5, .int 2]
def aboutOver (below : List Frame) : State where
  vm := { classes := classes, interned := interned.toArray }
  heap := heap
  slotsUsed := slotsUsed
  threads := #[{ frames := .invoking theMethod args0 :: below }]
def below0 : List Frame := [.native { method := ⟨0, 0⟩, args := #[] }]
def about1 : State := aboutOver below0
def p0 : Program := .bare "" "" ""
def e0 : Env := launch0.env 0 0 0
theorem w_frames : about1.frames = Frame.invoking theMethod args0 :: below0 := rfl
set_option maxRecDepth 65536 in
theorem w_args : argsFit about1.vm theMethod args0 = true := by decide +kernel
set_option maxRecDepth 65536 in
theorem w_heap : heapFits about1 = true := by decide +kernel
set_option maxRecDepth 65536 in
theorem w_runnable : about1.curStatus? = some .runnable := by decide +kernel
set_option maxRecDepth 65536 in
theorem w_alone : about1.alone = true := by decide +kernel
set_option maxRecDepth 65536 in
theorem w_named : about1.methodNamed? x = some theMethod := by decide +kernel
set_option maxRecDepth 65536 in
theorem w_hears : about1.hears theMethod below0 = true := by decide +kernel
set_option maxRecDepth 65536 in
theorem w_ripe : about1.ripe theMethod args0 below0 = true := by decide +kernel
theorem w_running : about1.status = .running := rfl
set_option maxRecDepth 65536 in
theorem w_room : about1.hasRoom e0.platform room_1 = true :=
  launch0.hasRoom_least _ room_1 (by decide +kernel) (by decide +kernel) (by decide +kernel) (by decide +kernel) (by decide +kernel) (by decide +kernel)
theorem allAtoms_all (ts : List Jvm.Cond) (a : Array Jvm.Value) (st : Jvm.State) : (allAtoms ts).before a st = ts.all (fun c => c.before a st) := by
  induction ts with
  | nil => rfl
  | cons c t ih =>
    show (Jvm.Cond.and c (allAtoms t)).before a st = _
    rw [Jvm.Cond.before_and, ih, List.all_cons]
def words1 : List Jvm.Cond := Jvm.Cond.code x code maxLocals ret :: tables_1
/-- a 'code' word, met by the world's own term for the bytes: nothing is compared byte by byte -/
theorem code_word {y : MethodName} {bytes : ByteArray} {mx : Nat} {rt : Option FieldType} {a : Array Value} {s : State} {m : MethodId} {meth : Method} {c : Code} (h1 : s.methodNamed? y = some m) (h2 : s.vm.method? m = some meth) (h3 : meth.code = some c) (h4 : c.code = bytes)
    (h5 : (c.maxLocals == mx && c.exceptionTable.isEmpty && decide (c.maxStack ≤ mostOperands) && decide (meth.sig.returnType = rt) && !meth.locks && decide (parseMethodDescriptor y.desc = some meth.sig)) = true) : (Jvm.Cond.code y bytes mx rt).before a s = true := by
  simp only [Bool.and_eq_true, beq_iff_eq, Bool.not_eq_true', decide_eq_true_eq] at h5
  obtain ⟨⟨⟨⟨⟨g1, g2⟩, g3⟩, g4⟩, g5⟩, g6⟩ := h5
  simp [Cond.before, Cond.holds, Cond.value, h1, h2, h3, h4, g1, g2, g3, g4, g5, g6]
def isCode : Jvm.Cond → Bool
  | .code _ _ _ _ => true
  | _ => false
theorem all_split {L : List Jvm.Cond} {P : Jvm.Cond → Bool} (h1 : L.all (fun c => isCode c || P c) = true) (h2 : ∀ c ∈ L.filter isCode, P c = true) : L.all P = true := by
  refine List.all_eq_true.mpr fun c hc => ?_
  have h := List.all_eq_true.mp h1 c hc
  rcases Bool.eq_false_or_eq_true (isCode c) with hi | hi
  · exact h2 c (List.mem_filter.mpr ⟨hc, hi⟩)
  · simpa [hi] using h
set_option maxRecDepth 65536 in
theorem w_c0 : (Jvm.Cond.code x code maxLocals ret).before args0 about1 = true := code_word (m := ⟨1, 1⟩) (meth := k1m1) (c := k1c1) (by decide +kernel) rfl rfl rfl (by decide +kernel)
set_option maxRecDepth 65536 in
theorem w_c1 : (Jvm.Cond.code ({ cls := "com/example/fairshed/fairshed/deployment/Deployment$Burst", name := "<init>", desc := "(IJJJ)V" } : Jvm.MethodName) prog_5_method_1_code (8 : Nat) (Option.none : Option Jvm.ClassFile.FieldType)).before args0 about1 = true := code_word (m := ⟨3, 0⟩) (meth := k3m0) (c := k3c0) (by decide +kernel) rfl rfl rfl (by decide +kernel)
set_option maxRecDepth 65536 in
theorem w_c2 : (Jvm.Cond.code ({ cls := "java/lang/Record", name := "<init>", desc := "()V" } : Jvm.MethodName) jdk_30_method_1_code (1 : Nat) (Option.none : Option Jvm.ClassFile.FieldType)).before args0 about1 = true := code_word (m := ⟨2, 0⟩) (meth := k2m0) (c := k2c0) (by decide +kernel) rfl rfl rfl (by decide +kernel)
set_option maxRecDepth 65536 in
theorem w_c3 : (Jvm.Cond.code ({ cls := "java/lang/Object", name := "<init>", desc := "()V" } : Jvm.MethodName) object_method_1_code (1 : Nat) (Option.none : Option Jvm.ClassFile.FieldType)).before args0 about1 = true := code_word (m := ⟨0, 0⟩) (meth := k0m0) (c := k0c0) (by decide +kernel) rfl rfl rfl (by decide +kernel)
set_option maxRecDepth 65536 in
theorem w_c4 : (Jvm.Cond.code ({ cls := "com/example/fairshed/fairshed/deployment/Deployment$Burst", name := "holds", desc := "(J)Z" } : Jvm.MethodName) prog_5_method_2_code (5 : Nat) (Option.some Jvm.ClassFile.FieldType.boolean)).before args0 about1 = true := code_word (m := ⟨3, 1⟩) (meth := k3m1) (c := k3c1) (by decide +kernel) rfl rfl rfl (by decide +kernel)
def codes1 : List Jvm.Cond := [Jvm.Cond.code x code maxLocals ret, Jvm.Cond.code ({ cls := "com/example/fairshed/fairshed/deployment/Deployment$Burst", name := "<init>", desc := "(IJJJ)V" } : Jvm.MethodName) prog_5_method_1_code (8 : Nat) (Option.none : Option Jvm.ClassFile.FieldType), Jvm.Cond.code ({ cls := "java/lang/Record", name := "<init>", desc := "()V" } : Jvm.MethodName) jdk_30_method_1_code (1 : Nat) (Option.none : Option Jvm.ClassFile.FieldType), Jvm.Cond.code ({ cls := "java/lang/Object", name := "<init>", desc := "()V" } : Jvm.MethodName) object_method_1_code (1 : Nat) (Option.none : Option Jvm.ClassFile.FieldType), Jvm.Cond.code ({ cls := "com/example/fairshed/fairshed/deployment/Deployment$Burst", name := "holds", desc := "(J)Z" } : Jvm.MethodName) prog_5_method_2_code (5 : Nat) (Option.some Jvm.ClassFile.FieldType.boolean)]
set_option maxRecDepth 65536 in
theorem codes_eq : words1.filter isCode = codes1 := rfl
theorem w_codes : ∀ c ∈ words1.filter isCode, c.before args0 about1 = true := by
  rw [codes_eq]
  intro c hc
  simp only [codes1, List.mem_cons, List.not_mem_nil, or_false] at hc
  rcases hc with rfl | rfl | rfl | rfl | rfl
  · exact w_c0
  · exact w_c1
  · exact w_c2
  · exact w_c3
  · exact w_c4
set_option maxRecDepth 65536 in
theorem w_t1 : (words1.take 24).all (fun c => isCode c || c.before args0 about1) = true := by decide +kernel
set_option maxRecDepth 65536 in
theorem w_t2 : (words1.drop 24).all (fun c => isCode c || c.before args0 about1) = true := by decide +kernel
theorem w_tables : (allAtoms (Jvm.Cond.code x code maxLocals ret :: tables_1)).before args0 about1 = true := by
  rw [allAtoms_all]
  show words1.all (fun c => c.before args0 about1) = true
  refine all_split ?_ w_codes
  rw [← List.take_append_drop 24 words1, List.all_append, w_t1, w_t2]
  rfl
set_option maxRecDepth 65536 in
theorem w_case : (Jvm.Cond.and given_1 narrow_1).before args0 about1 = true := by decide +kernel
theorem w_applies : (headSpec (Jvm.Cond.code x code maxLocals ret :: tables_1) room_1).applies x e0.platform about1 = true :=
  (Spec.applies_iff w_frames).mpr ⟨w_running, w_runnable, w_alone, w_named, w_hears, w_ripe, w_room, w_tables⟩
theorem atStart : AtStart classFile x code maxLocals ret World_1 tables_1 room_1 Calls_1 rest_1 Pre_1 launch0 p0 e0 about1 theMethod args0 below0 :=
  ⟨lists_1, trivial, launch0.admits_env _ _ _, launch0.least_env, fairChoices_fair.cas, fairChoices_fair.clock, w_frames, w_args, w_heap, w_applies, trivial, trivial, w_case⟩
end start1
theorem witness_1 : WitnessClaimed_1 := ⟨start1.p0, start1.e0, start1.about1, start1.theMethod, start1.args0, start1.below0, start1.atStart⟩
end Jvm.Pilot.@@N@@
